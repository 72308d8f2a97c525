import Derived.Test.YtkcdocdldebeoaaDoorG4
import Derived.Test.YtkcdocdldebeoaaDoorTb
set_option linter.unusedVariables false
set_option linter.unusedSimpArgs false
namespace Go.Proofs.YtkcdocdldebeoaaDoor
namespace K
open Go Go.Lib
def Iv {β : Type} (Inv : Nat → Vw → β → Prop) (j : Nat) (u : Vw) (z : β) : Prop := ∀ w, Tr u w → Inv j w z
theorem Iv.mv {β : Type} {Inv : Nat → Vw → β → Prop} {j : Nat} {u w : Vw} {z : β} (h : Iv Inv j u z) (ht : Tr u w) : Iv Inv j w z := fun x hx => h x (ht.trans hx)
theorem Iv.get {β : Type} {Inv : Nat → Vw → β → Prop} {j : Nat} {u : Vw} {z : β} (h : Iv Inv j u z) : Inv j u z := h u (Tr.refl u)
theorem tags_EachG {β : Type} (A B : β → Ent) (Inv : Nat → Vw → β → Prop) (fn : FuncId) (cap : Value) (hent : Enters Tryd.prog fn) (t : Vw) (b off : Nat) (mv : Value) (l : List (Nat × Value)) (us : Tags) (z0 : β) (hr : RC1 t b off mv) (hm : MK t mv l) (hrk : RK t l us) (hsrt : us.Pairwise (fun x y => x.1 < y.1)) (hlen : us.length ≤ 4398046511104) (hz : Iv Inv 0 t z0) (hstep : ∀ j (hj : j < us.length) (u : Vw) (z : β) (tv : Value), Iv Inv j u z → RSv u tv (us[j]'hj).2 → HF [A z, B z] u.w → (∀ q ∈ blks [A z, B z], u.av q) → (blks [A z, B z]).Nodup → CH Tryd.prog fn [.int .u32 ((us[j]'hj).1 : Int), tv, cap] u [A z, B z] fun u r E' => ∃ z', E' = [A z', B z'] ∧ Iv Inv (j + 1) u z') (hok : HF [A z0, B z0] t.w) (hav : ∀ q ∈ blks [A z0, B z0], t.av q) (hnd : (blks [A z0, B z0]).Nodup) : CH Tryd.prog 44 [.pointer (some ⟨b, off, none⟩), .func (.func fn) #[] #[cap]] t [A z0, B z0] fun u r E' => ∃ z', E' = [A z', B z'] ∧ Iv Inv us.length u z' := by
  have hul := hlen
  have hll := hrk.len
  have hms := ME_size l
  have hln : (l.map (·.1)).Nodup := by rw [hrk.keys]; exact (List.pairwise_map).2 (hsrt.imp fun h => Nat.ne_of_lt h)
  refine ch_enter Tryd.func44 rfl Tryd.ntmps44 rfl hok hav hnd ?_
  rcases hm with ⟨rfl, rfl⟩ | ⟨m, rfl, hom⟩
  · obtain rfl : us = [] := by simpa using hll.symm
    have h00 : (0 : Int) = 0 := rfl
    refine cd_seq ?_
    refine cd_sr ?_
    refine ln_pv (pv_move rfl) rfl ?_
    refine ln_pv (pv_nilCheck rfl) rfl ?_
    refine ln_pv (pv_fieldAddr (off := 0) (r := off + 0) Tryd.underlying76 rfl timap_uint32_Sl_uint8.size rfl rfl rfl) rfl ?_
    refine ln_pv (pv_ldr (j := 0) hr Tryd.underlying74 rfl rfl rfl) rfl ?_
    refine ln_pv (pv_mapLen0 Tryd.underlying74 rfl) rfl ?_
    refine ln_pv (pv_tt (pv_eql rfl rfl) h00) rfl ?_
    refine ln_cd ?_
    refine cd_tt rfl ?_
    refine cd_ret ?_
    exact at_retH0 _ (List.Sublist.refl _) rfl (fun w hS => ⟨z0, rfl, hz.mv (hS.trFinH _ _)⟩)
  by_cases h00 : ((ME l).size : Int) = 0
  · obtain rfl : us = [] := List.eq_nil_of_length_eq_zero (by omega)
    refine cd_seq ?_
    refine cd_sr ?_
    refine ln_pv (pv_move rfl) rfl ?_
    refine ln_pv (pv_nilCheck rfl) rfl ?_
    refine ln_pv (pv_fieldAddr (off := 0) (r := off + 0) Tryd.underlying76 rfl timap_uint32_Sl_uint8.size rfl rfl rfl) rfl ?_
    refine ln_pv (pv_ldr (j := 0) hr Tryd.underlying74 rfl rfl rfl) rfl ?_
    refine ln_pv (pv_mapLen hom Tryd.underlying74 rfl) rfl ?_
    refine ln_pv (pv_tt (pv_eql rfl rfl) h00) rfl ?_
    refine ln_cd ?_
    refine cd_tt rfl ?_
    refine cd_ret ?_
    exact at_retH0 _ (List.Sublist.refl _) rfl (fun w hS => ⟨z0, rfl, hz.mv (hS.trFinH _ _)⟩)
  refine cd_seq ?_
  refine cd_sr ?_
  refine ln_pv (pv_move rfl) rfl ?_
  refine ln_pv (pv_nilCheck rfl) rfl ?_
  refine ln_pv (pv_fieldAddr (off := 0) (r := off + 0) Tryd.underlying76 rfl timap_uint32_Sl_uint8.size rfl rfl rfl) rfl ?_
  refine ln_pv (pv_ldr (j := 0) hr Tryd.underlying74 rfl rfl rfl) rfl ?_
  refine ln_pv (pv_mapLen hom Tryd.underlying74 rfl) rfl ?_
  refine ln_pv (pv_ff (pv_eql rfl rfl) h00) rfl ?_
  refine ln_cd ?_
  refine cd_ff rfl ?_
  refine cd_skip ?_
  refine at_cd ?_
  refine cd_sr ?_
  refine ln_pv (pv_move rfl) rfl ?_
  refine ln_pv (pv_nilCheck rfl) rfl ?_
  refine ln_pv (pv_fieldAddr (off := 0) (r := off + 0) Tryd.underlying76 rfl timap_uint32_Sl_uint8.size rfl rfl rfl) rfl ?_
  refine ln_pv (pv_ldr (j := 0) hr Tryd.underlying74 rfl rfl rfl) rfl ?_
  refine ln_pv (pv_mapLen hom Tryd.underlying74 rfl) rfl ?_
  refine ln_make0 (c := (ME l).size) Tryd.underlying108 tiuint32 rfl rfl (by omega) (by simp only [maxLen]; omega) rfl (fun g => ?_)
  refine ln_alloc tiSl_uint32 rfl rfl (fun b1 => ?_)
  refine ln_store1 (i := 0) rfl rfl rfl rfl (tiSl_uint32).size rfl ?_
  refine ln_cd ?_
  refine cd_seq ?_
  refine cd_sr ?_
  refine ln_pv (pv_move rfl) rfl ?_
  refine ln_pv (pv_nilCheck rfl) rfl ?_
  refine ln_pv (pv_fieldAddr (off := 0) (r := off + 0) Tryd.underlying76 rfl timap_uint32_Sl_uint8.size rfl rfl rfl) rfl ?_
  refine ln_pv (pv_ldr (j := 0) hr Tryd.underlying74 rfl rfl rfl) rfl ?_
  refine ln_range hom Tryd.underlying74 rfl rfl (fun it => ?_)
  refine ln_cd ?_
  refine cd_block ?_
  refine cd_loop (⟨fun (z : Array Nat × Value) => [(0, .pointer (some ⟨b, off, none⟩)), (1, .func (.func fn) #[] #[cap]), (4, .pointer (some ⟨b1, 0, none⟩)), (24, .pointer (some ⟨it, 0, none⟩))], fun (z : Array Nat × Value) => [.obj it (.mapIter (some m) l.length z.1 l.length), .obj b1 (.cells [z.2].toArray 108), .row z.2 63 1 (z.1.toList.map (kn l)).length ((z.1.toList.map (kn l)).map kv), A z0, B z0], fun (z : Array Nat × Value) s => z.1.toList.Nodup ∧ (∀ i ∈ z.1.toList, i < l.length) ∧ z.1.size + (leftOf (ME l) z.1).size ≤ (ME l).size, fun (z : Array Nat × Value) => (leftOf (ME l) z.1).size⟩ : Lp (Array Nat × Value)) (#[], .slice (some ⟨g, 0, none⟩) 0 (ME l).size) ?_ ?_ ?_ ?_
  · intro s0 hs0
    exact ⟨List.nodup_nil, by simp, by have := Array.size_filter_le (p := fun e => !(#[] : Array Nat).contains e.born) (xs := ME l); simpa [leftOf] using this⟩
  · exact ⟨rfl, rfl, rfl, rfl,  trivial⟩
  · exact (.cons_cons _ (.cons_cons _ (.cons_cons _ (.cons_cons _ (.cons_cons _ .slnil)))))
  intro z s1 hl1 hI
  obtain ⟨seen, vk⟩ := z
  dsimp only at hI ⊢
  have hr := hr.mv hl1
  have hom := hom.mv hl1
  have hrk := hrk.mv hl1
  have hz := hz.mv hl1
  obtain ⟨hnd9, hlt9, hcnt⟩ := hI
  refine cd_sr ?_
  refine ln_next (i := 0) rfl hom rfl (ME_born l) (Nat.le_refl _) rfl (fun h0 => ?_) (fun e9 he9 => ?_)
  · skip
    refine ln_pv (pv_extract rfl rfl) rfl ?_
    refine ln_cd ?_
    refine cd_seq ?_
    refine cd_ff rfl ?_
    refine cd_exit rfl ?_
    refine at_cd ?_
    have hpm := seen_perm hnd9 hlt9 h0
    have hpl : (seen.toList.map (kn l)).length = l.length := by rw [hpm.length_eq, List.length_map]
    refine cd_rowshape (i := 2) rfl (fun adk cpk hvk hlek hposk => ?_)
    subst hvk
    obtain ⟨gk, rfl⟩ := hposk (by omega)
    refine cd_sr ?_
    refine ln_pv (pv_ldo (i := 1) rfl Tryd.underlying108 rfl rfl rfl) rfl ?_
    refine ln_pv (pv_iface Tryd.underlying108 rfl) rfl ?_
    refine ln_pv (pv_makeFunc (vf := #[]) (vc := #[.pointer (some ⟨b1, 0, none⟩)]) (by rw [List.map_toArray, List.map_toArray]; rfl) (by rw [List.map_toArray, List.map_toArray]; rfl)) rfl ?_
    refine ln_callH (E := SE gk b1 _ cpk (seen.toList.map (kn l))) (H0 := [_, _, _]) ((List.Perm.swap _ _ _).trans ((List.Perm.cons _ (List.Perm.swap _ _ _)).trans (List.Perm.swap _ _ _))) en_69 rfl (fun u hu hok hav hnd => sort_u32 u gk b1 _ cpk _ rfl hok hav hnd (by omega)) rfl ?_
    rintro u1 v1 _ ht1 ⟨_, ⟨ks9, hp9, hs9, rfl⟩, _⟩
    have hks : ks9 = us.map (·.1) := sorted_eq (hp9.trans (hrk.keys ▸ hpm)) hs9 ((List.pairwise_map).2 (hsrt.imp fun h => Nat.le_of_lt h))
    subst hks
    have hr := hr.mv ht1
    have hom := hom.mv ht1
    have hrk := hrk.mv ht1
    have hz := hz.mv ht1
    refine ln_cd ?_
    refine cd_sr ?_
    refine ln_pv (pv_ldo (i := 1) rfl Tryd.underlying108 rfl rfl rfl) rfl ?_
    refine ln_pv (pv_len_slice Tryd.underlying108 rfl) rfl ?_
    refine ln_pv (pv_move rfl) rfl ?_
    refine ln_cd ?_
    refine cd_block ?_
    refine cd_loop (⟨fun (z : Nat × β) => [(0, .pointer (some ⟨b, off, none⟩)), (1, .func (.func fn) #[] #[cap]), (37, .slice (some ⟨gk, 0, none⟩) (seen.toList.map (kn l)).length cpk), (38, .int .i64 ((seen.toList.map (kn l)).length : Int)), (39, .int .i64 ((z.1 : Nat) : Int))], fun (z : Nat × β) => [.row (.slice (some ⟨gk, 0, none⟩) (seen.toList.map (kn l)).length cpk) 63 1 (seen.toList.map (kn l)).length ((us.map (·.1)).map kv), A z.2, B z.2], fun (z : Nat × β) s => z.1 ≤ us.length ∧ Iv Inv z.1 s z.2, fun (z : Nat × β) => us.length - z.1⟩ : Lp (Nat × β)) (0, z0) ?_ ?_ ?_ ?_
    · intro s0 hs0
      exact ⟨Nat.zero_le _, hz.mv hs0⟩
    · exact ⟨rfl, rfl, rfl, rfl, rfl,  trivial⟩
    · exact (.cons_cons _ (.cons _ (.cons _ (.cons_cons _ (.cons_cons _ .slnil)))))
    intro z s2 hl2 hI
    obtain ⟨j, zw⟩ := z
    dsimp only at hI ⊢
    have hr := hr.mv hl2
    have hom := hom.mv hl2
    have hrk := hrk.mv hl2
    have hz := hz.mv hl2
    obtain ⟨hI1, hzw⟩ := hI
    refine cd_sr ?_
    refine ln_pv (pv_lss rfl rfl) rfl ?_
    refine ln_cd ?_
    refine cd_seq ?_
    refine cd_if rfl (fun hc3 => ?_) (fun hc3 => ?_)
    · -- yes
      refine cd_skip ?_
      refine at_cd ?_
      refine cd_seq ?_
      refine cd_block ?_
      have hj : j < us.length := by omega
      obtain ⟨hjl, hjk, hjv⟩ := RK.at hj hrk
      refine cd_sr ?_
      refine ln_pv (pv_ixN Tryd.underlying108 tiuint32.size rfl rfl (by omega)) rfl ?_
      refine ln_pv (pv_ldw1 (i := 0) (o := 0 + j * 1) (v := .int .u32 (us[j].1 : Int)) rfl Tryd.underlying63 rfl rfl (by simp [kv, hj])) rfl ?_
      refine ln_pv (pv_assign rfl) rfl ?_
      refine ln_cd ?_
      refine cd_region ?_
      refine ln_pv (pv_move rfl) rfl ?_
      refine ln_pv (pv_move rfl) rfl ?_
      refine ln_pv (pv_move rfl) rfl ?_
      refine ln_pv (pv_nilCheck rfl) rfl ?_
      refine ln_pv (pv_fieldAddr (off := 0) (r := off + 0) Tryd.underlying76 rfl timap_uint32_Sl_uint8.size rfl rfl rfl) rfl ?_
      refine ln_pv (pv_ldr (j := 0) hr Tryd.underlying74 rfl rfl rfl) rfl ?_
      refine ln_pv (pv_move rfl) rfl ?_
      refine ln_pv (pv_mapGet (e := ⟨.int .u32 (l[j].1 : Int), l[j].2, j⟩) hom Tryd.underlying74 Tryd.underlying63 rfl rfl (ME_keys l) (ME_at l hjl) (by rw [hjk]) (fun e9 he9 hq9 => ME_uniq hln (ME_at l hjl) he9 hq9)) rfl ?_
      refine ln_callHv (R := fun u9 _ E9 => ∃ z9, E9 = [A z9, B z9] ∧ Iv Inv (j + 1) u9 z9) (E := [A zw, B zw]) (H0 := [_]) (vals := [.int .u32 (us[j].1 : Int), l[j].2]) (cap := [cap]) rfl ((List.Perm.swap _ _ _).trans (List.Perm.cons _ (List.Perm.swap _ _ _))) hent rfl rfl (fun u hu hok hav hnd => hstep j hj u zw _ (hzw.mv hu) (RSv.mv hjv hu) hok hav hnd) rfl ?_
      rintro u2 v2 _ ht2 ⟨xu2, ⟨z9, rfl, hz9⟩, hxu2⟩
      have hz9 := hz9.mv hxu2
      have hr := hr.mv ht2
      have hom := hom.mv ht2
      have hrk := hrk.mv ht2
      have hz := hz.mv ht2
      have hzw := hzw.mv ht2
      have hjv := hjv.mv ht2
      refine ln_perm ((List.Perm.cons _ (List.Perm.swap _ _ _)).trans (List.Perm.swap _ _ _)) ?_
      refine ln_nil ?_
      refine at_cd ?_
      refine cd_region ?_
      refine ln_pv (pv_add' rfl rfl (wrap_succ (by omega))) rfl ?_
      refine ln_pv (pv_move rfl) rfl ?_
      refine ln_nil ?_
      refine at_rnd (j + 1, z9) (hl2.trans ht2) ?_ ?_ ⟨rfl, rfl, rfl, rfl, rfl,  trivial⟩ (.cons_cons _ (.cons_cons _ (.cons_cons _ .slnil)))
      · intro s9 hs9
        exact ⟨by dsimp only; omega, hz9.mv hs9⟩
      · dsimp only; omega
    · -- no
      refine cd_exit rfl ?_
      have hj : j = us.length := by omega
      subst hj
      exact at_retH0 [A zw, B zw] (.cons _ (.refl _)) rfl (fun w hS => ⟨zw, rfl, hzw.mv (hS.trFinH _ _)⟩)
  · skip
    obtain ⟨he1, he2⟩ := mem_left he9
    have hsh := left_shrinks _ _ _ he9
    obtain ⟨i9, hi9, rfl⟩ := ME_mem he1
    dsimp only at hsh he2 ⊢
    refine ln_pv (pv_extract rfl rfl) rfl ?_
    refine ln_cd ?_
    refine cd_seq ?_
    refine cd_tt rfl ?_
    refine cd_skip ?_
    refine at_cd ?_
    refine cd_block ?_
    refine cd_sr ?_
    refine ln_pv (pv_entry (i := 0) (e := ⟨.int .u32 (l[i9].1 : Int), l[i9].2, i9⟩) rfl hom rfl he1 (ME_nodup l)) rfl ?_
    refine ln_pv (pv_extract rfl rfl) rfl ?_
    refine ln_pv (pv_assign rfl) rfl ?_
    refine ln_cd ?_
    refine cd_region ?_
    refine ln_pv (pv_ldo (i := 1) rfl Tryd.underlying108 rfl rfl rfl) rfl ?_
    refine ln_pv (pv_move rfl) rfl ?_
    refine ln_lit (vs := [_]) Tryd.underlying108 tiuint32 rfl (by decide) rfl rfl rfl rfl rfl rfl (fun b2 => ?_)
    refine ln_append (i := 3) rfl Tryd.underlying108 tiuint32 rfl (by decide) rfl rfl (src_obj (j := 0) rfl rfl rfl) (by rw [List.length_map, Array.length_toList]; first | omega | (simp only [maxLen]; omega)) (by rw [List.length_map, Array.length_toList]; first | omega | (simp only [maxLen]; omega)) rfl (k' := ((seen.push i9).toList.map (kn l)).length) (xs' := ((seen.push i9).toList.map (kn l)).map kv) (by simp) (by simp [kv, kn, hi9, List.getD, flat, Value.cells]) (fun v3 hv3 => ?_)
    refine ln_store1 (i := 2) rfl rfl rfl hv3.2 (tiSl_uint32).size rfl ?_
    refine ln_nil ?_
    refine at_rnd (seen.push i9, v3) hl1 ?_ ?_ ⟨rfl, rfl, rfl, rfl,  trivial⟩ (.cons _ (.cons_cons _ (.cons_cons _ (.cons_cons _ (.cons_cons _ (.cons_cons _ .slnil))))))
    · intro s9 hs9
      have hni : i9 ∉ seen.toList := by simpa using he2
      refine ⟨?_, ?_, by dsimp only; rw [Array.size_push]; omega⟩
      · rw [Array.toList_push]
        exact List.nodup_append.2 ⟨hnd9, by simp, fun a ha b hb hab => by simp only [List.mem_singleton] at hb; subst hb; exact hni (hab ▸ ha)⟩
      · intro i hi
        rw [Array.toList_push] at hi
        rcases List.mem_append.1 hi with hi | hi
        · exact hlt9 i hi
        · simp only [List.mem_singleton] at hi; omega
    · exact hsh
end K
end Go.Proofs.YtkcdocdldebeoaaDoor
