import Derived.Test.YtepbicjadambbabGreatDoorG2
set_option linter.unusedVariables false
set_option linter.unusedSimpArgs false
namespace Go.Proofs.YtepbicjadambbabGreatDoor
namespace K
open Go Go.Lib
def kn (l : List (Nat × Value)) (i : Nat) : Nat := (l.map (·.1)).getD i 0
theorem ME_born (l : List (Nat × Value)) : ∀ e ∈ (ME l).toList, e.born < l.length := fun e he => by
  obtain ⟨i, hi, rfl⟩ := ME_mem he
  exact hi
theorem ME_nodup (l : List (Nat × Value)) : ((ME l).toList.map (·.born)).Nodup := by
  have e : (ME l).toList.map (·.born) = List.range l.length := by
    simp only [ME, List.map_map]
    apply List.ext_getElem?
    intro i
    by_cases hi : i < l.length
    · simp [hi]
    · rw [List.getElem?_eq_none (by simp; omega), List.getElem?_eq_none (by simp; omega)]
  rw [e]
  exact List.nodup_range
theorem ME_at (l : List (Nat × Value)) {i : Nat} (hi : i < l.length) : (⟨.int .u32 (l[i].1 : Int), l[i].2, i⟩ : MapEntry) ∈ (ME l).toList := by
  simp only [ME, List.mem_map]
  exact ⟨(l[i], i), by rw [List.mem_zipIdx_iff_getElem?]; simp [hi], rfl⟩
theorem ME_uniq {l : List (Nat × Value)} (hn : (l.map (·.1)).Nodup) {e e' : MapEntry} (he : e ∈ (ME l).toList) (he' : e' ∈ (ME l).toList) (h : e'.key = e.key) : e' = e := by
  obtain ⟨i, hi, rfl⟩ := ME_mem he
  obtain ⟨j, hj, rfl⟩ := ME_mem he'
  simp only [Value.int.injEq, true_and] at h
  have hk : (l.map (·.1))[j]'(by simpa using hj) = (l.map (·.1))[i]'(by simpa using hi) := by simp only [List.getElem_map]; omega
  have hji : j = i := (List.getElem_inj hn).1 hk
  subst hji
  rfl
theorem RK.at {s : Vw} : ∀ {l : List (Nat × Value)} {u : Tags} {j : Nat} (hj : j < u.length), RK s l u → ∃ hl : j < l.length, l[j].1 = u[j].1 ∧ RSv s l[j].2 u[j].2
  | [], u, j, hj, h => by simp only [RK] at h; subst h; simp at hj
  | (k, v) :: l, u, j, hj, ⟨b, r, h1, h2, h3⟩ => by
    subst h1
    cases j with
    | zero => exact ⟨by simp, rfl, h2⟩
    | succ j =>
      obtain ⟨hl, h4, h5⟩ := RK.at (j := j) (by simpa using hj) h3
      exact ⟨by simpa using hl, by simpa using h4, by simpa using h5⟩
theorem seen_perm {l : List (Nat × Value)} {seen : Array Nat} (hnd : seen.toList.Nodup) (hlt : ∀ i ∈ seen.toList, i < l.length) (h0 : (leftOf (ME l) seen).size = 0) : (seen.toList.map (kn l)).Perm (l.map (·.1)) := by
  have h1 : seen.toList.Perm (List.range l.length) := by
    rw [List.perm_ext_iff_of_nodup hnd List.nodup_range]
    intro i
    rw [List.mem_range]
    refine ⟨hlt i, fun hi => ?_⟩
    have := all_seen _ _ h0 _ (ME_at l hi)
    simpa using this
  have h2 : (List.range l.length).map (kn l) = l.map (·.1) := by
    apply List.ext_getElem?
    intro i
    by_cases hi : i < l.length
    · simp [hi, kn, List.getD]
    · rw [List.getElem?_eq_none (by simp; omega), List.getElem?_eq_none (by simp; omega)]
  rw [← h2]
  exact h1.map _
theorem sorted_eq {a b : List Nat} (hp : a.Perm b) (ha : a.Pairwise (· ≤ ·)) (hb : b.Pairwise (· ≤ ·)) : a = b := hp.eq_of_pairwise (fun x y _ _ h1 h2 => Nat.le_antisymm h1 h2) ha hb
def RC1 (s : Vw) (b off : Nat) (mv : Value) : Prop := RC s b off [mv]
theorem RC1.mv {s t : Vw} {b off : Nat} {mv : Value} (h : RC1 s b off mv) (ht : Tr s t) : RC1 t b off mv := RC.mv h ht (by simp)
theorem tags_Each (t : Vw) (b off b3 : Nat) (mv vd : Value) (l : List (Nat × Value)) (us : Tags) (L : List UInt8) (hr : RC1 t b off mv) (hm : MK t mv l) (hrk : RK t l us) (hsrt : us.Pairwise (fun x y => x.1 < y.1)) (hbd : ∀ y ∈ us, y.1 < 4294967296 ∧ y.2.length ≤ 32767) (hB : L.length + (us.flatMap tagB).length ≤ 4398046511104) (hok : HF (CE b3 vd L) t.w) (hav : ∀ q ∈ blks (CE b3 vd L), t.av q) (hnd : (blks (CE b3 vd L)).Nodup) : CH Tryz.prog 61 [.pointer (some ⟨b, off, none⟩), .func (.func 62) #[] #[.pointer (some ⟨b3, 0, none⟩)]] t (CE b3 vd L) fun u r E' => ∃ vd', E' = CE b3 vd' (L ++ us.flatMap tagB) ∧ vd'.oneCell' = true := by
  have hvd : vd.oneCell' = true := ownsRow_one (hok (.row vd 5 1 L.length (u8s L)) (by simp))
  have hul := tags_len us
  have hll := hrk.len
  have hms := ME_size l
  have hln : (l.map (·.1)).Nodup := by rw [hrk.keys]; exact (List.pairwise_map).2 (hsrt.imp fun h => Nat.ne_of_lt h)
  refine ch_enter Tryz.func61 rfl Tryz.ntmps61 rfl hok hav hnd ?_
  rcases hm with ⟨rfl, rfl⟩ | ⟨m, rfl, hom⟩
  · obtain rfl : us = [] := by simpa using hll.symm
    have h00 : (0 : Int) = 0 := rfl
    refine cd_seq ?_
    refine cd_sr ?_
    refine ln_pv (pv_move rfl) rfl ?_
    refine ln_pv (pv_nilCheck rfl) rfl ?_
    refine ln_pv (pv_fieldAddr (off := 0) (r := off + 0) Tryz.underlying59 rfl timap_uint32_Sl_uint8.size rfl rfl rfl) rfl ?_
    refine ln_pv (pv_ldr (j := 0) hr Tryz.underlying57 rfl rfl rfl) rfl ?_
    refine ln_pv (pv_mapLen0 Tryz.underlying57 rfl) rfl ?_
    refine ln_pv (pv_tt (pv_eql rfl rfl) h00) rfl ?_
    refine ln_cd ?_
    refine cd_tt rfl ?_
    refine cd_ret ?_
    exact at_retH0 _ (List.Sublist.refl _) rfl (fun w hS => ⟨vd, by simp, hvd⟩)
  by_cases h00 : ((ME l).size : Int) = 0
  · obtain rfl : us = [] := List.eq_nil_of_length_eq_zero (by omega)
    refine cd_seq ?_
    refine cd_sr ?_
    refine ln_pv (pv_move rfl) rfl ?_
    refine ln_pv (pv_nilCheck rfl) rfl ?_
    refine ln_pv (pv_fieldAddr (off := 0) (r := off + 0) Tryz.underlying59 rfl timap_uint32_Sl_uint8.size rfl rfl rfl) rfl ?_
    refine ln_pv (pv_ldr (j := 0) hr Tryz.underlying57 rfl rfl rfl) rfl ?_
    refine ln_pv (pv_mapLen hom Tryz.underlying57 rfl) rfl ?_
    refine ln_pv (pv_tt (pv_eql rfl rfl) h00) rfl ?_
    refine ln_cd ?_
    refine cd_tt rfl ?_
    refine cd_ret ?_
    exact at_retH0 _ (List.Sublist.refl _) rfl (fun w hS => ⟨vd, by simp, hvd⟩)
  refine cd_seq ?_
  refine cd_sr ?_
  refine ln_pv (pv_move rfl) rfl ?_
  refine ln_pv (pv_nilCheck rfl) rfl ?_
  refine ln_pv (pv_fieldAddr (off := 0) (r := off + 0) Tryz.underlying59 rfl timap_uint32_Sl_uint8.size rfl rfl rfl) rfl ?_
  refine ln_pv (pv_ldr (j := 0) hr Tryz.underlying57 rfl rfl rfl) rfl ?_
  refine ln_pv (pv_mapLen hom Tryz.underlying57 rfl) rfl ?_
  refine ln_pv (pv_ff (pv_eql rfl rfl) h00) rfl ?_
  refine ln_cd ?_
  refine cd_ff rfl ?_
  refine cd_skip ?_
  refine at_cd ?_
  refine cd_sr ?_
  refine ln_pv (pv_move rfl) rfl ?_
  refine ln_pv (pv_nilCheck rfl) rfl ?_
  refine ln_pv (pv_fieldAddr (off := 0) (r := off + 0) Tryz.underlying59 rfl timap_uint32_Sl_uint8.size rfl rfl rfl) rfl ?_
  refine ln_pv (pv_ldr (j := 0) hr Tryz.underlying57 rfl rfl rfl) rfl ?_
  refine ln_pv (pv_mapLen hom Tryz.underlying57 rfl) rfl ?_
  refine ln_make0 (c := (ME l).size) Tryz.underlying75 tiuint32 rfl rfl (by omega) (by simp only [maxLen]; omega) rfl (fun g => ?_)
  refine ln_alloc tiSl_uint32 rfl rfl (fun b1 => ?_)
  refine ln_store1 (i := 0) rfl rfl rfl rfl (tiSl_uint32).size rfl ?_
  refine ln_cd ?_
  refine cd_seq ?_
  refine cd_sr ?_
  refine ln_pv (pv_move rfl) rfl ?_
  refine ln_pv (pv_nilCheck rfl) rfl ?_
  refine ln_pv (pv_fieldAddr (off := 0) (r := off + 0) Tryz.underlying59 rfl timap_uint32_Sl_uint8.size rfl rfl rfl) rfl ?_
  refine ln_pv (pv_ldr (j := 0) hr Tryz.underlying57 rfl rfl rfl) rfl ?_
  refine ln_range hom Tryz.underlying57 rfl rfl (fun it => ?_)
  refine ln_cd ?_
  refine cd_block ?_
  refine cd_loop (⟨fun (z : Array Nat × Value) => [(0, .pointer (some ⟨b, off, none⟩)), (1, .func (.func 62) #[] #[.pointer (some ⟨b3, 0, none⟩)]), (4, .pointer (some ⟨b1, 0, none⟩)), (24, .pointer (some ⟨it, 0, none⟩))], fun (z : Array Nat × Value) => [.obj it (.mapIter (some m) l.length z.1 l.length), .obj b1 (.cells [z.2].toArray 75), .row z.2 53 1 (z.1.toList.map (kn l)).length ((z.1.toList.map (kn l)).map kv), .obj b3 (.cells [vd].toArray 22), .row vd 5 1 (L).length (u8s (L))], fun (z : Array Nat × Value) s => z.1.toList.Nodup ∧ (∀ i ∈ z.1.toList, i < l.length) ∧ z.1.size + (leftOf (ME l) z.1).size ≤ (ME l).size, fun (z : Array Nat × Value) => (leftOf (ME l) z.1).size⟩ : Lp (Array Nat × Value)) (#[], .slice (some ⟨g, 0, none⟩) 0 (ME l).size) ?_ ?_ ?_ ?_
  · intro s0 hs0
    exact ⟨List.nodup_nil, by simp, by have := Array.size_filter_le (p := fun e => !(#[] : Array Nat).contains e.born) (xs := ME l); simpa [leftOf] using this⟩
  · exact ⟨rfl, rfl, rfl, rfl,  trivial⟩
  · exact (.cons_cons _ (.cons_cons _ (.cons_cons _ (.cons_cons _ (.cons_cons _ .slnil)))))
  intro z s1 hl1 hI
  obtain ⟨seen, vk⟩ := z
  dsimp only at hI ⊢
  have hr := hr.mv hl1
  have hom := hom.mv hl1
  have hrk := hrk.mv hl1
  obtain ⟨hnd9, hlt9, hcnt⟩ := hI
  refine cd_sr ?_
  refine ln_next (i := 0) rfl hom rfl (ME_born l) (Nat.le_refl _) rfl (fun h0 => ?_) (fun e9 he9 => ?_)
  · skip
    refine ln_pv (pv_extract rfl rfl) rfl ?_
    refine ln_cd ?_
    refine cd_seq ?_
    refine cd_ff rfl ?_
    refine cd_exit rfl ?_
    refine at_cd ?_
    have hpm := seen_perm hnd9 hlt9 h0
    have hpl : (seen.toList.map (kn l)).length = l.length := by rw [hpm.length_eq, List.length_map]
    refine cd_rowshape (i := 2) rfl (fun adk cpk hvk hlek hposk => ?_)
    subst hvk
    obtain ⟨gk, rfl⟩ := hposk (by omega)
    refine cd_sr ?_
    refine ln_pv (pv_ldo (i := 1) rfl Tryz.underlying75 rfl rfl rfl) rfl ?_
    refine ln_pv (pv_iface Tryz.underlying75 rfl) rfl ?_
    refine ln_pv (pv_makeFunc (vf := #[]) (vc := #[.pointer (some ⟨b1, 0, none⟩)]) (by rw [List.map_toArray, List.map_toArray]; rfl) (by rw [List.map_toArray, List.map_toArray]; rfl)) rfl ?_
    refine ln_callH (E := SE gk b1 _ cpk (seen.toList.map (kn l))) (H0 := [_, _, _]) ((List.Perm.swap _ _ _).trans ((List.Perm.cons _ (List.Perm.swap _ _ _)).trans (List.Perm.swap _ _ _))) en_68 rfl (fun u hu hok hav hnd => sort_u32 u gk b1 _ cpk _ rfl hok hav hnd (by omega)) rfl ?_
    rintro u1 v1 _ ht1 ⟨_, ⟨ks9, hp9, hs9, rfl⟩, _⟩
    have hks : ks9 = us.map (·.1) := sorted_eq (hp9.trans (hrk.keys ▸ hpm)) hs9 ((List.pairwise_map).2 (hsrt.imp fun h => Nat.le_of_lt h))
    subst hks
    have hr := hr.mv ht1
    have hom := hom.mv ht1
    have hrk := hrk.mv ht1
    refine ln_cd ?_
    refine cd_sr ?_
    refine ln_pv (pv_ldo (i := 1) rfl Tryz.underlying75 rfl rfl rfl) rfl ?_
    refine ln_pv (pv_len_slice Tryz.underlying75 rfl) rfl ?_
    refine ln_pv (pv_move rfl) rfl ?_
    refine ln_cd ?_
    refine cd_block ?_
    refine cd_row (i := 4) (m' := (L ++ (us.take 0).flatMap tagB).length) (xs' := u8s (L ++ (us.take 0).flatMap tagB)) rfl (by simp) (by simp) ?_
    refine cd_loop (⟨fun (z : Nat × Value) => [(0, .pointer (some ⟨b, off, none⟩)), (1, .func (.func 62) #[] #[.pointer (some ⟨b3, 0, none⟩)]), (37, .slice (some ⟨gk, 0, none⟩) (seen.toList.map (kn l)).length cpk), (38, .int .i64 ((seen.toList.map (kn l)).length : Int)), (39, .int .i64 ((z.1 : Nat) : Int))], fun (z : Nat × Value) => [.row (.slice (some ⟨gk, 0, none⟩) (seen.toList.map (kn l)).length cpk) 53 1 (seen.toList.map (kn l)).length ((us.map (·.1)).map kv), .obj b3 (.cells [z.2].toArray 22), .row z.2 5 1 (L ++ (us.take z.1).flatMap tagB).length (u8s (L ++ (us.take z.1).flatMap tagB))], fun (z : Nat × Value) s => z.1 ≤ us.length, fun (z : Nat × Value) => us.length - z.1⟩ : Lp (Nat × Value)) (0, vd) ?_ ?_ ?_ ?_
    · intro s0 hs0
      exact Nat.zero_le _
    · exact ⟨rfl, rfl, rfl, rfl, rfl,  trivial⟩
    · exact (.cons_cons _ (.cons _ (.cons _ (.cons_cons _ (.cons_cons _ .slnil)))))
    intro z s2 hl2 hI
    obtain ⟨j, vw⟩ := z
    dsimp only at hI ⊢
    have hr := hr.mv hl2
    have hom := hom.mv hl2
    have hrk := hrk.mv hl2
    refine cd_sr ?_
    refine ln_pv (pv_lss rfl rfl) rfl ?_
    refine ln_cd ?_
    refine cd_seq ?_
    refine cd_if rfl (fun hc3 => ?_) (fun hc3 => ?_)
    · -- yes
      refine cd_skip ?_
      refine at_cd ?_
      refine cd_seq ?_
      refine cd_block ?_
      have hj : j < us.length := by omega
      obtain ⟨hjl, hjk, hjv⟩ := RK.at hj hrk
      have hst := flat_step tagB us hj
      have hfl := flat_le tagB us (j + 1)
      rw [hst, List.length_append] at hfl
      refine cd_sr ?_
      refine ln_pv (pv_ixN Tryz.underlying75 tiuint32.size rfl rfl (by omega)) rfl ?_
      refine ln_pv (pv_ldw1 (i := 0) (o := 0 + j * 1) (v := .int .u32 (us[j].1 : Int)) rfl Tryz.underlying53 rfl rfl (by simp [kv, hj])) rfl ?_
      refine ln_pv (pv_assign rfl) rfl ?_
      refine ln_cd ?_
      refine cd_region ?_
      refine ln_pv (pv_move rfl) rfl ?_
      refine ln_pv (pv_move rfl) rfl ?_
      refine ln_pv (pv_move rfl) rfl ?_
      refine ln_pv (pv_nilCheck rfl) rfl ?_
      refine ln_pv (pv_fieldAddr (off := 0) (r := off + 0) Tryz.underlying59 rfl timap_uint32_Sl_uint8.size rfl rfl rfl) rfl ?_
      refine ln_pv (pv_ldr (j := 0) hr Tryz.underlying57 rfl rfl rfl) rfl ?_
      refine ln_pv (pv_move rfl) rfl ?_
      refine ln_pv (pv_mapGet (e := ⟨.int .u32 (l[j].1 : Int), l[j].2, j⟩) hom Tryz.underlying57 Tryz.underlying53 rfl rfl (ME_keys l) (ME_at l hjl) (by rw [hjk]) (fun e9 he9 hq9 => ME_uniq hln (ME_at l hjl) he9 hq9)) rfl ?_
      refine ln_callHv (R := fun _ _ E9 => ∃ vd9, E9 = CE b3 vd9 (L ++ (us.take j).flatMap tagB ++ tagB (us[j]'hj)) ∧ vd9.oneCell' = true) (E := CE b3 vw (L ++ (us.take j).flatMap tagB)) (H0 := [_]) (vals := [.int .u32 (us[j].1 : Int), l[j].2]) (cap := [.pointer (some ⟨b3, 0, none⟩)]) rfl ((List.Perm.swap _ _ _).trans (List.Perm.cons _ (List.Perm.swap _ _ _))) en_62 rfl rfl (fun u hu hok hav hnd => tags_clo u b3 (us[j]'hj) _ _ _ (RSv.mv hjv hu) (hbd _ (List.getElem_mem hj)).1 (hbd _ (List.getElem_mem hj)).2 (by rw [List.length_append]; omega) hok hav hnd) rfl ?_
      rintro u2 v2 _ ht2 ⟨_, ⟨vd9, rfl, hvd9⟩, _⟩
      have hr := hr.mv ht2
      have hom := hom.mv ht2
      have hrk := hrk.mv ht2
      have hjv := hjv.mv ht2
      refine ln_perm ((List.Perm.cons _ (List.Perm.swap _ _ _)).trans (List.Perm.swap _ _ _)) ?_
      refine ln_nil ?_
      refine at_cd ?_
      refine cd_region ?_
      refine ln_pv (pv_add' rfl rfl (wrap_succ (by omega))) rfl ?_
      refine ln_pv (pv_move rfl) rfl ?_
      refine ln_nil ?_
      refine at_row (i := 2) (m' := (L ++ (us.take (j + 1)).flatMap tagB).length) (xs' := u8s (L ++ (us.take (j + 1)).flatMap tagB)) rfl (by rw [hst, List.append_assoc]) (by rw [hst, List.append_assoc]) ?_
      refine at_rnd (j + 1, vd9) (hl2.trans ht2) ?_ ?_ ⟨rfl, rfl, rfl, rfl, rfl,  trivial⟩ (.cons_cons _ (.cons_cons _ (.cons_cons _ .slnil)))
      · intro s9 hs9
        show j + 1 ≤ _
        omega
      · dsimp only; omega
    · -- no
      refine cd_exit rfl ?_
      have hj : j = us.length := by omega
      subst hj
      refine at_retH0 (CE b3 vw (L ++ (us.take us.length).flatMap tagB)) (.cons _ (.refl _)) rfl (fun w hS => ⟨vw, by rw [List.take_length], ownsRow_one (hS.hf _ (List.mem_of_getElem? (i := 2) rfl))⟩)
  · skip
    obtain ⟨he1, he2⟩ := mem_left he9
    have hsh := left_shrinks _ _ _ he9
    obtain ⟨i9, hi9, rfl⟩ := ME_mem he1
    dsimp only at hsh he2 ⊢
    refine ln_pv (pv_extract rfl rfl) rfl ?_
    refine ln_cd ?_
    refine cd_seq ?_
    refine cd_tt rfl ?_
    refine cd_skip ?_
    refine at_cd ?_
    refine cd_block ?_
    refine cd_sr ?_
    refine ln_pv (pv_entry (i := 0) (e := ⟨.int .u32 (l[i9].1 : Int), l[i9].2, i9⟩) rfl hom rfl he1 (ME_nodup l)) rfl ?_
    refine ln_pv (pv_extract rfl rfl) rfl ?_
    refine ln_pv (pv_assign rfl) rfl ?_
    refine ln_cd ?_
    refine cd_region ?_
    refine ln_pv (pv_ldo (i := 1) rfl Tryz.underlying75 rfl rfl rfl) rfl ?_
    refine ln_pv (pv_move rfl) rfl ?_
    refine ln_lit (vs := [_]) Tryz.underlying75 tiuint32 rfl (by decide) rfl rfl rfl rfl rfl rfl (fun b2 => ?_)
    refine ln_append (i := 3) rfl Tryz.underlying75 tiuint32 rfl (by decide) rfl rfl (src_obj (j := 0) rfl rfl rfl) (by rw [List.length_map, Array.length_toList]; first | omega | (simp only [maxLen]; omega)) (by rw [List.length_map, Array.length_toList]; first | omega | (simp only [maxLen]; omega)) rfl (k' := ((seen.push i9).toList.map (kn l)).length) (xs' := ((seen.push i9).toList.map (kn l)).map kv) (by simp) (by simp [kv, kn, hi9, List.getD, flat, Value.cells]) (fun v3 hv3 => ?_)
    refine ln_store1 (i := 2) rfl rfl rfl hv3.2 (tiSl_uint32).size rfl ?_
    refine ln_nil ?_
    refine at_rnd (seen.push i9, v3) hl1 ?_ ?_ ⟨rfl, rfl, rfl, rfl,  trivial⟩ (.cons _ (.cons_cons _ (.cons_cons _ (.cons_cons _ (.cons_cons _ (.cons_cons _ .slnil))))))
    · intro s9 hs9
      have hni : i9 ∉ seen.toList := by simpa using he2
      refine ⟨?_, ?_, by dsimp only; rw [Array.size_push]; omega⟩
      · rw [Array.toList_push]
        exact List.nodup_append.2 ⟨hnd9, by simp, fun a ha b hb hab => by simp only [List.mem_singleton] at hb; subst hb; exact hni (hab ▸ ha)⟩
      · intro i hi
        rw [Array.toList_push] at hi
        rcases List.mem_append.1 hi with hi | hi
        · exact hlt9 i hi
        · simp only [List.mem_singleton] at hi; omega
    · exact hsh

end K
end Go.Proofs.YtepbicjadambbabGreatDoor
