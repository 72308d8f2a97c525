import Derived.Test.YtjjfpdofkdolnaaDoorK2
set_option linter.unusedVariables false
set_option linter.unusedSimpArgs false
namespace Go.Proofs.YtjjfpdofkdolnaaDoor
namespace K
open Go Go.Lib
def ME (l : List (Nat × Value)) : Array MapEntry := (l.zipIdx.map fun x => (⟨.int .u32 (x.1.1 : Int), x.1.2, x.2⟩ : MapEntry)).toArray
theorem ME_snoc (l : List (Nat × Value)) (k : Nat) (v : Value) : ME (l ++ [(k, v)]) = (ME l).push ⟨.int .u32 (k : Int), v, l.length⟩ := by simp [ME, List.zipIdx_append]
theorem ME_size (l : List (Nat × Value)) : (ME l).size = l.length := by simp [ME]
theorem ME_mem {l : List (Nat × Value)} {e : MapEntry} (h : e ∈ (ME l).toList) : ∃ i, ∃ hi : i < l.length, e = ⟨.int .u32 (l[i].1 : Int), l[i].2, i⟩ := by
  simp only [ME, List.mem_map] at h
  obtain ⟨x, hx, rfl⟩ := h
  obtain ⟨h1, h2, h3⟩ := List.mem_zipIdx hx
  simp only [Nat.zero_add, Nat.sub_zero] at h1 h2 h3
  exact ⟨x.2, h2, by rw [← h3]⟩
theorem ME_keys (l : List (Nat × Value)) : ∀ e ∈ (ME l).toList, ∃ q', e.key = .int .u32 q' := fun e he => by
  obtain ⟨i, hi, rfl⟩ := ME_mem he
  exact ⟨_, rfl⟩
theorem ME_new {l : List (Nat × Value)} {k : Nat} (h : ∀ x ∈ l, x.1 ≠ k) : ∀ e ∈ (ME l).toList, e.key ≠ .int .u32 (k : Int) := fun e he => by
  obtain ⟨i, hi, rfl⟩ := ME_mem he
  intro hq
  simp only [Value.int.injEq, true_and] at hq
  exact h _ (List.getElem_mem hi) (by omega)
/-- The tags as they lie in memory. -/
def MK (s : Vw) (mv : Value) (l : List (Nat × Value)) : Prop := (mv = .map none ∧ l = []) ∨ ∃ m, mv = .map (some m) ∧ OB s m (.map (ME l) l.length)
theorem MK.mv {s t : Vw} {mv : Value} {l : List (Nat × Value)} (h : MK s mv l) (ht : Tr s t) : MK t mv l := h.imp id fun ⟨m, h1, h2⟩ => ⟨m, h1, h2.mv ht⟩
theorem tags_Set0 (t : Vw) (b off k : Nat) (cs : List Value) (ty : TypeId) (v : Value) (hv : cs[off]? = some (.map none)) (hok : HF [.obj b (.cells cs.toArray ty)] t.w) (hav : ∀ q ∈ blks [.obj b (.cells cs.toArray ty)], t.av q) (hnd : (blks [.obj b (.cells cs.toArray ty)]).Nodup) : CH Tryd.prog 146 [.pointer (some ⟨b, off, none⟩), .int .u32 (k : Int), v] t [.obj b (.cells cs.toArray ty)] fun u r E' => ∃ m, E' = [.obj m (.map (ME [(k, v)]) 1), .obj b (.cells (cs.set off (.map (some m))).toArray ty)] := by
  have hlt : off < cs.length := (List.getElem?_eq_some_iff.1 hv).1
  have hble : Nat.ble (off + 1) cs.length = true := by rw [Nat.ble_eq]; exact hlt
  refine ch_enter Tryd.func146 rfl Tryd.ntmps146 rfl hok hav hnd ?_
  refine cd_seq ?_
  refine cd_sr ?_
  refine ln_pv (pv_move rfl) rfl ?_
  refine ln_pv (pv_nilCheck rfl) rfl ?_
  refine ln_pv (pv_fieldAddr (off := 0) (r := off) Tryd.underlying79 rfl timap_uint32_Sl_uint8.size rfl rfl rfl) rfl ?_
  refine ln_pv (pv_ldo (i := 0) rfl Tryd.underlying77 rfl rfl hv) rfl ?_
  refine ln_pv (pv_eqM Tryd.underlying77 rfl rfl) rfl ?_
  refine ln_cd ?_
  refine cd_tt rfl ?_
  refine cd_region ?_
  refine ln_pv (pv_move rfl) rfl ?_
  refine ln_makeMap rfl (fun m => ?_)
  refine ln_pv (pv_nilCheck rfl) rfl ?_
  refine ln_pv (pv_fieldAddr (off := 0) (r := off) Tryd.underlying79 rfl timap_uint32_Sl_uint8.size rfl rfl rfl) rfl ?_
  refine ln_store1 (i := 1) rfl rfl rfl rfl timap_uint32_Sl_uint8.size hble ?_
  refine ln_nil ?_
  refine at_cd ?_
  refine cd_region ?_
  refine ln_pv (pv_move rfl) rfl ?_
  refine ln_pv (pv_nilCheck rfl) rfl ?_
  refine ln_pv (pv_fieldAddr (off := 0) (r := off) Tryd.underlying79 rfl timap_uint32_Sl_uint8.size rfl rfl rfl) rfl ?_
  refine ln_pv (pv_ldo (i := 1) rfl Tryd.underlying77 rfl rfl (by rw [List.getElem?_set_self hlt])) rfl ?_
  refine ln_pv (pv_move rfl) rfl ?_
  refine ln_pv (pv_move rfl) rfl ?_
  refine ln_mapSet (i := 0) rfl Tryd.underlying77 Tryd.underlying55 rfl rfl rfl (by simp) (by simp) ?_
  refine ln_nil ?_
  exact at_retH0 _ (List.Sublist.refl _) rfl (fun w hS => ⟨m, rfl⟩)
theorem tags_Set1 (t : Vw) (b off k m : Nat) (cs : List Value) (ty : TypeId) (v : Value) (l : List (Nat × Value)) (hv : cs[off]? = some (.map (some m))) (hnew : ∀ x ∈ l, x.1 ≠ k) (hok : HF [.obj m (.map (ME l) l.length), .obj b (.cells cs.toArray ty)] t.w) (hav : ∀ q ∈ blks [.obj m (.map (ME l) l.length), .obj b (.cells cs.toArray ty)], t.av q) (hnd : (blks [.obj m (.map (ME l) l.length), .obj b (.cells cs.toArray ty)]).Nodup) : CH Tryd.prog 146 [.pointer (some ⟨b, off, none⟩), .int .u32 (k : Int), v] t [.obj m (.map (ME l) l.length), .obj b (.cells cs.toArray ty)] fun u r E' => E' = [.obj m (.map (ME (l ++ [(k, v)])) (l ++ [(k, v)]).length), .obj b (.cells cs.toArray ty)] := by
  refine ch_enter Tryd.func146 rfl Tryd.ntmps146 rfl hok hav hnd ?_
  refine cd_seq ?_
  refine cd_sr ?_
  refine ln_pv (pv_move rfl) rfl ?_
  refine ln_pv (pv_nilCheck rfl) rfl ?_
  refine ln_pv (pv_fieldAddr (off := 0) (r := off) Tryd.underlying79 rfl timap_uint32_Sl_uint8.size rfl rfl rfl) rfl ?_
  refine ln_pv (pv_ldo (i := 1) rfl Tryd.underlying77 rfl rfl hv) rfl ?_
  refine ln_pv (pv_eqM Tryd.underlying77 rfl rfl) rfl ?_
  refine ln_cd ?_
  refine cd_ff rfl ?_
  refine cd_skip ?_
  refine at_cd ?_
  refine cd_region ?_
  refine ln_pv (pv_move rfl) rfl ?_
  refine ln_pv (pv_nilCheck rfl) rfl ?_
  refine ln_pv (pv_fieldAddr (off := 0) (r := off) Tryd.underlying79 rfl timap_uint32_Sl_uint8.size rfl rfl rfl) rfl ?_
  refine ln_pv (pv_ldo (i := 1) rfl Tryd.underlying77 rfl rfl hv) rfl ?_
  refine ln_pv (pv_move rfl) rfl ?_
  refine ln_pv (pv_move rfl) rfl ?_
  refine ln_mapSet (i := 0) rfl Tryd.underlying77 Tryd.underlying55 rfl rfl rfl (ME_keys l) (ME_new hnew) ?_
  refine ln_nil ?_
  exact at_retH0 _ (List.Sublist.refl _) rfl (fun w hS => (by rw [ME_snoc, List.length_append]; rfl))
end K
end Go.Proofs.YtjjfpdofkdolnaaDoor
