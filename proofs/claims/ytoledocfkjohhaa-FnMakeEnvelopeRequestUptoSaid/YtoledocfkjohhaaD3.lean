import Derived.Test.YtoledocfkjohhaaD2
import Derived.Test.YtoledocfkjohhaaRows
set_option linter.unusedVariables false
set_option linter.unusedSimpArgs false
namespace Go.Proofs.Ytoledocfkjohhaa
namespace K
open Go Go.Lib
theorem bulk_len {H : Type} : ∀ (l : List (DataW H)), l.length ≤ Rows.uptoBulkAll l
  | [] => by simp
  | d :: r => by
    have := bulk_len r
    have h1 : 1 ≤ Rows.uptoBulk d := by
      cases d with
      | lit l => cases l <;> simp [Rows.uptoBulk]
      | _ => simp [Rows.uptoBulk]
    simp only [Rows.uptoBulkAll, List.length_cons]
    omega
theorem bulk_mem {H : Type} {d : DataW H} : ∀ {l : List (DataW H)}, d ∈ l → Rows.uptoBulk d ≤ Rows.uptoBulkAll l
  | x :: r, h => by
    simp only [Rows.uptoBulkAll]
    rcases List.mem_cons.1 h with rfl | h
    · omega
    · have := bulk_mem h
      omega
theorem bulk_agg {H : Type} {d : DataW H} {l : List (DataW H)} (h : d ∈ l) : Rows.uptoBulk d ≤ Rows.uptoBulk (.agg l) := by
  have := bulk_mem h
  simp only [Rows.uptoBulk]
  omega
theorem bulk_sl {H : Type} {el r : List (DataW H)} : el.length ≤ Rows.uptoBulk (.slice el r) ∧ ∀ d ∈ el, Rows.uptoBulk d ≤ Rows.uptoBulk (.slice el r) := by
  have := bulk_len el
  refine ⟨by simp only [Rows.uptoBulk]; omega, fun d hd => ?_⟩
  have := bulk_mem hd
  simp only [Rows.uptoBulk]
  omega
theorem five_of {l : List Value} (h : l.length = 5) : ∃ a b c d e, l = [a, b, c, d, e] := by
  match l, h with
  | [a, b, c, d, e], _ => exact ⟨a, b, c, d, e, rfl⟩
theorem cells_tree : Try.prog.cellsOf 26 = 5 := by kernel_rfl
theorem cells_i64 : Try.prog.cellsOf 2 = 1 := by kernel_rfl
theorem cells_bool : Try.prog.cellsOf 4 = 1 := by kernel_rfl
theorem cells_slT : Try.prog.cellsOf 23 = 1 := by kernel_rfl
theorem cells_slG : Try.prog.cellsOf 24 = 1 := by kernel_rfl
theorem RTs_of {s : Vw} (g : Nat → Tre × List Value) : ∀ (l : List Nat), (∀ i ∈ l, RT s (g i).1 (g i).2) → RTs s (l.map fun i => (g i).1) (l.flatMap fun i => (g i).2)
  | [], _ => by simp [RTs]
  | i :: r, h => by
    simp only [List.map_cons, List.flatMap_cons, RTs]
    exact ⟨_, _, rfl, h i (by simp), RTs_of g r fun j hj => h j (by simp [hj])⟩
theorem smTs_of {g : Nat → Tre × List Value} : ∀ (l : List Nat), (∀ i ∈ l, smT (g i).1) → smTs (l.map fun i => (g i).1)
  | [], _ => by simp [smTs]
  | i :: r, h => ⟨h i (by simp), smTs_of r fun j hj => h j (by simp [hj])⟩
variable {H : Type} {enc : TypeId × Value → H} {W : World}
set_option maxRecDepth 100000 in
/-- the tree -/
theorem dec_tree : ∀ (fuel : Nat) (cs : List Value) (d : DataW H) (ps : List MemPlace), DataW.trod enc Try.prog W 0 (fun _ => true) true fuel 26 cs = some (d, ps) → Rows.uptoBulk d ≤ 1048576 → ∃ x, RT (vw0 W) x cs ∧ smT x
  | 0, cs, d, ps, h, _ => by simp [DataW.trod] at h
  | 1, cs, d, ps, h, _ => by
    obtain ⟨hc, xs, hd, hxl, hx⟩ := trod_st Try.underlying26 h
    obtain ⟨y0, _, h0⟩ := hx 0 (by decide)
    simp [DataW.trod] at h0
  | fuel + 2, cs, d, ps, h, hB => by
    obtain ⟨hc, xs, hd, hxl, hx⟩ := trod_st Try.underlying26 h
    rw [cells_tree] at hc
    obtain ⟨c0, c1, c2, c3, c4, rfl⟩ := five_of hc
    obtain ⟨y0, g0, h0⟩ := hx 0 (by decide)
    obtain ⟨y1, g1, h1⟩ := hx 1 (by decide)
    obtain ⟨y2, g2, h2⟩ := hx 2 (by decide)
    obtain ⟨y3, g3, h3⟩ := hx 3 (by decide)
    obtain ⟨y4, g4, h4⟩ := hx 4 (by decide)
    have h0' : DataW.trod enc Try.prog W 0 (fun _ => true) true (fuel + 1) 2 [c0] = some y0 := by simpa [cells_i64] using h0
    have h1' : DataW.trod enc Try.prog W 0 (fun _ => true) true (fuel + 1) 22 [c1] = some y1 := by simpa [cells_sl8] using h1
    have h2' : DataW.trod enc Try.prog W 0 (fun _ => true) true (fuel + 1) 4 [c2] = some y2 := by simpa [cells_bool] using h2
    have h3' : DataW.trod enc Try.prog W 0 (fun _ => true) true (fuel + 1) 23 [c3] = some y3 := by simpa [cells_slT] using h3
    have h4' : DataW.trod enc Try.prog W 0 (fun _ => true) true (fuel + 1) 24 [c4] = some y4 := by simpa [cells_slG] using h4
    have hmem : ∀ {i : Nat} {y : DataW H × List MemPlace}, xs[i]? = some y → Rows.uptoBulk y.1 ≤ 1048576 := fun hy => by
      have := bulk_agg (List.mem_map_of_mem (f := (·.1)) (List.mem_of_getElem? hy))
      rw [← hd] at this
      omega
    obtain ⟨n, rfl, hn0, hn1⟩ := trod_int Try.underlying2 h0'
    have e0 : IntKind.i64.min = -9223372036854775808 := rfl
    have e1 : IntKind.i64.max = 9223372036854775807 := rfl
    rw [e0] at hn0
    rw [e1] at hn1
    obtain ⟨d1, p1⟩ := y1
    obtain ⟨l, hl, hls⟩ := dec_bytes Try.underlying22 Try.underlying5 cells_u8 h1'
    obtain ⟨b, rfl⟩ := trod_bool Try.underlying4 h2'
    obtain ⟨d4, p4⟩ := y4
    obtain ⟨u, hu, hus⟩ := dec_tags h4'
    have b1 := hmem g1
    have b3 := hmem g3
    have b4 := hmem g4
    have k1 : l.length ≤ 1048576 := by
      rcases hls with ⟨_, rfl⟩ | ⟨el, r, rfl, he⟩
      · simp
      · have := (bulk_sl (el := el) (r := r)).1
        simp only at b1
        omega
    have k4 : u.length ≤ 1048576 := by
      rcases hus with ⟨_, rfl⟩ | ⟨el, r, rfl, he⟩
      · simp
      · have := (bulk_sl (el := el) (r := r)).1
        simp only at b4
        omega
    obtain ⟨d3, p3⟩ := y3
    have hL : ∃ tl : List Tre, (∃ lc, RS (vw0 W) 5 c3 tl.length lc ∧ RTs (vw0 W) tl lc) ∧ tl.length ≤ 1048576 ∧ smTs tl := by
      rcases trod_sl Try.underlying23 h3' with ⟨rfl, _⟩ | ⟨a, len, cap, el, rest, rfl, hle, hd3, hl3, hg⟩
      · exact ⟨[], ⟨[], rs_nil _ 5, by simp [RTs]⟩, by simp, by simp [smTs]⟩
      · subst hd3
        simp only at b3
        obtain ⟨kl, ke⟩ := bulk_sl (el := el.map (·.1)) (r := rest.map (·.1))
        have hb : ∀ i, i < len → ∃ q : Tre × List Value, W.cells? 0 (a.add (i * 5)) 5 = some q.2 ∧ RT (vw0 W) q.1 q.2 ∧ smT q.1 := fun i hi => by
          obtain ⟨cs, y, hcs, ht, hy⟩ := hg i hi
          rw [cells_tree] at hcs
          obtain ⟨dy, py⟩ := y
          have hyb := ke dy (by simpa using ⟨py, List.mem_of_getElem? hy⟩)
          obtain ⟨x, hx, hsm⟩ := dec_tree fuel cs dy py ht (by omega)
          exact ⟨(x, cs), hcs, hx, hsm⟩
        obtain ⟨g, hgg⟩ : ∃ g : Nat → Tre × List Value, ∀ i, i < len → W.cells? 0 (a.add (i * 5)) 5 = some (g i).2 ∧ RT (vw0 W) (g i).1 (g i).2 ∧ smT (g i).1 :=
          ⟨fun i => if h : i < len then (hb i h).choose else (.nul, []), fun i hi => by simp only [hi, dif_pos]; exact (hb i hi).choose_spec⟩
        have hr := rs_of (f := fun i => (g i).2) hle (fun i hi => (hgg i hi).1) (fun i hi => (hgg i hi).2.1.cells)
        refine ⟨(List.range len).map fun i => (g i).1, ⟨_, by simpa using hr, RTs_of g _ fun i hi => (hgg i (by simpa using hi)).2.1⟩, ?_, smTs_of _ fun i hi => (hgg i (by simpa using hi)).2.2⟩
        simp only [List.length_map, List.length_range]
        rw [List.length_map] at kl
        omega
    obtain ⟨tl, hT, k3, hsm⟩ := hL
    refine ⟨.mk n l b tl u, RT.shut ⟨_, _, _, rfl, ⟨hn0, hn1⟩, hl, hT, hu⟩, ?_⟩
    simp only [smT]
    exact ⟨by omega, by omega, by omega, hsm⟩
end K
end Go.Proofs.Ytoledocfkjohhaa
