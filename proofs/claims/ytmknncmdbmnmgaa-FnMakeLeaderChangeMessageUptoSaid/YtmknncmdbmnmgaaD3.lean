import Derived.Test.YtmknncmdbmnmgaaD2
set_option linter.unusedVariables false
set_option linter.unusedSimpArgs false
namespace Go.Proofs.Ytmknncmdbmnmgaa
namespace K
open Go Go.Lib
theorem five_of {l : List Value} (h : l.length = 5) : ∃ a b c d e, l = [a, b, c, d, e] := by
  match l, h with
  | [a, b, c, d, e], _ => exact ⟨a, b, c, d, e, rfl⟩
theorem cells_tree : Try.prog.cellsOf 26 = 5 := by kernel_rfl
theorem cells_i64 : Try.prog.cellsOf 2 = 1 := by kernel_rfl
theorem cells_bool : Try.prog.cellsOf 4 = 1 := by kernel_rfl
theorem cells_slT : Try.prog.cellsOf 23 = 1 := by kernel_rfl
theorem cells_slG : Try.prog.cellsOf 24 = 1 := by kernel_rfl
theorem RTs_of {s : Vw} (g : Nat → Tre × List Value) : ∀ (l : List Nat), (∀ i ∈ l, RT s (g i).1 (g i).2) → RTs s (l.map fun i => (g i).1) (l.flatMap fun i => (g i).2)
  | [], _ => by simp [RTs]
  | i :: r, h => by
    simp only [List.map_cons, List.flatMap_cons, RTs]
    exact ⟨_, _, rfl, h i (by simp), RTs_of g r fun j hj => h j (by simp [hj])⟩
variable {H : Type} {enc : TypeId × Value → H} {W : World}
set_option maxRecDepth 100000 in
/-- the tree -/
theorem dec_tree : ∀ (fuel : Nat) (cs : List Value) (d : DataW H) (ps : List MemPlace), DataW.trod enc Try.prog W 0 (fun _ => true) true fuel 26 cs = some (d, ps) → ∃ x, RT (vw0 W) x cs ∧ wt x ≤ Rows.uptoBulk d
  | 0, cs, d, ps, h => by simp [DataW.trod] at h
  | 1, cs, d, ps, h => by
    obtain ⟨hc, xs, hd, hxl, hx⟩ := trod_st Try.underlying26 h
    obtain ⟨y0, _, h0⟩ := hx 0 (by decide)
    simp [DataW.trod] at h0
  | fuel + 2, cs, d, ps, h => by
    obtain ⟨hc, xs, hd, hxl, hx⟩ := trod_st Try.underlying26 h
    rw [cells_tree] at hc
    obtain ⟨c0, c1, c2, c3, c4, rfl⟩ := five_of hc
    obtain ⟨y0, g0, h0⟩ := hx 0 (by decide)
    obtain ⟨y1, g1, h1⟩ := hx 1 (by decide)
    obtain ⟨y2, g2, h2⟩ := hx 2 (by decide)
    obtain ⟨y3, g3, h3⟩ := hx 3 (by decide)
    obtain ⟨y4, g4, h4⟩ := hx 4 (by decide)
    have h0' : DataW.trod enc Try.prog W 0 (fun _ => true) true (fuel + 1) 2 [c0] = some y0 := by simpa [cells_i64] using h0
    have h1' : DataW.trod enc Try.prog W 0 (fun _ => true) true (fuel + 1) 22 [c1] = some y1 := by simpa [cells_sl8] using h1
    have h2' : DataW.trod enc Try.prog W 0 (fun _ => true) true (fuel + 1) 4 [c2] = some y2 := by simpa [cells_bool] using h2
    have h3' : DataW.trod enc Try.prog W 0 (fun _ => true) true (fuel + 1) 23 [c3] = some y3 := by simpa [cells_slT] using h3
    have h4' : DataW.trod enc Try.prog W 0 (fun _ => true) true (fuel + 1) 24 [c4] = some y4 := by simpa [cells_slG] using h4
    have hsum : Rows.uptoBulk y1.1 + Rows.uptoBulk y3.1 + Rows.uptoBulk y4.1 + 1 ≤ Rows.uptoBulk d := by
      have e : ∃ r, xs = y0 :: y1 :: y2 :: y3 :: y4 :: r := by
        match xs, g0, g1, g2, g3, g4 with
        | a :: b :: c :: d :: e :: r, g0, g1, g2, g3, g4 =>
          simp only [List.getElem?_cons_zero, List.getElem?_cons_succ, Option.some.injEq] at g0 g1 g2 g3 g4
          subst g0 g1 g2 g3 g4
          exact ⟨r, rfl⟩
        | [a, b, c, d], g0, g1, g2, g3, g4 => simp at g4
        | [a, b, c], g0, g1, g2, g3, g4 => simp at g4
        | [a, b], g0, g1, g2, g3, g4 => simp at g4
        | [a], g0, g1, g2, g3, g4 => simp at g4
        | [], g0, g1, g2, g3, g4 => simp at g4
      obtain ⟨r, rfl⟩ := e
      rw [hd]
      simp only [List.map_cons, Rows.uptoBulk, Rows.uptoBulkAll]
      omega
    obtain ⟨n, rfl, hn0, hn1⟩ := trod_int Try.underlying2 h0'
    have e0 : IntKind.i64.min = -9223372036854775808 := rfl
    have e1 : IntKind.i64.max = 9223372036854775807 := rfl
    rw [e0] at hn0
    rw [e1] at hn1
    obtain ⟨d1, p1⟩ := y1
    obtain ⟨l, hl, hls⟩ := dec_bytes Try.underlying22 Try.underlying5 cells_u8 h1'
    obtain ⟨b, rfl⟩ := trod_bool Try.underlying4 h2'
    obtain ⟨d4, p4⟩ := y4
    obtain ⟨u, hu, hus⟩ := dec_tags h4'
    have k1 := bulk_bytes hls
    obtain ⟨d3, p3⟩ := y3
    have hL : ∃ tl : List Tre, (∃ lc, RS (vw0 W) 5 c3 tl.length lc ∧ RTs (vw0 W) tl lc) ∧ wts tl ≤ Rows.uptoBulk d3 := by
      rcases trod_sl Try.underlying23 h3' with ⟨rfl, _⟩ | ⟨a, len, cap, el, rest, rfl, hle, hd3, hl3, hg⟩
      · exact ⟨[], ⟨[], rs_nil _ 5, by simp [RTs]⟩, by simp [wts]⟩
      · subst hd3
        have hb : ∀ i, i < len → ∃ q : Tre × List Value, W.cells? 0 (a.add (i * 5)) 5 = some q.2 ∧ RT (vw0 W) q.1 q.2 ∧ ∃ y, el[i]? = some y ∧ wt q.1 ≤ Rows.uptoBulk y.1 := fun i hi => by
          obtain ⟨cs, y, hcs, ht, hy⟩ := hg i hi
          rw [cells_tree] at hcs
          obtain ⟨dy, py⟩ := y
          obtain ⟨x, hx, hsm⟩ := dec_tree fuel cs dy py ht
          exact ⟨(x, cs), hcs, hx, _, hy, hsm⟩
        obtain ⟨g, hgg⟩ : ∃ g : Nat → Tre × List Value, ∀ i, i < len → W.cells? 0 (a.add (i * 5)) 5 = some (g i).2 ∧ RT (vw0 W) (g i).1 (g i).2 ∧ ∃ y, el[i]? = some y ∧ wt (g i).1 ≤ Rows.uptoBulk y.1 :=
          ⟨fun i => if h : i < len then (hb i h).choose else (.nul, []), fun i hi => by simp only [hi, dif_pos]; exact (hb i hi).choose_spec⟩
        have hr := rs_of (f := fun i => (g i).2) hle (fun i hi => (hgg i hi).1) (fun i hi => (hgg i hi).2.1.cells)
        refine ⟨(List.range len).map fun i => (g i).1, ⟨_, by simpa using hr, RTs_of g _ fun i hi => (hgg i (by simpa using hi)).2.1⟩, ?_⟩
        have h2 : ∀ (n : Nat) (e : List (DataW H × List MemPlace)) (k : Nat), e.length = n → (∀ i, i < n → ∃ y, e[i]? = some y ∧ wt (g (k + i)).1 ≤ Rows.uptoBulk y.1) → wts ((List.range' k n).map fun i => (g i).1) ≤ Rows.uptoBulkAll (e.map (·.1)) := by
          intro n
          induction n with
          | zero => intro e k he _; simp [wts]
          | succ n ih =>
            intro e k he h
            cases e with
            | nil => simp at he
            | cons y r =>
              obtain ⟨y0, hy0, h0⟩ := h 0 (by omega)
              simp only [List.getElem?_cons_zero, Option.some.injEq] at hy0
              subst hy0
              have := ih r (k + 1) (by simpa using he) fun i hi => by
                obtain ⟨z, hz, h1⟩ := h (i + 1) (by omega)
                exact ⟨z, by simpa using hz, by rw [show k + 1 + i = k + (i + 1) by omega]; exact h1⟩
              simp only [List.range'_succ, List.map_cons, wts, Rows.uptoBulkAll]
              simp only [Nat.add_zero] at h0
              omega
        have h3 := h2 len el 0 hl3 fun i hi => by
          obtain ⟨_, _, y, hy, h4⟩ := hgg i hi
          exact ⟨y, hy, by rw [Nat.zero_add]; exact h4⟩
        rw [← List.range_eq_range'] at h3
        simp only [Rows.uptoBulk]
        omega
    obtain ⟨tl, hT, k3⟩ := hL
    refine ⟨.mk n l b tl u, RT.shut ⟨_, _, _, rfl, ⟨hn0, hn1⟩, hl, hT, hu⟩, ?_⟩
    simp only [wt]
    simp only at hsum
    omega
end K
end Go.Proofs.Ytmknncmdbmnmgaa
