import Derived.Test.YtoledocfkjohhaaD1
set_option linter.unusedVariables false
set_option linter.unusedSimpArgs false
namespace Go.Proofs.Ytoledocfkjohhaa
namespace K
open Go Go.Lib
section
variable {H : Type} {enc : TypeId × Value → H} {P : Program} {W : World}
theorem trod_st {fuel : Nat} {t : TypeId} {fs : Array Field} {cs : List Value} {d : DataW H} {ps : List MemPlace} (hu : P.underlying t = some (.struct fs)) (h : DataW.trod enc P W 0 (fun _ => true) true (fuel + 1) t cs = some (d, ps)) :
    cs.length = P.cellsOf t ∧ ∃ xs : List (DataW H × List MemPlace), d = .agg (xs.map (·.1)) ∧ xs.length = fs.toList.length ∧ ∀ i, (hi : i < fs.toList.length) → ∃ y, xs[i]? = some y ∧ DataW.trod enc P W 0 (fun _ => true) true fuel fs.toList[i].type ((cs.drop fs.toList[i].offset).take (P.cellsOf fs.toList[i].type)) = some y := by
  unfold DataW.trod at h
  rw [hu] at h
  simp only at h
  split at h
  · rename_i hc
    obtain ⟨xs, hx, hd⟩ := Option.map_eq_some_iff.1 h
    simp only [Prod.mk.injEq] at hd
    obtain ⟨h1, h2⟩ := mapM_get hx
    exact ⟨hc, xs, hd.1.symm, h1, fun i hi => h2 i hi⟩
  · cases h
theorem trod_int {fuel : Nat} {t : TypeId} {k : IntKind} {v : Value} {y : DataW H × List MemPlace} (hu : P.underlying t = some (.int k)) (h : DataW.trod enc P W 0 (fun _ => true) true fuel t [v] = some y) : ∃ n, v = .int k n ∧ k.min ≤ n ∧ n ≤ k.max := by
  cases fuel with
  | zero => simp [DataW.trod] at h
  | succ fuel =>
    unfold DataW.trod at h
    rw [hu] at h
    cases v with
    | int k' n =>
      simp only at h
      split at h
      · rename_i hk
        obtain ⟨rfl, hw⟩ := hk
        simp [Lit.wf] at hw
        exact ⟨n, rfl, hw.1, hw.2⟩
      · cases h
    | _ => simp at h
theorem trod_bool {fuel : Nat} {t : TypeId} {v : Value} {y : DataW H × List MemPlace} (hu : P.underlying t = some .bool) (h : DataW.trod enc P W 0 (fun _ => true) true fuel t [v] = some y) : ∃ b, v = .bool b := by
  cases fuel with
  | zero => simp [DataW.trod] at h
  | succ fuel =>
    unfold DataW.trod at h
    rw [hu] at h
    cases v with
    | bool b => exact ⟨b, rfl⟩
    | _ => simp at h
end
section
variable {H : Type} {enc : TypeId × Value → H} {W : World}
theorem two_of {l : List Value} (h : l.length = 2) : ∃ a b, l = [a, b] := by
  match l, h with
  | [a, b], _ => exact ⟨a, b, rfl⟩
theorem cells_u32 : Try.prog.cellsOf 59 = 1 := by kernel_rfl
theorem cells_sl8 : Try.prog.cellsOf 22 = 1 := by kernel_rfl
theorem cells_u8 : Try.prog.cellsOf 5 = 1 := by kernel_rfl
theorem cells_tag : Try.prog.cellsOf 61 = 2 := by kernel_rfl
/-- a tag -/
theorem dec_tag {fuel : Nat} {cs : List Value} {y : DataW H × List MemPlace} (h : DataW.trod enc Try.prog W 0 (fun _ => true) true fuel 61 cs = some y) :
    ∃ (k : Nat) (b : List UInt8) (v : Value), cs = [.int .u32 (k : Int), v] ∧ k < 4294967296 ∧ RSv (vw0 W) v b := by
  cases fuel with
  | zero => simp [DataW.trod] at h
  | succ fuel =>
    obtain ⟨d, ps⟩ := y
    obtain ⟨hc, xs, _, _, hx⟩ := trod_st Try.underlying61 h
    rw [cells_tag] at hc
    obtain ⟨c0, c1, rfl⟩ := two_of hc
    obtain ⟨y0, _, h0⟩ := hx 0 (by decide)
    obtain ⟨y1, _, h1⟩ := hx 1 (by decide)
    have h0' : DataW.trod enc Try.prog W 0 (fun _ => true) true fuel 59 [c0] = some y0 := by simpa [cells_u32] using h0
    have h1' : DataW.trod enc Try.prog W 0 (fun _ => true) true fuel 22 [c1] = some y1 := by simpa [cells_sl8] using h1
    obtain ⟨n, rfl, hn0, hn1⟩ := trod_int Try.underlying59 h0'
    have e0 : IntKind.u32.min = 0 := rfl
    have e1 : IntKind.u32.max = 4294967295 := rfl
    rw [e0] at hn0
    rw [e1] at hn1
    cases fuel with
    | zero => simp [DataW.trod] at h1'
    | succ fuel =>
      obtain ⟨d1, p1⟩ := y1
      obtain ⟨l, hl, _⟩ := dec_bytes Try.underlying22 Try.underlying5 (by kernel_rfl) h1'
      exact ⟨n.toNat, l, c1, by rw [Int.toNat_of_nonneg hn0], by omega, hl⟩
theorem RUs_of {s : Vw} (g : Nat → Nat × List UInt8 × Value) : ∀ (l : List Nat), (∀ i ∈ l, (g i).1 < 4294967296 ∧ RSv s (g i).2.2 (g i).2.1) → RUs s (l.map fun i => ((g i).1, (g i).2.1)) (l.flatMap fun i => [.int .u32 ((g i).1 : Int), (g i).2.2])
  | [], _ => rfl
  | i :: r, h => ⟨_, _, rfl, (h i (by simp)).1, (h i (by simp)).2, RUs_of g r fun j hj => h j (by simp [hj])⟩
/-- the tags -/
theorem dec_tags {fuel : Nat} {v : Value} {d : DataW H} {ps : List MemPlace} (h : DataW.trod enc Try.prog W 0 (fun _ => true) true (fuel + 1) 24 [v] = some (d, ps)) :
    ∃ u : Tags, RU (vw0 W) v u ∧ (d = .nil ∧ u = [] ∨ ∃ el r : List (DataW H), d = .slice el r ∧ el.length = u.length) := by
  rcases trod_sl Try.underlying24 h with ⟨rfl, hd⟩ | ⟨a, len, cap, el, rest, rfl, hle, hd, hl, hg⟩
  · exact ⟨[], ⟨[], rs_nil _ 2, rfl⟩, .inl ⟨hd, rfl⟩⟩
  · have hb : ∀ i, i < len → ∃ q : Nat × List UInt8 × Value, W.cells? 0 (a.add (i * 2)) 2 = some [.int .u32 (q.1 : Int), q.2.2] ∧ q.1 < 4294967296 ∧ RSv (vw0 W) q.2.2 q.2.1 := fun i hi => by
      obtain ⟨cs, y, hc, ht, _⟩ := hg i hi
      rw [cells_tag] at hc
      obtain ⟨k, b, w, rfl, hk, hw⟩ := dec_tag ht
      exact ⟨(k, b, w), hc, hk, hw⟩
    obtain ⟨g, hgg⟩ : ∃ g : Nat → Nat × List UInt8 × Value, ∀ i, i < len → W.cells? 0 (a.add (i * 2)) 2 = some [.int .u32 ((g i).1 : Int), (g i).2.2] ∧ (g i).1 < 4294967296 ∧ RSv (vw0 W) (g i).2.2 (g i).2.1 :=
      ⟨fun i => if h : i < len then (hb i h).choose else (0, [], .bool true), fun i hi => by simp only [hi, dif_pos]; exact (hb i hi).choose_spec⟩
    have hr := rs_of (f := fun i => [.int .u32 ((g i).1 : Int), (g i).2.2]) hle (fun i hi => (hgg i hi).1) (fun i hi u hu => by
      simp only [List.mem_cons, List.not_mem_nil, or_false] at hu
      rcases hu with rfl | rfl
      · rfl
      · exact RS.one (hgg i hi).2.2)
    refine ⟨(List.range len).map fun i => ((g i).1, (g i).2.1), ⟨_, by simpa using hr, RUs_of g _ fun i hi => (hgg i (by simpa using hi)).2⟩, .inr ⟨_, _, hd, by simp [hl]⟩⟩
end
end K
end Go.Proofs.Ytoledocfkjohhaa
