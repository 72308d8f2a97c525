import Derived.Test.YtmknncmdbmnmgaaD1
import Derived.Test.YtmknncmdbmnmgaaRows
import Derived.Test.YtmknncmdbmnmgaaP3
set_option linter.unusedVariables false
set_option linter.unusedSimpArgs false
namespace Go.Proofs.Ytmknncmdbmnmgaa
namespace K
open Go Go.Lib
section
variable {H : Type} {enc : TypeId × Value → H} {P : Program} {W : World}
theorem trod_st {fuel : Nat} {t : TypeId} {fs : Array Field} {cs : List Value} {d : DataW H} {ps : List MemPlace} (hu : P.underlying t = some (.struct fs)) (h : DataW.trod enc P W 0 (fun _ => true) true (fuel + 1) t cs = some (d, ps)) :
    cs.length = P.cellsOf t ∧ ∃ xs : List (DataW H × List MemPlace), d = .agg (xs.map (·.1)) ∧ xs.length = fs.toList.length ∧ ∀ i, (hi : i < fs.toList.length) → ∃ y, xs[i]? = some y ∧ DataW.trod enc P W 0 (fun _ => true) true fuel fs.toList[i].type ((cs.drop fs.toList[i].offset).take (P.cellsOf fs.toList[i].type)) = some y := by
  unfold DataW.trod at h
  rw [hu] at h
  simp only at h
  split at h
  · rename_i hc
    obtain ⟨xs, hx, hd⟩ := Option.map_eq_some_iff.1 h
    simp only [Prod.mk.injEq] at hd
    obtain ⟨h1, h2⟩ := mapM_get hx
    exact ⟨hc, xs, hd.1.symm, h1, fun i hi => h2 i hi⟩
  · cases h
theorem trod_int {fuel : Nat} {t : TypeId} {k : IntKind} {v : Value} {y : DataW H × List MemPlace} (hu : P.underlying t = some (.int k)) (h : DataW.trod enc P W 0 (fun _ => true) true fuel t [v] = some y) : ∃ n, v = .int k n ∧ k.min ≤ n ∧ n ≤ k.max := by
  cases fuel with
  | zero => simp [DataW.trod] at h
  | succ fuel =>
    unfold DataW.trod at h
    rw [hu] at h
    cases v with
    | int k' n =>
      simp only at h
      split at h
      · rename_i hk
        obtain ⟨rfl, hw⟩ := hk
        simp [Lit.wf] at hw
        exact ⟨n, rfl, hw.1, hw.2⟩
      · cases h
    | _ => simp at h
theorem trod_bool {fuel : Nat} {t : TypeId} {v : Value} {y : DataW H × List MemPlace} (hu : P.underlying t = some .bool) (h : DataW.trod enc P W 0 (fun _ => true) true fuel t [v] = some y) : ∃ b, v = .bool b := by
  cases fuel with
  | zero => simp [DataW.trod] at h
  | succ fuel =>
    unfold DataW.trod at h
    rw [hu] at h
    cases v with
    | bool b => exact ⟨b, rfl⟩
    | _ => simp at h
end
section
variable {H : Type} {enc : TypeId × Value → H} {W : World}
theorem two_of {l : List Value} (h : l.length = 2) : ∃ a b, l = [a, b] := by
  match l, h with
  | [a, b], _ => exact ⟨a, b, rfl⟩
theorem cells_u32 : Try.prog.cellsOf 58 = 1 := by kernel_rfl
theorem cells_sl8 : Try.prog.cellsOf 22 = 1 := by kernel_rfl
theorem cells_u8 : Try.prog.cellsOf 5 = 1 := by kernel_rfl
theorem cells_tag : Try.prog.cellsOf 60 = 2 := by kernel_rfl
theorem bulk_len {H : Type} : ∀ (l : List (DataW H)), l.length ≤ Rows.uptoBulkAll l
  | [] => by simp
  | d :: r => by
    have := bulk_len r
    have h1 : 1 ≤ Rows.uptoBulk d := by
      cases d with
      | lit l => cases l <;> simp [Rows.uptoBulk]
      | _ => simp [Rows.uptoBulk]
    simp only [Rows.uptoBulkAll, List.length_cons]
    omega
theorem bulk_mem {H : Type} {d : DataW H} : ∀ {l : List (DataW H)}, d ∈ l → Rows.uptoBulk d ≤ Rows.uptoBulkAll l
  | x :: r, h => by
    simp only [Rows.uptoBulkAll]
    rcases List.mem_cons.1 h with rfl | h
    · omega
    · have := bulk_mem h
      omega
theorem bulk_agg {H : Type} {d : DataW H} {l : List (DataW H)} (h : d ∈ l) : Rows.uptoBulk d ≤ Rows.uptoBulk (.agg l) := by
  have := bulk_mem h
  simp only [Rows.uptoBulk]
  omega
theorem bulk_sl {H : Type} {el r : List (DataW H)} : el.length ≤ Rows.uptoBulk (.slice el r) ∧ ∀ d ∈ el, Rows.uptoBulk d ≤ Rows.uptoBulk (.slice el r) := by
  have := bulk_len el
  refine ⟨by simp only [Rows.uptoBulk]; omega, fun d hd => ?_⟩
  have := bulk_mem hd
  simp only [Rows.uptoBulk]
  omega
theorem bulk_bytes {H : Type} {d : DataW H} {l : List UInt8} (h : d = .nil ∧ l = [] ∨ ∃ el r : List (DataW H), d = .slice el r ∧ el.length = l.length) : 1 + l.length ≤ Rows.uptoBulk d := by
  rcases h with ⟨rfl, rfl⟩ | ⟨el, r, rfl, h⟩
  · simp [Rows.uptoBulk]
  · have := bulk_len el
    simp only [Rows.uptoBulk]
    omega
/-- a tag -/
theorem dec_tag {fuel : Nat} {cs : List Value} {y : DataW H × List MemPlace} (h : DataW.trod enc Try.prog W 0 (fun _ => true) true fuel 60 cs = some y) :
    ∃ (k : Nat) (b : List UInt8) (v : Value), cs = [.int .u32 (k : Int), v] ∧ k < 4294967296 ∧ RSv (vw0 W) v b ∧ 1 + b.length ≤ Rows.uptoBulk y.1 := by
  cases fuel with
  | zero => simp [DataW.trod] at h
  | succ fuel =>
    obtain ⟨d, ps⟩ := y
    obtain ⟨hc, xs, hd, _, hx⟩ := trod_st Try.underlying60 h
    rw [cells_tag] at hc
    obtain ⟨c0, c1, rfl⟩ := two_of hc
    obtain ⟨y0, _, h0⟩ := hx 0 (by decide)
    obtain ⟨y1, g1, h1⟩ := hx 1 (by decide)
    have h0' : DataW.trod enc Try.prog W 0 (fun _ => true) true fuel 58 [c0] = some y0 := by simpa [cells_u32] using h0
    have h1' : DataW.trod enc Try.prog W 0 (fun _ => true) true fuel 22 [c1] = some y1 := by simpa [cells_sl8] using h1
    obtain ⟨n, rfl, hn0, hn1⟩ := trod_int Try.underlying58 h0'
    have e0 : IntKind.u32.min = 0 := rfl
    have e1 : IntKind.u32.max = 4294967295 := rfl
    rw [e0] at hn0
    rw [e1] at hn1
    cases fuel with
    | zero => simp [DataW.trod] at h1'
    | succ fuel =>
      obtain ⟨d1, p1⟩ := y1
      obtain ⟨l, hl, hls⟩ := dec_bytes Try.underlying22 Try.underlying5 (by kernel_rfl) h1'
      refine ⟨n.toNat, l, c1, by rw [Int.toNat_of_nonneg hn0], by omega, hl, ?_⟩
      have h2 := bulk_bytes hls
      have h3 := bulk_agg (List.mem_map_of_mem (f := (·.1)) (List.mem_of_getElem? g1))
      rw [← hd] at h3
      simp only at h3 ⊢
      omega
theorem RUs_of {s : Vw} (g : Nat → Nat × List UInt8 × Value) : ∀ (l : List Nat), (∀ i ∈ l, (g i).1 < 4294967296 ∧ RSv s (g i).2.2 (g i).2.1) → RUs s (l.map fun i => ((g i).1, (g i).2.1)) (l.flatMap fun i => [.int .u32 ((g i).1 : Int), (g i).2.2])
  | [], _ => rfl
  | i :: r, h => ⟨_, _, rfl, (h i (by simp)).1, (h i (by simp)).2, RUs_of g r fun j hj => h j (by simp [hj])⟩
/-- the tags -/
theorem dec_tags {fuel : Nat} {v : Value} {d : DataW H} {ps : List MemPlace} (h : DataW.trod enc Try.prog W 0 (fun _ => true) true (fuel + 1) 24 [v] = some (d, ps)) :
    ∃ u : Tags, RU (vw0 W) v u ∧ 1 + wtu u ≤ Rows.uptoBulk d := by
  rcases trod_sl Try.underlying24 h with ⟨rfl, hd⟩ | ⟨a, len, cap, el, rest, rfl, hle, hd, hl, hg⟩
  · subst hd
    exact ⟨[], ⟨[], rs_nil _ 2, rfl⟩, by simp [wtu, Rows.uptoBulk]⟩
  · subst hd
    have hb : ∀ i, i < len → ∃ q : Nat × List UInt8 × Value, W.cells? 0 (a.add (i * 2)) 2 = some [.int .u32 (q.1 : Int), q.2.2] ∧ q.1 < 4294967296 ∧ RSv (vw0 W) q.2.2 q.2.1 ∧ ∃ y, el[i]? = some y ∧ 1 + q.2.1.length ≤ Rows.uptoBulk y.1 := fun i hi => by
      obtain ⟨cs, y, hc, ht, hy⟩ := hg i hi
      rw [cells_tag] at hc
      obtain ⟨k, b, w, rfl, hk, hw, hbk⟩ := dec_tag ht
      exact ⟨(k, b, w), hc, hk, hw, y, hy, hbk⟩
    obtain ⟨g, hgg⟩ : ∃ g : Nat → Nat × List UInt8 × Value, ∀ i, i < len → W.cells? 0 (a.add (i * 2)) 2 = some [.int .u32 ((g i).1 : Int), (g i).2.2] ∧ (g i).1 < 4294967296 ∧ RSv (vw0 W) (g i).2.2 (g i).2.1 ∧ ∃ y, el[i]? = some y ∧ 1 + (g i).2.1.length ≤ Rows.uptoBulk y.1 :=
      ⟨fun i => if h : i < len then (hb i h).choose else (0, [], .bool true), fun i hi => by simp only [hi, dif_pos]; exact (hb i hi).choose_spec⟩
    have hr := rs_of (f := fun i => [.int .u32 ((g i).1 : Int), (g i).2.2]) hle (fun i hi => (hgg i hi).1) (fun i hi u hu => by
      simp only [List.mem_cons, List.not_mem_nil, or_false] at hu
      rcases hu with rfl | rfl
      · rfl
      · exact RS.one (hgg i hi).2.2.1)
    refine ⟨(List.range len).map fun i => ((g i).1, (g i).2.1), ⟨_, by simpa using hr, RUs_of g _ fun i hi => ⟨(hgg i (by simpa using hi)).2.1, (hgg i (by simpa using hi)).2.2.1⟩⟩, ?_⟩
    have h2 : ∀ (n : Nat) (e : List (DataW H × List MemPlace)) (k : Nat), e.length = n → (∀ i, i < n → ∃ y, e[i]? = some y ∧ 1 + (g (k + i)).2.1.length ≤ Rows.uptoBulk y.1) → wtu ((List.range' k n).map fun i => ((g i).1, (g i).2.1)) ≤ Rows.uptoBulkAll (e.map (·.1)) := by
      intro n
      induction n with
      | zero => intro e k he _; simp [wtu]
      | succ n ih =>
        intro e k he h
        cases e with
        | nil => simp at he
        | cons y r =>
          obtain ⟨y0, hy0, h0⟩ := h 0 (by omega)
          simp only [List.getElem?_cons_zero, Option.some.injEq] at hy0
          subst hy0
          have := ih r (k + 1) (by simpa using he) fun i hi => by
            obtain ⟨z, hz, h1⟩ := h (i + 1) (by omega)
            exact ⟨z, by simpa using hz, by rw [show k + 1 + i = k + (i + 1) by omega]; exact h1⟩
          simp only [List.range'_succ, List.map_cons, wtu, Rows.uptoBulkAll]
          simp only [Nat.add_zero] at h0
          omega
    have h3 := h2 len el 0 hl fun i hi => by
      obtain ⟨_, _, _, y, hy, h4⟩ := hgg i hi
      exact ⟨y, hy, by rw [Nat.zero_add]; exact h4⟩
    rw [← List.range_eq_range'] at h3
    simp only [Rows.uptoBulk]
    omega
end
end K
end Go.Proofs.Ytmknncmdbmnmgaa
