import Derived.Test.YtjjfpdofkdolnaaDoorSp
import Derived.Carry
import Derived.Test.YtjjfpdofkdolnaaDoorRows
import Derived.Test.YtjjfpdofkdolnaaDoorP4
set_option linter.unusedVariables false
set_option linter.unusedSimpArgs false
namespace Go.Proofs.YtjjfpdofkdolnaaDoor
namespace K
open Go Go.Lib
/-! ### Out of the statement's own reading: what is known of the cells -/
def vw0 (W : World) : Vw := ⟨W, fun _ => False, fun _ h => h.elim⟩
theorem mapM_get {α β : Type} {f : α → Option β} : ∀ {l : List α} {ys : List β}, l.mapM f = some ys → ys.length = l.length ∧ ∀ i, (h : i < l.length) → ∃ y, ys[i]? = some y ∧ f l[i] = some y
  | [], ys, h => by
    simp only [List.mapM_nil, Option.pure_def, Option.some.injEq] at h
    subst h
    exact ⟨rfl, fun i h => by simp at h⟩
  | x :: r, ys, h => by
    simp only [List.mapM_cons, Option.pure_def, Option.bind_eq_bind, Option.bind_eq_some_iff, Option.some.injEq] at h
    obtain ⟨y, hy, zs, hz, rfl⟩ := h
    obtain ⟨h1, h2⟩ := mapM_get hz
    refine ⟨by simp [h1], fun i hi => ?_⟩
    cases i with
    | zero => exact ⟨y, rfl, hy⟩
    | succ i =>
      obtain ⟨q, hq, hf⟩ := h2 i (by simpa using hi)
      exact ⟨q, by simpa using hq, by simpa using hf⟩
section
variable {H : Type} {enc : TypeId × Value → H} {P : Program} {W : World}
/-- a slice, read: each thing's cells, and how they read -/
theorem trod_sl {fuel : Nat} {t e : TypeId} {v : Value} {d : DataW H} {ps : List MemPlace} (hu : P.underlying t = some (.slice e)) (h : DataW.trod enc P W 0 (fun _ => true) true (fuel + 1) t [v] = some (d, ps)) :
    (v = .slice none 0 0 ∧ d = .nil) ∨ ∃ (a : Addr) (len cap : Nat) (el rest : List (DataW H × List MemPlace)), v = .slice (some a) len cap ∧ len ≤ cap ∧ d = .slice (el.map (·.1)) (rest.map (·.1)) ∧ el.length = len ∧
      ∀ i, i < len → ∃ cs y, W.cells? 0 (a.add (i * P.cellsOf e)) (P.cellsOf e) = some cs ∧ DataW.trod enc P W 0 (fun _ => true) true fuel e cs = some y ∧ el[i]? = some y := by
  unfold DataW.trod at h
  rw [hu] at h
  cases v with
  | slice p len cap =>
    cases p with
    | none =>
      match len, cap, h with
      | 0, 0, h =>
        simp only [Option.some.injEq, Prod.mk.injEq] at h
        exact .inl ⟨rfl, h.1.symm⟩
    | some a =>
      simp only [Nat.zero_le, true_and] at h
      split at h
      · rename_i hc
        simp only [if_true, Option.bind_eq_some_iff, Option.map_eq_some_iff] at h
        obtain ⟨el, he, rest, hr, hd⟩ := h
        simp only [Prod.mk.injEq] at hd
        obtain ⟨hl, hg⟩ := mapM_get he
        rw [List.length_range] at hl
        refine .inr ⟨a, len, cap, el, rest, rfl, hc.1, hd.1.symm, hl, fun i hi => ?_⟩
        obtain ⟨y, hy, hf⟩ := hg i (by simpa using hi)
        rw [List.getElem_range] at hf
        obtain ⟨cs, hcs, ht⟩ := Option.bind_eq_some_iff.1 hf
        exact ⟨cs, y, hcs, ht, hy⟩
      · cases h
  | _ => simp at h
theorem cells_get {a : Addr} {n : Nat} {cs : List Value} (h : W.cells? 0 a n = some cs) : cs.length = n ∧ ∀ j v, cs[j]? = some v → W.cell? (a.add j) = some v := by
  unfold World.cells? at h
  rw [if_pos (Nat.zero_le _)] at h
  obtain ⟨h1, h2⟩ := mapM_get h
  rw [List.length_range] at h1
  refine ⟨h1, fun j v hv => ?_⟩
  have hj : j < n := by rw [← h1]; exact (List.getElem?_eq_some_iff.1 hv).1
  obtain ⟨y, hy, hf⟩ := h2 j (by simpa using hj)
  rw [List.getElem_range] at hf
  rw [hv] at hy
  cases hy
  exact hf
theorem add_add (a : Addr) (x y : Nat) : (a.add x).add y = a.add (x + y) := by
  unfold Addr.add
  by_cases hx : x = 0
  · subst hx
    simp
  · by_cases hy : y = 0
    · subst hy
      simp
    · rw [if_neg hx, if_neg hy, if_neg (by omega)]
      simp [Nat.add_assoc]
theorem flat_cells {sz : Nat} {a : Addr} {f : Nat → List Value} : ∀ (k : Nat), (∀ i, i < k → W.cells? 0 (a.add (i * sz)) sz = some (f i)) → ((List.range k).flatMap f).length = k * sz ∧ ∀ j v, ((List.range k).flatMap f)[j]? = some v → W.cell? (a.add j) = some v
  | 0, _ => by simp
  | k + 1, h => by
    obtain ⟨h1, h2⟩ := flat_cells k fun i hi => h i (by omega)
    obtain ⟨h3, h4⟩ := cells_get (h k (by omega))
    rw [List.range_succ, List.flatMap_append]
    simp only [List.flatMap_cons, List.flatMap_nil, List.append_nil]
    refine ⟨by rw [List.length_append, h1, h3, Nat.succ_mul], fun j v hv => ?_⟩
    by_cases hj : j < k * sz
    · rw [List.getElem?_append_left (by omega)] at hv
      exact h2 j v hv
    · rw [List.getElem?_append_right (by omega), h1] at hv
      have := h4 _ _ hv
      rwa [add_add, show k * sz + (j - k * sz) = j by omega] at this
theorem rs_of {sz len cap : Nat} {a : Addr} {f : Nat → List Value} (hle : len ≤ cap) (h : ∀ i, i < len → W.cells? 0 (a.add (i * sz)) sz = some (f i)) (h1 : ∀ i, i < len → ∀ u ∈ f i, u.oneCell' = true) : RS (vw0 W) sz (.slice (some a) len cap) len ((List.range len).flatMap f) := by
  obtain ⟨hl, hc⟩ := flat_cells len h
  refine ⟨hl, fun u hu => ?_, .inr ⟨a, cap, rfl, hle, fun hne => ?_⟩⟩
  · obtain ⟨i, hi, hu⟩ := List.mem_flatMap.1 hu
    exact h1 i (by simpa using hi) u hu
  · generalize hL : (List.range len).flatMap f = l at *
    have h0 : a.spot = none := by
      cases l with
      | nil => exact absurd rfl hne
      | cons v r =>
        have := hc 0 v rfl
        exact World.cell?_spot (by simpa [Addr.add] using this)
    obtain ⟨b, o, sp⟩ := a
    simp only at h0
    subst h0
    exact ⟨rfl, fun h => h.elim, fun j v hv => by have := hc j v hv; rwa [Addr.add_lit] at this⟩
/-- octets -/
theorem dec_bytes {fuel : Nat} {t e : TypeId} {v : Value} {d : DataW H} {ps : List MemPlace} (hu : P.underlying t = some (.slice e)) (he : P.underlying e = some (.int .u8)) (hs : P.cellsOf e = 1) (h : DataW.trod enc P W 0 (fun _ => true) true (fuel + 1) t [v] = some (d, ps)) :
    ∃ l : List UInt8, RSv (vw0 W) v l ∧ (d = .nil ∧ l = [] ∨ ∃ el r : List (DataW H), d = .slice el r ∧ el.length = l.length) := by
  rcases trod_sl hu h with ⟨rfl, hd⟩ | ⟨a, len, cap, el, rest, rfl, hle, hd, hl, hg⟩
  · exact ⟨[], ⟨rfl, by simp [u8s], .inl ⟨rfl, rfl⟩⟩, .inl ⟨hd, rfl⟩⟩
  · have hb : ∀ i, i < len → ∃ b : UInt8, W.cells? 0 (a.add (i * 1)) 1 = some [u8v b] := fun i hi => by
      obtain ⟨cs, y, hc, ht, _⟩ := hg i hi
      rw [hs] at hc
      have hl1 := (cells_get hc).1
      match cs, hl1 with
      | [c], _ =>
        cases fuel with
        | zero => simp [DataW.trod] at ht
        | succ fuel =>
          unfold DataW.trod at ht
          rw [he] at ht
          cases c with
          | int k n =>
            simp only at ht
            split at ht
            · rename_i hk
              obtain ⟨rfl, hw⟩ := hk
              have hn : 0 ≤ n ∧ n < 256 := by
                simp [Lit.wf] at hw
                have h1 : IntKind.u8.min = 0 := rfl
                have h2 : IntKind.u8.max = 255 := rfl
                rw [h1, h2] at hw
                omega
              exact ⟨b8 n, by rw [hc, u8v, b8_val hn.1 hn.2]⟩
            · cases ht
          | _ => simp at ht
    have hch : ∃ g : Nat → UInt8, ∀ i, i < len → W.cells? 0 (a.add (i * 1)) 1 = some [u8v (g i)] := ⟨fun i => if h : i < len then (hb i h).choose else 0, fun i hi => by simp only [hi, dif_pos]; exact (hb i hi).choose_spec⟩
    obtain ⟨g, hgg⟩ := hch
    have hr := rs_of (f := fun i => [u8v (g i)]) hle hgg (fun i hi u hu => by simp only [List.mem_singleton] at hu; subst hu; rfl)
    refine ⟨(List.range len).map g, ?_, .inr ⟨_, _, hd, by simp [hl]⟩⟩
    have e : (List.range len).flatMap (fun i => [u8v (g i)]) = u8s ((List.range len).map g) := by
      simp only [u8s, List.map_map]
      induction List.range len with
      | nil => rfl
      | cons x r ih => simp [ih]
    rw [e] at hr
    unfold RSv
    simpa using hr
end
end K
end Go.Proofs.YtjjfpdofkdolnaaDoor
namespace Go.Proofs.YtjjfpdofkdolnaaDoor
namespace K
open Go Go.Lib
section
variable {H : Type} {enc : TypeId × Value → H} {P : Program} {W : World}
end
section
variable {H : Type} {enc : TypeId × Value → H} {W : World}
theorem bulk_len {H : Type} : ∀ (l : List (DataW H)), l.length ≤ Rows.uptoBulkAll l
  | [] => by simp
  | d :: r => by
    have := bulk_len r
    have h1 : 1 ≤ Rows.uptoBulk d := by
      cases d with
      | lit l => cases l <;> simp [Rows.uptoBulk]
      | _ => simp [Rows.uptoBulk]
    simp only [Rows.uptoBulkAll, List.length_cons]
    omega
theorem bulk_bytes {H : Type} {d : DataW H} {l : List UInt8} (h : d = .nil ∧ l = [] ∨ ∃ el r : List (DataW H), d = .slice el r ∧ el.length = l.length) : 1 + l.length ≤ Rows.uptoBulk d := by
  rcases h with ⟨rfl, rfl⟩ | ⟨el, r, rfl, h⟩
  · simp [Rows.uptoBulk]
  · have := bulk_len el
    simp only [Rows.uptoBulk]
    omega
end
end K
end Go.Proofs.YtjjfpdofkdolnaaDoor
namespace Go.Proofs.YtjjfpdofkdolnaaDoor
namespace K
open Go Go.Lib
variable {H : Type} {enc : TypeId × Value → H} {W : World}
end K
end Go.Proofs.YtjjfpdofkdolnaaDoor
