import Derived.Test.YtepbicjadambbabGreatDoorSp
import Derived.Carry
import Derived.Test.YtepbicjadambbabGreatDoorRows
import Derived.Test.YtepbicjadambbabGreatDoorP3
set_option linter.unusedVariables false
set_option linter.unusedSimpArgs false
namespace Go.Proofs.YtepbicjadambbabGreatDoor
namespace K
open Go Go.Lib
/-! ### Out of the statement's own reading: what is known of the cells -/
def vw0 (W : World) : Vw := ⟨W, fun _ => False, fun _ h => h.elim⟩
theorem mapM_get {α β : Type} {f : α → Option β} : ∀ {l : List α} {ys : List β}, l.mapM f = some ys → ys.length = l.length ∧ ∀ i, (h : i < l.length) → ∃ y, ys[i]? = some y ∧ f l[i] = some y
  | [], ys, h => by
    simp only [List.mapM_nil, Option.pure_def, Option.some.injEq] at h
    subst h
    exact ⟨rfl, fun i h => by simp at h⟩
  | x :: r, ys, h => by
    simp only [List.mapM_cons, Option.pure_def, Option.bind_eq_bind, Option.bind_eq_some_iff, Option.some.injEq] at h
    obtain ⟨y, hy, zs, hz, rfl⟩ := h
    obtain ⟨h1, h2⟩ := mapM_get hz
    refine ⟨by simp [h1], fun i hi => ?_⟩
    cases i with
    | zero => exact ⟨y, rfl, hy⟩
    | succ i =>
      obtain ⟨q, hq, hf⟩ := h2 i (by simpa using hi)
      exact ⟨q, by simpa using hq, by simpa using hf⟩
section
variable {H : Type} {enc : TypeId × Value → H} {P : Program} {W : World}
/-- a slice, read: each thing's cells, and how they read -/
theorem trod_sl {fuel : Nat} {t e : TypeId} {v : Value} {d : DataW H} {ps : List MemPlace} (hu : P.underlying t = some (.slice e)) (h : DataW.trod enc P W 0 (fun _ => true) true (fuel + 1) t [v] = some (d, ps)) :
    (v = .slice none 0 0 ∧ d = .nil) ∨ ∃ (a : Addr) (len cap : Nat) (el rest : List (DataW H × List MemPlace)), v = .slice (some a) len cap ∧ len ≤ cap ∧ d = .slice (el.map (·.1)) (rest.map (·.1)) ∧ el.length = len ∧
      ∀ i, i < len → ∃ cs y, W.cells? 0 (a.add (i * P.cellsOf e)) (P.cellsOf e) = some cs ∧ DataW.trod enc P W 0 (fun _ => true) true fuel e cs = some y ∧ el[i]? = some y := by
  unfold DataW.trod at h
  rw [hu] at h
  cases v with
  | slice p len cap =>
    cases p with
    | none =>
      match len, cap, h with
      | 0, 0, h =>
        simp only [Option.some.injEq, Prod.mk.injEq] at h
        exact .inl ⟨rfl, h.1.symm⟩
    | some a =>
      simp only [Nat.zero_le, true_and] at h
      split at h
      · rename_i hc
        simp only [if_true, Option.bind_eq_some_iff, Option.map_eq_some_iff] at h
        obtain ⟨el, he, rest, hr, hd⟩ := h
        simp only [Prod.mk.injEq] at hd
        obtain ⟨hl, hg⟩ := mapM_get he
        rw [List.length_range] at hl
        refine .inr ⟨a, len, cap, el, rest, rfl, hc.1, hd.1.symm, hl, fun i hi => ?_⟩
        obtain ⟨y, hy, hf⟩ := hg i (by simpa using hi)
        rw [List.getElem_range] at hf
        obtain ⟨cs, hcs, ht⟩ := Option.bind_eq_some_iff.1 hf
        exact ⟨cs, y, hcs, ht, hy⟩
      · cases h
  | _ => simp at h
theorem cells_get {a : Addr} {n : Nat} {cs : List Value} (h : W.cells? 0 a n = some cs) : cs.length = n ∧ ∀ j v, cs[j]? = some v → W.cell? (a.add j) = some v := by
  unfold World.cells? at h
  rw [if_pos (Nat.zero_le _)] at h
  obtain ⟨h1, h2⟩ := mapM_get h
  rw [List.length_range] at h1
  refine ⟨h1, fun j v hv => ?_⟩
  have hj : j < n := by rw [← h1]; exact (List.getElem?_eq_some_iff.1 hv).1
  obtain ⟨y, hy, hf⟩ := h2 j (by simpa using hj)
  rw [List.getElem_range] at hf
  rw [hv] at hy
  cases hy
  exact hf
theorem add_add (a : Addr) (x y : Nat) : (a.add x).add y = a.add (x + y) := by
  unfold Addr.add
  by_cases hx : x = 0
  · subst hx
    simp
  · by_cases hy : y = 0
    · subst hy
      simp
    · rw [if_neg hx, if_neg hy, if_neg (by omega)]
      simp [Nat.add_assoc]
theorem flat_cells {sz : Nat} {a : Addr} {f : Nat → List Value} : ∀ (k : Nat), (∀ i, i < k → W.cells? 0 (a.add (i * sz)) sz = some (f i)) → ((List.range k).flatMap f).length = k * sz ∧ ∀ j v, ((List.range k).flatMap f)[j]? = some v → W.cell? (a.add j) = some v
  | 0, _ => by simp
  | k + 1, h => by
    obtain ⟨h1, h2⟩ := flat_cells k fun i hi => h i (by omega)
    obtain ⟨h3, h4⟩ := cells_get (h k (by omega))
    rw [List.range_succ, List.flatMap_append]
    simp only [List.flatMap_cons, List.flatMap_nil, List.append_nil]
    refine ⟨by rw [List.length_append, h1, h3, Nat.succ_mul], fun j v hv => ?_⟩
    by_cases hj : j < k * sz
    · rw [List.getElem?_append_left (by omega)] at hv
      exact h2 j v hv
    · rw [List.getElem?_append_right (by omega), h1] at hv
      have := h4 _ _ hv
      rwa [add_add, show k * sz + (j - k * sz) = j by omega] at this
theorem rs_of {sz len cap : Nat} {a : Addr} {f : Nat → List Value} (hle : len ≤ cap) (h : ∀ i, i < len → W.cells? 0 (a.add (i * sz)) sz = some (f i)) (h1 : ∀ i, i < len → ∀ u ∈ f i, u.oneCell' = true) : RS (vw0 W) sz (.slice (some a) len cap) len ((List.range len).flatMap f) := by
  obtain ⟨hl, hc⟩ := flat_cells len h
  refine ⟨hl, fun u hu => ?_, .inr ⟨a, cap, rfl, hle, fun hne => ?_⟩⟩
  · obtain ⟨i, hi, hu⟩ := List.mem_flatMap.1 hu
    exact h1 i (by simpa using hi) u hu
  · generalize hL : (List.range len).flatMap f = l at *
    have h0 : a.spot = none := by
      cases l with
      | nil => exact absurd rfl hne
      | cons v r =>
        have := hc 0 v rfl
        exact World.cell?_spot (by simpa [Addr.add] using this)
    obtain ⟨b, o, sp⟩ := a
    simp only at h0
    subst h0
    exact ⟨rfl, fun h => h.elim, fun j v hv => by have := hc j v hv; rwa [Addr.add_lit] at this⟩
/-- octets -/
theorem dec_bytes {fuel : Nat} {t e : TypeId} {v : Value} {d : DataW H} {ps : List MemPlace} (hu : P.underlying t = some (.slice e)) (he : P.underlying e = some (.int .u8)) (hs : P.cellsOf e = 1) (h : DataW.trod enc P W 0 (fun _ => true) true (fuel + 1) t [v] = some (d, ps)) :
    ∃ l : List UInt8, RSv (vw0 W) v l ∧ (d = .nil ∧ l = [] ∨ ∃ el r : List (DataW H), d = .slice el r ∧ el.length = l.length) := by
  rcases trod_sl hu h with ⟨rfl, hd⟩ | ⟨a, len, cap, el, rest, rfl, hle, hd, hl, hg⟩
  · exact ⟨[], ⟨rfl, by simp [u8s], .inl ⟨rfl, rfl⟩⟩, .inl ⟨hd, rfl⟩⟩
  · have hb : ∀ i, i < len → ∃ b : UInt8, W.cells? 0 (a.add (i * 1)) 1 = some [u8v b] := fun i hi => by
      obtain ⟨cs, y, hc, ht, _⟩ := hg i hi
      rw [hs] at hc
      have hl1 := (cells_get hc).1
      match cs, hl1 with
      | [c], _ =>
        cases fuel with
        | zero => simp [DataW.trod] at ht
        | succ fuel =>
          unfold DataW.trod at ht
          rw [he] at ht
          cases c with
          | int k n =>
            simp only at ht
            split at ht
            · rename_i hk
              obtain ⟨rfl, hw⟩ := hk
              have hn : 0 ≤ n ∧ n < 256 := by
                simp [Lit.wf] at hw
                have h1 : IntKind.u8.min = 0 := rfl
                have h2 : IntKind.u8.max = 255 := rfl
                rw [h1, h2] at hw
                omega
              exact ⟨b8 n, by rw [hc, u8v, b8_val hn.1 hn.2]⟩
            · cases ht
          | _ => simp at ht
    have hch : ∃ g : Nat → UInt8, ∀ i, i < len → W.cells? 0 (a.add (i * 1)) 1 = some [u8v (g i)] := ⟨fun i => if h : i < len then (hb i h).choose else 0, fun i hi => by simp only [hi, dif_pos]; exact (hb i hi).choose_spec⟩
    obtain ⟨g, hgg⟩ := hch
    have hr := rs_of (f := fun i => [u8v (g i)]) hle hgg (fun i hi u hu => by simp only [List.mem_singleton] at hu; subst hu; rfl)
    refine ⟨(List.range len).map g, ?_, .inr ⟨_, _, hd, by simp [hl]⟩⟩
    have e : (List.range len).flatMap (fun i => [u8v (g i)]) = u8s ((List.range len).map g) := by
      simp only [u8s, List.map_map]
      induction List.range len with
      | nil => rfl
      | cons x r ih => simp [ih]
    rw [e] at hr
    unfold RSv
    simpa using hr
end
end K
end Go.Proofs.YtepbicjadambbabGreatDoor
namespace Go.Proofs.YtepbicjadambbabGreatDoor
namespace K
open Go Go.Lib
section
variable {H : Type} {enc : TypeId × Value → H} {P : Program} {W : World}
theorem trod_st {fuel : Nat} {t : TypeId} {fs : Array Field} {cs : List Value} {d : DataW H} {ps : List MemPlace} (hu : P.underlying t = some (.struct fs)) (h : DataW.trod enc P W 0 (fun _ => true) true (fuel + 1) t cs = some (d, ps)) :
    cs.length = P.cellsOf t ∧ ∃ xs : List (DataW H × List MemPlace), d = .agg (xs.map (·.1)) ∧ xs.length = fs.toList.length ∧ ∀ i, (hi : i < fs.toList.length) → ∃ y, xs[i]? = some y ∧ DataW.trod enc P W 0 (fun _ => true) true fuel fs.toList[i].type ((cs.drop fs.toList[i].offset).take (P.cellsOf fs.toList[i].type)) = some y := by
  unfold DataW.trod at h
  rw [hu] at h
  simp only at h
  split at h
  · rename_i hc
    obtain ⟨xs, hx, hd⟩ := Option.map_eq_some_iff.1 h
    simp only [Prod.mk.injEq] at hd
    obtain ⟨h1, h2⟩ := mapM_get hx
    exact ⟨hc, xs, hd.1.symm, h1, fun i hi => h2 i hi⟩
  · cases h
theorem trod_int {fuel : Nat} {t : TypeId} {k : IntKind} {v : Value} {y : DataW H × List MemPlace} (hu : P.underlying t = some (.int k)) (h : DataW.trod enc P W 0 (fun _ => true) true fuel t [v] = some y) : ∃ n, v = .int k n ∧ k.min ≤ n ∧ n ≤ k.max := by
  cases fuel with
  | zero => simp [DataW.trod] at h
  | succ fuel =>
    unfold DataW.trod at h
    rw [hu] at h
    cases v with
    | int k' n =>
      simp only at h
      split at h
      · rename_i hk
        obtain ⟨rfl, hw⟩ := hk
        simp [Lit.wf] at hw
        exact ⟨n, rfl, hw.1, hw.2⟩
      · cases h
    | _ => simp at h
theorem trod_bool {fuel : Nat} {t : TypeId} {v : Value} {y : DataW H × List MemPlace} (hu : P.underlying t = some .bool) (h : DataW.trod enc P W 0 (fun _ => true) true fuel t [v] = some y) : ∃ b, v = .bool b := by
  cases fuel with
  | zero => simp [DataW.trod] at h
  | succ fuel =>
    unfold DataW.trod at h
    rw [hu] at h
    cases v with
    | bool b => exact ⟨b, rfl⟩
    | _ => simp at h
end
section
variable {H : Type} {enc : TypeId × Value → H} {W : World}
theorem two_of {l : List Value} (h : l.length = 2) : ∃ a b, l = [a, b] := by
  match l, h with
  | [a, b], _ => exact ⟨a, b, rfl⟩
theorem cells_u32 : Tryz.prog.cellsOf 53 = 1 := by kernel_rfl
theorem cells_sl8 : Tryz.prog.cellsOf 22 = 1 := by kernel_rfl
theorem cells_u8 : Tryz.prog.cellsOf 5 = 1 := by kernel_rfl
theorem cells_tag : Tryz.prog.cellsOf 55 = 2 := by kernel_rfl
theorem bulk_len {H : Type} : ∀ (l : List (DataW H)), l.length ≤ Rows.uptoBulkAll l
  | [] => by simp
  | d :: r => by
    have := bulk_len r
    have h1 : 1 ≤ Rows.uptoBulk d := by
      cases d with
      | lit l => cases l <;> simp [Rows.uptoBulk]
      | _ => simp [Rows.uptoBulk]
    simp only [Rows.uptoBulkAll, List.length_cons]
    omega
theorem bulk_mem {H : Type} {d : DataW H} : ∀ {l : List (DataW H)}, d ∈ l → Rows.uptoBulk d ≤ Rows.uptoBulkAll l
  | x :: r, h => by
    simp only [Rows.uptoBulkAll]
    rcases List.mem_cons.1 h with rfl | h
    · omega
    · have := bulk_mem h
      omega
theorem bulk_agg {H : Type} {d : DataW H} {l : List (DataW H)} (h : d ∈ l) : Rows.uptoBulk d ≤ Rows.uptoBulk (.agg l) := by
  have := bulk_mem h
  simp only [Rows.uptoBulk]
  omega
theorem bulk_sl {H : Type} {el r : List (DataW H)} : el.length ≤ Rows.uptoBulk (.slice el r) ∧ ∀ d ∈ el, Rows.uptoBulk d ≤ Rows.uptoBulk (.slice el r) := by
  have := bulk_len el
  refine ⟨by simp only [Rows.uptoBulk]; omega, fun d hd => ?_⟩
  have := bulk_mem hd
  simp only [Rows.uptoBulk]
  omega
theorem bulk_bytes {H : Type} {d : DataW H} {l : List UInt8} (h : d = .nil ∧ l = [] ∨ ∃ el r : List (DataW H), d = .slice el r ∧ el.length = l.length) : 1 + l.length ≤ Rows.uptoBulk d := by
  rcases h with ⟨rfl, rfl⟩ | ⟨el, r, rfl, h⟩
  · simp [Rows.uptoBulk]
  · have := bulk_len el
    simp only [Rows.uptoBulk]
    omega
/-- a tag -/
theorem dec_tag {fuel : Nat} {cs : List Value} {y : DataW H × List MemPlace} (h : DataW.trod enc Tryz.prog W 0 (fun _ => true) true fuel 55 cs = some y) :
    ∃ (k : Nat) (b : List UInt8) (v : Value), cs = [.int .u32 (k : Int), v] ∧ k < 4294967296 ∧ RSv (vw0 W) v b ∧ 1 + b.length ≤ Rows.uptoBulk y.1 := by
  cases fuel with
  | zero => simp [DataW.trod] at h
  | succ fuel =>
    obtain ⟨d, ps⟩ := y
    obtain ⟨hc, xs, hd, _, hx⟩ := trod_st Tryz.underlying55 h
    rw [cells_tag] at hc
    obtain ⟨c0, c1, rfl⟩ := two_of hc
    obtain ⟨y0, _, h0⟩ := hx 0 (by decide)
    obtain ⟨y1, g1, h1⟩ := hx 1 (by decide)
    have h0' : DataW.trod enc Tryz.prog W 0 (fun _ => true) true fuel 53 [c0] = some y0 := by simpa [cells_u32] using h0
    have h1' : DataW.trod enc Tryz.prog W 0 (fun _ => true) true fuel 22 [c1] = some y1 := by simpa [cells_sl8] using h1
    obtain ⟨n, rfl, hn0, hn1⟩ := trod_int Tryz.underlying53 h0'
    have e0 : IntKind.u32.min = 0 := rfl
    have e1 : IntKind.u32.max = 4294967295 := rfl
    rw [e0] at hn0
    rw [e1] at hn1
    cases fuel with
    | zero => simp [DataW.trod] at h1'
    | succ fuel =>
      obtain ⟨d1, p1⟩ := y1
      obtain ⟨l, hl, hls⟩ := dec_bytes Tryz.underlying22 Tryz.underlying5 (by kernel_rfl) h1'
      refine ⟨n.toNat, l, c1, by rw [Int.toNat_of_nonneg hn0], by omega, hl, ?_⟩
      have h2 := bulk_bytes hls
      have h3 := bulk_agg (List.mem_map_of_mem (f := (·.1)) (List.mem_of_getElem? g1))
      rw [← hd] at h3
      simp only at h3 ⊢
      omega
theorem RUs_of {s : Vw} (g : Nat → Nat × List UInt8 × Value) : ∀ (l : List Nat), (∀ i ∈ l, (g i).1 < 4294967296 ∧ RSv s (g i).2.2 (g i).2.1) → RUs s (l.map fun i => ((g i).1, (g i).2.1)) (l.flatMap fun i => [.int .u32 ((g i).1 : Int), (g i).2.2])
  | [], _ => rfl
  | i :: r, h => ⟨_, _, rfl, (h i (by simp)).1, (h i (by simp)).2, RUs_of g r fun j hj => h j (by simp [hj])⟩
/-- the tags -/
theorem dec_tags {fuel : Nat} {v : Value} {d : DataW H} {ps : List MemPlace} (h : DataW.trod enc Tryz.prog W 0 (fun _ => true) true (fuel + 1) 24 [v] = some (d, ps)) :
    ∃ u : Tags, RU (vw0 W) v u ∧ 1 + wtu u ≤ Rows.uptoBulk d := by
  rcases trod_sl Tryz.underlying24 h with ⟨rfl, hd⟩ | ⟨a, len, cap, el, rest, rfl, hle, hd, hl, hg⟩
  · subst hd
    exact ⟨[], ⟨[], rs_nil _ 2, rfl⟩, by simp [wtu, Rows.uptoBulk]⟩
  · subst hd
    have hb : ∀ i, i < len → ∃ q : Nat × List UInt8 × Value, W.cells? 0 (a.add (i * 2)) 2 = some [.int .u32 (q.1 : Int), q.2.2] ∧ q.1 < 4294967296 ∧ RSv (vw0 W) q.2.2 q.2.1 ∧ ∃ y, el[i]? = some y ∧ 1 + q.2.1.length ≤ Rows.uptoBulk y.1 := fun i hi => by
      obtain ⟨cs, y, hc, ht, hy⟩ := hg i hi
      rw [cells_tag] at hc
      obtain ⟨k, b, w, rfl, hk, hw, hbk⟩ := dec_tag ht
      exact ⟨(k, b, w), hc, hk, hw, y, hy, hbk⟩
    obtain ⟨g, hgg⟩ : ∃ g : Nat → Nat × List UInt8 × Value, ∀ i, i < len → W.cells? 0 (a.add (i * 2)) 2 = some [.int .u32 ((g i).1 : Int), (g i).2.2] ∧ (g i).1 < 4294967296 ∧ RSv (vw0 W) (g i).2.2 (g i).2.1 ∧ ∃ y, el[i]? = some y ∧ 1 + (g i).2.1.length ≤ Rows.uptoBulk y.1 :=
      ⟨fun i => if h : i < len then (hb i h).choose else (0, [], .bool true), fun i hi => by simp only [hi, dif_pos]; exact (hb i hi).choose_spec⟩
    have hr := rs_of (f := fun i => [.int .u32 ((g i).1 : Int), (g i).2.2]) hle (fun i hi => (hgg i hi).1) (fun i hi u hu => by
      simp only [List.mem_cons, List.not_mem_nil, or_false] at hu
      rcases hu with rfl | rfl
      · rfl
      · exact RS.one (hgg i hi).2.2.1)
    refine ⟨(List.range len).map fun i => ((g i).1, (g i).2.1), ⟨_, by simpa using hr, RUs_of g _ fun i hi => ⟨(hgg i (by simpa using hi)).2.1, (hgg i (by simpa using hi)).2.2.1⟩⟩, ?_⟩
    have h2 : ∀ (n : Nat) (e : List (DataW H × List MemPlace)) (k : Nat), e.length = n → (∀ i, i < n → ∃ y, e[i]? = some y ∧ 1 + (g (k + i)).2.1.length ≤ Rows.uptoBulk y.1) → wtu ((List.range' k n).map fun i => ((g i).1, (g i).2.1)) ≤ Rows.uptoBulkAll (e.map (·.1)) := by
      intro n
      induction n with
      | zero => intro e k he _; simp [wtu]
      | succ n ih =>
        intro e k he h
        cases e with
        | nil => simp at he
        | cons y r =>
          obtain ⟨y0, hy0, h0⟩ := h 0 (by omega)
          simp only [List.getElem?_cons_zero, Option.some.injEq] at hy0
          subst hy0
          have := ih r (k + 1) (by simpa using he) fun i hi => by
            obtain ⟨z, hz, h1⟩ := h (i + 1) (by omega)
            exact ⟨z, by simpa using hz, by rw [show k + 1 + i = k + (i + 1) by omega]; exact h1⟩
          simp only [List.range'_succ, List.map_cons, wtu, Rows.uptoBulkAll]
          simp only [Nat.add_zero] at h0
          omega
    have h3 := h2 len el 0 hl fun i hi => by
      obtain ⟨_, _, _, y, hy, h4⟩ := hgg i hi
      exact ⟨y, hy, by rw [Nat.zero_add]; exact h4⟩
    rw [← List.range_eq_range'] at h3
    simp only [Rows.uptoBulk]
    omega
end
end K
end Go.Proofs.YtepbicjadambbabGreatDoor
namespace Go.Proofs.YtepbicjadambbabGreatDoor
namespace K
open Go Go.Lib
theorem five_of {l : List Value} (h : l.length = 5) : ∃ a b c d e, l = [a, b, c, d, e] := by
  match l, h with
  | [a, b, c, d, e], _ => exact ⟨a, b, c, d, e, rfl⟩
theorem cells_tree : Tryz.prog.cellsOf 26 = 5 := by kernel_rfl
theorem cells_i64 : Tryz.prog.cellsOf 2 = 1 := by kernel_rfl
theorem cells_bool : Tryz.prog.cellsOf 4 = 1 := by kernel_rfl
theorem cells_slT : Tryz.prog.cellsOf 23 = 1 := by kernel_rfl
theorem cells_slG : Tryz.prog.cellsOf 24 = 1 := by kernel_rfl
theorem RTs_of {s : Vw} (g : Nat → Tre × List Value) : ∀ (l : List Nat), (∀ i ∈ l, RT s (g i).1 (g i).2) → RTs s (l.map fun i => (g i).1) (l.flatMap fun i => (g i).2)
  | [], _ => by simp [RTs]
  | i :: r, h => by
    simp only [List.map_cons, List.flatMap_cons, RTs]
    exact ⟨_, _, rfl, h i (by simp), RTs_of g r fun j hj => h j (by simp [hj])⟩
variable {H : Type} {enc : TypeId × Value → H} {W : World}
set_option maxRecDepth 100000 in
/-- the tree -/
theorem dec_tree : ∀ (fuel : Nat) (cs : List Value) (d : DataW H) (ps : List MemPlace), DataW.trod enc Tryz.prog W 0 (fun _ => true) true fuel 26 cs = some (d, ps) → ∃ x, RT (vw0 W) x cs ∧ wt x ≤ Rows.uptoBulk d
  | 0, cs, d, ps, h => by simp [DataW.trod] at h
  | 1, cs, d, ps, h => by
    obtain ⟨hc, xs, hd, hxl, hx⟩ := trod_st Tryz.underlying26 h
    obtain ⟨y0, _, h0⟩ := hx 0 (by decide)
    simp [DataW.trod] at h0
  | fuel + 2, cs, d, ps, h => by
    obtain ⟨hc, xs, hd, hxl, hx⟩ := trod_st Tryz.underlying26 h
    rw [cells_tree] at hc
    obtain ⟨c0, c1, c2, c3, c4, rfl⟩ := five_of hc
    obtain ⟨y0, g0, h0⟩ := hx 0 (by decide)
    obtain ⟨y1, g1, h1⟩ := hx 1 (by decide)
    obtain ⟨y2, g2, h2⟩ := hx 2 (by decide)
    obtain ⟨y3, g3, h3⟩ := hx 3 (by decide)
    obtain ⟨y4, g4, h4⟩ := hx 4 (by decide)
    have h0' : DataW.trod enc Tryz.prog W 0 (fun _ => true) true (fuel + 1) 2 [c0] = some y0 := by simpa [cells_i64] using h0
    have h1' : DataW.trod enc Tryz.prog W 0 (fun _ => true) true (fuel + 1) 22 [c1] = some y1 := by simpa [cells_sl8] using h1
    have h2' : DataW.trod enc Tryz.prog W 0 (fun _ => true) true (fuel + 1) 4 [c2] = some y2 := by simpa [cells_bool] using h2
    have h3' : DataW.trod enc Tryz.prog W 0 (fun _ => true) true (fuel + 1) 23 [c3] = some y3 := by simpa [cells_slT] using h3
    have h4' : DataW.trod enc Tryz.prog W 0 (fun _ => true) true (fuel + 1) 24 [c4] = some y4 := by simpa [cells_slG] using h4
    have hsum : Rows.uptoBulk y1.1 + Rows.uptoBulk y3.1 + Rows.uptoBulk y4.1 + 1 ≤ Rows.uptoBulk d := by
      have e : ∃ r, xs = y0 :: y1 :: y2 :: y3 :: y4 :: r := by
        match xs, g0, g1, g2, g3, g4 with
        | a :: b :: c :: d :: e :: r, g0, g1, g2, g3, g4 =>
          simp only [List.getElem?_cons_zero, List.getElem?_cons_succ, Option.some.injEq] at g0 g1 g2 g3 g4
          subst g0 g1 g2 g3 g4
          exact ⟨r, rfl⟩
        | [a, b, c, d], g0, g1, g2, g3, g4 => simp at g4
        | [a, b, c], g0, g1, g2, g3, g4 => simp at g4
        | [a, b], g0, g1, g2, g3, g4 => simp at g4
        | [a], g0, g1, g2, g3, g4 => simp at g4
        | [], g0, g1, g2, g3, g4 => simp at g4
      obtain ⟨r, rfl⟩ := e
      rw [hd]
      simp only [List.map_cons, Rows.uptoBulk, Rows.uptoBulkAll]
      omega
    obtain ⟨n, rfl, hn0, hn1⟩ := trod_int Tryz.underlying2 h0'
    have e0 : IntKind.i64.min = -9223372036854775808 := rfl
    have e1 : IntKind.i64.max = 9223372036854775807 := rfl
    rw [e0] at hn0
    rw [e1] at hn1
    obtain ⟨d1, p1⟩ := y1
    obtain ⟨l, hl, hls⟩ := dec_bytes Tryz.underlying22 Tryz.underlying5 cells_u8 h1'
    obtain ⟨b, rfl⟩ := trod_bool Tryz.underlying4 h2'
    obtain ⟨d4, p4⟩ := y4
    obtain ⟨u, hu, hus⟩ := dec_tags h4'
    have k1 := bulk_bytes hls
    obtain ⟨d3, p3⟩ := y3
    have hL : ∃ tl : List Tre, (∃ lc, RS (vw0 W) 5 c3 tl.length lc ∧ RTs (vw0 W) tl lc) ∧ wts tl ≤ Rows.uptoBulk d3 := by
      rcases trod_sl Tryz.underlying23 h3' with ⟨rfl, _⟩ | ⟨a, len, cap, el, rest, rfl, hle, hd3, hl3, hg⟩
      · exact ⟨[], ⟨[], rs_nil _ 5, by simp [RTs]⟩, by simp [wts]⟩
      · subst hd3
        have hb : ∀ i, i < len → ∃ q : Tre × List Value, W.cells? 0 (a.add (i * 5)) 5 = some q.2 ∧ RT (vw0 W) q.1 q.2 ∧ ∃ y, el[i]? = some y ∧ wt q.1 ≤ Rows.uptoBulk y.1 := fun i hi => by
          obtain ⟨cs, y, hcs, ht, hy⟩ := hg i hi
          rw [cells_tree] at hcs
          obtain ⟨dy, py⟩ := y
          obtain ⟨x, hx, hsm⟩ := dec_tree fuel cs dy py ht
          exact ⟨(x, cs), hcs, hx, _, hy, hsm⟩
        obtain ⟨g, hgg⟩ : ∃ g : Nat → Tre × List Value, ∀ i, i < len → W.cells? 0 (a.add (i * 5)) 5 = some (g i).2 ∧ RT (vw0 W) (g i).1 (g i).2 ∧ ∃ y, el[i]? = some y ∧ wt (g i).1 ≤ Rows.uptoBulk y.1 :=
          ⟨fun i => if h : i < len then (hb i h).choose else (.nul, []), fun i hi => by simp only [hi, dif_pos]; exact (hb i hi).choose_spec⟩
        have hr := rs_of (f := fun i => (g i).2) hle (fun i hi => (hgg i hi).1) (fun i hi => (hgg i hi).2.1.cells)
        refine ⟨(List.range len).map fun i => (g i).1, ⟨_, by simpa using hr, RTs_of g _ fun i hi => (hgg i (by simpa using hi)).2.1⟩, ?_⟩
        have h2 : ∀ (n : Nat) (e : List (DataW H × List MemPlace)) (k : Nat), e.length = n → (∀ i, i < n → ∃ y, e[i]? = some y ∧ wt (g (k + i)).1 ≤ Rows.uptoBulk y.1) → wts ((List.range' k n).map fun i => (g i).1) ≤ Rows.uptoBulkAll (e.map (·.1)) := by
          intro n
          induction n with
          | zero => intro e k he _; simp [wts]
          | succ n ih =>
            intro e k he h
            cases e with
            | nil => simp at he
            | cons y r =>
              obtain ⟨y0, hy0, h0⟩ := h 0 (by omega)
              simp only [List.getElem?_cons_zero, Option.some.injEq] at hy0
              subst hy0
              have := ih r (k + 1) (by simpa using he) fun i hi => by
                obtain ⟨z, hz, h1⟩ := h (i + 1) (by omega)
                exact ⟨z, by simpa using hz, by rw [show k + 1 + i = k + (i + 1) by omega]; exact h1⟩
              simp only [List.range'_succ, List.map_cons, wts, Rows.uptoBulkAll]
              simp only [Nat.add_zero] at h0
              omega
        have h3 := h2 len el 0 hl3 fun i hi => by
          obtain ⟨_, _, y, hy, h4⟩ := hgg i hi
          exact ⟨y, hy, by rw [Nat.zero_add]; exact h4⟩
        rw [← List.range_eq_range'] at h3
        simp only [Rows.uptoBulk]
        omega
    obtain ⟨tl, hT, k3⟩ := hL
    refine ⟨.mk n l b tl u, RT.shut ⟨_, _, _, rfl, ⟨hn0, hn1⟩, hl, hT, hu⟩, ?_⟩
    simp only [wt]
    simp only at hsum
    omega
end K
end Go.Proofs.YtepbicjadambbabGreatDoor
