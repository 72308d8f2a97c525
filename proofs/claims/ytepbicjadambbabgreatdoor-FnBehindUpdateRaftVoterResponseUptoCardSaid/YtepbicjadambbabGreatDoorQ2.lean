import Derived.Test.YtepbicjadambbabGreatDoorQ1
set_option linter.unusedVariables false
set_option linter.unusedSimpArgs false
namespace Go.Proofs.YtepbicjadambbabGreatDoor
namespace K
open Go Go.Lib
theorem nodup_new {l : List (Nat × Value)} {u : Tags} {j : Nat} (hj : j < u.length) (hk : l.map (·.1) = (u.take j).map (·.1)) (hn : (u.map (·.1)).Nodup) : ∀ y ∈ l, y.1 ≠ u[j].1 := fun y hy he => by
  have h1 : u[j].1 ∈ (u.take j).map (·.1) := by rw [← hk, ← he]; exact List.mem_map_of_mem hy
  have h2 : (u.map (·.1)).take (j + 1) = (u.take j).map (·.1) ++ [u[j].1] := by
    rw [← List.map_take, take_snoc' hj, List.map_append]; rfl
  have h3 := hn.sublist (List.take_sublist (j + 1) (u.map (·.1)))
  rw [h2] at h3
  exact (List.nodup_append.1 h3).2.2 _ h1 _ (by simp) rfl
def TagsEachC : Prop := ∀ (t : Vw) (b off : Nat) (mv : Value) (l : List (Nat × Value)) (u : Tags) (v : Value) (L : List UInt8), RC t b off [mv] → MK t mv l → RK t l u → u.Pairwise (fun x y => x.1 < y.1) → (∀ y ∈ u, y.1 < 4294967296 ∧ y.2.length ≤ 32767) → L.length + (u.flatMap tagB).length ≤ 4398046511104 →
  (Ent.row v 5 1 L.length (u8s L)).ok t.w → (∀ q ∈ (Ent.row v 5 1 L.length (u8s L)).blk, t.av q) →
  CT Tryz.prog 39 [.pointer (some ⟨b, off, none⟩), v] t (.row v 5 1 L.length (u8s L)) fun _ r e' => e' = .row r 5 1 (L ++ u.flatMap tagB).length (u8s (L ++ u.flatMap tagB)) ∧ r.oneCell' = true
theorem RK.len {s : Vw} {l : List (Nat × Value)} {u : Tags} (h : RK s l u) : l.length = u.length := by simpa using congrArg List.length h.keys
theorem fixw (k : IntKind) (m : Nat) (n : Int) (hk : k.bits = 8 * m) : fixed (k.wrap n) m = fixed n m := by
  have h : ∃ q : Int, k.wrap n = n % 2 ^ (8 * m) + q * 2 ^ (8 * m) := by
    have e : k.wrap n = if (k.signed && decide (n % 2 ^ k.bits ≥ 2 ^ (k.bits - 1))) = true then n % 2 ^ k.bits - 2 ^ k.bits else n % 2 ^ k.bits := rfl
    rw [e, ← hk]
    by_cases h : (k.signed && decide (n % 2 ^ k.bits ≥ 2 ^ (k.bits - 1))) = true
    · rw [if_pos h]; exact ⟨-1, by rw [Int.neg_one_mul]; rfl⟩
    · rw [if_neg h]; exact ⟨0, by rw [Int.zero_mul, Int.add_zero]⟩
  obtain ⟨q, hq⟩ := h
  rw [← fixed_mod n m m (Nat.le_refl _), ← fixed_mod (k.wrap n) m m (Nat.le_refl _), hq, Int.add_mul_emod_self_right, Int.emod_emod]
theorem RC.drop_ {s : Vw} {b : Nat} {cs : List Value} (h : RC s b 0 cs) (k : Nat) {v : Value} (hv : cs[k]? = some v) : RC s b k [v] := ⟨h.1, fun j w hj => by
  cases j with
  | zero =>
    simp only [List.getElem?_cons_zero, Option.some.injEq] at hj
    subst hj
    have := h.2 k v hv
    simpa using this
  | succ j => simp at hj⟩
def FitOk (fs : List Fld) (v : Int) (x : Tre) : Prop := (∀ i, (hi : i < fs.length) → (fs[i].kind = 8 ∨ fs[i].kind = 9 → (x.at_ i).s.length ≤ 32767) ∧ ((x.at_ i).z = true → fs[i].nul ≥ 0 ∧ v ≥ fs[i].nul)) ∧ (unkn (known fs) x.u).map cut = x.u ∧ x.u.Pairwise (fun x y => x.1 < y.1) ∧ (∀ y ∈ x.u, y.1 < 4294967296 ∧ y.2.length ≤ 32767) ∧ x.u.length ≤ 32767
theorem fb_i8 (a b c d e o : Int) (s : List Fld) (v : Int) (fl : Bool) (y : Tre) : fieldB (.mk 1 a b c d e o s) v fl y = fixed y.n 1 := by simp [fieldB_eq, Fld.kind, valueB, scalarB, widthN]
theorem fb_i16 (a b c d e o : Int) (s : List Fld) (v : Int) (fl : Bool) (y : Tre) : fieldB (.mk 2 a b c d e o s) v fl y = fixed y.n 2 := by simp [fieldB_eq, Fld.kind, valueB, scalarB, widthN]
theorem fb_i32 (a b c d e o : Int) (s : List Fld) (v : Int) (fl : Bool) (y : Tre) : fieldB (.mk 3 a b c d e o s) v fl y = fixed y.n 4 := by simp [fieldB_eq, Fld.kind, valueB, scalarB, widthN]
theorem fb_i64 (a b c d e o : Int) (s : List Fld) (v : Int) (fl : Bool) (y : Tre) : fieldB (.mk 4 a b c d e o s) v fl y = fixed y.n 8 := by simp [fieldB_eq, Fld.kind, valueB, scalarB, widthN]
theorem fb_s (a b c d e o : Int) (s : List Fld) (v : Int) (fl : Bool) (y : Tre) (hz : y.z = false) (hl : y.s.length ≤ 32767) : fieldB (.mk 8 a b c d e o s) v fl y = (if fl then uvar (y.s.length + 1) else fixed y.s.length 2) ++ y.s := by
  simp only [fieldB_eq, Fld.kind, valueB, scalarB, nullB, hz, counted]
  simp [List.take_of_length_le hl]
theorem fb_b (a b c d e o : Int) (s : List Fld) (v : Int) (fl : Bool) (y : Tre) (hz : y.z = false) (hl : y.s.length ≤ 32767) : fieldB (.mk 9 a b c d e o s) v fl y = (if fl then uvar (y.s.length + 1) else fixed y.s.length 4) ++ y.s := by
  simp only [fieldB_eq, Fld.kind, valueB, scalarB, nullB, hz, counted]
  simp [List.take_of_length_le hl]
theorem fb_sn (a b c d e o : Int) (s : List Fld) (v : Int) (fl : Bool) (y : Tre) (hc : c ≥ 0) (hv : v ≥ c) (hl : y.s.length ≤ 32767) : fieldB (.mk 8 a b c d e o s) v fl y = if y.z then (if fl then uvar 0 else fixed (-1) 2) else (if fl then uvar (y.s.length + 1) else fixed y.s.length 2) ++ y.s := by
  have hn : nullB (.mk 8 a b c d e o s) v y = y.z := by simp [nullB, Fld.nul, hc, hv]
  simp only [fieldB_eq, hn, Fld.kind, valueB, scalarB, counted]
  by_cases hz : y.z = true
  · cases fl <;> simp [hz, uvar_zero]
  · cases fl <;> simp [hz, List.take_of_length_le hl]
theorem fb_bn (a b c d e o : Int) (s : List Fld) (v : Int) (fl : Bool) (y : Tre) (hc : c ≥ 0) (hv : v ≥ c) (hl : y.s.length ≤ 32767) : fieldB (.mk 9 a b c d e o s) v fl y = if y.z then (if fl then uvar 0 else fixed (-1) 4) else (if fl then uvar (y.s.length + 1) else fixed y.s.length 4) ++ y.s := by
  have hn : nullB (.mk 9 a b c d e o s) v y = y.z := by simp [nullB, Fld.nul, hc, hv]
  simp only [fieldB_eq, hn, Fld.kind, valueB, scalarB, counted]
  by_cases hz : y.z = true
  · cases fl <;> simp [hz, uvar_zero]
  · cases fl <;> simp [hz, List.take_of_length_le hl]
theorem Octs.rs {s : Vw} {c : Value} {y : Tre} (h : Octs s c y) (hz : y.z = false) : RSv s c y.s := by
  rcases h with ⟨h1, _⟩ | ⟨_, _, _, _, _, h2⟩
  · rw [hz] at h1; cases h1
  · exact h2
end K
end Go.Proofs.YtepbicjadambbabGreatDoor
