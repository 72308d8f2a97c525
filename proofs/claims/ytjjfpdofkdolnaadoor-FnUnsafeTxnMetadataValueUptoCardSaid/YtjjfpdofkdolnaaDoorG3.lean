import Derived.Test.YtjjfpdofkdolnaaDoorG2
set_option linter.unusedVariables false
set_option linter.unusedSimpArgs false
namespace Go.Proofs.YtjjfpdofkdolnaaDoor
namespace K
open Go Go.Lib
def kn (l : List (Nat × Value)) (i : Nat) : Nat := (l.map (·.1)).getD i 0
theorem ME_born (l : List (Nat × Value)) : ∀ e ∈ (ME l).toList, e.born < l.length := fun e he => by
  obtain ⟨i, hi, rfl⟩ := ME_mem he
  exact hi
theorem ME_nodup (l : List (Nat × Value)) : ((ME l).toList.map (·.born)).Nodup := by
  have e : (ME l).toList.map (·.born) = List.range l.length := by
    simp only [ME, List.map_map]
    apply List.ext_getElem?
    intro i
    by_cases hi : i < l.length
    · simp [hi]
    · rw [List.getElem?_eq_none (by simp; omega), List.getElem?_eq_none (by simp; omega)]
  rw [e]
  exact List.nodup_range
theorem ME_at (l : List (Nat × Value)) {i : Nat} (hi : i < l.length) : (⟨.int .u32 (l[i].1 : Int), l[i].2, i⟩ : MapEntry) ∈ (ME l).toList := by
  simp only [ME, List.mem_map]
  exact ⟨(l[i], i), by rw [List.mem_zipIdx_iff_getElem?]; simp [hi], rfl⟩
theorem ME_uniq {l : List (Nat × Value)} (hn : (l.map (·.1)).Nodup) {e e' : MapEntry} (he : e ∈ (ME l).toList) (he' : e' ∈ (ME l).toList) (h : e'.key = e.key) : e' = e := by
  obtain ⟨i, hi, rfl⟩ := ME_mem he
  obtain ⟨j, hj, rfl⟩ := ME_mem he'
  simp only [Value.int.injEq, true_and] at h
  have hk : (l.map (·.1))[j]'(by simpa using hj) = (l.map (·.1))[i]'(by simpa using hi) := by simp only [List.getElem_map]; omega
  have hji : j = i := (List.getElem_inj hn).1 hk
  subst hji
  rfl
theorem RK.at {s : Vw} : ∀ {l : List (Nat × Value)} {u : Tags} {j : Nat} (hj : j < u.length), RK s l u → ∃ hl : j < l.length, l[j].1 = u[j].1 ∧ RSv s l[j].2 u[j].2
  | [], u, j, hj, h => by simp only [RK] at h; subst h; simp at hj
  | (k, v) :: l, u, j, hj, ⟨b, r, h1, h2, h3⟩ => by
    subst h1
    cases j with
    | zero => exact ⟨by simp, rfl, h2⟩
    | succ j =>
      obtain ⟨hl, h4, h5⟩ := RK.at (j := j) (by simpa using hj) h3
      exact ⟨by simpa using hl, by simpa using h4, by simpa using h5⟩
theorem seen_perm {l : List (Nat × Value)} {seen : Array Nat} (hnd : seen.toList.Nodup) (hlt : ∀ i ∈ seen.toList, i < l.length) (h0 : (leftOf (ME l) seen).size = 0) : (seen.toList.map (kn l)).Perm (l.map (·.1)) := by
  have h1 : seen.toList.Perm (List.range l.length) := by
    rw [List.perm_ext_iff_of_nodup hnd List.nodup_range]
    intro i
    rw [List.mem_range]
    refine ⟨hlt i, fun hi => ?_⟩
    have := all_seen _ _ h0 _ (ME_at l hi)
    simpa using this
  have h2 : (List.range l.length).map (kn l) = l.map (·.1) := by
    apply List.ext_getElem?
    intro i
    by_cases hi : i < l.length
    · simp [hi, kn, List.getD]
    · rw [List.getElem?_eq_none (by simp; omega), List.getElem?_eq_none (by simp; omega)]
  rw [← h2]
  exact h1.map _
theorem sorted_eq {a b : List Nat} (hp : a.Perm b) (ha : a.Pairwise (· ≤ ·)) (hb : b.Pairwise (· ≤ ·)) : a = b := hp.eq_of_pairwise (fun x y _ _ h1 h2 => Nat.le_antisymm h1 h2) ha hb
def RC1 (s : Vw) (b off : Nat) (mv : Value) : Prop := RC s b off [mv]
theorem RC1.mv {s t : Vw} {b off : Nat} {mv : Value} (h : RC1 s b off mv) (ht : Tr s t) : RC1 t b off mv := RC.mv h ht (by simp)
end K
end Go.Proofs.YtjjfpdofkdolnaaDoor
