import Derived.Test.YtekafeogilbjmaaGreatDoorG4
set_option linter.unusedVariables false
set_option linter.unusedSimpArgs false
namespace Go.Proofs.YtekafeogilbjmaaGreatDoor
namespace K
open Go Go.Lib
/-! ### unknown tags: sorted, each once -/
theorem tw_split (out : Tags) (k : Nat) : out.take (pre out k) = out.takeWhile (fun y => decide (y.1 < k)) ∧ out.drop (pre out k) = out.dropWhile (fun y => decide (y.1 < k)) := by
  unfold pre
  have h := List.takeWhile_append_dropWhile (p := fun y : Nat × List UInt8 => decide (y.1 < k)) (l := out)
  generalize out.takeWhile (fun y => decide (y.1 < k)) = a at *
  generalize out.dropWhile (fun y => decide (y.1 < k)) = b at *
  subst h
  exact ⟨List.take_left, List.drop_left⟩
theorem tw_mem {p : (Nat × List UInt8) → Bool} : ∀ (l : Tags), ∀ y ∈ l.takeWhile p, p y = true
  | [], y, h => by simp at h
  | z :: r, y, h => by
    rw [List.takeWhile_cons] at h
    split at h
    · rename_i hz
      rcases List.mem_cons.1 h with rfl | h
      · exact hz
      · exact tw_mem r y h
    · simp at h
theorem tw_lt {out : Tags} {k : Nat} : ∀ y ∈ out.take (pre out k), y.1 < k := fun y hy => by
  rw [(tw_split out k).1] at hy
  simpa using tw_mem _ y hy
theorem dw_head {k : Nat} : ∀ (out : Tags), ∀ y, (out.dropWhile (fun y => decide (y.1 < k))).head? = some y → ¬ y.1 < k
  | [], y, h => by simp at h
  | z :: r, y, h => by
    rw [List.dropWhile_cons] at h
    split at h
    · exact dw_head r y h
    · rename_i hz
      simp only [List.head?_cons, Option.some.injEq] at h
      subst h
      simpa using hz
abbrev Srt (l : Tags) : Prop := l.Pairwise (fun x y => x.1 < y.1)
theorem insT_sorted {least : Int} {out : Tags} {x : Nat × List UInt8} (h : Srt out) : Srt (insT least out x) := by
  unfold insT
  split
  · exact h
  · split
    · exact h
    · rename_i hne
      have hs : Srt (out.take (pre out x.1) ++ out.drop (pre out x.1)) := by rw [List.take_append_drop]; exact h
      obtain ⟨p1, p2, p3⟩ := List.pairwise_append.1 hs
      have hd : ∀ y ∈ out.drop (pre out x.1), x.1 < y.1 := by
        intro y hy
        have hh : ∀ z, (out.drop (pre out x.1)).head? = some z → x.1 < z.1 := fun z hz => by
          have h1 := dw_head out z (by rw [← (tw_split out x.1).2]; exact hz)
          have h2 : z.1 ≠ x.1 := by
            intro he
            rw [List.head?_drop] at hz
            rw [hz] at hne
            exact hne (by simp [he])
          omega
        cases hc : out.drop (pre out x.1) with
        | nil => rw [hc] at hy; simp at hy
        | cons z r =>
          rw [hc] at hy p2
          have hz := hh z (by rw [hc]; rfl)
          rcases List.mem_cons.1 hy with rfl | hy
          · exact hz
          · have := (List.pairwise_cons.1 p2).1 y hy
            omega
      refine List.pairwise_append.2 ⟨p1, List.pairwise_cons.2 ⟨fun y hy => hd y hy, p2⟩, fun a ha b hb => ?_⟩
      have h1 := tw_lt a ha
      rcases List.mem_cons.1 hb with rfl | hb
      · exact h1
      · have := hd b hb
        omega
theorem insT_mem {least : Int} {out : Tags} {x y : Nat × List UInt8} (h : y ∈ insT least out x) : y ∈ out ∨ (y = x ∧ least ≤ x.1) := by
  unfold insT at h
  split at h
  · exact .inl h
  · rename_i hl
    split at h
    · exact .inl h
    · rcases List.mem_append.1 h with h | h
      · exact .inl (List.mem_of_mem_take h)
      · rcases List.mem_cons.1 h with h | h
        · exact .inr ⟨h, by omega⟩
        · exact .inl (List.mem_of_mem_drop h)
theorem fold_sorted (least : Int) : ∀ (l out : Tags), Srt out → Srt (l.foldl (insT least) out)
  | [], _, h => h
  | x :: r, out, h => fold_sorted least r _ (insT_sorted h)
theorem fold_mem (least : Int) : ∀ (l out : Tags) (y : Nat × List UInt8), y ∈ l.foldl (insT least) out → y ∈ out ∨ (y ∈ l ∧ least ≤ y.1)
  | [], _, y, h => .inl h
  | x :: r, out, y, h => by
    rcases fold_mem least r _ y h with h | ⟨h1, h2⟩
    · rcases insT_mem h with h | ⟨rfl, h⟩
      · exact .inl h
      · exact .inr ⟨by simp, h⟩
    · exact .inr ⟨by simp [h1], h2⟩
theorem unkn_sorted (least : Int) (l : Tags) : Srt (unkn least l) := fold_sorted least _ [] List.Pairwise.nil
theorem unkn_mem {least : Int} {l : Tags} {y : Nat × List UInt8} (h : y ∈ unkn least l) : y ∈ l ∧ least ≤ y.1 := by
  rcases fold_mem least _ [] y h with h | ⟨h1, h2⟩
  · simp at h
  · exact ⟨List.mem_of_mem_take h1, h2⟩
theorem srt_cut {l : Tags} (h : Srt l) : Srt (l.map cut) := List.pairwise_map.2 h
/-! ### flat schemas -/
def flatF (f : Fld) : Bool := decide (f.tag < 0) && decide (f.kind ≠ 10) && decide (f.kind ≠ 11) && decide (f.of_ ≠ 11)
theorem flatF.all {f : Fld} (h : flatF f = true) : f.tag < 0 ∧ f.kind ≠ 10 ∧ f.kind ≠ 11 ∧ f.of_ ≠ 11 := by
  simp only [flatF, Bool.and_eq_true, decide_eq_true_eq] at h
  exact ⟨h.1.1.1, h.1.1.2, h.1.2, h.2⟩
theorem known_neg : ∀ (n : Nat) (l : List Fld), l.length = n → (∀ g ∈ l, g.tag < 0) → known l = 0
  | 0, l, hn, _ => by
    have := List.eq_nil_of_length_eq_zero hn
    subst this
    rfl
  | n + 1, l, hn, h => by
    have hne : l ≠ [] := by intro e; subst e; simp at hn
    have e := List.dropLast_concat_getLast hne
    rw [← e, known_snoc, if_neg (by have := h _ (List.getLast_mem hne); omega)]
    exact known_neg n _ (by simp [hn]) fun g hg => h g (List.dropLast_subset _ hg)
theorem keys_nodup {l : Tags} (h : Srt l) : (l.map (·.1)).Nodup := List.pairwise_map.2 (h.imp fun h => Nat.ne_of_lt h)
/-! ### how long it is -/
end K
end Go.Proofs.YtekafeogilbjmaaGreatDoor
