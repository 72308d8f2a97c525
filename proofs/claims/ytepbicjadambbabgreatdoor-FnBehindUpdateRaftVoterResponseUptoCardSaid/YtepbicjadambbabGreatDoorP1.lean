import Derived.Test.YtepbicjadambbabGreatDoorG4
set_option linter.unusedVariables false
set_option linter.unusedSimpArgs false
namespace Go.Proofs.YtepbicjadambbabGreatDoor
namespace K
open Go Go.Lib
/-! ### unknown tags: sorted, each once -/
theorem tw_split (out : Tags) (k : Nat) : out.take (pre out k) = out.takeWhile (fun y => decide (y.1 < k)) ∧ out.drop (pre out k) = out.dropWhile (fun y => decide (y.1 < k)) := by
  unfold pre
  have h := List.takeWhile_append_dropWhile (p := fun y : Nat × List UInt8 => decide (y.1 < k)) (l := out)
  generalize out.takeWhile (fun y => decide (y.1 < k)) = a at *
  generalize out.dropWhile (fun y => decide (y.1 < k)) = b at *
  subst h
  exact ⟨List.take_left, List.drop_left⟩
theorem tw_mem {p : (Nat × List UInt8) → Bool} : ∀ (l : Tags), ∀ y ∈ l.takeWhile p, p y = true
  | [], y, h => by simp at h
  | z :: r, y, h => by
    rw [List.takeWhile_cons] at h
    split at h
    · rename_i hz
      rcases List.mem_cons.1 h with rfl | h
      · exact hz
      · exact tw_mem r y h
    · simp at h
theorem tw_lt {out : Tags} {k : Nat} : ∀ y ∈ out.take (pre out k), y.1 < k := fun y hy => by
  rw [(tw_split out k).1] at hy
  simpa using tw_mem _ y hy
theorem dw_head {k : Nat} : ∀ (out : Tags), ∀ y, (out.dropWhile (fun y => decide (y.1 < k))).head? = some y → ¬ y.1 < k
  | [], y, h => by simp at h
  | z :: r, y, h => by
    rw [List.dropWhile_cons] at h
    split at h
    · exact dw_head r y h
    · rename_i hz
      simp only [List.head?_cons, Option.some.injEq] at h
      subst h
      simpa using hz
abbrev Srt (l : Tags) : Prop := l.Pairwise (fun x y => x.1 < y.1)
theorem insT_sorted {least : Int} {out : Tags} {x : Nat × List UInt8} (h : Srt out) : Srt (insT least out x) := by
  unfold insT
  split
  · exact h
  · split
    · exact h
    · rename_i hne
      have hs : Srt (out.take (pre out x.1) ++ out.drop (pre out x.1)) := by rw [List.take_append_drop]; exact h
      obtain ⟨p1, p2, p3⟩ := List.pairwise_append.1 hs
      have hd : ∀ y ∈ out.drop (pre out x.1), x.1 < y.1 := by
        intro y hy
        have hh : ∀ z, (out.drop (pre out x.1)).head? = some z → x.1 < z.1 := fun z hz => by
          have h1 := dw_head out z (by rw [← (tw_split out x.1).2]; exact hz)
          have h2 : z.1 ≠ x.1 := by
            intro he
            rw [List.head?_drop] at hz
            rw [hz] at hne
            exact hne (by simp [he])
          omega
        cases hc : out.drop (pre out x.1) with
        | nil => rw [hc] at hy; simp at hy
        | cons z r =>
          rw [hc] at hy p2
          have hz := hh z (by rw [hc]; rfl)
          rcases List.mem_cons.1 hy with rfl | hy
          · exact hz
          · have := (List.pairwise_cons.1 p2).1 y hy
            omega
      refine List.pairwise_append.2 ⟨p1, List.pairwise_cons.2 ⟨fun y hy => hd y hy, p2⟩, fun a ha b hb => ?_⟩
      have h1 := tw_lt a ha
      rcases List.mem_cons.1 hb with rfl | hb
      · exact h1
      · have := hd b hb
        omega
theorem insT_mem {least : Int} {out : Tags} {x y : Nat × List UInt8} (h : y ∈ insT least out x) : y ∈ out ∨ (y = x ∧ least ≤ x.1) := by
  unfold insT at h
  split at h
  · exact .inl h
  · rename_i hl
    split at h
    · exact .inl h
    · rcases List.mem_append.1 h with h | h
      · exact .inl (List.mem_of_mem_take h)
      · rcases List.mem_cons.1 h with h | h
        · exact .inr ⟨h, by omega⟩
        · exact .inl (List.mem_of_mem_drop h)
theorem fold_sorted (least : Int) : ∀ (l out : Tags), Srt out → Srt (l.foldl (insT least) out)
  | [], _, h => h
  | x :: r, out, h => fold_sorted least r _ (insT_sorted h)
theorem fold_mem (least : Int) : ∀ (l out : Tags) (y : Nat × List UInt8), y ∈ l.foldl (insT least) out → y ∈ out ∨ (y ∈ l ∧ least ≤ y.1)
  | [], _, y, h => .inl h
  | x :: r, out, y, h => by
    rcases fold_mem least r _ y h with h | ⟨h1, h2⟩
    · rcases insT_mem h with h | ⟨rfl, h⟩
      · exact .inl h
      · exact .inr ⟨by simp, h⟩
    · exact .inr ⟨by simp [h1], h2⟩
theorem unkn_sorted (least : Int) (l : Tags) : Srt (unkn least l) := fold_sorted least _ [] List.Pairwise.nil
theorem unkn_mem {least : Int} {l : Tags} {y : Nat × List UInt8} (h : y ∈ unkn least l) : y ∈ l ∧ least ≤ y.1 := by
  rcases fold_mem least _ [] y h with h | ⟨h1, h2⟩
  · simp at h
  · exact ⟨List.mem_of_mem_take h1, h2⟩
theorem pre_all {out : Tags} {k : Nat} (h : ∀ y ∈ out, y.1 < k) : pre out k = out.length := pre_eq (Nat.le_refl _) (fun q hq _ => h _ (List.getElem_mem hq)) (fun h => absurd h (by omega))
theorem fold_id (least : Int) : ∀ (l out : Tags), Srt (out ++ l) → (∀ y ∈ l, least ≤ (y.1 : Int)) → l.foldl (insT least) out = out ++ l
  | [], out, _, _ => by simp
  | x :: r, out, h, hl => by
    have h1 : ∀ y ∈ out, y.1 < x.1 := fun y hy => (List.pairwise_append.1 h).2.2 y hy x (by simp)
    have hp := pre_all h1
    have h2 : insT least out x = out ++ [x] := by
      rw [insT_put (i := out.length) (by have := hl x (by simp); omega) hp (fun h => absurd h (by omega))]
      simp
    rw [List.foldl_cons, h2, fold_id least r (out ++ [x]) (by simpa using h) (fun y hy => hl y (by simp [hy]))]
    simp
theorem unkn_id {least : Int} {l : Tags} (h : Srt l) (hl : ∀ y ∈ l, least ≤ (y.1 : Int)) (hn : l.length ≤ 32767) : unkn least l = l := by
  unfold unkn
  rw [List.take_of_length_le hn]
  simpa using fold_id least l [] (by simpa using h) hl
theorem srt_cut {l : Tags} (h : Srt l) : Srt (l.map cut) := List.pairwise_map.2 h
theorem cut_cut (l : Tags) : (l.map cut).map cut = l.map cut := by
  rw [List.map_map]
  congr 1
  funext y
  simp [cut, List.take_take]
theorem unkn_fit (least : Int) (u : Tags) : (unkn least ((unkn least u).map cut)).map cut = (unkn least u).map cut := by
  rw [unkn_id (srt_cut (unkn_sorted least u)) (fun y hy => by
    obtain ⟨z, hz, rfl⟩ := List.mem_map.1 hy
    exact (unkn_mem hz).2) (by rw [List.length_map]; exact unkn_le least u), cut_cut]
/-! ### flat schemas -/
def flatF (f : Fld) : Bool := decide (f.tag < 0) && decide (f.kind ≠ 10) && decide (f.kind ≠ 11) && decide (f.of_ ≠ 11)
theorem flatF.all {f : Fld} (h : flatF f = true) : f.tag < 0 ∧ f.kind ≠ 10 ∧ f.kind ≠ 11 ∧ f.of_ ≠ 11 := by
  simp only [flatF, Bool.and_eq_true, decide_eq_true_eq] at h
  exact ⟨h.1.1.1, h.1.1.2, h.1.2, h.2⟩
theorem known_neg : ∀ (n : Nat) (l : List Fld), l.length = n → (∀ g ∈ l, g.tag < 0) → known l = 0
  | 0, l, hn, _ => by
    have := List.eq_nil_of_length_eq_zero hn
    subst this
    rfl
  | n + 1, l, hn, h => by
    have hne : l ≠ [] := by intro e; subst e; simp at hn
    have e := List.dropLast_concat_getLast hne
    rw [← e, known_snoc, if_neg (by have := h _ (List.getLast_mem hne); omega)]
    exact known_neg n _ (by simp [hn]) fun g hg => h g (List.dropLast_subset _ hg)
theorem known_flat {fs : List Fld} (h : ∀ f ∈ fs, flatF f = true) : known fs = 0 := known_neg _ fs rfl fun g hg => (flatF.all (h g hg)).1
theorem fitL_at : ∀ (fs : List Fld) (v : Int) (x : Tre) (i j : Nat) (hj : j < fs.length), (fitL fs v x i)[j]? = some (fitF fs[j] v (x.at_ (i + j)))
  | f :: r, v, x, i, 0, hj => by simp [fitL]
  | f :: r, v, x, i, j + 1, hj => by
    have := fitL_at r v x (i + 1) j (by simpa using hj)
    simp only [fitL, List.getElem?_cons_succ, List.getElem_cons_succ]
    rw [this, show i + 1 + j = i + (j + 1) by omega]
theorem fitT_at (fs : List Fld) (v : Int) (x : Tre) (j : Nat) (hj : j < fs.length) : (fitT fs v x).at_ j = fitF fs[j] v (x.at_ j) := by
  have := fitL_at fs v x 0 j hj
  rw [Nat.zero_add] at this
  simp [fitT, Tre.at_, Tre.l, this]
theorem fitF_flat {f : Fld} {v : Int} {y : Tre} (h : flatF f = true) : fitF f v y = if f.kind = 8 ∨ f.kind = 9 then .mk 0 (y.s.take 32767) (nullB f v y) [] [] else .mk y.n y.s false [] [] := by
  have h1 := flatF.all h
  rw [fitF_eq f v y h1.2.2.2]
  by_cases hk : f.kind = 8 ∨ f.kind = 9
  · rw [if_pos hk, if_pos hk]
  · rw [if_neg hk, if_neg hk, if_neg h1.2.1, if_neg h1.2.2.1]
theorem fieldB_flat {f : Fld} {v : Int} {fl : Bool} {y : Tre} (h : flatF f = true) : fieldB f v fl y = scalarB f.kind (nullB f v y) fl y := by
  have h := flatF.all h
  rw [fieldB_eq, if_neg h.2.2.1, if_neg (fun q => h.2.1 q.1), valueB, if_neg h.2.1]
theorem fieldB_fit {f : Fld} {v : Int} {fl : Bool} {y : Tre} (h : flatF f = true) : fieldB f v fl (fitF f v y) = fieldB f v fl y := by
  rw [fieldB_flat h, fieldB_flat h, fitF_flat h]
  by_cases hk : f.kind = 8 ∨ f.kind = 9
  · rw [if_pos hk]
    have hn : nullB f v (.mk 0 (y.s.take 32767) (nullB f v y) [] []) = nullB f v y := by
      have hb : ∀ a b c : Bool, ((a && b && c) && b && c) = (a && b && c) := by decide
      exact hb y.z (decide (f.nul ≥ 0)) (decide (v ≥ f.nul))
    rw [hn]
    simp only [scalarB, Tre.s, Tre.n, List.take_take, Nat.min_self]
    rcases hk with hk | hk <;> simp [hk]
  · rw [if_neg hk]
    simp only [not_or] at hk
    simp only [scalarB, Tre.s, Tre.n, if_neg hk.1, if_neg hk.2]
theorem plainB_congr {v : Int} {fl : Bool} {x y : Tre} : ∀ (fs : List Fld) (i : Nat), (∀ j, (hj : j < fs.length) → fieldB fs[j] v fl (x.at_ (i + j)) = fieldB fs[j] v fl (y.at_ (i + j))) → plainB fs v fl x i = plainB fs v fl y i
  | [], i, _ => rfl
  | f :: r, i, h => by
    have h0 := h 0 (by simp)
    simp only [List.getElem_cons_zero, Nat.add_zero] at h0
    rw [plainB, plainB, h0]
    congr 1
    apply plainB_congr r (i + 1)
    intro j hj
    have := h (j + 1) (by simpa using hj)
    simp only [List.getElem_cons_succ] at this
    rw [show i + 1 + j = i + (j + 1) by omega]
    exact this
theorem write_fit {fs : List Fld} (fx v : Int) (x : Tre) (h : ∀ f ∈ fs, flatF f = true) : writeB fs fx v (fitT fs v x) = writeB fs fx v x := by
  have hp : ∀ fl, plainB fs v fl (fitT fs v x) 0 = plainB fs v fl x 0 := fun fl => plainB_congr fs 0 fun j hj => by
    rw [Nat.zero_add, fitT_at fs v x j hj]
    exact fieldB_fit (h _ (List.getElem_mem hj))
  unfold writeB
  cases flexB fx v with
  | false => rw [partB_false, partB_false, hp]
  | true =>
    rw [partB_true, partB_true, hp]
    have hu : (fitT fs v x).u = (unkn (known fs) x.u).map cut := rfl
    have ht : ∀ y, TGs fs v y (known fs).toNat = [] := fun y => by rw [known_flat h]; rfl
    rw [ht, ht, hu, unkn_fit]
theorem fit_ok {fs : List Fld} (v : Int) (x : Tre) (h : ∀ f ∈ fs, flatF f = true) (hk : ∀ y ∈ x.u, y.1 < 4294967296) : FitOk fs v (fitT fs v x) := by
  have hu : (fitT fs v x).u = (unkn (known fs) x.u).map cut := rfl
  refine ⟨fun i hi => ?_, by rw [hu]; exact unkn_fit _ _, by rw [hu]; exact srt_cut (unkn_sorted _ _), fun y hy => ?_, by rw [hu, List.length_map]; exact unkn_le _ _⟩
  · have hf := h _ (List.getElem_mem hi)
    rw [fitT_at fs v x i hi, fitF_flat hf]
    by_cases hk : fs[i].kind = 8 ∨ fs[i].kind = 9
    · rw [if_pos hk]
      refine ⟨fun _ => by simp only [Tre.s, List.length_take]; omega, fun hz => ?_⟩
      simp only [Tre.z, nullB, Bool.and_eq_true, decide_eq_true_eq] at hz
      exact ⟨hz.1.2, hz.2⟩
    · rw [if_neg hk]
      exact ⟨fun q => absurd q hk, fun hz => by simp [Tre.z] at hz⟩
  · rw [hu] at hy
    obtain ⟨z, hz, rfl⟩ := List.mem_map.1 hy
    exact ⟨hk z (unkn_mem hz).1, by simp only [cut, List.length_take]; omega⟩
theorem keys_nodup {l : Tags} (h : Srt l) : (l.map (·.1)).Nodup := List.pairwise_map.2 (h.imp fun h => Nat.ne_of_lt h)
/-! ### how long it is -/
theorem scalarB_le (k : Int) (null fl : Bool) (y : Tre) : (scalarB k null fl y).length ≤ 32800 := by
  unfold scalarB
  have hc : ∀ (q : List UInt8) (sz : Nat), sz ≤ 8 → q.length ≤ 32767 → (counted fl null q.length sz ++ q).length ≤ 32800 := fun q sz h1 h2 => by
    have := counted_le fl null q.length sz (by omega) h1
    rw [List.length_append]
    omega
  have hl : (if null = true then [] else y.s.take 32767).length ≤ 32767 := by
    cases null
    · simp only [Bool.false_eq_true, if_false, List.length_take]; omega
    · simp
  split
  · simp
  · split
    · rw [uuid_len]; omega
    · split
      · exact hc _ 2 (by omega) hl
      · split
        · exact hc _ 4 (by omega) hl
        · rw [fixed_length]
          have := widthN_le k
          omega
theorem plainB_le {v : Int} {fl : Bool} {x : Tre} : ∀ (fs : List Fld) (i : Nat), (∀ f ∈ fs, flatF f = true) → (plainB fs v fl x i).length ≤ fs.length * 32800
  | [], _, _ => by simp [plainB]
  | f :: r, i, h => by
    have ih := plainB_le (v := v) (fl := fl) (x := x) r (i + 1) fun g hg => h g (by simp [hg])
    have h1 : (fieldB f v fl (x.at_ i)).length ≤ 32800 := by rw [fieldB_flat (h f (by simp))]; exact scalarB_le _ _ _ _
    rw [plainB, List.length_append, List.length_cons]
    split
    · omega
    · simp only [List.length_nil]; omega
theorem tags_le : ∀ (l : Tags), (∀ y ∈ l, y.1 < 4294967296 ∧ y.2.length ≤ 32767) → (l.flatMap tagB).length ≤ l.length * 32800
  | [], _ => by simp
  | y :: r, h => by
    have ih := tags_le r fun z hz => h z (by simp [hz])
    have h0 := h y (by simp)
    have h1 := uvar_length_le y.1 9 (by omega)
    have h2 := uvar_length_le y.2.length 9 (by omega)
    simp only [List.flatMap_cons, tagB, List.length_append, List.length_cons]
    omega
theorem write_le {fs : List Fld} (fx v : Int) (x : Tre) (h : ∀ f ∈ fs, flatF f = true) (hk : ∀ y ∈ x.u, y.1 < 4294967296) (hn : fs.length ≤ 1000) : (writeB fs fx v x).length < 1099511627776 := by
  unfold writeB
  have hp : ∀ fl, (plainB fs v fl x 0).length ≤ 32800000 := fun fl => by have := plainB_le (v := v) (fl := fl) (x := x) fs 0 h; omega
  cases flexB fx v with
  | false => rw [partB_false]; have := hp false; omega
  | true =>
    rw [partB_true]
    have ht : TGs fs v x (known fs).toNat = [] := by rw [known_flat h]; rfl
    have h1 := tags_le ((unkn (known fs) x.u).map cut) fun y hy => by
      obtain ⟨z, hz, rfl⟩ := List.mem_map.1 hy
      exact ⟨hk z (unkn_mem hz).1, by simp only [cut, List.length_take]; omega⟩
    have h2 := unkn_le (known fs) x.u
    have h3 := hp true
    rw [List.length_map] at h1
    have h4 := uvar_length_le (unkn (known fs) x.u).length 9 (by omega)
    simp only [ht, List.nil_append, List.length_append, List.length_map]
    omega
end K
end Go.Proofs.YtepbicjadambbabGreatDoor
