import Derived.Test.YtjjfpdofkdolnaaDoorG4
set_option linter.unusedVariables false
set_option linter.unusedSimpArgs false
namespace Go.Proofs.YtjjfpdofkdolnaaDoor
namespace K
open Go Go.Lib
/-! ### unknown tags: sorted, each once -/
theorem tw_split (out : Tags) (k : Nat) : out.take (pre out k) = out.takeWhile (fun y => decide (y.1 < k)) ∧ out.drop (pre out k) = out.dropWhile (fun y => decide (y.1 < k)) := by
  unfold pre
  have h := List.takeWhile_append_dropWhile (p := fun y : Nat × List UInt8 => decide (y.1 < k)) (l := out)
  generalize out.takeWhile (fun y => decide (y.1 < k)) = a at *
  generalize out.dropWhile (fun y => decide (y.1 < k)) = b at *
  subst h
  exact ⟨List.take_left, List.drop_left⟩
theorem tw_mem {p : (Nat × List UInt8) → Bool} : ∀ (l : Tags), ∀ y ∈ l.takeWhile p, p y = true
  | [], y, h => by simp at h
  | z :: r, y, h => by
    rw [List.takeWhile_cons] at h
    split at h
    · rename_i hz
      rcases List.mem_cons.1 h with rfl | h
      · exact hz
      · exact tw_mem r y h
    · simp at h
theorem tw_lt {out : Tags} {k : Nat} : ∀ y ∈ out.take (pre out k), y.1 < k := fun y hy => by
  rw [(tw_split out k).1] at hy
  simpa using tw_mem _ y hy
theorem dw_head {k : Nat} : ∀ (out : Tags), ∀ y, (out.dropWhile (fun y => decide (y.1 < k))).head? = some y → ¬ y.1 < k
  | [], y, h => by simp at h
  | z :: r, y, h => by
    rw [List.dropWhile_cons] at h
    split at h
    · exact dw_head r y h
    · rename_i hz
      simp only [List.head?_cons, Option.some.injEq] at h
      subst h
      simpa using hz
abbrev Srt (l : Tags) : Prop := l.Pairwise (fun x y => x.1 < y.1)
theorem insT_sorted {least : Int} {out : Tags} {x : Nat × List UInt8} (h : Srt out) : Srt (insT least out x) := by
  unfold insT
  split
  · exact h
  · split
    · exact h
    · rename_i hne
      have hs : Srt (out.take (pre out x.1) ++ out.drop (pre out x.1)) := by rw [List.take_append_drop]; exact h
      obtain ⟨p1, p2, p3⟩ := List.pairwise_append.1 hs
      have hd : ∀ y ∈ out.drop (pre out x.1), x.1 < y.1 := by
        intro y hy
        have hh : ∀ z, (out.drop (pre out x.1)).head? = some z → x.1 < z.1 := fun z hz => by
          have h1 := dw_head out z (by rw [← (tw_split out x.1).2]; exact hz)
          have h2 : z.1 ≠ x.1 := by
            intro he
            rw [List.head?_drop] at hz
            rw [hz] at hne
            exact hne (by simp [he])
          omega
        cases hc : out.drop (pre out x.1) with
        | nil => rw [hc] at hy; simp at hy
        | cons z r =>
          rw [hc] at hy p2
          have hz := hh z (by rw [hc]; rfl)
          rcases List.mem_cons.1 hy with rfl | hy
          · exact hz
          · have := (List.pairwise_cons.1 p2).1 y hy
            omega
      refine List.pairwise_append.2 ⟨p1, List.pairwise_cons.2 ⟨fun y hy => hd y hy, p2⟩, fun a ha b hb => ?_⟩
      have h1 := tw_lt a ha
      rcases List.mem_cons.1 hb with rfl | hb
      · exact h1
      · have := hd b hb
        omega
theorem insT_mem {least : Int} {out : Tags} {x y : Nat × List UInt8} (h : y ∈ insT least out x) : y ∈ out ∨ (y = x ∧ least ≤ x.1) := by
  unfold insT at h
  split at h
  · exact .inl h
  · rename_i hl
    split at h
    · exact .inl h
    · rcases List.mem_append.1 h with h | h
      · exact .inl (List.mem_of_mem_take h)
      · rcases List.mem_cons.1 h with h | h
        · exact .inr ⟨h, by omega⟩
        · exact .inl (List.mem_of_mem_drop h)
theorem fold_sorted (least : Int) : ∀ (l out : Tags), Srt out → Srt (l.foldl (insT least) out)
  | [], _, h => h
  | x :: r, out, h => fold_sorted least r _ (insT_sorted h)
theorem fold_mem (least : Int) : ∀ (l out : Tags) (y : Nat × List UInt8), y ∈ l.foldl (insT least) out → y ∈ out ∨ (y ∈ l ∧ least ≤ y.1)
  | [], _, y, h => .inl h
  | x :: r, out, y, h => by
    rcases fold_mem least r _ y h with h | ⟨h1, h2⟩
    · rcases insT_mem h with h | ⟨rfl, h⟩
      · exact .inl h
      · exact .inr ⟨by simp, h⟩
    · exact .inr ⟨by simp [h1], h2⟩
theorem unkn_sorted (least : Int) (l : Tags) : Srt (unkn least l) := fold_sorted least _ [] List.Pairwise.nil
theorem unkn_mem {least : Int} {l : Tags} {y : Nat × List UInt8} (h : y ∈ unkn least l) : y ∈ l ∧ least ≤ y.1 := by
  rcases fold_mem least _ [] y h with h | ⟨h1, h2⟩
  · simp at h
  · exact ⟨List.mem_of_mem_take h1, h2⟩
theorem pre_all {out : Tags} {k : Nat} (h : ∀ y ∈ out, y.1 < k) : pre out k = out.length := pre_eq (Nat.le_refl _) (fun q hq _ => h _ (List.getElem_mem hq)) (fun h => absurd h (by omega))
theorem fold_id (least : Int) : ∀ (l out : Tags), Srt (out ++ l) → (∀ y ∈ l, least ≤ (y.1 : Int)) → l.foldl (insT least) out = out ++ l
  | [], out, _, _ => by simp
  | x :: r, out, h, hl => by
    have h1 : ∀ y ∈ out, y.1 < x.1 := fun y hy => (List.pairwise_append.1 h).2.2 y hy x (by simp)
    have hp := pre_all h1
    have h2 : insT least out x = out ++ [x] := by
      rw [insT_put (i := out.length) (by have := hl x (by simp); omega) hp (fun h => absurd h (by omega))]
      simp
    rw [List.foldl_cons, h2, fold_id least r (out ++ [x]) (by simpa using h) (fun y hy => hl y (by simp [hy]))]
    simp
theorem unkn_id {least : Int} {l : Tags} (h : Srt l) (hl : ∀ y ∈ l, least ≤ (y.1 : Int)) (hn : l.length ≤ 32767) : unkn least l = l := by
  unfold unkn
  rw [List.take_of_length_le hn]
  simpa using fold_id least l [] (by simpa using h) hl
theorem srt_cut {l : Tags} (h : Srt l) : Srt (l.map cut) := List.pairwise_map.2 h
theorem cut_cut (l : Tags) : (l.map cut).map cut = l.map cut := by
  rw [List.map_map]
  congr 1
  funext y
  simp [cut, List.take_take]
theorem unkn_fit (least : Int) (u : Tags) : (unkn least ((unkn least u).map cut)).map cut = (unkn least u).map cut := by
  rw [unkn_id (srt_cut (unkn_sorted least u)) (fun y hy => by
    obtain ⟨z, hz, rfl⟩ := List.mem_map.1 hy
    exact (unkn_mem hz).2) (by rw [List.length_map]; exact unkn_le least u), cut_cut]
/-! ### flat schemas -/
def flatF (f : Fld) : Bool := decide (f.tag < 0) && decide (f.kind ≠ 10) && decide (f.kind ≠ 11) && decide (f.of_ ≠ 11)
theorem flatF.all {f : Fld} (h : flatF f = true) : f.tag < 0 ∧ f.kind ≠ 10 ∧ f.kind ≠ 11 ∧ f.of_ ≠ 11 := by
  simp only [flatF, Bool.and_eq_true, decide_eq_true_eq] at h
  exact ⟨h.1.1.1, h.1.1.2, h.1.2, h.2⟩
theorem known_neg : ∀ (n : Nat) (l : List Fld), l.length = n → (∀ g ∈ l, g.tag < 0) → known l = 0
  | 0, l, hn, _ => by
    have := List.eq_nil_of_length_eq_zero hn
    subst this
    rfl
  | n + 1, l, hn, h => by
    have hne : l ≠ [] := by intro e; subst e; simp at hn
    have e := List.dropLast_concat_getLast hne
    rw [← e, known_snoc, if_neg (by have := h _ (List.getLast_mem hne); omega)]
    exact known_neg n _ (by simp [hn]) fun g hg => h g (List.dropLast_subset _ hg)
theorem known_flat {fs : List Fld} (h : ∀ f ∈ fs, flatF f = true) : known fs = 0 := known_neg _ fs rfl fun g hg => (flatF.all (h g hg)).1
theorem fitL_at : ∀ (fs : List Fld) (v : Int) (x : Tre) (i j : Nat) (hj : j < fs.length), (fitL fs v x i)[j]? = some (fitF fs[j] v (x.at_ (i + j)))
  | f :: r, v, x, i, 0, hj => by simp [fitL]
  | f :: r, v, x, i, j + 1, hj => by
    have := fitL_at r v x (i + 1) j (by simpa using hj)
    simp only [fitL, List.getElem?_cons_succ, List.getElem_cons_succ]
    rw [this, show i + 1 + j = i + (j + 1) by omega]
theorem fitT_at (fs : List Fld) (v : Int) (x : Tre) (j : Nat) (hj : j < fs.length) : (fitT fs v x).at_ j = fitF fs[j] v (x.at_ j) := by
  have := fitL_at fs v x 0 j hj
  rw [Nat.zero_add] at this
  simp [fitT, Tre.at_, Tre.l, this]
theorem fitF_flat {f : Fld} {v : Int} {y : Tre} (h : flatF f = true) : fitF f v y = if f.kind = 8 ∨ f.kind = 9 then .mk 0 (y.s.take 32767) (nullB f v y) [] [] else .mk y.n y.s false [] [] := by
  have h1 := flatF.all h
  rw [fitF_eq f v y h1.2.2.2]
  by_cases hk : f.kind = 8 ∨ f.kind = 9
  · rw [if_pos hk, if_pos hk]
  · rw [if_neg hk, if_neg hk, if_neg h1.2.1, if_neg h1.2.2.1]
theorem fieldB_flat {f : Fld} {v : Int} {fl : Bool} {y : Tre} (h : flatF f = true) : fieldB f v fl y = scalarB f.kind (nullB f v y) fl y := by
  have h := flatF.all h
  rw [fieldB_eq, if_neg h.2.2.1, if_neg (fun q => h.2.1 q.1), valueB, if_neg h.2.1]
theorem fieldB_fit {f : Fld} {v : Int} {fl : Bool} {y : Tre} (h : flatF f = true) : fieldB f v fl (fitF f v y) = fieldB f v fl y := by
  rw [fieldB_flat h, fieldB_flat h, fitF_flat h]
  by_cases hk : f.kind = 8 ∨ f.kind = 9
  · rw [if_pos hk]
    have hn : nullB f v (.mk 0 (y.s.take 32767) (nullB f v y) [] []) = nullB f v y := by
      have hb : ∀ a b c : Bool, ((a && b && c) && b && c) = (a && b && c) := by decide
      exact hb y.z (decide (f.nul ≥ 0)) (decide (v ≥ f.nul))
    rw [hn]
    simp only [scalarB, Tre.s, Tre.n, List.take_take, Nat.min_self]
    rcases hk with hk | hk <;> simp [hk]
  · rw [if_neg hk]
    simp only [not_or] at hk
    simp only [scalarB, Tre.s, Tre.n, if_neg hk.1, if_neg hk.2]
theorem plainB_congr {v : Int} {fl : Bool} {x y : Tre} : ∀ (fs : List Fld) (i : Nat), (∀ j, (hj : j < fs.length) → fieldB fs[j] v fl (x.at_ (i + j)) = fieldB fs[j] v fl (y.at_ (i + j))) → plainB fs v fl x i = plainB fs v fl y i
  | [], i, _ => rfl
  | f :: r, i, h => by
    have h0 := h 0 (by simp)
    simp only [List.getElem_cons_zero, Nat.add_zero] at h0
    rw [plainB, plainB, h0]
    congr 1
    apply plainB_congr r (i + 1)
    intro j hj
    have := h (j + 1) (by simpa using hj)
    simp only [List.getElem_cons_succ] at this
    rw [show i + 1 + j = i + (j + 1) by omega]
    exact this
theorem write_fit {fs : List Fld} (fx v : Int) (x : Tre) (h : ∀ f ∈ fs, flatF f = true) : writeB fs fx v (fitT fs v x) = writeB fs fx v x := by
  have hp : ∀ fl, plainB fs v fl (fitT fs v x) 0 = plainB fs v fl x 0 := fun fl => plainB_congr fs 0 fun j hj => by
    rw [Nat.zero_add, fitT_at fs v x j hj]
    exact fieldB_fit (h _ (List.getElem_mem hj))
  unfold writeB
  cases flexB fx v with
  | false => rw [partB_false, partB_false, hp]
  | true =>
    rw [partB_true, partB_true, hp]
    have hu : (fitT fs v x).u = (unkn (known fs) x.u).map cut := rfl
    have ht : ∀ y, TGs fs v y (known fs).toNat = [] := fun y => by rw [known_flat h]; rfl
    rw [ht, ht, hu, unkn_fit]
theorem fit_ok {fs : List Fld} (v : Int) (x : Tre) (h : ∀ f ∈ fs, flatF f = true) (hk : ∀ y ∈ x.u, y.1 < 4294967296) : FitOk fs v (fitT fs v x) := by
  have hu : (fitT fs v x).u = (unkn (known fs) x.u).map cut := rfl
  refine ⟨fun i hi => ?_, by rw [hu]; exact unkn_fit _ _, by rw [hu]; exact srt_cut (unkn_sorted _ _), fun y hy => ?_, by rw [hu, List.length_map]; exact unkn_le _ _⟩
  · have hf := h _ (List.getElem_mem hi)
    rw [fitT_at fs v x i hi, fitF_flat hf]
    by_cases hk : fs[i].kind = 8 ∨ fs[i].kind = 9
    · rw [if_pos hk]
      refine ⟨fun _ => by simp only [Tre.s, List.length_take]; omega, fun hz => ?_⟩
      simp only [Tre.z, nullB, Bool.and_eq_true, decide_eq_true_eq] at hz
      exact ⟨hz.1.2, hz.2⟩
    · rw [if_neg hk]
      exact ⟨fun q => absurd q hk, fun hz => by simp [Tre.z] at hz⟩
  · rw [hu] at hy
    obtain ⟨z, hz, rfl⟩ := List.mem_map.1 hy
    exact ⟨hk z (unkn_mem hz).1, by simp only [cut, List.length_take]; omega⟩
theorem keys_nodup {l : Tags} (h : Srt l) : (l.map (·.1)).Nodup := List.pairwise_map.2 (h.imp fun h => Nat.ne_of_lt h)
/-! ### how long it is -/
theorem scalarB_le (k : Int) (null fl : Bool) (y : Tre) : (scalarB k null fl y).length ≤ 32800 := by
  unfold scalarB
  have hc : ∀ (q : List UInt8) (sz : Nat), sz ≤ 8 → q.length ≤ 32767 → (counted fl null q.length sz ++ q).length ≤ 32800 := fun q sz h1 h2 => by
    have := counted_le fl null q.length sz (by omega) h1
    rw [List.length_append]
    omega
  have hl : (if null = true then [] else y.s.take 32767).length ≤ 32767 := by
    cases null
    · simp only [Bool.false_eq_true, if_false, List.length_take]; omega
    · simp
  split
  · simp
  · split
    · rw [uuid_len]; omega
    · split
      · exact hc _ 2 (by omega) hl
      · split
        · exact hc _ 4 (by omega) hl
        · rw [fixed_length]
          have := widthN_le k
          omega
theorem plainB_le {v : Int} {fl : Bool} {x : Tre} : ∀ (fs : List Fld) (i : Nat), (∀ f ∈ fs, flatF f = true) → (plainB fs v fl x i).length ≤ fs.length * 32800
  | [], _, _ => by simp [plainB]
  | f :: r, i, h => by
    have ih := plainB_le (v := v) (fl := fl) (x := x) r (i + 1) fun g hg => h g (by simp [hg])
    have h1 : (fieldB f v fl (x.at_ i)).length ≤ 32800 := by rw [fieldB_flat (h f (by simp))]; exact scalarB_le _ _ _ _
    rw [plainB, List.length_append, List.length_cons]
    split
    · omega
    · simp only [List.length_nil]; omega
theorem tags_le : ∀ (l : Tags), (∀ y ∈ l, y.1 < 4294967296 ∧ y.2.length ≤ 32767) → (l.flatMap tagB).length ≤ l.length * 32800
  | [], _ => by simp
  | y :: r, h => by
    have ih := tags_le r fun z hz => h z (by simp [hz])
    have h0 := h y (by simp)
    have h1 := uvar_length_le y.1 9 (by omega)
    have h2 := uvar_length_le y.2.length 9 (by omega)
    simp only [List.flatMap_cons, tagB, List.length_append, List.length_cons]
    omega
theorem write_le {fs : List Fld} (fx v : Int) (x : Tre) (h : ∀ f ∈ fs, flatF f = true) (hk : ∀ y ∈ x.u, y.1 < 4294967296) (hn : fs.length ≤ 1000) : (writeB fs fx v x).length < 1099511627776 := by
  unfold writeB
  have hp : ∀ fl, (plainB fs v fl x 0).length ≤ 32800000 := fun fl => by have := plainB_le (v := v) (fl := fl) (x := x) fs 0 h; omega
  cases flexB fx v with
  | false => rw [partB_false]; have := hp false; omega
  | true =>
    rw [partB_true]
    have ht : TGs fs v x (known fs).toNat = [] := by rw [known_flat h]; rfl
    have h1 := tags_le ((unkn (known fs) x.u).map cut) fun y hy => by
      obtain ⟨z, hz, rfl⟩ := List.mem_map.1 hy
      exact ⟨hk z (unkn_mem hz).1, by simp only [cut, List.length_take]; omega⟩
    have h2 := unkn_le (known fs) x.u
    have h3 := hp true
    rw [List.length_map] at h1
    have h4 := uvar_length_le (unkn (known fs) x.u).length 9 (by omega)
    simp only [ht, List.nil_append, List.length_append, List.length_map]
    omega
end K
end Go.Proofs.YtjjfpdofkdolnaaDoor
namespace Go.Proofs.YtjjfpdofkdolnaaDoor
namespace K
open Go Go.Lib
theorem tn {n : Int} {s : List UInt8} {z : Bool} {l : List Tre} {u : List (Nat × List UInt8)} : (Tre.mk n s z l u).n = n := rfl
theorem ts {n : Int} {s : List UInt8} {z : Bool} {l : List Tre} {u : List (Nat × List UInt8)} : (Tre.mk n s z l u).s = s := rfl
theorem tz {n : Int} {s : List UInt8} {z : Bool} {l : List Tre} {u : List (Nat × List UInt8)} : (Tre.mk n s z l u).z = z := rfl
theorem tl {n : Int} {s : List UInt8} {z : Bool} {l : List Tre} {u : List (Nat × List UInt8)} : (Tre.mk n s z l u).l = l := rfl
theorem tu {n : Int} {s : List UInt8} {z : Bool} {l : List Tre} {u : List (Nat × List UInt8)} : (Tre.mk n s z l u).u = u := rfl
/-! ### what can be set: it is written as it stands -/
def okU (kn : Int) (q : Bool) (u : Tags) : Prop := q = true → (unkn kn u).map cut = u ∧ Srt u ∧ (∀ y ∈ u, y.1 < 4294967296 ∧ y.2.length ≤ 32767) ∧ u.length ≤ 32767
def okS (k nul v : Int) (y : Tre) : Prop := k = 8 ∨ k = 9 → y.s.length ≤ 32767 ∧ (y.z = true → nul ≥ 0 ∧ v ≥ nul)
mutual
def okV : Fld → Int → Bool → Tre → Prop
  | .mk k _ _ nul _ _ o sub, v, q, y =>
    if k = 11 then y.l.length ≤ 32767 ∧ (y.z = true → (nul ≥ 0 ∧ v ≥ nul) ∨ y.l = []) ∧ ∀ i, (hi : i < y.l.length) → if o = 10 then okFl sub v q y.l[i] 0 ∧ okU (known sub) q y.l[i].u else okS o (-1) v y.l[i]
    else if k = 10 then (nul ≥ 0 → y.z = true → v ≥ nul) ∧ (nul < 0 ∨ y.z = false → okFl sub v q y 0 ∧ okU (known sub) q y.u)
    else okS k nul v y
def okFl : List Fld → Int → Bool → Tre → Nat → Prop
  | [], _, _, _, _ => True
  | f :: r, v, q, y, i => ((if f.tag < 0 then hasB f v = true else q = true) → okV f v q (y.at_ i)) ∧ okFl r v q y (i + 1)
end
def okP (fs : List Fld) (v : Int) (q : Bool) (y : Tre) : Prop := okFl fs v q y 0 ∧ okU (known fs) q y.u
mutual
def keysT : Tre → Prop
  | .mk _ _ _ l u => (∀ y ∈ u, y.1 < 4294967296) ∧ keysTs l
def keysTs : List Tre → Prop
  | [] => True
  | x :: r => keysT x ∧ keysTs r
end
theorem keysTs.mem : ∀ {l : List Tre}, keysTs l → ∀ x ∈ l, keysT x
  | [], _, f, h => by simp at h
  | g :: r, h, f, hf => by
    simp only [keysTs] at h
    rcases List.mem_cons.1 hf with rfl | hf
    · exact h.1
    · exact keysTs.mem h.2 f hf
theorem keysT.open {x : Tre} (h : keysT x) : (∀ y ∈ x.u, y.1 < 4294967296) ∧ keysTs x.l := by
  cases x
  simpa only [keysT, Tre.l, Tre.u] using h
theorem keysT.nul : keysT .nul := by simp [Tre.nul, keysT, keysTs]
theorem keysT.at_ {x : Tre} (h : keysT x) (i : Nat) : keysT (x.at_ i) := by
  unfold Tre.at_
  by_cases hi : i < x.l.length
  · rw [List.getElem?_eq_getElem hi]
    exact keysTs.mem h.open.2 _ (List.getElem_mem hi)
  · rw [List.getElem?_eq_none (by omega)]
    exact keysT.nul
theorem RUs.keys {s : Vw} : ∀ {u : Tags} {cs : List Value}, RUs s u cs → ∀ y ∈ u, y.1 < 4294967296
  | [], _, _, y, hy => by simp at hy
  | (k, b) :: r, cs, ⟨v, c', h1, h2, h3, h4⟩, y, hy => by
    rcases List.mem_cons.1 hy with rfl | hy
    · exact h2
    · exact RUs.keys h4 y hy
mutual
theorem RT.keys {s : Vw} : ∀ {x : Tre} {cs : List Value}, RT s x cs → keysT x
  | .mk n b z l u, cs, h => by
    simp only [RT] at h
    obtain ⟨sS, sL, sU, _, _, _, ⟨lc, _, h5⟩, ⟨uc, _, h7⟩⟩ := h
    simp only [keysT]
    exact ⟨RUs.keys h7, RTs.keys h5⟩
theorem RTs.keys {s : Vw} : ∀ {l : List Tre} {cs : List Value}, RTs s l cs → keysTs l
  | [], cs, h => by simp [keysTs]
  | x :: r, cs, h => by
    simp only [RTs] at h
    obtain ⟨c, c', _, h2, h3⟩ := h
    simp only [keysTs]
    exact ⟨RT.keys h2, RTs.keys h3⟩
end
theorem okU_fit (kn : Int) (q : Bool) (u : Tags) (hk : ∀ y ∈ u, y.1 < 4294967296) : okU kn q ((unkn kn u).map cut) := fun _ => by
  refine ⟨unkn_fit _ _, srt_cut (unkn_sorted _ _), fun y hy => ?_, by rw [List.length_map]; exact unkn_le _ _⟩
  obtain ⟨z, hz, rfl⟩ := List.mem_map.1 hy
  exact ⟨hk z (unkn_mem hz).1, by simp only [cut, List.length_take]; omega⟩
theorem nullB_mk {k a b nul tag d o : Int} {sub : List Fld} {v : Int} {t : Tre} : nullB (.mk k a b nul tag d o sub) v t = (t.z && decide (nul ≥ 0) && decide (v ≥ nul)) := rfl
theorem null_of {z : Bool} {nul v : Int} (h : (z && decide (nul ≥ 0) && decide (v ≥ nul)) = true) : nul ≥ 0 ∧ v ≥ nul := by
  simp only [Bool.and_eq_true, decide_eq_true_eq] at h
  exact ⟨h.1.2, h.2⟩
theorem fitT_at' (sub : List Fld) (v : Int) (y : Tre) (z : Bool) (u : Tags) (j : Nat) (hj : j < sub.length) : (Tre.mk 0 [] z (fitL sub v y 0) u).at_ j = fitF sub[j] v (y.at_ j) := by
  have := fitL_at sub v y 0 j hj
  rw [Nat.zero_add] at this
  simp [Tre.at_, tl, this]
mutual
theorem okV_fit : ∀ (f : Fld) (v : Int) (q : Bool) (x : Tre), ofOk f = true → keysT x → okV f v q (fitF f v x)
  | .mk k a b nul tag d o sub, v, q, x, ho, hk => by
    simp only [ofOk, Bool.and_eq_true, decide_eq_true_eq] at ho
    by_cases h89 : k = 8 ∨ k = 9
    · have h10 : k ≠ 10 := by omega
      have h11 : k ≠ 11 := by omega
      simp only [okV, fitF, if_pos h89, if_neg h10, if_neg h11]
      intro _
      refine ⟨by simp only [ts, List.length_take]; omega, fun hz => null_of hz⟩
    · by_cases h10 : k = 10
      · subst h10
        have h11 : (10 : Int) ≠ 11 := by decide
        simp only [okV, fitF, if_neg h89, if_neg h11, if_true]
        refine ⟨fun _ hz => (null_of hz).2, fun _ => ⟨okFl_fit sub v q x (.mk 0 [] _ (fitL sub v x 0) _) 0 ho.2 hk (fun j hj => by rw [Nat.zero_add]; exact fitT_at' sub v x _ _ j hj), okU_fit _ _ _ hk.open.1⟩⟩
      · by_cases h11 : k = 11
        · subst h11
          simp only [okV, fitF, if_neg h89, if_neg h10, if_true, tl, tz, List.length_map]
          refine ⟨by rw [List.length_take]; omega, fun hz => ?_, fun i hi => ?_⟩
          · rw [Bool.or_eq_true] at hz
            rcases hz with hz | hz
            · exact .inl (null_of hz)
            · simp only [Bool.and_eq_true, decide_eq_true_eq] at hz
              exact .inr (by rw [List.eq_nil_of_length_eq_zero hz.2]; rfl)
          · have hkx : keysT (x.l.take 32767)[i] := keysTs.mem hk.open.2 _ (List.mem_of_mem_take (List.getElem_mem hi))
            rw [List.getElem_map]
            generalize (x.l.take 32767)[i] = y at *
            by_cases ho10 : o = 10
            · subst ho10
              have h8 : ¬ ((10 : Int) = 8 ∨ (10 : Int) = 9) := by decide
              simp only [if_true, if_neg h8]
              exact ⟨okFl_fit sub v q y (.mk 0 [] _ (fitL sub v y 0) _) 0 ho.2 hkx (fun j hj => by rw [Nat.zero_add]; exact fitT_at' sub v y _ _ j hj), okU_fit _ _ _ hkx.open.1⟩
            · simp only [if_neg ho10]
              by_cases ho8 : o = 8 ∨ o = 9
              · rw [if_pos ho8]
                exact fun _ => ⟨by simp only [ts, List.length_take]; omega, fun hz => by simp [tz] at hz⟩
              · exact fun h => absurd h ho8
        · simp only [okV, fitF, if_neg h89, if_neg h10, if_neg h11]
          exact fun h => absurd h h89
theorem okFl_fit : ∀ (fs : List Fld) (v : Int) (q : Bool) (x Y : Tre) (i : Nat), ofOks fs = true → keysT x → (∀ j, (hj : j < fs.length) → Y.at_ (i + j) = fitF fs[j] v (x.at_ (i + j))) → okFl fs v q Y i
  | [], v, q, x, Y, i, _, _, _ => by simp [okFl]
  | f :: r, v, q, x, Y, i, ho, hk, hY => by
    simp only [ofOks, Bool.and_eq_true] at ho
    simp only [okFl]
    refine ⟨fun _ => ?_, okFl_fit r v q x Y (i + 1) ho.2 hk fun j hj => ?_⟩
    · have := hY 0 (by simp)
      simp only [List.getElem_cons_zero, Nat.add_zero] at this
      rw [this]
      exact okV_fit f v q _ ho.1 (hk.at_ i)
    · have := hY (j + 1) (by simpa using hj)
      simp only [List.getElem_cons_succ] at this
      rw [show i + 1 + j = i + (j + 1) by omega]
      exact this
end
theorem okP_fit (fs : List Fld) (v : Int) (q : Bool) (x : Tre) (ho : ofOks fs = true) (hk : keysT x) : okP fs v q (fitT fs v x) :=
  ⟨okFl_fit fs v q x _ 0 ho hk fun j hj => by rw [Nat.zero_add]; exact fitT_at fs v x j hj, okU_fit _ _ _ hk.open.1⟩
/-! ### it is written as what was asked -/
mutual
def usF (fx : Int) : Fld → Bool
  | .mk k _ _ nul _ _ _ sub => (decide (k ≠ 8 ∧ k ≠ 9) || decide (nul < 0) || decide (nul ≤ fx)) && usFs fx sub
def usFs (fx : Int) : List Fld → Bool
  | [] => true
  | f :: r => usF fx f && usFs fx r
end
mutual
def nuF (fx : Int) : Fld → Bool
  | .mk k a b nul tag d o sub => (decide (tag < 0) || (usF fx (.mk k a b nul tag d o sub) && (decide (k ≠ 11) || decide (nul < 0)))) && nuFs fx sub
def nuFs (fx : Int) : List Fld → Bool
  | [] => true
  | f :: r => nuF fx f && nuFs fx r
end
theorem fit_len {n : Nat} {s : List UInt8} : decide ((s.take 32767).length = 0) = decide (s.length = 0) := by
  rw [List.length_take]
  simp only [decide_eq_decide]
  omega
mutual
theorem usualB_fit (fx : Int) : ∀ (f : Fld) (v : Int) (x : Tre), ofOk f = true → usF fx f = true → v ≥ fx → usualB f (fitF f v x) = usualB f x
  | .mk k a b nul tag d o sub, v, x, ho, hu, hv => by
    simp only [ofOk, Bool.and_eq_true, decide_eq_true_eq] at ho
    simp only [usF, Bool.and_eq_true, Bool.or_eq_true, decide_eq_true_eq] at hu
    by_cases h89 : k = 8 ∨ k = 9
    · have h0 : k ≠ 0 := by omega
      have h7 : k ≠ 7 := by omega
      simp only [usualB, fitF, if_pos h89, if_neg h0, if_neg h7, tz, ts]
      by_cases hn : nul ≥ 0
      · have h1 : v ≥ nul := by omega
        simp [hn, h1]
      · rw [if_neg hn, if_neg hn]
        exact fit_len (n := 0)
    · by_cases h10 : k = 10
      · subst h10
        have h11 : (10 : Int) ≠ 11 := by decide
        have h0 : (10 : Int) ≠ 0 := by decide
        have h7 : (10 : Int) ≠ 7 := by decide
        simp only [usualB, fitF, if_neg h89, if_neg h11, if_neg h0, if_neg h7, if_true, tu]
        rw [usualL_fit fx sub v x (.mk 0 [] _ (fitL sub v x 0) _) 0 ho.2 hu.2 hv (fun j hj => by rw [Nat.zero_add]; exact fitT_at' sub v x _ _ j hj)]
        congr 2
        have := congrArg List.length (unkn_fit (known sub) x.u)
        rw [List.length_map, List.length_map] at this
        rw [this]
      · by_cases h11 : k = 11
        · subst h11
          have h0 : (11 : Int) ≠ 0 := by decide
          have h7 : (11 : Int) ≠ 7 := by decide
          simp only [usualB, fitF, if_neg h89, if_neg h10, if_neg h0, if_neg h7, if_true, tl, List.length_map, List.length_take]
          simp only [decide_eq_decide]
          omega
        · simp only [usualB, fitF, if_neg h89, if_neg h10, if_neg h11, tn, ts]
theorem usualL_fit (fx : Int) : ∀ (fs : List Fld) (v : Int) (x Y : Tre) (i : Nat), ofOks fs = true → usFs fx fs = true → v ≥ fx → (∀ j, (hj : j < fs.length) → Y.at_ (i + j) = fitF fs[j] v (x.at_ (i + j))) → usualL fs Y i = usualL fs x i
  | [], v, x, Y, i, _, _, _, _ => rfl
  | f :: r, v, x, Y, i, ho, hu, hv, hY => by
    simp only [ofOks, Bool.and_eq_true] at ho
    simp only [usFs, Bool.and_eq_true] at hu
    simp only [usualL]
    have h0 := hY 0 (by simp)
    simp only [List.getElem_cons_zero, Nat.add_zero] at h0
    rw [h0, usualB_fit fx f v _ ho.1 hu.1 hv, usualL_fit fx r v x Y (i + 1) ho.2 hu.2 hv fun j hj => by
      have := hY (j + 1) (by simpa using hj)
      simp only [List.getElem_cons_succ] at this
      rw [show i + 1 + j = i + (j + 1) by omega]
      exact this]
end
theorem tgB_congr {v : Int} {fl : Bool} {x y : Tre} : ∀ (fs : List Fld) (i : Nat), (∀ j, (hj : j < fs.length) → fieldB fs[j] v fl (x.at_ (i + j)) = fieldB fs[j] v fl (y.at_ (i + j)) ∧ (fs[j].tag ≥ 0 → usualB fs[j] (x.at_ (i + j)) = usualB fs[j] (y.at_ (i + j)))) → ∀ k : Nat,
    ((tgB fs v fl x i).filter fun y => decide (y.1 = (k : Int))) = ((tgB fs v fl y i).filter fun y => decide (y.1 = (k : Int)))
  | [], i, _, k => rfl
  | f :: r, i, h, k => by
    have h0 := h 0 (by simp)
    simp only [List.getElem_cons_zero, Nat.add_zero] at h0
    have ih := tgB_congr r (i + 1) (fun j hj => by
      have := h (j + 1) (by simpa using hj)
      simp only [List.getElem_cons_succ] at this
      rw [show i + 1 + j = i + (j + 1) by omega]
      exact this) k
    simp only [tgB, List.filter_append, ih]
    congr 1
    by_cases ht : f.tag ≥ 0
    · rw [h0.1, h0.2 ht]
    · have hne : ¬ f.tag = (k : Int) := by omega
      cases usualB f (x.at_ i) <;> cases usualB f (y.at_ i) <;> simp [hne]
mutual
theorem fieldB_fit' (fx : Int) : ∀ (f : Fld) (v : Int) (q : Bool) (x : Tre), ofOk f = true → nuF fx f = true → (q = true → v ≥ fx) → fieldB f v q (fitF f v x) = fieldB f v q x
  | .mk k a b nul tag d o sub, v, q, x, ho, hu, hq => by
    simp only [ofOk, Bool.and_eq_true, decide_eq_true_eq] at ho
    simp only [nuF, Bool.and_eq_true] at hu
    have hb : ∀ a b c : Bool, ((a && b && c) && b && c) = (a && b && c) := by decide
    have hsub := fun (y : Tre) => fieldsB_fit fx sub v q y ho.2 hu.2 hq
    have hpart : ∀ (y : Tre) (z : Bool), partB sub v q (.mk 0 [] z (fitL sub v y 0) ((unkn (known sub) y.u).map cut)) = partB sub v q y := fun y z => by
      have hat := fun j (hj : j < sub.length) => fitT_at' sub v y z ((unkn (known sub) y.u).map cut) j hj
      unfold partB partOf
      rw [plainB_congr (x := .mk 0 [] z (fitL sub v y 0) ((unkn (known sub) y.u).map cut)) (y := y) sub 0 (fun j hj => by rw [Nat.zero_add, hat j hj]; exact (hsub y j hj).1)]
      cases q with
      | false => simp
      | true =>
        have ht := fun k : Nat => tgB_congr (fl := true) (v := v) (x := .mk 0 [] z (fitL sub v y 0) ((unkn (known sub) y.u).map cut)) (y := y) sub 0 (fun j hj => by rw [Nat.zero_add, hat j hj]; exact ⟨(hsub y j hj).1, fun h => (hsub y j hj).2 rfl h⟩) k
        simp only [ht, tu, unkn_fit]
    by_cases h89 : k = 8 ∨ k = 9
    · have h10 : k ≠ 10 := by omega
      have h11 : k ≠ 11 := by omega
      simp only [fieldB, fitF, if_pos h89, if_neg h10, if_neg h11, tz, hb]
      rcases h89 with rfl | rfl <;> simp [scalarB, ts, List.take_take]
    · by_cases h10 : k = 10
      · subst h10
        rw [fieldB_eq, fieldB_eq]
        simp only [fitF, if_neg h89, if_true, Fld.kind, Fld.nul, Fld.sub, nullB_mk, tz, hb]
        have h11 : ¬ (10 : Int) = 11 := by decide
        rw [if_neg h11, if_neg h11]
        simp only [valueB, if_true, hpart]
        first | rfl | (by_cases hn : nul ≥ 0 <;> simp [hn])
      · by_cases h11 : k = 11
        · subst h11
          rw [fieldB_eq, fieldB_eq]
          simp only [fitF, if_neg h89, if_neg h10, if_true, Fld.kind, Fld.of_, Fld.sub, nullB_mk, tz, tl]
          by_cases hn : (x.z && decide (nul ≥ 0) && decide (v ≥ nul)) = true
          · have h2 := null_of hn
            have hz : x.z = true := by simp only [Bool.and_eq_true] at hn; exact hn.1.1
            simp [hn, h2.1, h2.2, hz]
          · have hn' : (x.z && decide (nul ≥ 0) && decide (v ≥ nul)) = false := by simpa using hn
            have hel : ∀ y : Tre, valueB o sub false v q (if o = 8 ∨ o = 9 then Tre.mk 0 (y.s.take 32767) false [] [] else if o = 10 then .mk 0 [] false (fitL sub v y 0) ((unkn (known sub) y.u).map cut) else .mk y.n y.s false [] []) = valueB o sub false v q y := fun y => by
              by_cases ho8 : o = 8 ∨ o = 9
              · rw [if_pos ho8]
                rcases ho8 with rfl | rfl <;> simp [valueB, scalarB, ts, List.take_take]
              · rw [if_neg ho8]
                by_cases ho10 : o = 10
                · subst ho10
                  simp only [if_true, valueB, hpart]
                · simp only [if_neg ho10, valueB]
                  simp only [not_or] at ho8
                  simp only [scalarB, tn, ts, if_neg ho8.1, if_neg ho8.2]
            by_cases hz : (false || (decide (tag ≥ 0) && decide (x.l.length = 0))) = true
            · simp only [Bool.false_or, Bool.and_eq_true, decide_eq_true_eq] at hz
              have hl : x.l = [] := List.eq_nil_of_length_eq_zero hz.2
              by_cases hnn : (decide (nul ≥ 0) && decide (v ≥ nul)) = true
              · simp only [Bool.and_eq_true, decide_eq_true_eq] at hnn
                have h7 := hu.1
                simp only [Bool.or_eq_true, Bool.and_eq_true, decide_eq_true_eq] at h7
                omega
              · simp only [Bool.and_eq_true, decide_eq_true_eq, not_and] at hnn
                have h9 : (decide (nul ≥ 0) && decide (v ≥ nul)) = false := by
                  by_cases h8 : nul ≥ 0
                  · simp [h8, hnn h8]
                  · simp [h8]
                simp [hn', hl, hz.1, Bool.and_assoc, h9]
            · have hz' : (false || (decide (tag ≥ 0) && decide (x.l.length = 0))) = false := by simpa using hz
              simp only [hn', hz', Bool.false_and, List.length_map, List.length_take, List.flatMap_map, Bool.false_eq_true, if_false]
              have e : ((x.l.take 32767).map fun y => if o = 8 ∨ o = 9 then Tre.mk 0 (y.s.take 32767) false [] [] else if o = 10 then .mk 0 [] false (fitL sub v y 0) ((unkn (known sub) y.u).map cut) else .mk y.n y.s false [] []).take 32767 = (x.l.take 32767).map fun y => if o = 8 ∨ o = 9 then Tre.mk 0 (y.s.take 32767) false [] [] else if o = 10 then .mk 0 [] false (fitL sub v y 0) ((unkn (known sub) y.u).map cut) else .mk y.n y.s false [] [] :=
                List.take_of_length_le (by rw [List.length_map, List.length_take]; omega)
              rw [e, List.flatMap_map]
              congr 1
              · congr 1
                omega
              · congr 1
                funext y
                exact hel y
        · simp only [fieldB, fitF, if_neg h89, if_neg h10, if_neg h11]
          simp only [not_or] at h89
          simp only [scalarB, tn, ts, if_neg h89.1, if_neg h89.2]
theorem fieldsB_fit (fx : Int) : ∀ (fs : List Fld) (v : Int) (q : Bool) (y : Tre), ofOks fs = true → nuFs fx fs = true → (q = true → v ≥ fx) → ∀ j, (hj : j < fs.length) → fieldB fs[j] v q (fitF fs[j] v (y.at_ j)) = fieldB fs[j] v q (y.at_ j) ∧ (q = true → fs[j].tag ≥ 0 → usualB fs[j] (fitF fs[j] v (y.at_ j)) = usualB fs[j] (y.at_ j))
  | [], v, q, y, _, _, _, j, hj => by simp at hj
  | f :: r, v, q, y, ho, hu, hq, j, hj => by
    simp only [ofOks, Bool.and_eq_true] at ho
    simp only [nuFs, Bool.and_eq_true] at hu
    have hf : ∀ z, fieldB f v q (fitF f v z) = fieldB f v q z := fun z => fieldB_fit' fx f v q z ho.1 hu.1 hq
    have hr : ∀ (z : Tre) (j : Nat) (hj : j < r.length), fieldB r[j] v q (fitF r[j] v z) = fieldB r[j] v q z ∧ (q = true → r[j].tag ≥ 0 → usualB r[j] (fitF r[j] v z) = usualB r[j] z) := fun z j hj => by
      have := fieldsB_fit fx r v q (.mk 0 [] false (List.replicate r.length z) []) ho.2 hu.2 hq j hj
      simpa [Tre.at_, Tre.l, hj] using this
    cases j with
    | zero =>
      simp only [List.getElem_cons_zero]
      refine ⟨hf _, fun hqt ht => ?_⟩
      have h2 : usF fx f = true := by
        have := hu.1
        cases f with
        | mk k a b nul tag d o sub =>
          simp only [nuF, Bool.and_eq_true, Bool.or_eq_true, decide_eq_true_eq] at this
          exact (this.1.resolve_left (by simp only [Fld.tag] at ht; omega)).1
      exact usualB_fit fx f v _ ho.1 h2 (hq hqt)
    | succ j =>
      simp only [List.getElem_cons_succ]
      exact hr _ j (by simpa using hj)
end
theorem partB_fit (fx : Int) (fs : List Fld) (v : Int) (q : Bool) (y : Tre) (ho : ofOks fs = true) (hu : nuFs fx fs = true) (hq : q = true → v ≥ fx) : partB fs v q (fitT fs v y) = partB fs v q y := by
  have hat := fun j (hj : j < fs.length) => fitT_at fs v y j hj
  have hsub := fieldsB_fit fx fs v q y ho hu hq
  unfold partB partOf
  rw [plainB_congr (x := fitT fs v y) (y := y) fs 0 (fun j hj => by rw [Nat.zero_add, hat j hj]; exact (hsub j hj).1)]
  cases q with
  | false => simp
  | true =>
    have ht := fun k : Nat => tgB_congr (fl := true) (v := v) (x := fitT fs v y) (y := y) fs 0 (fun j hj => by rw [Nat.zero_add, hat j hj]; exact ⟨(hsub j hj).1, fun h => (hsub j hj).2 rfl h⟩) k
    have hu : (fitT fs v y).u = (unkn (known fs) y.u).map cut := rfl
    simp only [ht, hu, unkn_fit]
theorem writeB_fit (fx : Int) (fs : List Fld) (v : Int) (y : Tre) (ho : ofOks fs = true) (hu : nuFs fx fs = true) : writeB fs fx v (fitT fs v y) = writeB fs fx v y :=
  partB_fit fx fs v _ y ho hu fun h => by
    simp only [flexB, Bool.and_eq_true, decide_eq_true_eq] at h
    exact h.2
end K
end Go.Proofs.YtjjfpdofkdolnaaDoor
namespace Go.Proofs.YtjjfpdofkdolnaaDoor
namespace K
open Go Go.Lib
/-! ### how long it is -/
def wtu : Tags → Nat
  | [] => 0
  | y :: r => 1 + y.2.length + wtu r
mutual
def wt : Tre → Nat
  | .mk _ s _ l u => 1 + s.length + wts l + wtu u
def wts : List Tre → Nat
  | [] => 0
  | x :: r => wt x + wts r
end
theorem wt_open (x : Tre) : wt x = 1 + x.s.length + wts x.l + wtu x.u := by
  cases x
  rfl
theorem wts_mem : ∀ {l : List Tre} {x : Tre}, x ∈ l → wt x ≤ wts l
  | y :: r, x, h => by
    simp only [wts]
    rcases List.mem_cons.1 h with rfl | h
    · omega
    · have := wts_mem h
      omega
theorem wt_pos (x : Tre) : 1 ≤ wt x := by rw [wt_open]; omega
theorem wts_len : ∀ (l : List Tre), l.length ≤ wts l
  | [] => by simp
  | x :: r => by
    have := wts_len r
    have := wt_pos x
    simp only [wts, List.length_cons]
    omega
theorem wtu_len : ∀ (l : Tags), l.length ≤ wtu l
  | [] => by simp
  | x :: r => by
    have := wtu_len r
    simp only [wtu, List.length_cons]
    omega
theorem wt_at (x : Tre) (i : Nat) : wt (x.at_ i) ≤ wt x := by
  unfold Tre.at_
  by_cases hi : i < x.l.length
  · rw [List.getElem?_eq_getElem hi]
    have := wts_mem (List.getElem_mem hi)
    rw [wt_open x]
    simp only [Option.getD_some]
    omega
  · rw [List.getElem?_eq_none (by omega)]
    have := wt_pos x
    simpa [Tre.nul, wt, wts, wtu] using this
mutual
theorem smT_wt : ∀ (x : Tre), wt x < 1099511627776 → smT x
  | .mk n s z l u, h => by
    simp only [wt] at h
    have h1 := wts_len l
    have h2 := wtu_len u
    simp only [smT]
    exact ⟨by omega, by omega, by omega, smTs_wt l (by omega)⟩
theorem smTs_wt : ∀ (l : List Tre), wts l < 1099511627776 → smTs l
  | [], _ => by simp [smTs]
  | x :: r, h => by
    simp only [wts] at h
    simp only [smTs]
    exact ⟨smT_wt x (by omega), smTs_wt r (by omega)⟩
end
mutual
def KF : Fld → Nat
  | .mk _ _ _ _ _ _ _ sub => 100 + 2 * (known sub).toNat + (1 + (known sub).toNat) * KFs sub
def KFs : List Fld → Nat
  | [] => 0
  | f :: r => 20 + KF f + KFs r
end
def KP (fs : List Fld) : Nat := 100 + 2 * (known fs).toNat + (1 + (known fs).toNat) * KFs fs
theorem counted_len (fl null : Bool) (n size : Nat) (hn : n ≤ 32767) (hs : size ≤ 8) : (counted fl null n size).length ≤ 10 := by
  have := counted_le fl null n size (by omega) hs
  omega
theorem scalarB_len (k : Int) (null fl : Bool) (y : Tre) : (scalarB k null fl y).length ≤ 20 + y.s.length := by
  unfold scalarB
  have hc : ∀ (q : List UInt8) (sz : Nat), sz ≤ 8 → q.length ≤ 32767 → q.length ≤ y.s.length → (counted fl null q.length sz ++ q).length ≤ 20 + y.s.length := fun q sz h1 h2 h3 => by
    have := counted_len fl null q.length sz h2 h1
    rw [List.length_append]
    omega
  have hl : (if null = true then [] else y.s.take 32767).length ≤ 32767 ∧ (if null = true then [] else y.s.take 32767).length ≤ y.s.length := by
    cases null
    · simp only [Bool.false_eq_true, if_false, List.length_take]; omega
    · simp
  split
  · simp only [List.length_singleton]; omega
  · split
    · rw [uuid_len]; omega
    · split
      · exact hc _ 2 (by omega) hl.1 hl.2
      · split
        · exact hc _ 4 (by omega) hl.1 hl.2
        · rw [fixed_length]
          have := widthN_le k
          omega
theorem flatMap_len {α : Type} {f : α → List UInt8} {w : α → Nat} {K : Nat} : ∀ (l : List α), (∀ x ∈ l, (f x).length ≤ K * w x) → (l.flatMap f).length ≤ K * (l.map w).sum
  | [], _ => by simp
  | x :: r, h => by
    have h0 := h x (by simp)
    have ih := flatMap_len r fun y hy => h y (by simp [hy])
    simp only [List.flatMap_cons, List.length_append, List.map_cons, List.sum_cons, Nat.mul_add]
    omega
theorem wts_sum : ∀ (l : List Tre), (l.map wt).sum = wts l
  | [] => rfl
  | x :: r => by simp [wts, wts_sum r]
theorem wts_take (l : List Tre) (k : Nat) : wts (l.take k) ≤ wts l := by
  induction l generalizing k with
  | nil => simp
  | cons x r ih =>
    cases k with
    | zero => simp [wts]
    | succ k =>
      simp only [List.take_succ_cons, wts]
      have := ih k
      omega
theorem range_flat_len {α : Type} {F : Nat → List α} {M : Nat} : ∀ (n : Nat), (∀ k, k < n → (F k).length ≤ M) → ((List.range n).flatMap F).length ≤ n * M
  | 0, _ => by simp
  | n + 1, h => by
    rw [List.range_succ, List.flatMap_append, List.length_append, Nat.succ_mul]
    have := range_flat_len n fun k hk => h k (by omega)
    have := h n (by omega)
    simp only [List.flatMap_cons, List.flatMap_nil, List.append_nil]
    omega
theorem insT_wt (least : Int) (out : Tags) (x : Nat × List UInt8) : wtu (insT least out x) ≤ wtu out + (1 + x.2.length) := by
  have happ : ∀ a b : Tags, wtu (a ++ b) = wtu a + wtu b := fun a b => by
    induction a with
    | nil => simp [wtu]
    | cons y r ih => simp only [List.cons_append, wtu, ih]; omega
  unfold insT
  split
  · omega
  · split
    · omega
    · have h := happ (out.take (pre out x.1)) (out.drop (pre out x.1))
      rw [List.take_append_drop] at h
      rw [happ]
      simp only [wtu]
      omega
theorem unkn_wt (least : Int) (u : Tags) : wtu (unkn least u) ≤ wtu u := by
  have h : ∀ (l out : Tags), wtu (l.foldl (insT least) out) ≤ wtu out + wtu l := by
    intro l
    induction l with
    | nil => intro out; simp [wtu]
    | cons y r ih =>
      intro out
      have h1 := ih (insT least out y)
      have h2 := insT_wt least out y
      simp only [List.foldl_cons, wtu]
      omega
  have h1 := h (u.take 32767) []
  have h2 : wtu (u.take 32767) ≤ wtu u := by
    have : ∀ (l : Tags) (k : Nat), wtu (l.take k) ≤ wtu l := by
      intro l
      induction l with
      | nil => intro k; simp
      | cons y r ih =>
        intro k
        cases k with
        | zero => simp [wtu]
        | succ k => simp only [List.take_succ_cons, wtu]; have := ih k; omega
    exact this u _
  simp only [wtu] at h1
  unfold unkn
  omega
theorem cut_flat_len : ∀ (l : Tags), (∀ y ∈ l, y.1 < 4294967296) → ((l.map cut).flatMap tagB).length ≤ 20 * wtu l
  | [], _ => by simp [wtu]
  | y :: r, h => by
    have ih := cut_flat_len r fun z hz => h z (by simp [hz])
    have h0 := h y (by simp)
    have h1 := uvar_length_le y.1 4 (by omega)
    have h2 := uvar_length_le (y.2.take 32767).length 4 (by rw [List.length_take]; omega)
    simp only [List.map_cons, List.flatMap_cons, tagB, cut, List.length_append, List.length_take, wtu] at h2 ⊢
    omega
theorem tag_one_len {k : Nat} {b : List UInt8} {M : Nat} (hk : k < 1000000) (hb : b.length ≤ M) (hM : M < 1152921504606846976) : (tagB (k, b)).length ≤ 20 + M := by
  have h1 := uvar_length_le k 4 (by omega)
  have h2 := uvar_length_le b.length 9 (by omega)
  simp only [tagB, List.length_append]
  omega
theorem partOf_len {fl : Bool} {plain : List UInt8} {tg : List (Int × List UInt8)} {kn : Nat} {u : Tags} {least : Int} {M w : Nat} (hp : plain.length ≤ M * w) (htg : ∀ k : Nat, k < kn → (((tg.filter fun y => decide (y.1 = (k : Int))).map fun y => (k, y.2)).flatMap tagB).length ≤ M * w ∧ ((tg.filter fun y => decide (y.1 = (k : Int))).map fun y => (k, y.2)).length ≤ M * w)
    (hw : 1 + wtu u ≤ w) (hM : (1 + kn) * M * w < 1152921504606846976) (hk : ∀ y ∈ u, y.1 < 4294967296) : (partOf fl plain tg kn (unkn least u)).length + 10 ≤ (100 + 2 * kn + (1 + kn) * M) * w := by
  unfold partOf
  have e1 : (100 + 2 * kn + (1 + kn) * M) * w = 100 * w + 2 * kn * w + (M * w + kn * (M * w)) := by
    rw [Nat.add_mul, Nat.add_mul, Nat.add_mul 1 kn M, Nat.add_mul, Nat.one_mul, Nat.mul_assoc kn M w]
  rw [e1, List.length_append]
  cases fl with
  | false => simp only [Bool.false_eq_true, if_false, List.length_nil]; omega
  | true =>
    have h1 := range_flat_len (F := fun (k : Nat) => (tg.filter fun y => decide (y.1 = (k : Int))).map fun y => (k, y.2)) kn fun k hk' => (htg k hk').2
    have h2 := range_flat_len (F := fun (k : Nat) => ((tg.filter fun y => decide (y.1 = (k : Int))).map fun y => (k, y.2)).flatMap tagB) kn fun k hk' => (htg k hk').1
    have h3 := unkn_wt least u
    have h4 := cut_flat_len (unkn least u) fun y hy => hk y (unkn_mem hy).1
    have h5 := unkn_le least u
    have h6 : kn * (M * w) < 1152921504606846976 := by
      have : kn * (M * w) ≤ (1 + kn) * M * w := by rw [Nat.mul_assoc, Nat.add_mul]; omega
      omega
    simp only [if_true, List.length_append, List.length_map, List.flatMap_append, List.flatMap_assoc]
    have h7 := uvar_length_le (((List.range kn).flatMap fun (k : Nat) => (tg.filter fun y => decide (y.1 = (k : Int))).map fun y => (k, y.2)).length + (unkn least u).length) 9 (by omega)
    omega
theorem fieldB_mk (k a b nul tag d o : Int) (sub : List Fld) (v : Int) (flex : Bool) (t : Tre) : fieldB (.mk k a b nul tag d o sub) v flex t =
    if k = 11 then counted flex (nullB (.mk k a b nul tag d o sub) v t) (if nullB (.mk k a b nul tag d o sub) v t then [] else t.l.take 32767).length 4 ++ (if nullB (.mk k a b nul tag d o sub) v t then [] else t.l.take 32767).flatMap fun x => valueB o sub false v flex x
    else if k = 10 ∧ nul ≥ 0 then if nullB (.mk k a b nul tag d o sub) v t then fixed (-1) 1 else fixed 1 1 ++ partB sub v flex t
    else valueB k sub (nullB (.mk k a b nul tag d o sub) v t) v flex t := fieldB_eq _ _ _ _
abbrev BIG : Nat := 1152921504606846976
def FsB (fs : List Fld) (v : Int) (fl : Bool) : Prop := ∀ (y : Tre) (i : Nat), keysT y → KFs fs * wt y < BIG → (plainB fs v fl y i).length ≤ KFs fs * wt y ∧
  ∀ k : Nat, k < 1000000 → ((((tgB fs v fl y i).filter fun y => decide (y.1 = (k : Int))).map fun y => (k, y.2)).flatMap tagB).length ≤ KFs fs * wt y ∧ (((tgB fs v fl y i).filter fun y => decide (y.1 = (k : Int))).map fun y => (k, y.2)).length ≤ KFs fs * wt y
theorem known_lt {fs : List Fld} (h : okFs fs = true) : (known fs).toNat ≤ 1000000 := by
  have := known_le (okFs.tags h)
  omega
theorem range_flat_len' {α : Type} {F : Nat → List α} {M : Nat} (n : Nat) (h : ∀ k, k < n → (F k).length ≤ M) : ((List.range n).flatMap F).length ≤ n * M := range_flat_len n h
theorem partB_of {fs : List Fld} {v : Int} {fl : Bool} (h : FsB fs v fl) (hok : okFs fs = true) (y : Tre) (hk : keysT y) (hM : KP fs * wt y < BIG) : (partB fs v fl y).length + 10 ≤ KP fs * wt y := by
  have e : KFs fs ≤ (1 + (known fs).toNat) * KFs fs := by rw [Nat.add_mul]; omega
  have e2 : (1 + (known fs).toNat) * KFs fs * wt y < BIG := Nat.lt_of_le_of_lt (Nat.mul_le_mul_right _ (by unfold KP; omega)) hM
  have hM2 : KFs fs * wt y < BIG := Nat.lt_of_le_of_lt (Nat.mul_le_mul_right _ e) e2
  obtain ⟨h1, h2⟩ := h y 0 hk hM2
  have hkn := known_lt hok
  exact partOf_len h1 (fun k hk' => h2 k (by omega)) (by rw [wt_open]; omega) e2 hk.open.1
mutual
theorem fieldB_len : ∀ (f : Fld) (v : Int) (fl : Bool) (y : Tre), okF f = true → keysT y → KF f * wt y < BIG → (fieldB f v fl y).length ≤ KF f * wt y
  | .mk k a b nul tag d o sub, v, fl, y, hok, hk, hM => by
    have hsub : okFs sub = true := okF.sub hok
    have hKF : KF (.mk k a b nul tag d o sub) = KP sub := rfl
    rw [hKF] at hM ⊢
    have hpart : ∀ x : Tre, keysT x → wt x ≤ wt y → (partB sub v fl x).length + 10 ≤ KP sub * wt x := fun x hkx hx =>
      partB_of (fieldsB_len sub v fl hsub) hsub x hkx (Nat.lt_of_le_of_lt (Nat.mul_le_mul_left _ hx) hM)
    have hs : ∀ (k : Int) (nl : Bool) (x : Tre), (scalarB k nl fl x).length ≤ KP sub * wt x := fun k nl x => by
      have h1 := scalarB_len k nl fl x
      have h2 : 100 * wt x ≤ KP sub * wt x := Nat.mul_le_mul_right _ (by unfold KP; omega)
      have h3 := wt_open x
      omega
    have hv : ∀ (k : Int) (nl : Bool) (x : Tre), keysT x → wt x ≤ wt y → (valueB k sub nl v fl x).length ≤ KP sub * wt x := fun k nl x hkx hx => by
      unfold valueB
      split
      · have := hpart x hkx hx
        omega
      · exact hs k nl x
    have hpos := wt_pos y
    have h100 : 100 * wt y ≤ KP sub * wt y := Nat.mul_le_mul_right _ (by unfold KP; omega)
    rw [fieldB_mk]
    by_cases h11 : k = 11
    · rw [if_pos h11]
      generalize nullB (.mk k a b nul tag d o sub) v y = nb
      rw [List.length_append]
      have hl : (if nb = true then [] else y.l.take 32767).length ≤ 32767 := by
        cases nb
        · simp only [Bool.false_eq_true, if_false, List.length_take]; omega
        · simp
      have h1 := counted_len fl nb (if nb = true then [] else y.l.take 32767).length 4 hl (by omega)
      have hmem : ∀ x ∈ (if nb = true then [] else y.l.take 32767), x ∈ y.l := fun x hx => by
        cases nb
        · simp only [Bool.false_eq_true, if_false] at hx
          exact List.mem_of_mem_take hx
        · simp at hx
      have h2 := flatMap_len (f := fun x => valueB o sub false v fl x) (w := wt) (K := KP sub) (if nb = true then [] else y.l.take 32767) fun x hx => hv o false x (keysTs.mem hk.open.2 x (hmem x hx)) (by
        have h1 := wts_mem (hmem x hx)
        have h2 := wt_open y
        omega)
      rw [wts_sum] at h2
      have h3 : wts (if nb = true then [] else y.l.take 32767) ≤ wts y.l := by
        cases nb
        · simp only [Bool.false_eq_true, if_false]
          exact wts_take _ _
        · simp [wts]
      have h4 := wt_open y
      have h5 : KP sub * wts (if nb = true then [] else y.l.take 32767) ≤ KP sub * (wt y - 1) := Nat.mul_le_mul_left _ (by omega)
      have h6 : KP sub * wt y = KP sub * (wt y - 1) + KP sub := by
        rw [← Nat.mul_succ]
        congr 1
        omega
      have h7 : 100 ≤ KP sub := by unfold KP; omega
      omega
    · rw [if_neg h11]
      by_cases h10 : k = 10 ∧ nul ≥ 0
      · rw [if_pos h10]
        split
        · rw [fixed_length]; omega
        · have h1 := hpart y hk (Nat.le_refl _)
          rw [List.length_append, fixed_length]
          omega
      · rw [if_neg h10]
        exact hv k _ y hk (Nat.le_refl _)
theorem fieldsB_len : ∀ (fs : List Fld) (v : Int) (fl : Bool), okFs fs = true → FsB fs v fl
  | [], v, fl, _ => fun y i _ _ => by simp [plainB, tgB]
  | f :: r, v, fl, hok => fun y i hk hM => by
    simp only [okFs, Bool.and_eq_true] at hok
    have e : KFs (f :: r) * wt y = 20 * wt y + KF f * wt y + KFs r * wt y := by
      show (20 + KF f + KFs r) * wt y = _
      rw [Nat.add_mul, Nat.add_mul]
    rw [e] at hM ⊢
    have hle : KF f * wt (y.at_ i) ≤ KF f * wt y := Nat.mul_le_mul_left _ (wt_at y i)
    have h0 := fieldB_len f v fl (y.at_ i) hok.1 (hk.at_ i) (by omega)
    obtain ⟨h1, h2⟩ := fieldsB_len r v fl hok.2 y (i + 1) hk (by omega)
    have hpos := wt_pos y
    refine ⟨?_, fun k hkk => ?_⟩
    · simp only [plainB, List.length_append]
      split
      · omega
      · simp only [List.length_nil]; omega
    · obtain ⟨h3, h4⟩ := h2 k hkk
      simp only [tgB, List.filter_append, List.map_append, List.flatMap_append, List.length_append]
      have h5 := tag_one_len (k := k) (b := fieldB f v fl (y.at_ i)) (M := KF f * wt y) hkk (by omega) (by unfold BIG at hM; omega)
      by_cases hu : usualB f (y.at_ i) = true
      · simp only [hu, if_true, List.filter_nil, List.map_nil, List.flatMap_nil, List.length_nil]
        omega
      · simp only [if_neg hu]
        by_cases ht : f.tag = (k : Int)
        · simp only [ht, List.filter_cons, decide_true, if_true, List.filter_nil, List.map_cons, List.map_nil, List.flatMap_cons, List.flatMap_nil, List.append_nil, List.length_singleton]
          omega
        · simp only [List.filter_cons, ht, decide_false, List.filter_nil, List.map_nil, List.flatMap_nil, List.length_nil, Bool.false_eq_true, if_false]
          omega
end
theorem writeB_len (fs : List Fld) (fx v : Int) (y : Tre) (hok : okFs fs = true) (hk : keysT y) (hw : wt y ≤ 1048576) (hK : KP fs < 1048576) : (writeB fs fx v y).length < 1099511627776 := by
  have h1 : KP fs * wt y ≤ 1048575 * 1048576 := Nat.mul_le_mul (by omega) hw
  have := partB_of (fl := flexB fx v) (v := v) (fieldsB_len fs v _ hok) hok y hk (by unfold BIG; omega)
  unfold writeB
  omega
end K
end Go.Proofs.YtjjfpdofkdolnaaDoor
namespace Go.Proofs.YtjjfpdofkdolnaaDoor
namespace K
open Go Go.Lib
theorem okFs_mem : ∀ {fs : List Fld}, okFs fs = true → ∀ f ∈ fs, okF f = true
  | [], _, f, h => by simp at h
  | g :: r, h, f, hf => by
    simp only [okFs, Bool.and_eq_true] at h
    rcases List.mem_cons.1 hf with rfl | hf
    · exact h.1
    · exact okFs_mem h.2 f hf
/-- what is written of one field of a fitted tree: 32 bits tell how long it is -/
theorem tag32 (fs : List Fld) (fx v : Int) (x : Tre) (j : Nat) (hj : j < fs.length) (ho : ofOks fs = true) (hu : nuFs fx fs = true) (hok : okFs fs = true) (hk : keysT x) (hw : wt x ≤ 1048576) (hK : KF fs[j] ≤ 4095) : (fieldB fs[j] v (flexB fx v) ((fitT fs v x).at_ j)).length ≤ 4294967295 := by
  have e1 : (fitT fs v x).at_ j = fitF fs[j] v (x.at_ j) := fitT_at' fs v x false _ j hj
  rw [e1, (fieldsB_fit fx fs v (flexB fx v) x ho hu (fun h => by simp only [flexB, Bool.and_eq_true, decide_eq_true_eq] at h; exact h.2) j hj).1]
  have h1 := wt_at x j
  have h2 : KF fs[j] * wt (x.at_ j) ≤ 4095 * 1048576 := Nat.mul_le_mul hK (by omega)
  have h3 := fieldB_len fs[j] v (flexB fx v) (x.at_ j) (okFs_mem hok _ (List.getElem_mem hj)) (hk.at_ j) (by unfold BIG; omega)
  omega
end K
end Go.Proofs.YtjjfpdofkdolnaaDoor
