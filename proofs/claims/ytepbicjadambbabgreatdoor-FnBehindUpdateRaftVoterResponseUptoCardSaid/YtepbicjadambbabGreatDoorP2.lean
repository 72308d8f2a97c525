import Derived.Test.YtepbicjadambbabGreatDoorP1
set_option linter.unusedVariables false
set_option linter.unusedSimpArgs false
namespace Go.Proofs.YtepbicjadambbabGreatDoor
namespace K
open Go Go.Lib
theorem tn {n : Int} {s : List UInt8} {z : Bool} {l : List Tre} {u : List (Nat × List UInt8)} : (Tre.mk n s z l u).n = n := rfl
theorem ts {n : Int} {s : List UInt8} {z : Bool} {l : List Tre} {u : List (Nat × List UInt8)} : (Tre.mk n s z l u).s = s := rfl
theorem tz {n : Int} {s : List UInt8} {z : Bool} {l : List Tre} {u : List (Nat × List UInt8)} : (Tre.mk n s z l u).z = z := rfl
theorem tl {n : Int} {s : List UInt8} {z : Bool} {l : List Tre} {u : List (Nat × List UInt8)} : (Tre.mk n s z l u).l = l := rfl
theorem tu {n : Int} {s : List UInt8} {z : Bool} {l : List Tre} {u : List (Nat × List UInt8)} : (Tre.mk n s z l u).u = u := rfl
/-! ### what can be set: it is written as it stands -/
def okU (kn : Int) (q : Bool) (u : Tags) : Prop := q = true → (unkn kn u).map cut = u ∧ Srt u ∧ (∀ y ∈ u, y.1 < 4294967296 ∧ y.2.length ≤ 32767) ∧ u.length ≤ 32767
def okS (k nul v : Int) (y : Tre) : Prop := k = 8 ∨ k = 9 → y.s.length ≤ 32767 ∧ (y.z = true → nul ≥ 0 ∧ v ≥ nul)
mutual
def okV : Fld → Int → Bool → Tre → Prop
  | .mk k _ _ nul _ _ o sub, v, q, y =>
    if k = 11 then y.l.length ≤ 32767 ∧ (y.z = true → (nul ≥ 0 ∧ v ≥ nul) ∨ y.l = []) ∧ ∀ i, (hi : i < y.l.length) → if o = 10 then okFl sub v q y.l[i] 0 ∧ okU (known sub) q y.l[i].u else okS o (-1) v y.l[i]
    else if k = 10 then (nul ≥ 0 → y.z = true → v ≥ nul) ∧ (nul < 0 ∨ y.z = false → okFl sub v q y 0 ∧ okU (known sub) q y.u)
    else okS k nul v y
def okFl : List Fld → Int → Bool → Tre → Nat → Prop
  | [], _, _, _, _ => True
  | f :: r, v, q, y, i => ((if f.tag < 0 then hasB f v = true else q = true) → okV f v q (y.at_ i)) ∧ okFl r v q y (i + 1)
end
def okP (fs : List Fld) (v : Int) (q : Bool) (y : Tre) : Prop := okFl fs v q y 0 ∧ okU (known fs) q y.u
mutual
def keysT : Tre → Prop
  | .mk _ _ _ l u => (∀ y ∈ u, y.1 < 4294967296) ∧ keysTs l
def keysTs : List Tre → Prop
  | [] => True
  | x :: r => keysT x ∧ keysTs r
end
theorem keysTs.mem : ∀ {l : List Tre}, keysTs l → ∀ x ∈ l, keysT x
  | [], _, f, h => by simp at h
  | g :: r, h, f, hf => by
    simp only [keysTs] at h
    rcases List.mem_cons.1 hf with rfl | hf
    · exact h.1
    · exact keysTs.mem h.2 f hf
theorem keysT.open {x : Tre} (h : keysT x) : (∀ y ∈ x.u, y.1 < 4294967296) ∧ keysTs x.l := by
  cases x
  simpa only [keysT, Tre.l, Tre.u] using h
theorem keysT.nul : keysT .nul := by simp [Tre.nul, keysT, keysTs]
theorem keysT.at_ {x : Tre} (h : keysT x) (i : Nat) : keysT (x.at_ i) := by
  unfold Tre.at_
  by_cases hi : i < x.l.length
  · rw [List.getElem?_eq_getElem hi]
    exact keysTs.mem h.open.2 _ (List.getElem_mem hi)
  · rw [List.getElem?_eq_none (by omega)]
    exact keysT.nul
theorem RUs.keys {s : Vw} : ∀ {u : Tags} {cs : List Value}, RUs s u cs → ∀ y ∈ u, y.1 < 4294967296
  | [], _, _, y, hy => by simp at hy
  | (k, b) :: r, cs, ⟨v, c', h1, h2, h3, h4⟩, y, hy => by
    rcases List.mem_cons.1 hy with rfl | hy
    · exact h2
    · exact RUs.keys h4 y hy
mutual
theorem RT.keys {s : Vw} : ∀ {x : Tre} {cs : List Value}, RT s x cs → keysT x
  | .mk n b z l u, cs, h => by
    simp only [RT] at h
    obtain ⟨sS, sL, sU, _, _, _, ⟨lc, _, h5⟩, ⟨uc, _, h7⟩⟩ := h
    simp only [keysT]
    exact ⟨RUs.keys h7, RTs.keys h5⟩
theorem RTs.keys {s : Vw} : ∀ {l : List Tre} {cs : List Value}, RTs s l cs → keysTs l
  | [], cs, h => by simp [keysTs]
  | x :: r, cs, h => by
    simp only [RTs] at h
    obtain ⟨c, c', _, h2, h3⟩ := h
    simp only [keysTs]
    exact ⟨RT.keys h2, RTs.keys h3⟩
end
theorem okU_fit (kn : Int) (q : Bool) (u : Tags) (hk : ∀ y ∈ u, y.1 < 4294967296) : okU kn q ((unkn kn u).map cut) := fun _ => by
  refine ⟨unkn_fit _ _, srt_cut (unkn_sorted _ _), fun y hy => ?_, by rw [List.length_map]; exact unkn_le _ _⟩
  obtain ⟨z, hz, rfl⟩ := List.mem_map.1 hy
  exact ⟨hk z (unkn_mem hz).1, by simp only [cut, List.length_take]; omega⟩
theorem nullB_mk {k a b nul tag d o : Int} {sub : List Fld} {v : Int} {t : Tre} : nullB (.mk k a b nul tag d o sub) v t = (t.z && decide (nul ≥ 0) && decide (v ≥ nul)) := rfl
theorem null_of {z : Bool} {nul v : Int} (h : (z && decide (nul ≥ 0) && decide (v ≥ nul)) = true) : nul ≥ 0 ∧ v ≥ nul := by
  simp only [Bool.and_eq_true, decide_eq_true_eq] at h
  exact ⟨h.1.2, h.2⟩
theorem fitT_at' (sub : List Fld) (v : Int) (y : Tre) (z : Bool) (u : Tags) (j : Nat) (hj : j < sub.length) : (Tre.mk 0 [] z (fitL sub v y 0) u).at_ j = fitF sub[j] v (y.at_ j) := by
  have := fitL_at sub v y 0 j hj
  rw [Nat.zero_add] at this
  simp [Tre.at_, tl, this]
mutual
theorem okV_fit : ∀ (f : Fld) (v : Int) (q : Bool) (x : Tre), ofOk f = true → keysT x → okV f v q (fitF f v x)
  | .mk k a b nul tag d o sub, v, q, x, ho, hk => by
    simp only [ofOk, Bool.and_eq_true, decide_eq_true_eq] at ho
    by_cases h89 : k = 8 ∨ k = 9
    · have h10 : k ≠ 10 := by omega
      have h11 : k ≠ 11 := by omega
      simp only [okV, fitF, if_pos h89, if_neg h10, if_neg h11]
      intro _
      refine ⟨by simp only [ts, List.length_take]; omega, fun hz => null_of hz⟩
    · by_cases h10 : k = 10
      · subst h10
        have h11 : (10 : Int) ≠ 11 := by decide
        simp only [okV, fitF, if_neg h89, if_neg h11, if_true]
        refine ⟨fun _ hz => (null_of hz).2, fun _ => ⟨okFl_fit sub v q x (.mk 0 [] _ (fitL sub v x 0) _) 0 ho.2 hk (fun j hj => by rw [Nat.zero_add]; exact fitT_at' sub v x _ _ j hj), okU_fit _ _ _ hk.open.1⟩⟩
      · by_cases h11 : k = 11
        · subst h11
          simp only [okV, fitF, if_neg h89, if_neg h10, if_true, tl, tz, List.length_map]
          refine ⟨by rw [List.length_take]; omega, fun hz => ?_, fun i hi => ?_⟩
          · rw [Bool.or_eq_true] at hz
            rcases hz with hz | hz
            · exact .inl (null_of hz)
            · simp only [Bool.and_eq_true, decide_eq_true_eq] at hz
              exact .inr (by rw [List.eq_nil_of_length_eq_zero hz.2]; rfl)
          · have hkx : keysT (x.l.take 32767)[i] := keysTs.mem hk.open.2 _ (List.mem_of_mem_take (List.getElem_mem hi))
            rw [List.getElem_map]
            generalize (x.l.take 32767)[i] = y at *
            by_cases ho10 : o = 10
            · subst ho10
              have h8 : ¬ ((10 : Int) = 8 ∨ (10 : Int) = 9) := by decide
              simp only [if_true, if_neg h8]
              exact ⟨okFl_fit sub v q y (.mk 0 [] _ (fitL sub v y 0) _) 0 ho.2 hkx (fun j hj => by rw [Nat.zero_add]; exact fitT_at' sub v y _ _ j hj), okU_fit _ _ _ hkx.open.1⟩
            · simp only [if_neg ho10]
              by_cases ho8 : o = 8 ∨ o = 9
              · rw [if_pos ho8]
                exact fun _ => ⟨by simp only [ts, List.length_take]; omega, fun hz => by simp [tz] at hz⟩
              · exact fun h => absurd h ho8
        · simp only [okV, fitF, if_neg h89, if_neg h10, if_neg h11]
          exact fun h => absurd h h89
theorem okFl_fit : ∀ (fs : List Fld) (v : Int) (q : Bool) (x Y : Tre) (i : Nat), ofOks fs = true → keysT x → (∀ j, (hj : j < fs.length) → Y.at_ (i + j) = fitF fs[j] v (x.at_ (i + j))) → okFl fs v q Y i
  | [], v, q, x, Y, i, _, _, _ => by simp [okFl]
  | f :: r, v, q, x, Y, i, ho, hk, hY => by
    simp only [ofOks, Bool.and_eq_true] at ho
    simp only [okFl]
    refine ⟨fun _ => ?_, okFl_fit r v q x Y (i + 1) ho.2 hk fun j hj => ?_⟩
    · have := hY 0 (by simp)
      simp only [List.getElem_cons_zero, Nat.add_zero] at this
      rw [this]
      exact okV_fit f v q _ ho.1 (hk.at_ i)
    · have := hY (j + 1) (by simpa using hj)
      simp only [List.getElem_cons_succ] at this
      rw [show i + 1 + j = i + (j + 1) by omega]
      exact this
end
theorem okP_fit (fs : List Fld) (v : Int) (q : Bool) (x : Tre) (ho : ofOks fs = true) (hk : keysT x) : okP fs v q (fitT fs v x) :=
  ⟨okFl_fit fs v q x _ 0 ho hk fun j hj => by rw [Nat.zero_add]; exact fitT_at fs v x j hj, okU_fit _ _ _ hk.open.1⟩
/-! ### it is written as what was asked -/
mutual
def usF (fx : Int) : Fld → Bool
  | .mk k _ _ nul _ _ _ sub => (decide (k ≠ 8 ∧ k ≠ 9) || decide (nul < 0) || decide (nul ≤ fx)) && usFs fx sub
def usFs (fx : Int) : List Fld → Bool
  | [] => true
  | f :: r => usF fx f && usFs fx r
end
mutual
def nuF (fx : Int) : Fld → Bool
  | .mk k a b nul tag d o sub => (decide (tag < 0) || (usF fx (.mk k a b nul tag d o sub) && (decide (k ≠ 11) || decide (nul < 0)))) && nuFs fx sub
def nuFs (fx : Int) : List Fld → Bool
  | [] => true
  | f :: r => nuF fx f && nuFs fx r
end
theorem fit_len {n : Nat} {s : List UInt8} : decide ((s.take 32767).length = 0) = decide (s.length = 0) := by
  rw [List.length_take]
  simp only [decide_eq_decide]
  omega
mutual
theorem usualB_fit (fx : Int) : ∀ (f : Fld) (v : Int) (x : Tre), ofOk f = true → usF fx f = true → v ≥ fx → usualB f (fitF f v x) = usualB f x
  | .mk k a b nul tag d o sub, v, x, ho, hu, hv => by
    simp only [ofOk, Bool.and_eq_true, decide_eq_true_eq] at ho
    simp only [usF, Bool.and_eq_true, Bool.or_eq_true, decide_eq_true_eq] at hu
    by_cases h89 : k = 8 ∨ k = 9
    · have h0 : k ≠ 0 := by omega
      have h7 : k ≠ 7 := by omega
      simp only [usualB, fitF, if_pos h89, if_neg h0, if_neg h7, tz, ts]
      by_cases hn : nul ≥ 0
      · have h1 : v ≥ nul := by omega
        simp [hn, h1]
      · rw [if_neg hn, if_neg hn]
        exact fit_len (n := 0)
    · by_cases h10 : k = 10
      · subst h10
        have h11 : (10 : Int) ≠ 11 := by decide
        have h0 : (10 : Int) ≠ 0 := by decide
        have h7 : (10 : Int) ≠ 7 := by decide
        simp only [usualB, fitF, if_neg h89, if_neg h11, if_neg h0, if_neg h7, if_true, tu]
        rw [usualL_fit fx sub v x (.mk 0 [] _ (fitL sub v x 0) _) 0 ho.2 hu.2 hv (fun j hj => by rw [Nat.zero_add]; exact fitT_at' sub v x _ _ j hj)]
        congr 2
        have := congrArg List.length (unkn_fit (known sub) x.u)
        rw [List.length_map, List.length_map] at this
        rw [this]
      · by_cases h11 : k = 11
        · subst h11
          have h0 : (11 : Int) ≠ 0 := by decide
          have h7 : (11 : Int) ≠ 7 := by decide
          simp only [usualB, fitF, if_neg h89, if_neg h10, if_neg h0, if_neg h7, if_true, tl, List.length_map, List.length_take]
          simp only [decide_eq_decide]
          omega
        · simp only [usualB, fitF, if_neg h89, if_neg h10, if_neg h11, tn, ts]
theorem usualL_fit (fx : Int) : ∀ (fs : List Fld) (v : Int) (x Y : Tre) (i : Nat), ofOks fs = true → usFs fx fs = true → v ≥ fx → (∀ j, (hj : j < fs.length) → Y.at_ (i + j) = fitF fs[j] v (x.at_ (i + j))) → usualL fs Y i = usualL fs x i
  | [], v, x, Y, i, _, _, _, _ => rfl
  | f :: r, v, x, Y, i, ho, hu, hv, hY => by
    simp only [ofOks, Bool.and_eq_true] at ho
    simp only [usFs, Bool.and_eq_true] at hu
    simp only [usualL]
    have h0 := hY 0 (by simp)
    simp only [List.getElem_cons_zero, Nat.add_zero] at h0
    rw [h0, usualB_fit fx f v _ ho.1 hu.1 hv, usualL_fit fx r v x Y (i + 1) ho.2 hu.2 hv fun j hj => by
      have := hY (j + 1) (by simpa using hj)
      simp only [List.getElem_cons_succ] at this
      rw [show i + 1 + j = i + (j + 1) by omega]
      exact this]
end
theorem tgB_congr {v : Int} {fl : Bool} {x y : Tre} : ∀ (fs : List Fld) (i : Nat), (∀ j, (hj : j < fs.length) → fieldB fs[j] v fl (x.at_ (i + j)) = fieldB fs[j] v fl (y.at_ (i + j)) ∧ (fs[j].tag ≥ 0 → usualB fs[j] (x.at_ (i + j)) = usualB fs[j] (y.at_ (i + j)))) → ∀ k : Nat,
    ((tgB fs v fl x i).filter fun y => decide (y.1 = (k : Int))) = ((tgB fs v fl y i).filter fun y => decide (y.1 = (k : Int)))
  | [], i, _, k => rfl
  | f :: r, i, h, k => by
    have h0 := h 0 (by simp)
    simp only [List.getElem_cons_zero, Nat.add_zero] at h0
    have ih := tgB_congr r (i + 1) (fun j hj => by
      have := h (j + 1) (by simpa using hj)
      simp only [List.getElem_cons_succ] at this
      rw [show i + 1 + j = i + (j + 1) by omega]
      exact this) k
    simp only [tgB, List.filter_append, ih]
    congr 1
    by_cases ht : f.tag ≥ 0
    · rw [h0.1, h0.2 ht]
    · have hne : ¬ f.tag = (k : Int) := by omega
      cases usualB f (x.at_ i) <;> cases usualB f (y.at_ i) <;> simp [hne]
mutual
theorem fieldB_fit' (fx : Int) : ∀ (f : Fld) (v : Int) (q : Bool) (x : Tre), ofOk f = true → nuF fx f = true → (q = true → v ≥ fx) → fieldB f v q (fitF f v x) = fieldB f v q x
  | .mk k a b nul tag d o sub, v, q, x, ho, hu, hq => by
    simp only [ofOk, Bool.and_eq_true, decide_eq_true_eq] at ho
    simp only [nuF, Bool.and_eq_true] at hu
    have hb : ∀ a b c : Bool, ((a && b && c) && b && c) = (a && b && c) := by decide
    have hsub := fun (y : Tre) => fieldsB_fit fx sub v q y ho.2 hu.2 hq
    have hpart : ∀ (y : Tre) (z : Bool), partB sub v q (.mk 0 [] z (fitL sub v y 0) ((unkn (known sub) y.u).map cut)) = partB sub v q y := fun y z => by
      have hat := fun j (hj : j < sub.length) => fitT_at' sub v y z ((unkn (known sub) y.u).map cut) j hj
      unfold partB partOf
      rw [plainB_congr (x := .mk 0 [] z (fitL sub v y 0) ((unkn (known sub) y.u).map cut)) (y := y) sub 0 (fun j hj => by rw [Nat.zero_add, hat j hj]; exact (hsub y j hj).1)]
      cases q with
      | false => simp
      | true =>
        have ht := fun k : Nat => tgB_congr (fl := true) (v := v) (x := .mk 0 [] z (fitL sub v y 0) ((unkn (known sub) y.u).map cut)) (y := y) sub 0 (fun j hj => by rw [Nat.zero_add, hat j hj]; exact ⟨(hsub y j hj).1, fun h => (hsub y j hj).2 rfl h⟩) k
        simp only [ht, tu, unkn_fit]
    by_cases h89 : k = 8 ∨ k = 9
    · have h10 : k ≠ 10 := by omega
      have h11 : k ≠ 11 := by omega
      simp only [fieldB, fitF, if_pos h89, if_neg h10, if_neg h11, tz, hb]
      rcases h89 with rfl | rfl <;> simp [scalarB, ts, List.take_take]
    · by_cases h10 : k = 10
      · subst h10
        rw [fieldB_eq, fieldB_eq]
        simp only [fitF, if_neg h89, if_true, Fld.kind, Fld.nul, Fld.sub, nullB_mk, tz, hb]
        have h11 : ¬ (10 : Int) = 11 := by decide
        rw [if_neg h11, if_neg h11]
        simp only [valueB, if_true, hpart]
        first | rfl | (by_cases hn : nul ≥ 0 <;> simp [hn])
      · by_cases h11 : k = 11
        · subst h11
          rw [fieldB_eq, fieldB_eq]
          simp only [fitF, if_neg h89, if_neg h10, if_true, Fld.kind, Fld.of_, Fld.sub, nullB_mk, tz, tl]
          by_cases hn : (x.z && decide (nul ≥ 0) && decide (v ≥ nul)) = true
          · have h2 := null_of hn
            have hz : x.z = true := by simp only [Bool.and_eq_true] at hn; exact hn.1.1
            simp [hn, h2.1, h2.2, hz]
          · have hn' : (x.z && decide (nul ≥ 0) && decide (v ≥ nul)) = false := by simpa using hn
            have hel : ∀ y : Tre, valueB o sub false v q (if o = 8 ∨ o = 9 then Tre.mk 0 (y.s.take 32767) false [] [] else if o = 10 then .mk 0 [] false (fitL sub v y 0) ((unkn (known sub) y.u).map cut) else .mk y.n y.s false [] []) = valueB o sub false v q y := fun y => by
              by_cases ho8 : o = 8 ∨ o = 9
              · rw [if_pos ho8]
                rcases ho8 with rfl | rfl <;> simp [valueB, scalarB, ts, List.take_take]
              · rw [if_neg ho8]
                by_cases ho10 : o = 10
                · subst ho10
                  simp only [if_true, valueB, hpart]
                · simp only [if_neg ho10, valueB]
                  simp only [not_or] at ho8
                  simp only [scalarB, tn, ts, if_neg ho8.1, if_neg ho8.2]
            by_cases hz : (false || (decide (tag ≥ 0) && decide (x.l.length = 0))) = true
            · simp only [Bool.false_or, Bool.and_eq_true, decide_eq_true_eq] at hz
              have hl : x.l = [] := List.eq_nil_of_length_eq_zero hz.2
              by_cases hnn : (decide (nul ≥ 0) && decide (v ≥ nul)) = true
              · simp only [Bool.and_eq_true, decide_eq_true_eq] at hnn
                have h7 := hu.1
                simp only [Bool.or_eq_true, Bool.and_eq_true, decide_eq_true_eq] at h7
                omega
              · simp only [Bool.and_eq_true, decide_eq_true_eq, not_and] at hnn
                have h9 : (decide (nul ≥ 0) && decide (v ≥ nul)) = false := by
                  by_cases h8 : nul ≥ 0
                  · simp [h8, hnn h8]
                  · simp [h8]
                simp [hn', hl, hz.1, Bool.and_assoc, h9]
            · have hz' : (false || (decide (tag ≥ 0) && decide (x.l.length = 0))) = false := by simpa using hz
              simp only [hn', hz', Bool.false_and, List.length_map, List.length_take, List.flatMap_map, Bool.false_eq_true, if_false]
              have e : ((x.l.take 32767).map fun y => if o = 8 ∨ o = 9 then Tre.mk 0 (y.s.take 32767) false [] [] else if o = 10 then .mk 0 [] false (fitL sub v y 0) ((unkn (known sub) y.u).map cut) else .mk y.n y.s false [] []).take 32767 = (x.l.take 32767).map fun y => if o = 8 ∨ o = 9 then Tre.mk 0 (y.s.take 32767) false [] [] else if o = 10 then .mk 0 [] false (fitL sub v y 0) ((unkn (known sub) y.u).map cut) else .mk y.n y.s false [] [] :=
                List.take_of_length_le (by rw [List.length_map, List.length_take]; omega)
              rw [e, List.flatMap_map]
              congr 1
              · congr 1
                omega
              · congr 1
                funext y
                exact hel y
        · simp only [fieldB, fitF, if_neg h89, if_neg h10, if_neg h11]
          simp only [not_or] at h89
          simp only [scalarB, tn, ts, if_neg h89.1, if_neg h89.2]
theorem fieldsB_fit (fx : Int) : ∀ (fs : List Fld) (v : Int) (q : Bool) (y : Tre), ofOks fs = true → nuFs fx fs = true → (q = true → v ≥ fx) → ∀ j, (hj : j < fs.length) → fieldB fs[j] v q (fitF fs[j] v (y.at_ j)) = fieldB fs[j] v q (y.at_ j) ∧ (q = true → fs[j].tag ≥ 0 → usualB fs[j] (fitF fs[j] v (y.at_ j)) = usualB fs[j] (y.at_ j))
  | [], v, q, y, _, _, _, j, hj => by simp at hj
  | f :: r, v, q, y, ho, hu, hq, j, hj => by
    simp only [ofOks, Bool.and_eq_true] at ho
    simp only [nuFs, Bool.and_eq_true] at hu
    have hf : ∀ z, fieldB f v q (fitF f v z) = fieldB f v q z := fun z => fieldB_fit' fx f v q z ho.1 hu.1 hq
    have hr : ∀ (z : Tre) (j : Nat) (hj : j < r.length), fieldB r[j] v q (fitF r[j] v z) = fieldB r[j] v q z ∧ (q = true → r[j].tag ≥ 0 → usualB r[j] (fitF r[j] v z) = usualB r[j] z) := fun z j hj => by
      have := fieldsB_fit fx r v q (.mk 0 [] false (List.replicate r.length z) []) ho.2 hu.2 hq j hj
      simpa [Tre.at_, Tre.l, hj] using this
    cases j with
    | zero =>
      simp only [List.getElem_cons_zero]
      refine ⟨hf _, fun hqt ht => ?_⟩
      have h2 : usF fx f = true := by
        have := hu.1
        cases f with
        | mk k a b nul tag d o sub =>
          simp only [nuF, Bool.and_eq_true, Bool.or_eq_true, decide_eq_true_eq] at this
          exact (this.1.resolve_left (by simp only [Fld.tag] at ht; omega)).1
      exact usualB_fit fx f v _ ho.1 h2 (hq hqt)
    | succ j =>
      simp only [List.getElem_cons_succ]
      exact hr _ j (by simpa using hj)
end
theorem partB_fit (fx : Int) (fs : List Fld) (v : Int) (q : Bool) (y : Tre) (ho : ofOks fs = true) (hu : nuFs fx fs = true) (hq : q = true → v ≥ fx) : partB fs v q (fitT fs v y) = partB fs v q y := by
  have hat := fun j (hj : j < fs.length) => fitT_at fs v y j hj
  have hsub := fieldsB_fit fx fs v q y ho hu hq
  unfold partB partOf
  rw [plainB_congr (x := fitT fs v y) (y := y) fs 0 (fun j hj => by rw [Nat.zero_add, hat j hj]; exact (hsub j hj).1)]
  cases q with
  | false => simp
  | true =>
    have ht := fun k : Nat => tgB_congr (fl := true) (v := v) (x := fitT fs v y) (y := y) fs 0 (fun j hj => by rw [Nat.zero_add, hat j hj]; exact ⟨(hsub j hj).1, fun h => (hsub j hj).2 rfl h⟩) k
    have hu : (fitT fs v y).u = (unkn (known fs) y.u).map cut := rfl
    simp only [ht, hu, unkn_fit]
theorem writeB_fit (fx : Int) (fs : List Fld) (v : Int) (y : Tre) (ho : ofOks fs = true) (hu : nuFs fx fs = true) : writeB fs fx v (fitT fs v y) = writeB fs fx v y :=
  partB_fit fx fs v _ y ho hu fun h => by
    simp only [flexB, Bool.and_eq_true, decide_eq_true_eq] at h
    exact h.2
end K
end Go.Proofs.YtepbicjadambbabGreatDoor
