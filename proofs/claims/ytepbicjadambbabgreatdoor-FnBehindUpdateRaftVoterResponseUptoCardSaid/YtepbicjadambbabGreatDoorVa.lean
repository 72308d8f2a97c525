import Derived.Test.YtepbicjadambbabGreatDoorP4
import Derived.Test.YtepbicjadambbabGreatDoorR1
import Derived.Test.YtepbicjadambbabGreatDoorV4
import Derived.Test.YtepbicjadambbabGreatDoorA3
import Derived.Test.YtepbicjadambbabGreatDoorS10
set_option linter.unusedVariables false
set_option linter.unusedSimpArgs false
namespace Go.Proofs.YtepbicjadambbabGreatDoor
namespace K
open Go Go.Lib
/-! ### What a reader makes of what was written: the image of a tree -/
def imS (k : Int) (null : Bool) (t : Tre) : Tre :=
  if k = 0 then .mk (t.n % 2) [] false [] []
  else if k = 1 then .mk (IntKind.i8.wrap t.n) [] false [] []
  else if k = 2 then .mk (IntKind.i16.wrap t.n) [] false [] []
  else if k = 3 then .mk (IntKind.i32.wrap t.n) [] false [] []
  else if k = 5 then .mk (IntKind.u16.wrap t.n) [] false [] []
  else if k = 7 then .mk 0 (uuid t.s) false [] []
  else if k = 8 ∨ k = 9 then .mk 0 (if null then [] else t.s.take 32767) null [] []
  else .mk (IntKind.i64.wrap t.n) [] false [] []
mutual
def dfF : Fld → Tre
  | .mk k _ _ nul _ d _ sub =>
    if k = 10 then (if nul ≥ 0 then .mk 0 [] true [] [] else .mk 0 [] false (dfL sub) [])
    else if k = 11 ∨ k = 9 then .mk 0 [] true [] []
    else if k = 8 then .mk 0 [] (decide (nul ≥ 0)) [] []
    else .mk d [] false [] []
def dfL : List Fld → List Tre
  | [] => []
  | f :: r => dfF f :: dfL r
end
def imU (fs : List Fld) (q : Bool) (u : Tags) : Tags := if q then (unkn (known fs) u).map cut else []
mutual
def imF : Fld → Int → Bool → Tre → Tre
  | .mk k _ _ nul _ _ o sub, v, q, t =>
    if k = 11 then .mk 0 [] (if nul ≥ 0 then t.z && decide (nul ≥ 0) && decide (v ≥ nul) else decide (t.l.length = 0))
      ((if t.z && decide (nul ≥ 0) && decide (v ≥ nul) then [] else t.l.take 32767).map fun x => if o = 10 then .mk 0 [] false (imL sub v q x 0) (imU sub q x.u) else imS o false x) []
    else if k = 10 then
      if t.z && decide (nul ≥ 0) && decide (v ≥ nul) then .mk 0 [] true [] []
      else .mk 0 [] false (imL sub v q t 0) (imU sub q t.u)
    else imS k (t.z && decide (nul ≥ 0) && decide (v ≥ nul)) t
def imL : List Fld → Int → Bool → Tre → Nat → List Tre
  | [], _, _, _, _ => []
  | f :: r, v, q, t, i => (if (if f.tag < 0 then hasB f v else q && !usualB f (t.at_ i)) then imF f v q (t.at_ i) else dfF f) :: imL r v q t (i + 1)
end
def imT (fs : List Fld) (v : Int) (q : Bool) (t : Tre) : Tre := .mk 0 [] false (imL fs v q t 0) (imU fs q t.u)
theorem imL_at : ∀ (fs : List Fld) (v : Int) (q : Bool) (x : Tre) (i j : Nat) (hj : j < fs.length), (imL fs v q x i)[j]? = some (if (if fs[j].tag < 0 then hasB fs[j] v else q && !usualB fs[j] (x.at_ (i + j))) then imF fs[j] v q (x.at_ (i + j)) else dfF fs[j])
  | f :: r, v, q, x, i, 0, hj => by simp [imL]
  | f :: r, v, q, x, i, j + 1, hj => by
    have := imL_at r v q x (i + 1) j (by simpa using hj)
    simp only [imL, List.getElem?_cons_succ, List.getElem_cons_succ]
    rw [this, show i + 1 + j = i + (j + 1) by omega]
theorem imT_at (fs : List Fld) (v : Int) (q : Bool) (x : Tre) (z : Bool) (u : Tags) (j : Nat) (hj : j < fs.length) (ht : fs[j].tag < 0) : (Tre.mk 0 [] z (imL fs v q x 0) u).at_ j = if hasB fs[j] v then imF fs[j] v q (x.at_ j) else dfF fs[j] := by
  have := imL_at fs v q x 0 j hj
  rw [Nat.zero_add, if_pos ht] at this
  simp [Tre.at_, tl, this]
/-! ### schemas without tags -/
mutual
def ntF : Fld → Bool
  | .mk _ _ _ _ tag _ _ sub => decide (tag < 0) && ntFs sub
def ntFs : List Fld → Bool
  | [] => true
  | f :: r => ntF f && ntFs r
end
theorem ntF_of {f : Fld} (h : ntF f = true) : f.tag < 0 ∧ ntFs f.sub = true := by
  cases f
  simpa only [ntF, Bool.and_eq_true, decide_eq_true_eq, Fld.tag, Fld.sub] using h
theorem ntFs_mem : ∀ {l : List Fld}, ntFs l = true → ∀ f ∈ l, ntF f = true
  | [], _, f, h => by simp at h
  | g :: r, h, f, hf => by
    simp only [ntFs, Bool.and_eq_true] at h
    rcases List.mem_cons.1 hf with rfl | hf
    · exact h.1
    · exact ntFs_mem h.2 f hf
theorem known_nt {l : List Fld} (h : ntFs l = true) : known l = 0 := known_neg _ l rfl fun g hg => (ntF_of (ntFs_mem h g hg)).1
/-- of a part without tags: what is written of it -/
theorem partB_nt {fs : List Fld} (h : ntFs fs = true) (v : Int) (q : Bool) (x : Tre) : partB fs v q x = plainB fs v q x 0 ++ if q then uvar (unkn 0 x.u).length ++ ((unkn 0 x.u).map cut).flatMap tagB else [] := by
  unfold partB partOf
  rw [known_nt h]
  cases q <;> simp
/-! ### the image is written as the tree -/
theorem fixed_wrap8 (x : Int) : fixed (IntKind.i8.wrap x) 1 = fixed x 1 := by
  rw [← fixed_mod (IntKind.i8.wrap x) 1 1 (by decide), ← fixed_mod x 1 1 (by decide)]
  congr 1
  simp [IntKind.wrap, IntKind.bits, IntKind.signed]; omega
theorem fixed_wrap16 (x : Int) : fixed (IntKind.i16.wrap x) 2 = fixed x 2 := by
  rw [← fixed_mod (IntKind.i16.wrap x) 2 2 (by decide), ← fixed_mod x 2 2 (by decide)]
  congr 1
  simp [IntKind.wrap, IntKind.bits, IntKind.signed]; omega
theorem fixed_wrapu16 (x : Int) : fixed (IntKind.u16.wrap x) 2 = fixed x 2 := by
  rw [← fixed_mod (IntKind.u16.wrap x) 2 2 (by decide), ← fixed_mod x 2 2 (by decide)]
  congr 1
  simp [IntKind.wrap, IntKind.bits, IntKind.signed]
theorem fixed_wrap32 (x : Int) : fixed (IntKind.i32.wrap x) 4 = fixed x 4 := by
  rw [← fixed_mod (IntKind.i32.wrap x) 4 4 (by decide), ← fixed_mod x 4 4 (by decide)]
  congr 1
  simp [IntKind.wrap, IntKind.bits, IntKind.signed]; omega
theorem fixed_wrap64 (x : Int) : fixed (IntKind.i64.wrap x) 8 = fixed x 8 := by
  rw [← fixed_mod (IntKind.i64.wrap x) 8 8 (by decide), ← fixed_mod x 8 8 (by decide)]
  congr 1
  simp [IntKind.wrap, IntKind.bits, IntKind.signed]; omega
theorem uuid_take (l : List UInt8) : (uuid l).take 16 ++ List.replicate (16 - (uuid l).length) 0 = uuid l := by
  rw [List.take_of_length_le (by rw [uuid_length]; exact Nat.le_refl _), uuid_length]
  simp
theorem scalarB_im (k : Int) (null q : Bool) (t : Tre) : scalarB k null q (imS k null t) = scalarB k null q t := by
  unfold imS
  split
  · rename_i h; subst h; simp [scalarB, tn]
  · split
    · rename_i h; subst h; simpa [scalarB, widthN, tn] using fixed_wrap8 t.n
    · split
      · rename_i h; subst h; simpa [scalarB, widthN, tn] using fixed_wrap16 t.n
      · split
        · rename_i h; subst h; simpa [scalarB, widthN, tn] using fixed_wrap32 t.n
        · split
          · rename_i h; subst h; simpa [scalarB, widthN, tn] using fixed_wrapu16 t.n
          · split
            · rename_i h; subst h
              simp only [scalarB, ts, uuid_take, if_true]
              simp [uuid]
            · split
              · rename_i h
                have e : (if null then [] else (if null then [] else t.s.take 32767).take 32767) = if null then [] else t.s.take 32767 := by
                  cases null <;> simp [List.take_take]
                rcases h with rfl | rfl <;> simp only [scalarB, ts, e] <;> simp
              · rename_i h0 h1 h2 h3 h5 h7 h89
                simp only [not_or] at h89
                have hw : widthN k = 8 := by simp only [widthN, if_neg h1, if_neg h3]; rw [if_neg (by omega)]
                simp only [scalarB, if_neg h0, if_neg h7, if_neg h89.1, if_neg h89.2, hw, tn]
                exact fixed_wrap64 t.n
theorem imU_len {fs : List Fld} (h : ntFs fs = true) (u : Tags) : (unkn 0 (imU fs true u)).map cut = (unkn 0 u).map cut := by
  unfold imU
  rw [if_pos rfl, known_nt h]
  exact unkn_fit 0 u
mutual
theorem fieldB_im : ∀ (f : Fld) (v : Int) (q : Bool) (x : Tre), ntF f = true → ofOk f = true → fieldB f v q (imF f v q x) = fieldB f v q x
  | .mk k a b nul tag d o sub, v, q, x, hn, ho => by
    simp only [ntF, Bool.and_eq_true, decide_eq_true_eq] at hn
    simp only [ofOk, Bool.and_eq_true, decide_eq_true_eq] at ho
    have hpart : ∀ (y : Tre) (z : Bool), partB sub v q (.mk 0 [] z (imL sub v q y 0) (imU sub q y.u)) = partB sub v q y := fun y z => by
      rw [partB_nt hn.2, partB_nt hn.2, plainB_im sub v q y (.mk 0 [] z (imL sub v q y 0) (imU sub q y.u)) 0 hn.2 ho.2 (fun j hj hh => by rw [Nat.zero_add, imT_at sub v q y z _ j hj (ntF_of (ntFs_mem hn.2 _ (List.getElem_mem hj))).1, if_pos hh])]
      congr 1
      cases q with
      | false => rfl
      | true =>
        have h1 := imU_len hn.2 y.u
        have h2 := congrArg List.length h1
        rw [List.length_map, List.length_map] at h2
        simp only [tu, if_true, h1, h2]
    by_cases h11 : k = 11
    · subst h11
      have hz : nullB (.mk 11 a b nul tag d o sub) v (imF (.mk 11 a b nul tag d o sub) v q x) = nullB (.mk 11 a b nul tag d o sub) v x := by
        rw [nullB_mk, nullB_mk]
        simp only [imF, if_true, tz]
        by_cases hnn : nul ≥ 0
        · simp [hnn]
        · simp [hnn]
      rw [fieldB_eq, fieldB_eq, hz]
      have hb0 : nullB (.mk 11 a b nul tag d o sub) v x = (x.z && decide (nul ≥ 0) && decide (v ≥ nul)) := nullB_mk
      generalize nullB (.mk 11 a b nul tag d o sub) v x = bz at *
      simp only [Fld.kind, Fld.of_, Fld.sub, if_true]
      have hl : (if bz = true then ([] : List Tre) else (imF (.mk 11 a b nul tag d o sub) v q x).l.take 32767) = (if bz = true then [] else x.l.take 32767).map fun y => if o = 10 then .mk 0 [] false (imL sub v q y 0) (imU sub q y.u) else imS o false y := by
        cases bz with
        | true => simp
        | false =>
          simp only [imF, if_true, tl, ← hb0]
          simp [List.map_take, List.take_take]
      rw [hl, List.length_map, List.flatMap_map]
      congr 1
      generalize (if bz = true then ([] : List Tre) else x.l.take 32767) = l
      induction l with
      | nil => rfl
      | cons y r ih =>
        rw [List.flatMap_cons, List.flatMap_cons, ih]
        congr 1
        unfold valueB
        by_cases ho10 : o = 10
        · rw [if_pos ho10, if_pos ho10, if_pos ho10]; exact hpart y false
        · rw [if_neg ho10, if_neg ho10, if_neg ho10]; exact scalarB_im o false q y
    · by_cases h10 : k = 10
      · subst h10
        have hb0 : nullB (.mk 10 a b nul tag d o sub) v x = (x.z && decide (nul ≥ 0) && decide (v ≥ nul)) := nullB_mk
        rw [fieldB_eq, fieldB_eq]
        simp only [Fld.kind, Fld.nul, Fld.sub]
        by_cases hnn : nul ≥ 0
        · simp only [hnn, and_self, if_true]
          cases hb : nullB (.mk 10 a b nul tag d o sub) v x with
          | true =>
            rw [hb] at hb0
            have h3 := null_of hb0.symm
            have e : imF (.mk 10 a b nul tag d o sub) v q x = .mk 0 [] true [] [] := by simp only [imF, ← hb0]; simp
            have e2 : nullB (.mk 10 a b nul tag d o sub) v (.mk 0 [] true [] []) = true := by rw [nullB_mk]; simp [tz, h3.1, h3.2]
            rw [e, e2]
            simp
          | false =>
            rw [hb] at hb0
            have e : imF (.mk 10 a b nul tag d o sub) v q x = .mk 0 [] false (imL sub v q x 0) (imU sub q x.u) := by simp only [imF, ← hb0]; simp
            have e2 : nullB (.mk 10 a b nul tag d o sub) v (.mk 0 [] false (imL sub v q x 0) (imU sub q x.u)) = false := by rw [nullB_mk]; simp [tz]
            rw [e, e2, hpart x false]
            simp
        · have hb : (x.z && decide (nul ≥ 0) && decide (v ≥ nul)) = false := by simp [hnn]
          have e : imF (.mk 10 a b nul tag d o sub) v q x = .mk 0 [] false (imL sub v q x 0) (imU sub q x.u) := by simp [imF, hb]
          rw [e]
          simp only [hnn, and_false, if_false, valueB, if_true]
          have := hpart x false
          simpa using this
      · have e : imF (.mk k a b nul tag d o sub) v q x = imS k (x.z && decide (nul ≥ 0) && decide (v ≥ nul)) x := by simp [imF, h10, h11]
        rw [fieldB_eq, fieldB_eq]
        simp only [Fld.kind, Fld.nul, Fld.sub, nullB_mk, valueB, if_neg h10, if_neg h11, e, h10, false_and, if_false]
        have hz : ((imS k (x.z && decide (nul ≥ 0) && decide (v ≥ nul)) x).z && decide (nul ≥ 0) && decide (v ≥ nul)) = (x.z && decide (nul ≥ 0) && decide (v ≥ nul)) ∨ ¬ (k = 8 ∨ k = 9) := by
          by_cases h89 : k = 8 ∨ k = 9
          · left
            have e : (imS k (x.z && decide (nul ≥ 0) && decide (v ≥ nul)) x).z = (x.z && decide (nul ≥ 0) && decide (v ≥ nul)) := by
              unfold imS
              rw [if_neg (by omega), if_neg (by omega), if_neg (by omega), if_neg (by omega), if_neg (by omega), if_neg (by omega), if_pos h89]
              rfl
            rw [e]
            have hb : ∀ a b c : Bool, ((a && b && c) && b && c) = (a && b && c) := by decide
            exact hb _ _ _
          · exact .inr h89
        rcases hz with hz | hz
        · rw [hz, scalarB_im]
        · have h8 : ∀ (n1 n2 : Bool) (y : Tre), scalarB k n1 q y = scalarB k n2 q y := fun n1 n2 y => by
            simp only [not_or] at hz
            simp only [scalarB, if_neg hz.1, if_neg hz.2]
          rw [h8 _ (x.z && decide (nul ≥ 0) && decide (v ≥ nul)), scalarB_im]
theorem plainB_im : ∀ (fs : List Fld) (v : Int) (q : Bool) (x Y : Tre) (i : Nat), ntFs fs = true → ofOks fs = true → (∀ j, (hj : j < fs.length) → hasB fs[j] v = true → Y.at_ (i + j) = imF fs[j] v q (x.at_ (i + j))) → plainB fs v q Y i = plainB fs v q x i
  | [], v, q, x, Y, i, _, _, _ => rfl
  | f :: r, v, q, x, Y, i, hn, ho, h => by
    simp only [ntFs, Bool.and_eq_true] at hn
    simp only [ofOks, Bool.and_eq_true] at ho
    rw [plainB, plainB]
    congr 1
    · by_cases hh : hasB f v = true
      · have h0 := h 0 (by simp) hh
        simp only [List.getElem_cons_zero, Nat.add_zero] at h0
        rw [h0, fieldB_im f v q _ hn.1 ho.1]
      · simp [hh]
    · exact plainB_im r v q x Y (i + 1) hn.2 ho.2 fun j hj hh => by
        have := h (j + 1) (by simpa using hj) hh
        simp only [List.getElem_cons_succ] at this
        rw [show i + 1 + j = i + (j + 1) by omega]
        exact this
end
theorem partB_im {fs : List Fld} (hn : ntFs fs = true) (ho : ofOks fs = true) (v : Int) (q : Bool) (x : Tre) : partB fs v q (imT fs v q x) = partB fs v q x := by
  unfold imT
  rw [partB_nt hn, partB_nt hn, plainB_im fs v q x _ 0 hn ho (fun j hj hh => by rw [Nat.zero_add, imT_at fs v q x false _ j hj (ntF_of (ntFs_mem hn _ (List.getElem_mem hj))).1, if_pos hh])]
  congr 1
  cases q with
  | false => rfl
  | true =>
    have h1 := imU_len hn x.u
    have h2 := congrArg List.length h1
    rw [List.length_map, List.length_map] at h2
    simp only [tu, if_true, h1, h2]
/-! ### the image can be set -/
theorem okU_im {fs : List Fld} (hn : ntFs fs = true) (q : Bool) (u : Tags) (hk : ∀ y ∈ u, y.1 < 4294967296) : okU (known fs) q (imU fs q u) := fun hq => by
  subst hq
  unfold imU
  rw [if_pos rfl]
  exact okU_fit (known fs) true u hk rfl
theorem okS_im (k nul v : Int) (t : Tre) : okS k nul v (imS k (t.z && decide (nul ≥ 0) && decide (v ≥ nul)) t) := fun h89 => by
  have e : imS k (t.z && decide (nul ≥ 0) && decide (v ≥ nul)) t = .mk 0 (if (t.z && decide (nul ≥ 0) && decide (v ≥ nul)) then [] else t.s.take 32767) (t.z && decide (nul ≥ 0) && decide (v ≥ nul)) [] [] := by
    unfold imS
    rw [if_neg (by omega), if_neg (by omega), if_neg (by omega), if_neg (by omega), if_neg (by omega), if_neg (by omega), if_pos h89]
  rw [e]
  refine ⟨?_, fun hz => null_of hz⟩
  simp only [ts]
  split
  · simp
  · rw [List.length_take]; omega
mutual
theorem okV_im : ∀ (f : Fld) (v : Int) (q : Bool) (x : Tre), ntF f = true → ofOk f = true → keysT x → okV f v q (imF f v q x)
  | .mk k a b nul tag d o sub, v, q, x, hn, ho, hk => by
    simp only [ntF, Bool.and_eq_true, decide_eq_true_eq] at hn
    simp only [ofOk, Bool.and_eq_true, decide_eq_true_eq] at ho
    have hpart : ∀ (y : Tre), keysT y → okFl sub v q (.mk 0 [] false (imL sub v q y 0) (imU sub q y.u)) 0 ∧ okU (known sub) q (imU sub q y.u) := fun y hy =>
      ⟨okFl_im sub v q y _ 0 hn.2 ho.2 hy (fun j hj hh => by rw [Nat.zero_add, imT_at sub v q y false _ j hj (ntF_of (ntFs_mem hn.2 _ (List.getElem_mem hj))).1, if_pos hh]), okU_im hn.2 q y.u hy.open.1⟩
    by_cases h11 : k = 11
    · subst h11
      simp only [okV, if_true]
      generalize hb : (x.z && decide (nul ≥ 0) && decide (v ≥ nul)) = bz
      have hl : (imF (.mk 11 a b nul tag d o sub) v q x).l = (if bz = true then [] else x.l.take 32767).map fun y => if o = 10 then .mk 0 [] false (imL sub v q y 0) (imU sub q y.u) else imS o false y := by
        simp only [imF, if_true, tl, hb]
      have hz : (imF (.mk 11 a b nul tag d o sub) v q x).z = if nul ≥ 0 then bz else decide (x.l.length = 0) := by
        simp only [imF, if_true, tz, hb]
      refine ⟨?_, fun h => ?_, fun i hi => ?_⟩
      · rw [hl, List.length_map]
        split
        · simp
        · rw [List.length_take]; omega
      · rw [hz] at h
        by_cases hnn : nul ≥ 0
        · rw [if_pos hnn] at h
          subst h
          exact .inl (null_of hb)
        · rw [if_neg hnn] at h
          right
          have h0 := List.eq_nil_of_length_eq_zero (of_decide_eq_true h)
          rw [hl, h0]
          cases bz <;> rfl
      · simp only [hl] at hi ⊢
        rw [List.length_map] at hi
        have hky : keysT (if bz = true then [] else x.l.take 32767)[i] := by
          have hm := List.getElem_mem hi
          cases bz with
          | true => simp at hi
          | false => exact keysTs.mem hk.open.2 _ (List.mem_of_mem_take hm)
        rw [List.getElem_map]
        generalize (if bz = true then [] else x.l.take 32767)[i] = y at hky ⊢
        by_cases ho10 : o = 10
        · simp only [if_pos ho10]
          exact hpart y hky
        · simp only [if_neg ho10]
          have := okS_im o (-1) v y
          simpa using this
    · by_cases h10 : k = 10
      · subst h10
        simp only [okV, if_neg h11, if_true]
        cases hb : (x.z && decide (nul ≥ 0) && decide (v ≥ nul)) with
        | true =>
          have e : imF (.mk 10 a b nul tag d o sub) v q x = .mk 0 [] true [] [] := by simp only [imF, hb]; simp
          have h3 := null_of hb
          rw [e]
          refine ⟨fun _ _ => h3.2, fun h => ?_⟩
          rcases h with h | h
          · omega
          · simp [tz] at h
        | false =>
          have e : imF (.mk 10 a b nul tag d o sub) v q x = .mk 0 [] false (imL sub v q x 0) (imU sub q x.u) := by simp only [imF, hb]; simp
          rw [e]
          exact ⟨fun _ h => by simp [tz] at h, fun _ => hpart x hk⟩
      · simp only [okV, if_neg h11, if_neg h10, imF]
        exact okS_im k nul v x
theorem okFl_im : ∀ (fs : List Fld) (v : Int) (q : Bool) (x Y : Tre) (i : Nat), ntFs fs = true → ofOks fs = true → keysT x → (∀ j, (hj : j < fs.length) → hasB fs[j] v = true → Y.at_ (i + j) = imF fs[j] v q (x.at_ (i + j))) → okFl fs v q Y i
  | [], v, q, x, Y, i, _, _, _, _ => by simp [okFl]
  | f :: r, v, q, x, Y, i, hn, ho, hk, h => by
    simp only [ntFs, Bool.and_eq_true] at hn
    simp only [ofOks, Bool.and_eq_true] at ho
    simp only [okFl]
    refine ⟨fun hh => ?_, okFl_im r v q x Y (i + 1) hn.2 ho.2 hk fun j hj hh => ?_⟩
    · rw [if_pos (ntF_of hn.1).1] at hh
      have h0 := h 0 (by simp) hh
      simp only [List.getElem_cons_zero, Nat.add_zero] at h0
      rw [h0]
      exact okV_im f v q _ hn.1 ho.1 (hk.at_ i)
    · have := h (j + 1) (by simpa using hj) hh
      simp only [List.getElem_cons_succ] at this
      rw [show i + 1 + j = i + (j + 1) by omega]
      exact this
end
theorem okP_im {fs : List Fld} (hn : ntFs fs = true) (ho : ofOks fs = true) (v : Int) (q : Bool) (x : Tre) (hk : keysT x) : okP fs v q (imT fs v q x) :=
  ⟨okFl_im fs v q x _ 0 hn ho hk fun j hj hh => by unfold imT; rw [Nat.zero_add, imT_at fs v q x false _ j hj (ntF_of (ntFs_mem hn _ (List.getElem_mem hj))).1, if_pos hh], okU_im hn q x.u hk.open.1⟩
end K
end Go.Proofs.YtepbicjadambbabGreatDoor
namespace Go.Proofs.YtepbicjadambbabGreatDoor
namespace K
open Go Go.Lib
/-! ### A part that is being read: what stands, what is to come -/
def imx (f : Fld) (v : Int) (q : Bool) (x : Tre) : Tre := if hasB f v then imF f v q x else dfF f
theorem imx_yes {f : Fld} {v : Int} {q : Bool} {x : Tre} (h : hasB f v = true) : imx f v q x = imF f v q x := by rw [imx, if_pos h]
theorem imx_no {f : Fld} {v : Int} {q : Bool} {x : Tre} (h : hasB f v = false) : imx f v q x = dfF f := by rw [imx, if_neg (by rw [h]; decide)]
structure Rs (s : Vw) (rs fsd : List Fld) (v0 : Int) (q : Bool) (x Y : Tre) (T : List UInt8) (v : Value) (done : List Value) : Prop where
  hv : RSv s v (plainB rs v0 q x fsd.length ++ T)
  acc : RMl s fsd Y 0 done
  hY : ∀ j, (hj : j < rs.length) → Y.at_ (fsd.length + j) = imx rs[j] v0 q (x.at_ (fsd.length + j))
  nt : ntFs rs = true
theorem Rs.mv {s t : Vw} {rs fsd : List Fld} {v0 : Int} {q : Bool} {x Y : Tre} {T : List UInt8} {v : Value} {done : List Value} (h : Rs s rs fsd v0 q x Y T v done) (ht : Tr s t) : Rs t rs fsd v0 q x Y T v done := ⟨RSv.mv h.hv ht, RMl.mv ht h.acc, h.hY, h.nt⟩
theorem Rs.start {s : Vw} {F : List Fld} {v0 : Int} {q : Bool} {x : Tre} {T : List UInt8} {v : Value} {z : Bool} {U : Tags} (hv : RSv s v (plainB F v0 q x 0 ++ T)) (hn : ntFs F = true) : Rs s F [] v0 q x (.mk 0 [] z (imL F v0 q x 0) U) T v [] :=
  ⟨hv, by simp [RMl], fun j hj => by
    have := imT_at F v0 q x z U j hj (ntF_of (ntFs_mem hn _ (List.getElem_mem hj))).1
    simpa [imx] using this, hn⟩
theorem RMl_snoc {s : Vw} {f : Fld} {Y : Tre} : ∀ {fs : List Fld} {i : Nat} {c c' : List Value}, RMl s fs Y i c → RMf s f (Y.at_ (i + fs.length)) c' → RMl s (fs ++ [f]) Y i (c ++ c')
  | [], i, c, c', h, k => by
    simp only [RMl] at h
    subst h
    simp only [List.nil_append, RMl]
    exact ⟨c', [], by simp, by simpa using k, rfl⟩
  | g :: r, i, c, c', h, k => by
    simp only [RMl] at h
    obtain ⟨a, b, rfl, h2, h3⟩ := h
    simp only [List.cons_append, RMl]
    refine ⟨a, b ++ c', by simp, h2, RMl_snoc h3 ?_⟩
    have e : i + 1 + r.length = i + (g :: r).length := by simp; omega
    rw [e]
    exact k
theorem Rs.step {s t : Vw} {fl : Fld} {r fsd : List Fld} {v0 : Int} {q : Bool} {x Y : Tre} {T : List UInt8} {v v' : Value} {done cs : List Value} (h : Rs s (fl :: r) fsd v0 q x Y T v done) (ht : Tr s t) (hv : RSv t v' (plainB r v0 q x (fsd.length + 1) ++ T)) (hm : RMf t fl (imx fl v0 q (x.at_ fsd.length)) cs) :
    Rs t r (fsd ++ [fl]) v0 q x Y T v' (done ++ cs) := by
  have hn := h.nt
  simp only [ntFs, Bool.and_eq_true] at hn
  refine ⟨by simpa using hv, RMl_snoc (RMl.mv ht h.acc) ?_, fun j hj => ?_, hn.2⟩
  · have := h.hY 0 (by simp)
    simp only [Nat.add_zero, List.getElem_cons_zero] at this
    rw [Nat.zero_add, this]
    exact hm
  · have := h.hY (j + 1) (by simpa using hj)
    simp only [List.getElem_cons_succ] at this
    simp only [List.length_append, List.length_cons, List.length_nil]
    rw [show fsd.length + (0 + 1) + j = fsd.length + (j + 1) by omega]
    exact this
theorem Rs.has {s : Vw} {fl : Fld} {r fsd : List Fld} {v0 : Int} {q : Bool} {x Y : Tre} {T : List UInt8} {v : Value} {done : List Value} (h : Rs s (fl :: r) fsd v0 q x Y T v done) (hh : hasB fl v0 = true) : RSv s v (fieldB fl v0 q (x.at_ fsd.length) ++ (plainB r v0 q x (fsd.length + 1) ++ T)) := by
  have hn := h.nt
  simp only [ntFs, Bool.and_eq_true] at hn
  have := h.hv
  rw [plainB] at this
  have ht : decide (fl.tag < 0) = true := decide_eq_true (ntF_of hn.1).1
  rw [ht, hh] at this
  simpa [List.append_assoc] using this
theorem Rs.lacks {s : Vw} {fl : Fld} {r fsd : List Fld} {v0 : Int} {q : Bool} {x Y : Tre} {T : List UInt8} {v : Value} {done : List Value} (h : Rs s (fl :: r) fsd v0 q x Y T v done) (hh : hasB fl v0 = false) : RSv s v (plainB r v0 q x (fsd.length + 1) ++ T) := by
  have := h.hv
  rw [plainB] at this
  rw [hh] at this
  simpa using this
theorem Rs.len {s : Vw} {rs fsd : List Fld} {v0 : Int} {q : Bool} {x Y : Tre} {T : List UInt8} {v : Value} {done : List Value} (h : Rs s rs fsd v0 q x Y T v done) : done.length = fszs fsd := (RMl.len h.acc).1
/-- what a field's value is read as -/
def Fc (f : FuncId) (fl : Fld) (v0 : Int) (q : Bool) (y : Tre) : Prop := ∀ u, RdC f (fieldB fl v0 q y) (fun u c => RMf u fl (imF fl v0 q y) [c]) u
theorem wr_done {done zc zs cs : List Value} (h : cs.length = zc.length) : wr (done ++ (zc ++ zs)) done.length cs = (done ++ cs) ++ zs := by
  simp only [wr, List.take_left', h]
  rw [← List.append_assoc, show done.length + zc.length = (done ++ zc).length by simp, List.drop_left, List.append_assoc]
theorem sub.same {L : Env} {d : Nat} {v : Value} (h : lk L d = some v) : sub L ((d, v) :: L) := fun t u hu => by
  by_cases e : d = t
  · subst e; rw [lk_eq]; exact h.symm.trans hu
  · rw [lk_ne e]; exact hu
section
variable {n : Nat} {L : Env} {H H0 : Hp} {C : Cx} {s : Vw} {N R : Act → World → Prop} {X : List (Nat × (Act → World → Prop))}
variable {id id0 id1 id2 id3 id4 id5 id6 id7 id8 id9 : Nat} {tb ts un fx vr x y d0 d1 d2 d3 d4 d5 d6 d7 d8 e1 e2 e3 e4 : Nat} {f g : FuncId} {br b o po len fo k sz : Nat} {mk : List Value → Ent} {v c val : Value} {rest bs : List UInt8}
variable {ty0 ty1 ty2 ty3 ty4 ty5 ty6 ty7 ty8 ty9 : TypeId} {p0 p1 p2 p3 p4 p5 p6 p7 p8 p9 : String} {a0 a1 a2 a3 a4 a5 a6 a7 a8 a9 : Array Edge} {tys tyt : Array TypeId}
variable {uy1 uy2 uy3 uy4 uy5 uy6 : TypeId} {q1 q2 q3 q4 q5 q6 : String} {c1 c2 c3 c4 c5 c6 : Array Edge}
variable {T ft : TypeId} {fs : Array Field} {fd : Field} {fl : Fld} {r fsd : List Fld} {v0 : Int} {q : Bool} {xx Y : Tre} {T' : List UInt8} {done zc zs : List Value} {z : Value} {E0 : Ent}
/-- y = a value that is known, and not asked again -/
theorem rg_const (hf : frs n L [y] = true) (kk : At N n L H C s) : Cd Tryz.prog (.region id [⟨some y, .assign (.const val), ty1, p1, a1, none⟩].toArray false) ⟨N, R, X⟩ n L H C s := by
  obtain ⟨hb, hfr, hne⟩ := frs_get hf
  simp only [List.mem_cons, List.not_mem_nil, or_false, forall_eq] at hb hfr
  refine cd_region ?_
  refine ln_pv (pv_assign ev_c) hb ?_
  exact ln_nil (at_sub (.skip hfr .rfl') kk)
/-- _ = x -/
theorem rg_blank (hx : lk L x = some val) (hf : frs n L [y] = true) (kk : At N n L H C s) : Cd Tryz.prog (.region id [⟨some y, .move (.tmp x), ty1, p1, a1, none⟩].toArray false) ⟨N, R, X⟩ n L H C s := by
  obtain ⟨hb, hfr, hne⟩ := frs_get hf
  simp only [List.mem_cons, List.not_mem_nil, or_false, forall_eq] at hb hfr
  refine cd_region ?_
  refine ln_pv (pv_move hx) hb ?_
  exact ln_nil (at_sub (.skip hfr .rfl') kk)
/-- y = x -/
theorem rg_move (hx : lk L x = some val) (hf : frs n L [y, d1] = true) (kk : At N n ((y, val) :: L) H C s) : Cd Tryz.prog (.region id [⟨some d1, .move (.tmp x), ty1, p1, a1, none⟩, ⟨some y, .assign (.tmp d1), ty2, p2, a2, none⟩].toArray false) ⟨N, R, X⟩ n L H C s := by
  obtain ⟨hb, hfr, hne⟩ := frs_get hf
  simp only [List.pairwise_cons, List.mem_cons, List.not_mem_nil, or_false, forall_eq_or_imp, forall_eq, List.Pairwise.nil, and_true, false_imp_iff, implies_true] at hb hfr hne
  refine cd_region ?_
  refine ln_pv (pv_move hx) hb.2 ?_
  refine ln_pv (pv_assign lk_eq) hb.1 ?_
  exact ln_nil (at_sub (sub.cons (.skip hfr.2 .rfl')) kk)
/-- y = b.F() -/
theorem rg_call {Rr : Vw → Value → Prop} (hb : lk L tb = some (.pointer (some ⟨br, 0, none⟩))) (hent : Enters Tryz.prog f) (hc : ∀ u, Tr s u → RdC f bs Rr u) (hv : RSv s v (bs ++ rest)) (hf : frs n L [y, d1] = true)
    (kk : ∀ u ux v' c, Tr s u → Tr ux u → Rr ux c → RSn u v' rest → At N n ((y, c) :: L) (RdE br v' :: H0) C u) :
    Cd Tryz.prog (.region id [⟨some d1, .call ⟨.value (.func f), [.tmp tb].toArray, tys⟩, ty1, p1, a1, none⟩, ⟨some y, .assign (.tmp d1), ty2, p2, a2, none⟩].toArray false) ⟨N, R, X⟩ n L (RdE br v :: H0) C s := by
  obtain ⟨hb', hfr, hne⟩ := frs_get hf
  simp only [List.pairwise_cons, List.mem_cons, List.not_mem_nil, or_false, forall_eq_or_imp, forall_eq, List.Pairwise.nil, and_true, false_imp_iff, implies_true] at hb' hfr hne
  refine cd_region ?_
  refine ln_callT (i := 0) (vals := [.pointer (some ⟨br, 0, none⟩)]) hent (by simp [evs, ev_t, hb]) rfl (fun u hu hok hav => hc u hu br v rest (RSv.mv hv hu) hok hav) hb'.2 ?_
  rintro u c _ ht ⟨ux, ⟨h1, v', rfl, h2⟩, hx⟩
  refine ln_pv (pv_assign lk_eq) hb'.1 ?_
  exact ln_nil (at_sub (sub.cons (.skip hfr.2 .rfl')) (kk u ux v' c ht hx h1 (h2.mv hx)))
/-- s.F = x -/
theorem rg_put {win : List Value} {off : Nat} (hs : lk L ts = some (.pointer (some ⟨b, po, none⟩))) (hx : lk L x = some val) (h1 : val.oneCell' = true) (hT : Tgt mk b o len) (hl : win.length = len) (hu : Tryz.prog.underlying T = some (.struct fs)) (hk : fs[k]? = some fd) (hsz : (Tryz.prog.info? fd.type).map (·.size) = some (sz + 1)) (ho : fd.offset = fo)
    (hpo : po + fo = o + off) (hsz1 : (Tryz.prog.info? ft).map (·.size) = some 1) (hle : off + 1 ≤ len) (hf : frs n L [d1, d2, d3, d4] = true) (kk : At N n L (E0 :: mk (win.set off val) :: H0) C s) :
    Cd Tryz.prog (.region id [⟨some d1, .move (.tmp ts), ty1, p1, a1, none⟩, ⟨some d2, .move (.tmp x), ty2, p2, a2, none⟩, ⟨some d3, .nilCheck (.tmp d1), ty3, p3, a3, none⟩, ⟨some d4, .fieldAddr T (.tmp d3) k, ty4, p4, a4, none⟩, ⟨none, .store ft (.tmp d4) (.tmp d2), ty5, p5, a5, none⟩].toArray false) ⟨N, R, X⟩ n L (E0 :: mk win :: H0) C s := by
  obtain ⟨hb, hfr, hne⟩ := frs_get hf
  simp only [List.pairwise_cons, List.mem_cons, List.not_mem_nil, or_false, forall_eq_or_imp, forall_eq, List.Pairwise.nil, and_true, false_imp_iff, implies_true] at hb hfr hne
  obtain ⟨f1, f2, f3, f4⟩ := hfr
  obtain ⟨b1, b2, b3, b4⟩ := hb
  refine cd_region ?_
  refine ln_pv (pv_move hs) b1 ?_
  refine ln_pv (pv_move (v := val) (by rw [ev_t, lk_ne (lk_fr f1 hx)]; exact hx)) b2 ?_
  refine ln_pv (pv_nilCheck (by simp [ev_t, lk_eq, lk_ne, hne] <;> rfl)) b3 ?_
  refine ln_pv (pv_fieldAddr (r := o + off) hu hk hsz ho lk_eq hpo) b4 ?_
  refine ln_storeG1 (i := 1) (v := val) hT rfl hl lk_eq (by simp [ev_t, lk_eq, lk_ne, hne]) h1 hsz1 hle ?_
  exact ln_nil (at_sub (.skip f4 (.skip f3 (.skip f2 (.skip f1 .rfl')))) kk)
/-- the field is put: on with the next -/
theorem st_put (hR : Rs s (fl :: r) fsd v0 q xx Y T' v done) {v' : Value} {u : Vw} (hu' : Tr s u) (hv' : RSv u v' (plainB r v0 q xx (fsd.length + 1) ++ T')) (hm : RMf u fl (imx fl v0 q (xx.at_ fsd.length)) [c]) (hs : lk L ts = some (.pointer (some ⟨b, po, none⟩))) (hx : lk L x = some c) (hT : Tgt mk b o len) (hl : fszs fsd + (zs.length + 1) = len) (hu : Tryz.prog.underlying T = some (.struct fs)) (hk : fs[k]? = some fd) (hsz : (Tryz.prog.info? fd.type).map (·.size) = some (sz + 1)) (ho : fd.offset = fo)
    (hpo : po + fo = o + fszs fsd) (hsz1 : (Tryz.prog.info? ft).map (·.size) = some 1) (hf : frs n L [d1, d2, d3, d4] = true) (kk : ∀ done', Rs u r (fsd ++ [fl]) v0 q xx Y T' v' done' → At N n L (E0 :: mk (done' ++ zs) :: H0) C u) :
    Cd Tryz.prog (.region id [⟨some d1, .move (.tmp ts), ty1, p1, a1, none⟩, ⟨some d2, .move (.tmp x), ty2, p2, a2, none⟩, ⟨some d3, .nilCheck (.tmp d1), ty3, p3, a3, none⟩, ⟨some d4, .fieldAddr T (.tmp d3) k, ty4, p4, a4, none⟩, ⟨none, .store ft (.tmp d4) (.tmp d2), ty5, p5, a5, none⟩].toArray false) ⟨N, R, X⟩ n L (E0 :: mk (done ++ z :: zs) :: H0) C u := by
  have hdl := hR.len
  have h1 : c.oneCell' = true := (RMf.len hm).2 c (by simp)
  refine rg_put (off := done.length) hs hx h1 hT (by simp [hdl]; omega) hu hk hsz ho (by rw [hdl]; exact hpo) hsz1 (by rw [hdl]; omega) hf ?_
  have e : (done ++ z :: zs).set done.length c = (done ++ [c]) ++ zs := by simp
  rw [e]
  exact kk _ (hR.step hu' hv' hm)
/-- a number -/
theorem st_num (hR : Rs s (fl :: r) fsd v0 q xx Y T' v done) (hh : hasB fl v0 = true) (hb : lk L tb = some (.pointer (some ⟨br, 0, none⟩))) (hent : Enters Tryz.prog f) (hc : Fc f fl v0 q (xx.at_ fsd.length)) (hs : lk L ts = some (.pointer (some ⟨b, po, none⟩))) (hT : Tgt mk b o len) (hl : fszs fsd + (zs.length + 1) = len) (hu : Tryz.prog.underlying T = some (.struct fs)) (hk : fs[k]? = some fd) (hsz : (Tryz.prog.info? fd.type).map (·.size) = some (sz + 1)) (ho : fd.offset = fo)
    (hpo : po + fo = o + fszs fsd) (hsz1 : (Tryz.prog.info? ft).map (·.size) = some 1) (hf1 : frs n L [y, d5] = true) (hf : frs n L [y, d1, d2, d3, d4] = true) (kk : ∀ u v' done', Tr s u → Rs u r (fsd ++ [fl]) v0 q xx Y T' v' done' → At N n L (RdE br v' :: mk (done' ++ zs) :: H0) C u) :
    Cd Tryz.prog (.seq (.region id0 [⟨some d5, .call ⟨.value (.func f), [.tmp tb].toArray, tys⟩, ty6, p6, a6, none⟩, ⟨some y, .assign (.tmp d5), ty7, p7, a7, none⟩].toArray false) (.region id [⟨some d1, .move (.tmp ts), ty1, p1, a1, none⟩, ⟨some d2, .move (.tmp y), ty2, p2, a2, none⟩, ⟨some d3, .nilCheck (.tmp d1), ty3, p3, a3, none⟩, ⟨some d4, .fieldAddr T (.tmp d3) k, ty4, p4, a4, none⟩, ⟨none, .store ft (.tmp d4) (.tmp d2), ty5, p5, a5, none⟩].toArray false)) ⟨N, R, X⟩ n L (RdE br v :: mk (done ++ z :: zs) :: H0) C s := by
  obtain ⟨hb', hfr, hne⟩ := frs_get hf
  simp only [List.pairwise_cons, List.mem_cons, List.not_mem_nil, or_false, forall_eq_or_imp, forall_eq, List.Pairwise.nil, and_true, false_imp_iff, implies_true] at hb' hfr hne
  refine cd_sq ?_
  refine rg_call hb hent (fun u _ => hc u) (hR.has hh) hf1 (fun u ux v' c hu1 hu2 hm hv' => ?_)
  refine at_cd ?_
  refine st_put (c := c) hR hu1 hv'.1 (by rw [imx_yes hh]; exact RMf.mv hu2 hm) (by rw [lk_ne (lk_fr hfr.1 hs)]; exact hs) lk_eq hT hl hu hk hsz ho hpo hsz1 ?_ (fun done' hR' => ?_)
  · simp only [frs, fr, Bool.and_eq_true, List.all_cons, List.all_nil] at hf ⊢
    simp_all
  · exact at_sub (.skip hfr.1 .rfl') (kk u v' done' hu1 hR')
/-- one call or the other -/
theorem rg_flex {Rr : Vw → Value → Prop} (hb : lk L tb = some (.pointer (some ⟨br, 0, none⟩))) (hq : lk L fx = some (.bool q)) (hent : Enters Tryz.prog f) (heng : Enters Tryz.prog g) (hc : q = true → ∀ u, Tr s u → RdC f bs Rr u) (hc' : q = false → ∀ u, Tr s u → RdC g bs Rr u) (hv : RSv s v (bs ++ rest)) (hf : frs n L [d0] = true) (hf1 : frs n L [y, d1] = true) (hf2 : frs n L [y, d2] = true)
    (kk : ∀ u ux v' c, Tr s u → Tr ux u → Rr ux c → RSn u v' rest → At N n ((y, c) :: L) (RdE br v' :: H0) C u) :
    Cd Tryz.prog (.seq (.region id0 [⟨some d0, .move (.tmp fx), ty0, p0, a0, none⟩].toArray false) (.cond (.tmp d0)
      (.region id1 [⟨some d1, .call ⟨.value (.func f), [.tmp tb].toArray, tys⟩, ty1, p1, a1, none⟩, ⟨some y, .assign (.tmp d1), ty2, p2, a2, none⟩].toArray false)
      (.region id2 [⟨some d2, .call ⟨.value (.func g), [.tmp tb].toArray, tyt⟩, ty3, p3, a3, none⟩, ⟨some y, .assign (.tmp d2), ty4, p4, a4, none⟩].toArray false))) ⟨N, R, X⟩ n L (RdE br v :: H0) C s := by
  obtain ⟨hb', hfr, hne⟩ := frs_get hf
  simp only [List.mem_cons, List.not_mem_nil, or_false, forall_eq] at hb' hfr
  refine cd_sq ?_
  refine cd_region ?_
  refine ln_pv (pv_move hq) hb' ?_
  refine ln_nil (at_cd ?_)
  exact cd_cond lk_eq (fun h => cd_sub_ (.skip hfr .rfl') (rg_call hb hent (hc h) hv hf1 kk)) (fun h => cd_sub_ (.skip hfr .rfl') (rg_call hb heng (hc' h) hv hf2 kk))
/-- .. not unsafe -/
theorem rg_safe {A B : Code} (hq : lk L un = some (.bool false)) (hf : frs n L [d0] = true) (kk : Cd Tryz.prog B ⟨N, R, X⟩ n L H C s) :
    Cd Tryz.prog (.seq (.region id0 [⟨some d0, .move (.tmp un), ty0, p0, a0, none⟩].toArray false) (.cond (.tmp d0) A B)) ⟨N, R, X⟩ n L H C s := by
  obtain ⟨hb', hfr, hne⟩ := frs_get hf
  simp only [List.mem_cons, List.not_mem_nil, or_false, forall_eq] at hb' hfr
  refine cd_sq ?_
  refine cd_region ?_
  refine ln_pv (pv_move hq) hb' ?_
  refine ln_nil (at_cd ?_)
  exact cd_ff lk_eq (cd_sub_ (.skip hfr .rfl') kk)
/-- behind a value of a field: it is put -/
theorem st_rest {u ux : Vw} {v' : Value} (hR : Rs s (fl :: r) fsd v0 q xx Y T' v done) (hh : hasB fl v0 = true) (hu1 : Tr s u) (hu2 : Tr ux u) (hm : RMf ux fl (imF fl v0 q (xx.at_ fsd.length)) [c]) (hv' : RSn u v' (plainB r v0 q xx (fsd.length + 1) ++ T')) (hs : lk L ts = some (.pointer (some ⟨b, po, none⟩))) (hT : Tgt mk b o len) (hl : fszs fsd + (zs.length + 1) = len) (hu : Tryz.prog.underlying T = some (.struct fs)) (hk : fs[k]? = some fd) (hsz : (Tryz.prog.info? fd.type).map (·.size) = some (sz + 1)) (ho : fd.offset = fo)
    (hpo : po + fo = o + fszs fsd) (hsz1 : (Tryz.prog.info? ft).map (·.size) = some 1) (hf : frs n L [y, d1, d2, d3, d4] = true) (kk : ∀ u v' done', Tr s u → Rs u r (fsd ++ [fl]) v0 q xx Y T' v' done' → At N n L (RdE br v' :: mk (done' ++ zs) :: H0) C u) :
    Cd Tryz.prog (.region id [⟨some d1, .move (.tmp ts), ty1, p1, a1, none⟩, ⟨some d2, .move (.tmp y), ty2, p2, a2, none⟩, ⟨some d3, .nilCheck (.tmp d1), ty3, p3, a3, none⟩, ⟨some d4, .fieldAddr T (.tmp d3) k, ty4, p4, a4, none⟩, ⟨none, .store ft (.tmp d4) (.tmp d2), ty5, p5, a5, none⟩].toArray false) ⟨N, R, X⟩ n ((y, c) :: L) (RdE br v' :: mk (done ++ z :: zs) :: H0) C u := by
  obtain ⟨hb', hfr, hne⟩ := frs_get hf
  simp only [List.pairwise_cons, List.mem_cons, List.not_mem_nil, or_false, forall_eq_or_imp, forall_eq, List.Pairwise.nil, and_true, false_imp_iff, implies_true] at hb' hfr hne
  refine st_put (c := c) hR hu1 hv'.1 (by rw [imx_yes hh]; exact RMf.mv hu2 hm) (by rw [lk_ne (lk_fr hfr.1 hs)]; exact hs) lk_eq hT hl hu hk hsz ho hpo hsz1 ?_ (fun done' hR' => ?_)
  · simp only [frs, fr, Bool.and_eq_true, List.all_cons, List.all_nil] at hf ⊢
    simp_all
  · exact at_sub (.skip hfr.1 .rfl') (kk u v' done' hu1 hR')
/-- a text, octets: one call or the other, then put -/
theorem st_flex (hR : Rs s (fl :: r) fsd v0 q xx Y T' v done) (hh : hasB fl v0 = true) (hb : lk L tb = some (.pointer (some ⟨br, 0, none⟩))) (hq : lk L fx = some (.bool q)) (hent : Enters Tryz.prog f) (heng : Enters Tryz.prog g) (hc : q = true → Fc f fl v0 q (xx.at_ fsd.length)) (hc' : q = false → Fc g fl v0 q (xx.at_ fsd.length)) (hs : lk L ts = some (.pointer (some ⟨b, po, none⟩))) (hT : Tgt mk b o len) (hl : fszs fsd + (zs.length + 1) = len) (hu : Tryz.prog.underlying T = some (.struct fs)) (hk : fs[k]? = some fd) (hsz : (Tryz.prog.info? fd.type).map (·.size) = some (sz + 1)) (ho : fd.offset = fo)
    (hpo : po + fo = o + fszs fsd) (hsz1 : (Tryz.prog.info? ft).map (·.size) = some 1) (hf0 : frs n L [d0] = true) (hf1 : frs n L [y, e1] = true) (hf2 : frs n L [y, e2] = true) (hf : frs n L [y, d1, d2, d3, d4] = true) (kk : ∀ u v' done', Tr s u → Rs u r (fsd ++ [fl]) v0 q xx Y T' v' done' → At N n L (RdE br v' :: mk (done' ++ zs) :: H0) C u) :
    Cd Tryz.prog (.seq (.seq (.region id0 [⟨some d0, .move (.tmp fx), ty0, p0, a0, none⟩].toArray false) (.cond (.tmp d0)
      (.region id1 [⟨some e1, .call ⟨.value (.func f), [.tmp tb].toArray, tys⟩, uy1, q1, c1, none⟩, ⟨some y, .assign (.tmp e1), uy2, q2, c2, none⟩].toArray false)
      (.region id2 [⟨some e2, .call ⟨.value (.func g), [.tmp tb].toArray, tyt⟩, uy3, q3, c3, none⟩, ⟨some y, .assign (.tmp e2), uy4, q4, c4, none⟩].toArray false)))
      (.region id [⟨some d1, .move (.tmp ts), ty1, p1, a1, none⟩, ⟨some d2, .move (.tmp y), ty2, p2, a2, none⟩, ⟨some d3, .nilCheck (.tmp d1), ty3, p3, a3, none⟩, ⟨some d4, .fieldAddr T (.tmp d3) k, ty4, p4, a4, none⟩, ⟨none, .store ft (.tmp d4) (.tmp d2), ty5, p5, a5, none⟩].toArray false)) ⟨N, R, X⟩ n L (RdE br v :: mk (done ++ z :: zs) :: H0) C s := by
  refine cd_sq ?_
  refine rg_flex hb hq hent heng (fun h u _ => hc h u) (fun h u _ => hc' h u) (hR.has hh) hf0 hf1 hf2 (fun u ux v' c hu1 hu2 hm hv' => ?_)
  exact at_cd (st_rest hR hh hu1 hu2 hm hv' hs hT hl hu hk hsz ho hpo hsz1 hf kk)
end
end K
end Go.Proofs.YtepbicjadambbabGreatDoor
namespace Go.Proofs.YtepbicjadambbabGreatDoor
namespace K
open Go Go.Lib
theorem frs_tail {n : Nat} {L : Env} {d : Nat} {ds : List Nat} (h : frs n L (d :: ds) = true) : frs n L ds = true := by
  simp only [frs, Bool.and_eq_true] at h
  exact h.2
/-- the blocks that were handed in are none of what is let go -/
theorem hO_push {C : Cx} {mk : List Value → Ent} {b o len : Nat} {H0 : Hp} (hT : Tgt mk b o len) (hO : ∀ q, C.O q → q = b ∨ q ∈ blks H0) (win : List Value) : ∀ q, C.O q → q ∈ blks (mk win :: H0) := fun q hq => by
  rw [blks_cons, hT.blk]
  rcases hO q hq with h | h
  · exact List.mem_append.2 (.inl (by simp [h]))
  · exact List.mem_append.2 (.inr h)
section
variable {P : Program} {n : Nat} {L : Env} {H H' : Hp} {C : Cx} {s : Vw} {p : Post} {K : Act → World → Prop}
theorem cd_eqH {c : Code} (h : H = H') (k : Cd P c p n L H' C s) : Cd P c p n L H C s := h ▸ k
theorem at_eqH (h : H = H') (k : At K n L H' C s) : At K n L H C s := h ▸ k
end
section
variable {n : Nat} {L : Env} {H H0 : Hp} {C : Cx} {s : Vw} {N R : Act → World → Prop} {X : List (Nat × (Act → World → Prop))}
variable {id id0 id1 id2 id3 id4 id5 id6 id7 id8 id9 : Nat} {tb ts un fx vr x y d0 d1 d2 d3 d4 d5 d6 d7 d8 d9 e1 e2 e3 e4 y1 y2 y3 y4 : Nat} {f g : FuncId} {br b o po len fo k sz : Nat} {mk : List Value → Ent} {v c val : Value} {rest bs : List UInt8}
variable {ty0 ty1 ty2 ty3 ty4 ty5 ty6 ty7 ty8 ty9 : TypeId} {p0 p1 p2 p3 p4 p5 p6 p7 p8 p9 : String} {a0 a1 a2 a3 a4 a5 a6 a7 a8 a9 : Array Edge} {tys tyt : Array TypeId}
variable {uy1 uy2 uy3 uy4 uy5 uy6 uy7 uy8 : TypeId} {q1 q2 q3 q4 q5 q6 q7 q8 : String} {c1 c2 c3 c4 c5 c6 c7 c8 : Array Edge}
variable {T ft : TypeId} {fs : Array Field} {fd : Field} {fl : Fld} {r fsd : List Fld} {v0 : Int} {q : Bool} {xx Y : Tre} {T' : List UInt8} {done zc zs : List Value} {z : Value} {E0 : Ent}
/-- a text: not unsafe, then one call or the other, then put -/
theorem st_str {A : Code} (hR : Rs s (fl :: r) fsd v0 q xx Y T' v done) (hh : hasB fl v0 = true) (hb : lk L tb = some (.pointer (some ⟨br, 0, none⟩))) (hun : lk L un = some (.bool false)) (hq : lk L fx = some (.bool q)) (hent : Enters Tryz.prog f) (heng : Enters Tryz.prog g) (hc : q = true → Fc f fl v0 q (xx.at_ fsd.length)) (hc' : q = false → Fc g fl v0 q (xx.at_ fsd.length)) (hs : lk L ts = some (.pointer (some ⟨b, po, none⟩))) (hT : Tgt mk b o len) (hl : fszs fsd + (zs.length + 1) = len) (hu : Tryz.prog.underlying T = some (.struct fs)) (hk : fs[k]? = some fd) (hsz : (Tryz.prog.info? fd.type).map (·.size) = some (sz + 1)) (ho : fd.offset = fo)
    (hpo : po + fo = o + fszs fsd) (hsz1 : (Tryz.prog.info? ft).map (·.size) = some 1) (hf7 : frs n L [d7] = true) (hf0 : frs n L [d0] = true) (hf1 : frs n L [y, e1] = true) (hf2 : frs n L [y, e2] = true) (hf : frs n L [y, d1, d2, d3, d4] = true) (kk : ∀ u v' done', Tr s u → Rs u r (fsd ++ [fl]) v0 q xx Y T' v' done' → At N n L (RdE br v' :: mk (done' ++ zs) :: H0) C u) :
    Cd Tryz.prog (.seq (.seq (.region id7 [⟨some d7, .move (.tmp un), ty8, p8, a8, none⟩].toArray false) (.cond (.tmp d7) A (.seq (.region id0 [⟨some d0, .move (.tmp fx), ty0, p0, a0, none⟩].toArray false) (.cond (.tmp d0)
      (.region id1 [⟨some e1, .call ⟨.value (.func f), [.tmp tb].toArray, tys⟩, uy1, q1, c1, none⟩, ⟨some y, .assign (.tmp e1), uy2, q2, c2, none⟩].toArray false)
      (.region id2 [⟨some e2, .call ⟨.value (.func g), [.tmp tb].toArray, tyt⟩, uy3, q3, c3, none⟩, ⟨some y, .assign (.tmp e2), uy4, q4, c4, none⟩].toArray false)))))
      (.region id [⟨some d1, .move (.tmp ts), ty1, p1, a1, none⟩, ⟨some d2, .move (.tmp y), ty2, p2, a2, none⟩, ⟨some d3, .nilCheck (.tmp d1), ty3, p3, a3, none⟩, ⟨some d4, .fieldAddr T (.tmp d3) k, ty4, p4, a4, none⟩, ⟨none, .store ft (.tmp d4) (.tmp d2), ty5, p5, a5, none⟩].toArray false)) ⟨N, R, X⟩ n L (RdE br v :: mk (done ++ z :: zs) :: H0) C s := by
  refine cd_sq ?_
  refine rg_safe hun hf7 ?_
  refine rg_flex hb hq hent heng (fun h u _ => hc h u) (fun h u _ => hc' h u) (hR.has hh) hf0 hf1 hf2 (fun u ux v' c hu1 hu2 hm hv' => ?_)
  exact at_cd (st_rest hR hh hu1 hu2 hm hv' hs hT hl hu hk hsz ho hpo hsz1 hf kk)
/-- a text that may be null -/
theorem st_txt {A B : Code} (hR : Rs s (fl :: r) fsd v0 q xx Y T' v done) (hh : hasB fl v0 = true) (hb : lk L tb = some (.pointer (some ⟨br, 0, none⟩))) (hun : lk L un = some (.bool false)) (hq : lk L fx = some (.bool q)) (hent : Enters Tryz.prog f) (heng : Enters Tryz.prog g) (hc : q = true → Fc f fl v0 q (xx.at_ fsd.length)) (hc' : q = false → Fc g fl v0 q (xx.at_ fsd.length)) (hs : lk L ts = some (.pointer (some ⟨b, po, none⟩))) (hT : Tgt mk b o len) (hl : fszs fsd + (zs.length + 1) = len) (hu : Tryz.prog.underlying T = some (.struct fs)) (hk : fs[k]? = some fd) (hsz : (Tryz.prog.info? fd.type).map (·.size) = some (sz + 1)) (ho : fd.offset = fo)
    (hpo : po + fo = o + fszs fsd) (hsz1 : (Tryz.prog.info? ft).map (·.size) = some 1) (hf0 : frs n L [d0] = true) (hf7 : frs n L [d7] = true) (hf8 : frs n L [d8] = true) (hf1 : frs n L [y, e1] = true) (hf2 : frs n L [y, e2] = true) (hf : frs n L [y, d1, d2, d3, d4] = true) (kk : ∀ u v' done', Tr s u → Rs u r (fsd ++ [fl]) v0 q xx Y T' v' done' → At N n L (RdE br v' :: mk (done' ++ zs) :: H0) C u) :
    Cd Tryz.prog (.seq (.seq (.region id0 [⟨some d0, .move (.tmp fx), ty0, p0, a0, none⟩].toArray false) (.cond (.tmp d0)
      (.seq (.region id7 [⟨some d7, .move (.tmp un), ty8, p8, a8, none⟩].toArray false) (.cond (.tmp d7) A (.region id1 [⟨some e1, .call ⟨.value (.func f), [.tmp tb].toArray, tys⟩, uy1, q1, c1, none⟩, ⟨some y, .assign (.tmp e1), uy2, q2, c2, none⟩].toArray false)))
      (.seq (.region id8 [⟨some d8, .move (.tmp un), ty9, p9, a9, none⟩].toArray false) (.cond (.tmp d8) B (.region id2 [⟨some e2, .call ⟨.value (.func g), [.tmp tb].toArray, tyt⟩, uy3, q3, c3, none⟩, ⟨some y, .assign (.tmp e2), uy4, q4, c4, none⟩].toArray false)))))
      (.region id [⟨some d1, .move (.tmp ts), ty1, p1, a1, none⟩, ⟨some d2, .move (.tmp y), ty2, p2, a2, none⟩, ⟨some d3, .nilCheck (.tmp d1), ty3, p3, a3, none⟩, ⟨some d4, .fieldAddr T (.tmp d3) k, ty4, p4, a4, none⟩, ⟨none, .store ft (.tmp d4) (.tmp d2), ty5, p5, a5, none⟩].toArray false)) ⟨N, R, X⟩ n L (RdE br v :: mk (done ++ z :: zs) :: H0) C s := by
  obtain ⟨hb', hfr, hne⟩ := frs_get hf0
  simp only [List.mem_cons, List.not_mem_nil, or_false, forall_eq] at hb' hfr
  refine cd_sq ?_
  refine cd_sq ?_
  refine cd_region ?_
  refine ln_pv (pv_move hq) hb' ?_
  refine ln_nil (at_cd ?_)
  have hrest : ∀ u ux v' c, Tr s u → Tr ux u → RMf ux fl (imF fl v0 q (xx.at_ fsd.length)) [c] → RSn u v' (plainB r v0 q xx (fsd.length + 1) ++ T') → _ := fun u ux v' c hu1 hu2 hm hv' => at_cd (st_rest (id := id) (d1 := d1) (d2 := d2) (d3 := d3) (d4 := d4) (y := y) (ty1 := ty1) (p1 := p1) (a1 := a1) (ty2 := ty2) (p2 := p2) (a2 := a2) (ty3 := ty3) (p3 := p3) (a3 := a3) (ty4 := ty4) (p4 := p4) (a4 := a4) (ty5 := ty5) (p5 := p5) (a5 := a5) (N := N) (R := R) (X := X) (z := z) hR hh hu1 hu2 hm hv' hs hT hl hu hk hsz ho hpo hsz1 hf kk)
  refine cd_cond lk_eq (fun h => cd_sub_ (.skip hfr .rfl') ?_) (fun h => cd_sub_ (.skip hfr .rfl') ?_)
  · exact rg_safe hun hf7 (rg_call hb hent (fun u _ => hc h u) (hR.has hh) hf1 hrest)
  · exact rg_safe hun hf8 (rg_call hb heng (fun u _ => hc' h u) (hR.has hh) hf2 hrest)
/-- a number of a named kind: read into t, moved twice -/
theorem st_enum (hR : Rs s (fl :: r) fsd v0 q xx Y T' v done) (hh : hasB fl v0 = true) (hb : lk L tb = some (.pointer (some ⟨br, 0, none⟩))) (hent : Enters Tryz.prog f) (hc : Fc f fl v0 q (xx.at_ fsd.length)) (hs : lk L ts = some (.pointer (some ⟨b, po, none⟩))) (hT : Tgt mk b o len) (hl : fszs fsd + (zs.length + 1) = len) (hu : Tryz.prog.underlying T = some (.struct fs)) (hk : fs[k]? = some fd) (hsz : (Tryz.prog.info? fd.type).map (·.size) = some (sz + 1)) (ho : fd.offset = fo)
    (hpo : po + fo = o + fszs fsd) (hsz1 : (Tryz.prog.info? ft).map (·.size) = some 1) (hf1 : frs n L [y1, d5, y2, d6, y, d7] = true) (hf : frs n L [y1, y2, y, d1, d2, d3, d4] = true) (kk : ∀ u v' done', Tr s u → Rs u r (fsd ++ [fl]) v0 q xx Y T' v' done' → At N n L (RdE br v' :: mk (done' ++ zs) :: H0) C u) :
    Cd Tryz.prog (.seq (.seq (.region id0 [⟨some d5, .call ⟨.value (.func f), [.tmp tb].toArray, tys⟩, ty6, p6, a6, none⟩, ⟨some y1, .assign (.tmp d5), ty7, p7, a7, none⟩].toArray false) (.region id1 [⟨some d6, .move (.tmp y1), uy1, q1, c1, none⟩, ⟨some y2, .assign (.tmp d6), uy2, q2, c2, none⟩].toArray false))
      (.seq (.region id2 [⟨some d7, .move (.tmp y2), uy3, q3, c3, none⟩, ⟨some y, .assign (.tmp d7), uy4, q4, c4, none⟩].toArray false) (.region id [⟨some d1, .move (.tmp ts), ty1, p1, a1, none⟩, ⟨some d2, .move (.tmp y), ty2, p2, a2, none⟩, ⟨some d3, .nilCheck (.tmp d1), ty3, p3, a3, none⟩, ⟨some d4, .fieldAddr T (.tmp d3) k, ty4, p4, a4, none⟩, ⟨none, .store ft (.tmp d4) (.tmp d2), ty5, p5, a5, none⟩].toArray false))) ⟨N, R, X⟩ n L (RdE br v :: mk (done ++ z :: zs) :: H0) C s := by
  have hff := hf1
  have hfg := hf
  obtain ⟨hb', hfr, hne⟩ := frs_get hf1
  simp only [List.pairwise_cons, List.mem_cons, List.not_mem_nil, or_false, forall_eq_or_imp, forall_eq, List.Pairwise.nil, and_true, false_imp_iff, implies_true] at hb' hfr hne
  obtain ⟨gb', gfr, gne⟩ := frs_get hf
  simp only [List.pairwise_cons, List.mem_cons, List.not_mem_nil, or_false, forall_eq_or_imp, forall_eq, List.Pairwise.nil, and_true, false_imp_iff, implies_true] at gb' gfr gne
  have k1 : frs n L [y1, d5] = true := by simp only [frs, fr, Bool.and_eq_true, List.all_cons, List.all_nil] at hff ⊢; simp_all
  have hbq : ∀ a b : Nat, ¬ a = b → Nat.beq a b = false := fun a b h => nbeq h
  refine cd_sq ?_
  refine cd_sq ?_
  refine rg_call hb hent (fun u _ => hc u) (hR.has hh) k1 (fun u ux v' c hu1 hu2 hm hv' => ?_)
  refine at_cd ?_
  refine rg_move lk_eq (by simp only [frs, fr, Bool.and_eq_true, List.all_cons, List.all_nil] at hff ⊢; simp_all) ?_
  refine at_cd ?_
  refine cd_sq ?_
  refine rg_move lk_eq (by simp only [frs, fr, Bool.and_eq_true, List.all_cons, List.all_nil] at hff ⊢; simp_all) ?_
  refine at_cd ?_
  refine cd_sub_ (L' := (y, c) :: L) (.cons (.skip hfr.2.2.1 (.skip hfr.1 .rfl'))) ?_
  exact st_rest hR hh hu1 hu2 hm hv' hs hT hl hu hk hsz ho hpo hsz1 (frs_tail (frs_tail hf)) kk
/-- 16 octets -/
theorem st_uuid {W : List Value} (hW : W = done ++ (zc ++ zs)) {AR : TypeId} {za : Value} {ya : Nat} {us : List UInt8} (hR : Rs s (fl :: r) fsd v0 q xx Y T' v done) (hh : hasB fl v0 = true) (hb : lk L tb = some (.pointer (some ⟨br, 0, none⟩))) (hent : Enters Tryz.prog f) (hus : us.length = 16) (hc : ∀ u, RdC f (fieldB fl v0 q (xx.at_ fsd.length)) (fun _ r => r = .agg (u8s us).toArray) u) (hm : ∀ u, RMf u fl (imF fl v0 q (xx.at_ fsd.length)) (u8s us)) (hs : lk L ts = some (.pointer (some ⟨b, po, none⟩))) (hT : Tgt mk b o len) (hzc : zc.length = 16) (hl : fszs fsd + (zs.length + 16) = len) (hu : Tryz.prog.underlying T = some (.struct fs)) (hk : fs[k]? = some fd) (hsz : (Tryz.prog.info? fd.type).map (·.size) = some (sz + 1)) (ho : fd.offset = fo)
    (hpo : po + fo = o + fszs fsd) (hti : TI Tryz.prog AR za 16 ya) (hza : za.cells = (List.replicate 16 (.int .u8 0)).toArray) (hua : Tryz.prog.underlying AR = some (.array 16 5)) (hf : frs n L [d5, y, d1, d2, d3, d4] = true) (kk : ∀ u v' done', Tr s u → Rs u r (fsd ++ [fl]) v0 q xx Y T' v' done' → At N n L (RdE br v' :: mk (done' ++ zs) :: H0) C u) :
    Cd Tryz.prog (.seq (.region id0 [⟨some d5, .call ⟨.value (.func f), [.tmp tb].toArray, tys⟩, ty6, p6, a6, none⟩, ⟨some y, .alloc AR, ty7, p7, a7, none⟩, ⟨none, .store AR (.tmp y) (.tmp d5), ty8, p8, a8, none⟩].toArray false)
      (.region id [⟨some d1, .move (.tmp ts), ty1, p1, a1, none⟩, ⟨some d2, .load AR (.tmp y), ty2, p2, a2, none⟩, ⟨some d3, .nilCheck (.tmp d1), ty3, p3, a3, none⟩, ⟨some d4, .fieldAddr T (.tmp d3) k, ty4, p4, a4, none⟩, ⟨none, .store AR (.tmp d4) (.tmp d2), ty5, p5, a5, none⟩].toArray false)) ⟨N, R, X⟩ n L (RdE br v :: mk W :: H0) C s := by
  subst hW
  obtain ⟨hb', hfr, hne⟩ := frs_get hf
  simp only [List.pairwise_cons, List.mem_cons, List.not_mem_nil, or_false, forall_eq_or_imp, forall_eq, List.Pairwise.nil, and_true, false_imp_iff, implies_true] at hb' hfr hne
  obtain ⟨f5, fy, f1, f2, f3, f4⟩ := hfr
  obtain ⟨b5, by_, b1, b2, b3, b4⟩ := hb'
  have hdl := hR.len
  refine cd_sq ?_
  refine cd_region ?_
  refine ln_callT (i := 0) (vals := [.pointer (some ⟨br, 0, none⟩)]) hent (by simp [evs, ev_t, hb]) rfl (fun u hu hok hav => hc u br v _ (RSv.mv (hR.has hh) hu) hok hav) b5 ?_
  rintro u c _ ht ⟨ux, ⟨rfl, v', rfl, h2⟩, hx⟩
  have h2 := h2.mv hx
  refine ln_alloc hti hza by_ (fun bx => ?_)
  refine ln_storeW (i := 0) (vs := u8s us) (v := .agg (u8s us).toArray) rfl lk_eq (by simp [ev_t, lk_eq, lk_ne, hne]) rfl (hti.size) (by simp [hus]) (u8s_one _) ?_
  refine ln_nil (at_cd ?_)
  refine cd_region ?_
  refine ln_pv (pv_move (by rw [ev_t, lk_ne (lk_fr fy hs), lk_ne (lk_fr f5 hs)]; exact hs)) b1 ?_
  refine ln_pv (pv_ldO (i := 0) (l := u8s us) rfl hua rfl hti.size (by simp [ev_t, lk_eq, lk_ne, hne] <;> rfl) (by simp [hus])) b2 ?_
  refine ln_pv (pv_nilCheck (by simp [ev_t, lk_eq, lk_ne, hne] <;> rfl)) b3 ?_
  refine ln_pv (pv_fieldAddr (r := o + done.length) hu hk hsz ho lk_eq (by rw [hdl]; exact hpo)) b4 ?_
  refine ln_storeG (i := 2) (vs := u8s us) (v := .agg (u8s us).toArray) (win' := (done ++ u8s us) ++ zs) hT rfl (by simp [hdl, hzc] <;> omega) lk_eq (by simp [ev_t, lk_eq, lk_ne, hne]) rfl (by rw [u8s_length, hus]; exact hti.size) (by simp [hus, hdl] <;> omega) (u8s_one _) (wr_done (by simp [hus, hzc])) ?_
  refine ln_nil (at_sub (.skip f4 (.skip f3 (.skip f2 (.skip f1 (.skip fy (.skip f5 .rfl')))))) ?_)
  refine at_dropH (H' := RdE br v' :: mk ((done ++ u8s us) ++ zs) :: H0) (List.Sublist.cons _ (List.Sublist.refl _)) ?_
  exact kk u v' _ ht (hR.step ht h2.1 (by rw [imx_yes hh]; exact hm u))
/-- if the version has the field -/
theorem st_if {W : List Value} (hW : W = done ++ (zc ++ zs)) {cc : Int} {A : Code} (hx : lk L vr = some (.int .i16 v0)) (hR : Rs s (fl :: r) fsd v0 q xx Y T' v done) (hcc : hasB fl v0 = decide (v0 ≥ cc)) (hdf : ∀ u, RMf u fl (dfF fl) zc) (hf : frs n L [d1, d2] = true)
    (kk : ∀ u v' done', Tr s u → Rs u r (fsd ++ [fl]) v0 q xx Y T' v' done' → At N n L (RdE br v' :: mk (done' ++ zs) :: H0) C u)
    (hyes : hasB fl v0 = true → (∀ u v' done', Tr s u → Rs u r (fsd ++ [fl]) v0 q xx Y T' v' done' → At N n L (RdE br v' :: mk (done' ++ zs) :: H0) C u) → Cd Tryz.prog A ⟨N, R, X⟩ n L (RdE br v :: mk W :: H0) C s) :
    Cd Tryz.prog (.seq (.region id [⟨some d1, .move (.tmp vr), ty1, p1, a1, none⟩, ⟨some d2, .binOp .geq uy1 (.tmp d1) (.const (.int .i16 cc)) uy2, ty2, p2, a2, none⟩].toArray false) (.cond (.tmp d2) A .skip)) ⟨N, R, X⟩ n L (RdE br v :: mk W :: H0) C s := by
  subst hW
  obtain ⟨hb', hfr, hne⟩ := frs_get hf
  simp only [List.pairwise_cons, List.mem_cons, List.not_mem_nil, or_false, forall_eq_or_imp, forall_eq, List.Pairwise.nil, and_true, false_imp_iff, implies_true] at hb' hfr hne
  refine cd_sq ?_
  refine cd_region ?_
  refine ln_pv (pv_move hx) hb'.1 ?_
  refine ln_pv (pv_geq lk_eq ev_c) hb'.2 ?_
  refine ln_nil (at_cd ?_)
  refine cd_if lk_eq (fun h => cd_sub_ (.skip hfr.2 (.skip hfr.1 .rfl')) (hyes (by rw [hcc]; exact decide_eq_true h) kk)) (fun h => cd_sub_ (.skip hfr.2 (.skip hfr.1 .rfl')) ?_)
  have hno : hasB fl v0 = false := by rw [hcc]; exact decide_eq_false h
  refine cd_skip (at_base fun u hu' => ?_)
  have h2 := kk u v (done ++ zc) hu' ((hR.mv hu').step (Tr.refl u) ((hR.mv hu').lacks hno) (by rw [imx_no hno]; exact hdf u))
  rwa [List.append_assoc] at h2
/-- if the version has the field: from, to -/
theorem st_if2 {W : List Value} (hW : W = done ++ (zc ++ zs)) {cc ee : Int} {A : Code} (hx : lk L vr = some (.int .i16 v0)) (hR : Rs s (fl :: r) fsd v0 q xx Y T' v done) (hcc : hasB fl v0 = decide (v0 ≥ cc ∧ v0 ≤ ee)) (hdf : ∀ u, RMf u fl (dfF fl) zc) (hf : frs n L [d1, d2, d3, d4, d5, d6] = true)
    (kk : ∀ u v' done', Tr s u → Rs u r (fsd ++ [fl]) v0 q xx Y T' v' done' → At N n L (RdE br v' :: mk (done' ++ zs) :: H0) C u)
    (hyes : hasB fl v0 = true → (∀ u v' done', Tr s u → Rs u r (fsd ++ [fl]) v0 q xx Y T' v' done' → At N n L (RdE br v' :: mk (done' ++ zs) :: H0) C u) → Cd Tryz.prog A ⟨N, R, X⟩ n L (RdE br v :: mk W :: H0) C s) :
    Cd Tryz.prog (.seq (.region id [⟨some d1, .move (.tmp vr), ty1, p1, a1, none⟩, ⟨some d2, .binOp .geq uy1 (.tmp d1) (.const (.int .i16 cc)) uy2, ty2, p2, a2, none⟩, ⟨some d3, .move (.tmp d2), ty3, p3, a3, none⟩,
      ⟨some d4, .move (.tmp vr), ty4, p4, a4, some (2, true)⟩, ⟨some d5, .binOp .leq uy3 (.tmp d4) (.const (.int .i16 ee)) uy4, ty5, p5, a5, some (2, true)⟩, ⟨some d6, .pick (.tmp d3) (.tmp d5) (.const (.bool false)), ty6, p6, a6, none⟩].toArray false) (.cond (.tmp d6) A .skip)) ⟨N, R, X⟩ n L (RdE br v :: mk W :: H0) C s := by
  subst hW
  obtain ⟨hb', hfr, hne⟩ := frs_get hf
  simp only [List.pairwise_cons, List.mem_cons, List.not_mem_nil, or_false, forall_eq_or_imp, forall_eq, List.Pairwise.nil, and_true, false_imp_iff, implies_true] at hb' hfr hne
  obtain ⟨f1, f2, f3, f4, f5, f6⟩ := hfr
  obtain ⟨b1, b2, b3, b4, b5, b6⟩ := hb'
  have hs : ∀ u1 u2 u3 u4 u5 u6, sub L ((d6, u6) :: (d5, u5) :: (d4, u4) :: (d3, u3) :: (d2, u2) :: (d1, u1) :: L) := fun u1 u2 u3 u4 u5 u6 => .skip f6 (.skip f5 (.skip f4 (.skip f3 (.skip f2 (.skip f1 .rfl')))))
  have hnox : hasB fl v0 = false → At N n L (RdE br v :: mk (done ++ (zc ++ zs)) :: H0) C s := fun hno => at_base fun u hu' => by
    have h2 := kk u v (done ++ zc) hu' ((hR.mv hu').step (Tr.refl u) ((hR.mv hu').lacks hno) (by rw [imx_no hno]; exact hdf u))
    rwa [List.append_assoc] at h2
  refine cd_sq ?_
  refine cd_region ?_
  refine ln_pv (pv_move hx) b1 ?_
  by_cases h : v0 ≥ cc
  · refine ln_pv (pv_tt (pv_geq lk_eq ev_c) h) b2 ?_
    refine ln_pv (pv_move lk_eq) b3 ?_
    refine ln_gt rfl rfl lk_eq (pv_move (by rw [ev_t, lk_ne (lk_fr f3 hx), lk_ne (lk_fr f2 hx), lk_ne (lk_fr f1 hx)]; exact hx)) b4 ?_
    refine ln_gt rfl rfl (by rw [lk_ne (by simp [hne]), lk_eq]) (pv_leq lk_eq ev_c) b5 ?_
    refine ln_pv (pv_pick (by rw [ev_t, lk_ne (by simp [hne]), lk_ne (by simp [hne]), lk_eq]) (fun _ => lk_eq) (fun _ => ev_c)) b6 ?_
    refine ln_nil (at_cd ?_)
    refine cd_if lk_eq (fun h2 => cd_sub_ (hs _ _ _ _ _ _) ?_) (fun h2 => cd_sub_ (hs _ _ _ _ _ _) ?_)
    · exact hyes (by rw [hcc]; exact decide_eq_true ⟨h, h2⟩) kk
    · exact cd_skip (hnox (by rw [hcc]; exact decide_eq_false (fun q => h2 q.2)))
  · refine ln_pv (pv_ff (pv_geq lk_eq ev_c) h) b2 ?_
    refine ln_pv (pv_move lk_eq) b3 ?_
    refine ln_gf rfl rfl lk_eq rfl b4 ?_
    refine ln_gf rfl rfl (by rw [lk_ne (by simp [hne]), lk_eq]) rfl b5 ?_
    refine ln_pv (pv_pick (u := .bool false) (by rw [ev_t, lk_ne (by simp [hne]), lk_ne (by simp [hne]), lk_eq]) (fun h => by cases h) (fun _ => ev_c)) b6 ?_
    refine ln_nil (at_cd ?_)
    refine cd_ff lk_eq (cd_sub_ (hs _ _ _ _ _ _) ?_)
    exact cd_skip (hnox (by rw [hcc]; exact decide_eq_false (fun q => h q.1)))
/-! ### the unknown tags of a part -/
def tgsB (q : Bool) (x : Tre) : List UInt8 := if q then uvar (unkn 0 x.u).length ++ ((unkn 0 x.u).map cut).flatMap tagB else []
theorem partB_tgs {F : List Fld} (h : ntFs F = true) (v0 : Int) (q : Bool) (x : Tre) : partB F v0 q x = plainB F v0 q x 0 ++ tgsB q x := partB_nt h v0 q x
theorem RSv.part {F : List Fld} {v0 : Int} {x : Tre} {T2 : List UInt8} (hn : ntFs F = true) (h : RSv s v (partB F v0 q x ++ T2)) : RSv s v (plainB F v0 q x 0 ++ (tgsB q x ++ T2)) := by rwa [partB_tgs hn, List.append_assoc] at h
theorem st_tags {F : List Fld} {z0 : Bool} {T2 : List UInt8} {mt : TypeId} (hn : ntFs F = true) (hR : Rs s [] F v0 q xx (.mk 0 [] z0 (imL F v0 q xx 0) (imU F q xx.u)) (tgsB q xx ++ T2) v done) (hk' : ∀ y ∈ xx.u, y.1 < 4294967296) (hb : lk L tb = some (.pointer (some ⟨br, 0, none⟩))) (hq : lk L fx = some (.bool q)) (hs : lk L ts = some (.pointer (some ⟨b, po, none⟩))) (hT : Tgt mk b o len) (hl : fszs F + 1 = len) (hu : Tryz.prog.underlying T = some (.struct fs)) (hk : fs[k]? = some fd) (hsz : (Tryz.prog.info? fd.type).map (·.size) = some (sz + 1)) (ho : fd.offset = fo)
    (hpo : po + fo = o + fszs F) (hsz1 : (Tryz.prog.info? mt).map (·.size) = some 1) (hf0 : frs n L [d0] = true) (hf : frs n L [d1, d2, d3, d4] = true)
    (kk : ∀ u v' done', Tr s u → RSv u v' T2 → RMp u F (.mk 0 [] z0 (imL F v0 q xx 0) (imU F q xx.u)) done' → At N n L (RdE br v' :: mk done' :: H0) C u) :
    Cd Tryz.prog (.seq (.region id0 [⟨some d0, .move (.tmp fx), ty0, p0, a0, none⟩].toArray false) (.cond (.tmp d0)
      (.region id [⟨some d1, .move (.tmp ts), ty1, p1, a1, none⟩, ⟨some d2, .call ⟨.value (.func 55), [.tmp tb].toArray, tys⟩, ty2, p2, a2, none⟩, ⟨some d3, .nilCheck (.tmp d1), ty3, p3, a3, none⟩, ⟨some d4, .fieldAddr T (.tmp d3) k, ty4, p4, a4, none⟩, ⟨none, .store mt (.tmp d4) (.tmp d2), ty5, p5, a5, none⟩].toArray false) .skip)) ⟨N, R, X⟩ n L (RdE br v :: mk (done ++ [.map none]) :: H0) C s := by
  obtain ⟨hb0, hfr0, _⟩ := frs_get hf0
  simp only [List.mem_cons, List.not_mem_nil, or_false, forall_eq] at hb0 hfr0
  obtain ⟨hb', hfr, hne⟩ := frs_get hf
  simp only [List.pairwise_cons, List.mem_cons, List.not_mem_nil, or_false, forall_eq_or_imp, forall_eq, List.Pairwise.nil, and_true, false_imp_iff, implies_true] at hb' hfr hne
  obtain ⟨f1, f2, f3, f4⟩ := hfr
  obtain ⟨b1, b2, b3, b4⟩ := hb'
  have hdl := hR.len
  have hv := hR.hv
  simp only [plainB, List.nil_append] at hv
  refine cd_sq ?_
  refine cd_region ?_
  refine ln_pv (pv_move hq) hb0 ?_
  refine ln_nil (at_cd ?_)
  refine cd_cond lk_eq (fun h => cd_sub_ (.skip hfr0 .rfl') ?_) (fun h => cd_sub_ (.skip hfr0 .rfl') ?_)
  · subst h
    have hu0 : imU F true xx.u = (unkn 0 xx.u).map cut := by rw [imU, if_pos rfl, known_nt hn]
    have hv : RSv s v ((uvar ((unkn 0 xx.u).map cut).length ++ ((unkn 0 xx.u).map cut).flatMap tagB) ++ T2) := by
      simpa [tgsB] using hv
    have hnd := keys_nodup (srt_cut (unkn_sorted 0 xx.u))
    have hbd : ∀ y ∈ (unkn 0 xx.u).map cut, y.1 < 4294967296 ∧ y.2.length ≤ 32767 := fun y hy => by
      obtain ⟨z, hz, rfl⟩ := List.mem_map.1 hy
      exact ⟨hk' z (unkn_mem hz).1, by simp only [cut, List.length_take]; omega⟩
    have hln : ((unkn 0 xx.u).map cut).length < 4294967296 := by have := unkn_le 0 xx.u; rw [List.length_map]; omega
    refine cd_region ?_
    refine ln_pv (pv_move hs) b1 ?_
    refine ln_callT (i := 0) (vals := [.pointer (some ⟨br, 0, none⟩)]) en_55 (by simp [evs, ev_t, lk_ne (lk_fr f1 hb), hb]) rfl (fun u hu hok hav => rd_Tags u _ hnd hbd hln br v T2 (RSv.mv hv hu) hok hav) b2 ?_
    rintro u c _ ht ⟨ux, ⟨⟨mv, ml, rfl, hM, hK⟩, v', rfl, h2⟩, hx⟩
    have h2 := h2.mv hx
    have hM := hM.mv hx
    have hK := RK.mv hx hK
    refine ln_pv (pv_nilCheck (by simp [ev_t, lk_eq, lk_ne, hne] <;> rfl)) b3 ?_
    refine ln_pv (pv_fieldAddr (r := o + done.length) hu hk hsz ho lk_eq (by rw [hdl]; exact hpo)) b4 ?_
    have h1m : mv.oneCell' = true := RTg.one (s := u) (y := .mk 0 [] z0 (imL F v0 true xx 0) (imU F true xx.u)) ⟨ml, hM, by rw [tu, hu0]; exact hK⟩
    refine ln_storeG (i := 1) (vs := [mv]) (v := .agg #[mv]) (win' := done ++ [mv]) hT rfl (by simp [hdl] <;> omega) lk_eq (by simp [ev_t, lk_eq, lk_ne, hne]) rfl hsz1 (by simp [hdl] <;> omega) (by simp [h1m]) (by have := wr_done (done := done) (zc := [.map none]) (zs := []) (cs := [mv]) rfl; simpa using this) ?_
    refine ln_nil (at_sub (.skip f4 (.skip f3 (.skip f2 (.skip f1 .rfl')))) ?_)
    exact kk u v' _ ht h2.1 ⟨done, mv, rfl, RMl.mv ht hR.acc, ml, hM, by rw [tu, hu0]; exact hK⟩
  · subst h
    refine cd_skip (at_base fun u hu' => ?_)
    have hR := hR.mv hu'
    refine kk u v _ hu' (by have := hR.hv; simpa [plainB, tgsB] using this) ⟨done, .map none, rfl, hR.acc, [], .inl ⟨rfl, rfl⟩, ?_⟩
    rw [tu, imU]
    rfl
/-- no tags at all -/
theorem Rs.flat {F : List Fld} {z0 : Bool} {T2 : List UInt8} (hR : Rs s [] F v0 false xx (.mk 0 [] z0 (imL F v0 false xx 0) (imU F false xx.u)) (tgsB false xx ++ T2) v done) : RSv s v T2 ∧ RMp s F (.mk 0 [] z0 (imL F v0 false xx 0) (imU F false xx.u)) (done ++ [.map none]) := by
  have hv := hR.hv
  simp only [plainB, List.nil_append, tgsB] at hv
  exact ⟨by simpa using hv, done, .map none, rfl, hR.acc, [], .inl ⟨rfl, rfl⟩, by rw [tu, imU]; rfl⟩
end
end K
end Go.Proofs.YtepbicjadambbabGreatDoor
namespace Go.Proofs.YtepbicjadambbabGreatDoor
namespace K
open Go Go.Lib
/-! ### What each kind of field is read as -/
theorem wrapwrap (k : IntKind) (hk : k = .i8 ∨ k = .i16 ∨ k = .i32 ∨ k = .i64 ∨ k = .u16) (x : Int) : k.wrap (k.wrap x) = k.wrap x := by
  rcases hk with rfl | rfl | rfl | rfl | rfl <;> simp [IntKind.wrap, IntKind.bits, IntKind.signed] <;> omega
section
variable {k a b nul tag d o : Int} {sub : List Fld} {v : Int} {q : Bool} {y : Tre}
theorem fB_sc (h11 : k ≠ 11) (h10 : k ≠ 10) : fieldB (.mk k a b nul tag d o sub) v q y = scalarB k (y.z && decide (nul ≥ 0) && decide (v ≥ nul)) q y := by simp [fieldB, h11, h10]
theorem iF_sc (h11 : k ≠ 11) (h10 : k ≠ 10) : imF (.mk k a b nul tag d o sub) v q y = imS k (y.z && decide (nul ≥ 0) && decide (v ≥ nul)) y := by simp [imF, h11, h10]
theorem nn_neg (h : nul < 0) : (y.z && decide (nul ≥ 0) && decide (v ≥ nul)) = false := by
  have : ¬ nul ≥ 0 := by omega
  simp [this]
theorem fixed1 (x : Int) : fixed x 1 = [b8 x] := by simp [fixed]
theorem I64_wrap (x : Int) : I64 (IntKind.i64.wrap x) := by
  simp [I64, IntKind.wrap, IntKind.bits, IntKind.signed]; omega
/-- the same, of a thing of a list: by its kind alone -/
def Sc (f : FuncId) (k : Int) (null q : Bool) (y : Tre) : Prop := ∀ u, RdC f (scalarB k null q y) (fun u c => RS1 u k (-1) (imS k null y) [c]) u
theorem sc_i16 (null q : Bool) (y : Tre) : Sc 47 2 null q y := fun u => by
  have e : scalarB 2 null q y = fixed y.n 2 := by simp [scalarB, widthN]
  rw [e]
  refine (rd_Int16 u _).mono fun u c h => ?_
  subst h
  have e4 := wrapwrap .i16 (by simp) y.n
  simp [RS1, imS, tn, e4]
theorem sc_i32 (null q : Bool) (y : Tre) : Sc 46 3 null q y := fun u => by
  have e : scalarB 3 null q y = fixed y.n 4 := by simp [scalarB, widthN]
  rw [e]
  refine (rd_Int32 u _).mono fun u c h => ?_
  subst h
  have e4 := wrapwrap .i32 (by simp) y.n
  simp [RS1, imS, tn, e4]
theorem txs_len : (y.s.take 32767).length ≤ 32767 := by rw [List.length_take]; omega
theorem sc_cstr (q : Bool) (hq : q = true) (y : Tre) : Sc 53 8 false q y := fun u => by
  subst hq
  have e : scalarB 8 false true y = uvar ((y.s.take 32767).length + 1) ++ y.s.take 32767 := by simp [scalarB, counted]
  rw [e]
  refine (rd_CompactString u _ txs_len).mono fun u c h => ?_
  subst h
  simp [RS1, imS, ts]
theorem sc_str (q : Bool) (hq : q = false) (y : Tre) : Sc 54 8 false q y := fun u => by
  subst hq
  have e : scalarB 8 false false y = fixed ((y.s.take 32767).length : Int) 2 ++ y.s.take 32767 := by simp [scalarB, counted]
  rw [e]
  refine (rd_String u _ txs_len).mono fun u c h => ?_
  subst h
  simp [RS1, imS, ts]
theorem octs_of {u : Vw} {c : Value} {l : List UInt8} (h : RSn u c l) : Octs u c (.mk 0 l false [] []) := by
  obtain ⟨h1, g, o, cc, rfl⟩ := h
  exact .inr ⟨rfl, g, o, cc, rfl, h1⟩
theorem txt_of {u : Vw} {c : Value} {l : List UInt8} (h : ∃ g, c = .pointer (some ⟨g, 0, none⟩) ∧ RC u g 0 [.string ⟨l.toArray⟩]) : Txt u c (.mk 0 l false [] []) := by
  obtain ⟨g, rfl, h2⟩ := h
  exact .inr ⟨rfl, g, _, rfl, h2, rfl⟩
/-- a field that can't be null: as a thing of a list -/
theorem Fc.of {f : FuncId} (h11 : k ≠ 11) (h10 : k ≠ 10) (hn : nul < 0) (h : Sc f k false q y) : Fc f (.mk k a b nul tag d o sub) v q y := fun u => by
  rw [fB_sc h11 h10, iF_sc h11 h10, nn_neg hn]
  refine (h u).mono fun u c hc => ?_
  simp only [RMf, if_neg h11, if_neg h10]
  unfold RS1 at hc ⊢
  have h1 : (-1 : Int) < 0 := by decide
  simp only [h1, hn, if_true] at hc ⊢
  exact hc
/-- numbers: nobody asks whether they are null -/
theorem Fc.num {f : FuncId} (h11 : k ≠ 11) (h10 : k ≠ 10) (h8 : k ≠ 8) (h : ∀ null, Sc f k null q y) : Fc f (.mk k a b nul tag d o sub) v q y := fun u => by
  rw [fB_sc h11 h10, iF_sc h11 h10]
  refine (h _ u).mono fun u c hc => ?_
  simp only [RMf, if_neg h11, if_neg h10]
  unfold RS1 at hc ⊢
  simp only [if_neg h8] at hc ⊢
  exact hc
theorem counted_null (n sz : Nat) : counted true true n sz = uvar 0 := by
  have : uvar 0 = [0] := by rw [uvar_lo (by omega)]; rfl
  simp [counted, this]
/-- 16 octets -/
theorem uu_B : fieldB (.mk 7 a b nul tag d o sub) v q y = uuid y.s := by
  rw [fB_sc (by decide) (by decide)]
  simp [scalarB, uuid]
theorem uuid_uuid (l : List UInt8) : uuid (uuid l) = uuid l := by
  have := uuid_take l
  simpa [uuid] using this
theorem uu_M (u : Vw) : RMf u (.mk 7 a b nul tag d o sub) (imF (.mk 7 a b nul tag d o sub) v q y) (u8s (uuid y.s)) := by
  rw [RMf_uuid, iF_sc (by decide) (by decide)]
  simp [imS, ts, uuid_uuid]
/-! what a field is by default -/
theorem df_b (u : Vw) (h : d = 0) : RMf u (.mk 0 a b nul tag d o sub) (dfF (.mk 0 a b nul tag d o sub)) [.bool false] := by subst h; rw [RMf_b]; simp [dfF, tn]
theorem df_i8 (u : Vw) {c : Int} (h : IntKind.i8.wrap d = c) : RMf u (.mk 1 a b nul tag d o sub) (dfF (.mk 1 a b nul tag d o sub)) [.int .i8 c] := by subst h; rw [RMf_i8]; simp [dfF, tn]
theorem df_i16 (u : Vw) {c : Int} (h : IntKind.i16.wrap d = c) : RMf u (.mk 2 a b nul tag d o sub) (dfF (.mk 2 a b nul tag d o sub)) [.int .i16 c] := by subst h; rw [RMf_i16]; simp [dfF, tn]
theorem df_i32 (u : Vw) {c : Int} (h : IntKind.i32.wrap d = c) : RMf u (.mk 3 a b nul tag d o sub) (dfF (.mk 3 a b nul tag d o sub)) [.int .i32 c] := by subst h; rw [RMf_i32]; simp [dfF, tn]
theorem df_i64 (u : Vw) (h : I64 d) : RMf u (.mk 4 a b nul tag d o sub) (dfF (.mk 4 a b nul tag d o sub)) [.int .i64 d] := by rw [RMf_i64]; simp [dfF, tn, h]
theorem df_u16 (u : Vw) {c : Int} (h : IntKind.u16.wrap d = c) : RMf u (.mk 5 a b nul tag d o sub) (dfF (.mk 5 a b nul tag d o sub)) [.int .u16 c] := by subst h; rw [RMf_u16]; simp [dfF, tn]
theorem df_uuid (u : Vw) : RMf u (.mk 7 a b nul tag d o sub) (dfF (.mk 7 a b nul tag d o sub)) (List.replicate 16 (.int .u8 0)) := by rw [RMf_uuid]; rfl
theorem df_str (u : Vw) (hn : nul < 0) : RMf u (.mk 8 a b nul tag d o sub) (dfF (.mk 8 a b nul tag d o sub)) [.string .empty] := by rw [RMf_str hn]; rfl
theorem df_txt (u : Vw) (hn : ¬ nul < 0) : RMf u (.mk 8 a b nul tag d o sub) (dfF (.mk 8 a b nul tag d o sub)) [.pointer none] := by
  rw [RMf_txt hn]
  exact ⟨_, rfl, .inl ⟨by have : nul ≥ 0 := by omega
                          simp [dfF, tz, this], rfl⟩⟩
theorem df_oct (u : Vw) : RMf u (.mk 9 a b nul tag d o sub) (dfF (.mk 9 a b nul tag d o sub)) [.slice none 0 0] := by
  rw [RMf_oct]
  exact ⟨_, rfl, .inl ⟨by simp [dfF, tz], rfl⟩⟩
theorem df_list (u : Vw) : RMf u (.mk 11 a b nul tag d o sub) (dfF (.mk 11 a b nul tag d o sub)) [.slice none 0 0] := by
  rw [RMf_list]
  exact ⟨_, rfl, .inl ⟨by simp [dfF, tz], rfl⟩⟩
theorem df_ptr (u : Vw) (hn : ¬ nul < 0) : RMf u (.mk 10 a b nul tag d o sub) (dfF (.mk 10 a b nul tag d o sub)) [.pointer none] := by
  rw [RMf_ptr hn]
  exact ⟨_, rfl, .inl ⟨by have : nul ≥ 0 := by omega
                          simp [dfF, tz, this], rfl⟩⟩
end
/-! ### append(a, make([]T, n)...) -/
theorem rep_step (zc : List Value) (m : Nat) : (List.replicate (m + 1) zc).flatten = zc ++ (List.replicate m zc).flatten := by simp [List.replicate_succ]
theorem rep_len (zc : List Value) (m : Nat) : (List.replicate m zc).flatten.length = m * zc.length := by simp
theorem zeroCells_list (z : Array Value) (hz : 0 < z.size) : ∀ m : Nat, (Builtin.zeroCells z m).toList = (List.replicate m z.toList).flatten := by
  intro m
  have h : ∀ m : Nat, (List.range (m * z.size)).map (fun i => z[i % z.size]!) = (List.replicate m z.toList).flatten := by
    intro m
    induction m with
    | zero => simp
    | succ m ih =>
      rw [Nat.succ_mul, Nat.add_comm, List.range_add, List.map_append, List.map_map, rep_step, ← ih]
      congr 1
      · apply List.ext_getElem
        · simp
        · intro i h1 h2
          simp only [List.length_map, List.length_range] at h1
          simp [Nat.mod_eq_of_lt h1, h1]
      · apply List.map_congr_left
        intro i _
        simp
  rw [← h m]
  simp [Builtin.zeroCells]
theorem append_zeros {P : Program} (w : World) (t it ty e : TypeId) (i : TypeInfo) (z : Value) (ht : P.underlying t = some (.slice e)) (hit : P.underlying it = some (.int .i32)) (hi : P.info? e = some i) (hz : i.zero = some z) (hs : 0 < i.size) (m : Nat) (h0 : 0 < m) (hm : m ≤ 32767) (hby : m * i.bytes ≤ 140737488355328) :
    (Builtin.append_ #[t, it] ty #[.slice none 0 0, .int .i32 (m : Int)]).run P w = .ok (.slice (some ⟨w.heap.size, 0, none⟩) m (grownCap w m 0 e)) (w.drew.alloc (.cells (Builtin.zeroCells z.cells m ++ Builtin.zeroCells z.cells (grownCap w m 0 e - m)) e)) := by
  have hn : ¬ (m = 0) := by omega
  have hn2 : ¬ (m ≤ 0) := by omega
  have hw : IntKind.i64.wrap (m : Int) = (m : Int) := wrap_i64 (by omega) (by omega)
  have hneg : ¬ ((m : Int) < 0) := by omega
  have hbi : ((m : Int) * (i.bytes : Int)) ≤ 140737488355328 := by have h : ((m * i.bytes : Nat) : Int) ≤ 140737488355328 := by omega
                                                                   rwa [Int.natCast_mul] at h
  have h48 : ¬ (281474976710656 < (m : Int) * (i.bytes : Int)) := by omega
  have h63 : ¬ (9223372036854775807 < (m : Int)) := by omega
  have h48' : ¬ (281474976710656 < Builtin.nextslicecap m 0 * i.bytes) := by rw [nextslicecap_zero h0]; omega
  have hms : ¬ (m * i.size = 0) := by
    intro h
    rcases Nat.mul_eq_zero.1 h with h | h <;> omega
  have hms1 : ¬ (i.size = 0) := by omega
  simp [Builtin.append_, run_underlying ht, run_underlying hit, sizeOf, typeInfo, zeroValue, hi, hz, asInt, asIntOf, hw, hneg, h48, h48', h63, hn, hms1, Builtin.firstCells, Question.forced, newRow, grownCap]
  exact fun h => absurd h hms
section
variable {P : Program} {n : Nat} {L : Env} {H : Hp} {C : Cx} {s : Vw} {K : Act → World → Prop} {ops : Array Oper} {rest : List Oper} {ty : TypeId} {pos : String} {af : Array Edge}
theorem ln_appendZ {d m sz by_ : Nat} {t it e : TypeId} {z : Value} {x y : Operand} {zc : List Value} (hu : P.underlying t = some (.slice e)) (hit : P.underlying it = some (.int .i32)) (hti : TI P e z sz by_) (hzc : z.cells = zc.toArray) (hzl : zc.length = sz) (hs : 0 < sz) (hx : ev L x = some (.slice none 0 0)) (hy : ev L y = some (.int .i32 (m : Int))) (h0 : 0 < m) (hm : m ≤ 32767) (hby : 32767 * by_ ≤ 140737488355328) (hd : Nat.blt d n = true)
    (k : ∀ g cap, Ln P ops rest K n ((d, .slice (some ⟨g, 0, none⟩) m cap) :: L) (.row (.slice (some ⟨g, 0, none⟩) m cap) e sz m (List.replicate m zc).flatten :: H) C s) : Ln P ops (⟨some d, .call ⟨.builtin .append, #[x, y], #[t, it]⟩, ty, pos, af, none⟩ :: rest) K n L H C s := fun a w hF hS => by
  obtain ⟨ii, hii, hz0, hz1, hz2⟩ := info_parts hti
  have hb : m * by_ ≤ 140737488355328 := Nat.le_trans (Nat.mul_le_mul_right _ hm) hby
  have hr := append_zeros (P := P) w t it ty e ii z hu hit hii hz0 (by omega) m h0 hm (by rw [hz2]; exact hb)
  have hzs : z.cells.size = sz := by rw [hzc]; simpa using hzl
  have hzL := zeroCells_list z.cells (by omega) m
  have hge := grownCap_ge w m 0 e
  have hcm : grownCap w m 0 e ≤ maxLen := grownCap_le_maxLen w m 0 e (by simp only [maxLen]; omega)
  have hS' : St C s (.row (.slice none 0 0) e sz 0 [] :: H) w := hS.nilrow e sz
  have hzt : z.cells.toList = zc := by rw [hzc]
  rw [hzt] at hzL
  refine wpl_val (w' := w.drew.alloc (.cells (Builtin.zeroCells z.cells m ++ Builtin.zeroCells z.cells (grownCap w m 0 e - m)) e)) rfl (by simp [execOp, resolve, invoke, builtin, hF.ev hx, hF.ev hy, hr, Result.andThen]) (k w.heap.size (grownCap w m 0 e) _ _ (hF.put d _ hd) ?_)
  refine hS'.turn (i := 0) (e' := .row (.slice (some ⟨w.heap.size, 0, none⟩) m (grownCap w m 0 e)) e sz m (List.replicate m zc).flatten) rfl ?_ ?_ (fun q hq => .inr (by simp only [Ent.blk, Value.ownBlock, Option.toList, List.mem_singleton] at hq; omega)) (by simp [Ent.blk, Value.ownBlock])
  · exact ⟨rfl, rfl, rfl, by simp, fun k hk _ => Go.RowKit.Below.heap_alloc w.drew _ _ hk⟩
  · refine ⟨by rw [rep_len, hzl], .inr ⟨w.heap.size, _, _, rfl, Nat.zero_le _, heap_alloc_new w.drew _, hge, hcm, ?_, ?_⟩⟩
    · simp only [Array.size_append, size_zeroCells, hzs, ← Nat.add_mul]
      congr 1
      omega
    · have e2 : m * sz = (Builtin.zeroCells z.cells m).toList.length := by rw [hzL, rep_len, hzl]
      rw [Array.toList_append, hzL]
      have e3 : m * sz = (List.replicate m zc).flatten.length := by rw [rep_len, hzl]
      rw [e3]
      exact List.take_left
end
end K
end Go.Proofs.YtepbicjadambbabGreatDoor
namespace Go.Proofs.YtepbicjadambbabGreatDoor
namespace K
open Go Go.Lib
theorem Tgt.mid {mk : List Value → Ent} {b o len : Nat} (h : Tgt mk b o len) (p q : List Value) (len' o' : Nat) (hl : p.length + (len' + q.length) = len) (ho : o + p.length = o') : Tgt (fun win => mk (p ++ (win ++ q))) b o' len' := by
  have := h.sub p q len' o' (by omega) ho
  have e : (fun win => mk (p ++ win ++ q)) = fun win => mk (p ++ (win ++ q)) := by
    funext win
    rw [List.append_assoc]
  rwa [e] at this
/-- what Default does to a part's cells -/
def DfC (f : FuncId) (z1 z2 : List Value) : Prop := ∀ (mk : List Value → Ent) (b o : Nat) (hT : Tgt mk b o z1.length) (t : Vw), (mk z1).ok t.w → (∀ q ∈ (mk z1).blk, t.av q) → CT Tryz.prog f [.pointer (some ⟨b, o, none⟩)] t (mk z1) fun u r e' => r = .tuple #[] ∧ e' = mk z2
/-- how a list's things are written, and read -/
def elI (o : Int) (sub : List Fld) (v : Int) (q : Bool) (z : Tre) : Tre := if o = 10 then .mk 0 [] false (imL sub v q z 0) (imU sub q z.u) else imS o false z
section
variable {a b nul tag d o : Int} {sub : List Fld} {v : Int} {q : Bool} {y : Tre}
theorem lB (hn : ¬ nul ≥ 0) : fieldB (.mk 11 a b nul tag d o sub) v q y = counted q false (y.l.take 32767).length 4 ++ (y.l.take 32767).flatMap (valueB o sub false v q) := by
  rw [fieldB_eq]
  have e : nullB (.mk 11 a b nul tag d o sub) v y = false := by rw [nullB_mk]; simp [hn]
  rw [e]
  simp [Fld.kind, Fld.of_, Fld.sub]
theorem lI (hn : ¬ nul ≥ 0) : imF (.mk 11 a b nul tag d o sub) v q y = .mk 0 [] (decide (y.l.length = 0)) ((y.l.take 32767).map (elI o sub v q)) [] := by
  have e : elI o sub v q = fun x => if o = 10 then .mk 0 [] false (imL sub v q x 0) (imU sub q x.u) else imS o false x := by funext x; rfl
  rw [e]
  simp [imF, hn]
end
theorem flat_ge {ls : List Tre} {enc : Tre → List UInt8} (h : ∀ z, 1 ≤ (enc z).length) : ls.length ≤ (ls.flatMap enc).length := by
  induction ls with
  | nil => simp
  | cons z r ih =>
    rw [List.flatMap_cons, List.length_append, List.length_cons]
    have := h z
    omega
theorem drop_enc' {ls : List Tre} {enc : Tre → List UInt8} {i : Nat} (hi : i < ls.length) (rest : List UInt8) : (ls.drop i).flatMap enc ++ rest = enc ls[i] ++ ((ls.drop (i + 1)).flatMap enc ++ rest) := by
  rw [List.drop_eq_getElem_cons hi, List.flatMap_cons, List.append_assoc]
section
variable {n : Nat} {L : Env} {H H0 : Hp} {C : Cx} {s : Vw} {N R : Act → World → Prop} {X : List (Nat × (Act → World → Prop))}
variable {id id0 id1 id2 id3 id4 id5 id6 id7 id8 id9 : Nat} {tb ts un fx vr x y d0 d1 d2 d3 d4 d5 d6 d7 d8 d9 e0 e1 e2 e3 e4 y1 y2 y3 y4 g1 g2 g3 g4 g5 h1 h2 h3 h4 h5 i1 j1 j2 j3 j4 : Nat} {f g : FuncId} {br b o po len fo k sz : Nat} {mk : List Value → Ent} {v c val : Value} {rest bs : List UInt8}
variable {ty0 ty1 ty2 ty3 ty4 ty5 ty6 ty7 ty8 ty9 : TypeId} {p0 p1 p2 p3 p4 p5 p6 p7 p8 p9 : String} {a0 a1 a2 a3 a4 a5 a6 a7 a8 a9 : Array Edge} {tys tyt tyo : Array TypeId}
variable {uy1 uy2 uy3 uy4 uy5 uy6 uy7 uy8 : TypeId} {q1 q2 q3 q4 q5 q6 q7 q8 : String} {c1 c2 c3 c4 c5 c6 c7 c8 : Array Edge}
variable {vy1 vy2 vy3 vy4 vy5 vy6 vy7 vy8 vy9 : TypeId} {r1 r2 r3 r4 r5 r6 r7 r8 r9 : String} {b1 b2 b3 b4 b5 b6 b7 b8 b9 : Array Edge}
variable {wy1 wy2 wy3 wy4 wy5 wy6 wy7 wy8 wy9 : TypeId} {s1 s2 s3 s4 s5 s6 s7 s8 s9 : String} {m1 m2 m3 m4 m5 m6 m7 m8 m9 : Array Edge}
variable {T ft ST et it : TypeId} {fs : Array Field} {fd : Field} {fl : Fld} {r fsd : List Fld} {v0 : Int} {q : Bool} {xx Y : Tre} {T' : List UInt8} {done zc zs : List Value} {z : Value} {E0 : Ent}
/-- e = &s.F -/
theorem rg_addr (hs : lk L ts = some (.pointer (some ⟨b, po, none⟩))) (hu : Tryz.prog.underlying T = some (.struct fs)) (hk : fs[k]? = some fd) (hsz : (Tryz.prog.info? fd.type).map (·.size) = some (sz + 1)) (ho : fd.offset = fo) (hf : frs n L [y, d1, d2, d3] = true)
    (kk : At N n ((y, .pointer (some ⟨b, po + fo, none⟩)) :: L) H C s) :
    Cd Tryz.prog (.region id [⟨some d1, .move (.tmp ts), ty1, p1, a1, none⟩, ⟨some d2, .nilCheck (.tmp d1), ty2, p2, a2, none⟩, ⟨some d3, .fieldAddr T (.tmp d2) k, ty3, p3, a3, none⟩, ⟨some y, .assign (.tmp d3), ty4, p4, a4, none⟩].toArray false) ⟨N, R, X⟩ n L H C s := by
  obtain ⟨hb, hfr, hne⟩ := frs_get hf
  simp only [List.pairwise_cons, List.mem_cons, List.not_mem_nil, or_false, forall_eq_or_imp, forall_eq, List.Pairwise.nil, and_true, false_imp_iff, implies_true] at hb hfr hne
  refine cd_region ?_
  refine ln_pv (pv_move hs) hb.2.1 ?_
  refine ln_pv (pv_nilCheck lk_eq) hb.2.2.1 ?_
  refine ln_pv (pv_fieldAddr hu hk hsz ho lk_eq rfl) hb.2.2.2 ?_
  refine ln_pv (pv_assign lk_eq) hb.1 ?_
  exact ln_nil (at_sub (sub.cons (.skip hfr.2.2.2 (.skip hfr.2.2.1 (.skip hfr.2.1 .rfl')))) kk)
/-- e.Default() -/
theorem rg_dflt {z1 z2 : List Value} (he : lk L x = some (.pointer (some ⟨b, po, none⟩))) (hent : Enters Tryz.prog f) (hD : DfC f z1 z2) (hT : Tgt mk b po z1.length) (hf : frs n L [d1, d2] = true)
    (kk : ∀ u, Tr s u → At N n L (E0 :: mk z2 :: H0) C u) :
    Cd Tryz.prog (.region id [⟨some d1, .move (.tmp x), ty1, p1, a1, none⟩, ⟨some d2, .call ⟨.value (.func f), [.tmp d1].toArray, tys⟩, ty2, p2, a2, none⟩].toArray false) ⟨N, R, X⟩ n L (E0 :: mk z1 :: H0) C s := by
  obtain ⟨hb, hfr, hne⟩ := frs_get hf
  simp only [List.pairwise_cons, List.mem_cons, List.not_mem_nil, or_false, forall_eq_or_imp, forall_eq, List.Pairwise.nil, and_true, false_imp_iff, implies_true] at hb hfr hne
  refine cd_region ?_
  refine ln_pv (pv_move he) hb.1 ?_
  refine ln_callT (i := 1) (vals := [.pointer (some ⟨b, po, none⟩)]) hent (by simp [evs, ev_t, lk_eq]) rfl (fun u hu hok hav => hD mk b po hT u hok hav) hb.2 ?_
  rintro u c _ ht ⟨ux, ⟨rfl, rfl⟩, hx⟩
  exact ln_nil (at_sub (.skip hfr.2 (.skip hfr.1 .rfl')) (kk u ht))
/-- v := s.F, a list that is not there yet -/
theorem rl_load (hdl : done.length = fszs fsd) (hs : lk L ts = some (.pointer (some ⟨b, po, none⟩))) (hT : Tgt mk b o len) (hl : fszs fsd + (zs.length + 1) = len) (hu : Tryz.prog.underlying T = some (.struct fs)) (hk : fs[k]? = some fd) (hsz : (Tryz.prog.info? fd.type).map (·.size) = some (sz + 1)) (ho : fd.offset = fo) (hpo : po + fo = o + fszs fsd) (hST : Tryz.prog.underlying ST = some (.slice et)) (hf : frs n L [y1, d1, d2, d3, d4] = true)
    (kk : At N n ((y1, .slice none 0 0) :: L) (E0 :: mk (done ++ .slice none 0 0 :: zs) :: H0) C s) :
    Cd Tryz.prog (.region id [⟨some d1, .move (.tmp ts), ty1, p1, a1, none⟩, ⟨some d2, .nilCheck (.tmp d1), ty2, p2, a2, none⟩, ⟨some d3, .fieldAddr T (.tmp d2) k, ty3, p3, a3, none⟩, ⟨some d4, .load ST (.tmp d3), ty4, p4, a4, none⟩, ⟨some y1, .assign (.tmp d4), ty5, p5, a5, none⟩].toArray false) ⟨N, R, X⟩ n L (E0 :: mk (done ++ .slice none 0 0 :: zs) :: H0) C s := by
  obtain ⟨hb, hfr, hne⟩ := frs_get hf
  simp only [List.pairwise_cons, List.mem_cons, List.not_mem_nil, or_false, forall_eq_or_imp, forall_eq, List.Pairwise.nil, and_true, false_imp_iff, implies_true] at hb hfr hne
  refine cd_region ?_
  refine ln_pv (pv_move hs) hb.2.1 ?_
  refine ln_pv (pv_nilCheck lk_eq) hb.2.2.1 ?_
  refine ln_pv (pv_fieldAddr (r := o + done.length) hu hk hsz ho lk_eq (by rw [hdl]; exact hpo)) hb.2.2.2.1 ?_
  refine ln_pv (pv_ldG1 (i := 1) (v := .slice none 0 0) hT rfl (by simp [hdl]; omega) hST rfl lk_eq (by simp)) hb.2.2.2.2 ?_
  refine ln_pv (pv_assign lk_eq) hb.1 ?_
  exact ln_nil (at_sub (sub.cons (.skip hfr.2.2.2.2 (.skip hfr.2.2.2.1 (.skip hfr.2.2.1 (.skip hfr.2.1 .rfl'))))) kk)
/-- l = b.ArrayLen(), of one kind or the other -/
theorem rl_len {n0 : Nat} {r0 : Int} (hb : lk L tb = some (.pointer (some ⟨br, 0, none⟩))) (hq : lk L fx = some (.bool q)) (hent : Enters Tryz.prog f) (heng : Enters Tryz.prog g) (hc : q = true → ∀ u, RdL f bs n0 r0 u) (hc' : q = false → ∀ u, RdL g bs n0 r0 u) (hn0 : n0 ≤ rest.length) (hv : RSv s v (bs ++ rest)) (hf : frs n L [d0] = true) (hf1 : frs n L [y, d1] = true) (hf2 : frs n L [y, d2] = true)
    (kk : ∀ u v', Tr s u → RSn u v' rest → At N n ((y, .int .i32 r0) :: L) (RdE br v' :: H0) C u) :
    Cd Tryz.prog (.seq (.region id0 [⟨some d0, .move (.tmp fx), ty0, p0, a0, none⟩].toArray false) (.cond (.tmp d0)
      (.region id1 [⟨some d1, .call ⟨.value (.func f), [.tmp tb].toArray, tys⟩, ty1, p1, a1, none⟩, ⟨some y, .assign (.tmp d1), ty2, p2, a2, none⟩].toArray false)
      (.region id2 [⟨some d2, .call ⟨.value (.func g), [.tmp tb].toArray, tyt⟩, ty3, p3, a3, none⟩, ⟨some y, .assign (.tmp d2), ty4, p4, a4, none⟩].toArray false))) ⟨N, R, X⟩ n L (RdE br v :: H0) C s := by
  have one : ∀ {f : FuncId} {id d1 : Nat} {tys : Array TypeId} {ty1 ty2 : TypeId} {p1 p2 : String} {a1 a2 : Array Edge}, Enters Tryz.prog f → (∀ u, RdL f bs n0 r0 u) → frs n L [y, d1] = true → Cd Tryz.prog (.region id [⟨some d1, .call ⟨.value (.func f), [.tmp tb].toArray, tys⟩, ty1, p1, a1, none⟩, ⟨some y, .assign (.tmp d1), ty2, p2, a2, none⟩].toArray false) ⟨N, R, X⟩ n L (RdE br v :: H0) C s := by
    intro f id d1 tys ty1 ty2 p1 p2 a1 a2 hent hc hf1
    obtain ⟨hb', hfr, hne⟩ := frs_get hf1
    simp only [List.pairwise_cons, List.mem_cons, List.not_mem_nil, or_false, forall_eq_or_imp, forall_eq, List.Pairwise.nil, and_true, false_imp_iff, implies_true] at hb' hfr hne
    refine cd_region ?_
    refine ln_callT (i := 0) (vals := [.pointer (some ⟨br, 0, none⟩)]) hent (by simp [evs, ev_t, hb]) rfl (fun u hu hok hav => hc u br v rest hn0 (RSv.mv hv hu) hok hav) hb'.2 ?_
    rintro u c _ ht ⟨ux, ⟨rfl, v', rfl, h2⟩, hx⟩
    refine ln_pv (pv_assign lk_eq) hb'.1 ?_
    exact ln_nil (at_sub (sub.cons (.skip hfr.2 .rfl')) (kk u v' ht (h2.mv hx)))
  obtain ⟨hb', hfr, hne⟩ := frs_get hf
  simp only [List.mem_cons, List.not_mem_nil, or_false, forall_eq] at hb' hfr
  refine cd_sq ?_
  refine cd_region ?_
  refine ln_pv (pv_move hq) hb' ?_
  refine ln_nil (at_cd ?_)
  exact cd_cond lk_eq (fun h => cd_sub_ (.skip hfr .rfl') (one hent (hc h) hf1)) (fun h => cd_sub_ (.skip hfr .rfl') (one heng (hc' h) hf2))
/-- a = a[:0] -/
theorem rl_cut (hy : lk L y2 = some (.slice none 0 0)) (hST : Tryz.prog.underlying ST = some (.slice et)) (het : (Tryz.prog.info? et).isSome = true) (hb2 : Nat.blt y2 n = true) (hf : frs n L [d1, d2] = true) (kk : At N n L H C s) :
    Cd Tryz.prog (.region id [⟨some d1, .move (.tmp y2), ty1, p1, a1, none⟩, ⟨some d2, .slice ST (.tmp d1) none (some (.const (.int .i64 0))) none, ty2, p2, a2, none⟩, ⟨some y2, .assign (.tmp d2), ty3, p3, a3, none⟩].toArray false) ⟨N, R, X⟩ n L H C s := by
  obtain ⟨hb', hfr, hne⟩ := frs_get hf
  simp only [List.pairwise_cons, List.mem_cons, List.not_mem_nil, or_false, forall_eq_or_imp, forall_eq, List.Pairwise.nil, and_true, false_imp_iff, implies_true] at hb' hfr hne
  refine cd_region ?_
  refine ln_pv (pv_move hy) hb'.1 ?_
  refine ln_pv (pv_slice_hi' (k := .i64) (i := 0) (k' := 0) hST het lk_eq ev_c (by decide) (by decide) rfl) hb'.2 ?_
  refine ln_pv (pv_assign lk_eq) hb2 ?_
  refine ln_nil (at_sub ?_ kk)
  intro t u hu
  by_cases e : y2 = t
  · subst e; rw [lk_eq]; exact hy.symm.trans hu
  · rw [lk_ne e, lk_ne (lk_fr hfr.2 hu), lk_ne (lk_fr hfr.1 hu)]; exact hu
/-- if l > 0 { a = append(a, make([]T, l)...) } -/
theorem rl_make {m ez by_ : Nat} {za : Value} (hy : lk L y2 = some (.slice none 0 0)) (hy3 : lk L y3 = some (.int .i32 (m : Int))) (hm : m ≤ 32767) (hST : Tryz.prog.underlying ST = some (.slice et)) (hit : Tryz.prog.underlying it = some (.int .i32)) (hti : TI Tryz.prog et za ez by_) (hzc : za.cells = zc.toArray) (hzl : zc.length = ez) (hez : 0 < ez) (hby : 32767 * by_ ≤ 140737488355328) (hb2 : Nat.blt y2 n = true) (hf : frs n L [g1, g2] = true) (hf2 : frs n L [g3, g4, g5] = true)
    (k0 : m = 0 → At N n L H C s) (k1 : 0 < m → ∀ g cap, At N n ((y2, .slice (some ⟨g, 0, none⟩) m cap) :: L) (.row (.slice (some ⟨g, 0, none⟩) m cap) et ez m (List.replicate m zc).flatten :: H) C s) :
    Cd Tryz.prog (.seq (.region id [⟨some g1, .move (.tmp y3), ty1, p1, a1, none⟩, ⟨some g2, .binOp .gtr it (.tmp g1) (.const (.int .i32 0)) uy1, ty2, p2, a2, none⟩].toArray false) (.cond (.tmp g2)
      (.region id1 [⟨some g3, .move (.tmp y2), ty3, p3, a3, none⟩, ⟨some g4, .move (.tmp y3), ty4, p4, a4, none⟩, ⟨some g5, .call ⟨.builtin .append, #[.tmp g3, .tmp g4], #[ST, it]⟩, ty5, p5, a5, none⟩, ⟨some y2, .assign (.tmp g5), ty6, p6, a6, none⟩].toArray false) .skip)) ⟨N, R, X⟩ n L H C s := by
  obtain ⟨hb', hfr, hne⟩ := frs_get hf
  simp only [List.pairwise_cons, List.mem_cons, List.not_mem_nil, or_false, forall_eq_or_imp, forall_eq, List.Pairwise.nil, and_true, false_imp_iff, implies_true] at hb' hfr hne
  obtain ⟨gb', gfr, gne⟩ := frs_get hf2
  simp only [List.pairwise_cons, List.mem_cons, List.not_mem_nil, or_false, forall_eq_or_imp, forall_eq, List.Pairwise.nil, and_true, false_imp_iff, implies_true] at gb' gfr gne
  refine cd_sq ?_
  refine cd_region ?_
  refine ln_pv (pv_move hy3) hb'.1 ?_
  refine ln_pv (pv_gtr lk_eq ev_c) hb'.2 ?_
  refine ln_nil (at_cd ?_)
  refine cd_if lk_eq (fun h => cd_sub_ (.skip hfr.2 (.skip hfr.1 .rfl')) ?_) (fun h => cd_sub_ (.skip hfr.2 (.skip hfr.1 .rfl')) (cd_skip (k0 (by omega))))
  refine cd_region ?_
  refine ln_pv (pv_move hy) gb'.1 ?_
  refine ln_pv (pv_move (v := .int .i32 (m : Int)) (by rw [ev_t, lk_ne (lk_fr gfr.1 hy3)]; exact hy3)) gb'.2.1 ?_
  refine ln_appendZ (m := m) hST hit hti hzc hzl hez (by simp [ev_t, lk_eq, lk_ne, gne]) (by simp [ev_t, lk_eq, lk_ne, gne]) (by omega) hm hby gb'.2.2 (fun g cap => ?_)
  refine ln_pv (pv_assign lk_eq) hb2 ?_
  exact ln_nil (at_sub (sub.cons (.skip gfr.2.2 (.skip gfr.2.1 (.skip gfr.1 .rfl')))) (k1 (by omega) g cap))
/-- the loop, of no things -/
theorem rl_loop0 {body : Code} (hy3 : lk L y3 = some (.int .i32 0)) (hf : frs n L [y4, h1, h2, h3] = true) (kk : ∀ u, Tr s u → At N n L H C u) :
    Cd Tryz.prog (.seq (.region id [⟨some y4, .assign (.const (.int .i32 0)), ty1, p1, a1, none⟩].toArray false) (.block id1 (.loop (.seq (.seq (.region id2 [⟨some h1, .move (.tmp y4), ty2, p2, a2, none⟩, ⟨some h2, .move (.tmp y3), ty3, p3, a3, none⟩, ⟨some h3, .binOp .lss uy1 (.tmp h1) (.tmp h2) uy2, ty4, p4, a4, none⟩].toArray false) (.cond (.tmp h3) .skip (.exit id1))) body)))) ⟨N, R, X⟩ n L H C s := by
  obtain ⟨hb', hfr, hne⟩ := frs_get hf
  simp only [List.pairwise_cons, List.mem_cons, List.not_mem_nil, or_false, forall_eq_or_imp, forall_eq, List.Pairwise.nil, and_true, false_imp_iff, implies_true] at hb' hfr hne
  refine cd_sq ?_
  refine cd_region ?_
  refine ln_pv (pv_assign ev_c) hb'.1 ?_
  refine ln_nil (at_cd ?_)
  refine cd_block ?_
  refine cd_loop' (S := Unit) ⟨fun _ => (y4, .int .i32 0) :: L, fun _ => H, fun _ _ => True, fun _ => 0⟩ () (fun _ _ => trivial) .rfl' (List.Sublist.refl _) ?_
  intro _ u hu _
  dsimp only
  refine cd_sq ?_
  refine cd_sq ?_
  refine cd_region ?_
  refine ln_pv (pv_move lk_eq) hb'.2.1 ?_
  refine ln_pv (pv_move (v := .int .i32 0) (by rw [ev_t, lk_ne (lk_fr hfr.2.1 hy3), lk_ne (lk_fr hfr.1 hy3)]; exact hy3)) hb'.2.2.1 ?_
  refine ln_pv (pv_ff (pv_lss (k := .i32) (i := 0) (j := 0) (by simp [ev_t, lk_eq, lk_ne, hne]) lk_eq) (by decide)) hb'.2.2.2 ?_
  refine ln_nil (at_cd ?_)
  refine cd_ff lk_eq ?_
  refine cd_exit (K := N) (by simp [lkx]) ?_
  exact at_sub (.skip hfr.2.2.2 (.skip hfr.2.2.1 (.skip hfr.2.1 (.skip hfr.1 .rfl')))) (kk u hu)
/-- the loop over the things: each is read in its place -/
theorem rl_loop {body : Code} {ls : List Tre} {enc : Tre → List UInt8} {el : Tre → Tre} {o : Int} {sb : List Fld} {ez gb cap : Nat} (hpos : 0 < ls.length) (hlen : ls.length ≤ 32767) (hzl : zc.length = ez) (hez : (if o = 7 then 16 else if o = 10 then fszs sb + 1 else 1) = ez) (hy3 : lk L y3 = some (.int .i32 (ls.length : Int))) (hv : RSv s v (ls.flatMap enc ++ rest)) (hO : ∀ q, C.O q → q ∈ blks H0) (hf : frs n L [y4, h1, h2, h3, h4, h5] = true)
    (hbody : ∀ (i : Nat) (hi : i < ls.length) (u : Vw) (v : Value) (xs : List Value) (N' : Act → World → Prop) (X' : List (Nat × (Act → World → Prop))), Tr s u → xs.length = i * ez → RSv u v (enc ls[i] ++ ((ls.drop (i + 1)).flatMap enc ++ rest)) →
      (∀ u' v' c, Tr u u' → REl u' o sb (el ls[i]) c → RSv u' v' ((ls.drop (i + 1)).flatMap enc ++ rest) → At N' n ((y4, .int .i32 (i : Int)) :: L) (RdE br v' :: .row (.slice (some ⟨gb, 0, none⟩) ls.length cap) et ez ls.length (xs ++ (c ++ (List.replicate (ls.length - (i + 1)) zc).flatten)) :: H0) C u') →
      Cd Tryz.prog body ⟨N', R, X'⟩ n ((y4, .int .i32 (i : Int)) :: L) (RdE br v :: .row (.slice (some ⟨gb, 0, none⟩) ls.length cap) et ez ls.length (xs ++ (zc ++ (List.replicate (ls.length - (i + 1)) zc).flatten)) :: H0) C u)
    (kk : ∀ u v' xs, Tr s u → RSv u v' rest → RS u ez (.slice (some ⟨gb, 0, none⟩) ls.length cap) ls.length xs → (∀ i, (hi : i < ls.length) → REl u o sb (el ls[i]) (seg xs i ez)) → At N n L (RdE br v' :: H0) C u) :
    Cd Tryz.prog (.seq (.region id [⟨some y4, .assign (.const (.int .i32 0)), ty1, p1, a1, none⟩].toArray false) (.block id1 (.loop (.seq (.seq (.region id2 [⟨some h1, .move (.tmp y4), ty2, p2, a2, none⟩, ⟨some h2, .move (.tmp y3), ty3, p3, a3, none⟩, ⟨some h3, .binOp .lss uy1 (.tmp h1) (.tmp h2) uy2, ty4, p4, a4, none⟩].toArray false) (.cond (.tmp h3) .skip (.exit id1)))
      (.seq (.block id3 body) (.region id4 [⟨some h4, .move (.tmp y4), ty5, p5, a5, none⟩, ⟨some h5, .binOp .add uy3 (.tmp h4) (.const (.int .i32 1)) uy4, ty6, p6, a6, none⟩, ⟨some y4, .assign (.tmp h5), ty7, p7, a7, none⟩].toArray false)))))) ⟨N, R, X⟩ n L (RdE br v :: .row (.slice (some ⟨gb, 0, none⟩) ls.length cap) et ez ls.length (List.replicate ls.length zc).flatten :: H0) C s := by
  obtain ⟨hb', hfr, hne⟩ := frs_get hf
  simp only [List.pairwise_cons, List.mem_cons, List.not_mem_nil, or_false, forall_eq_or_imp, forall_eq, List.Pairwise.nil, and_true, false_imp_iff, implies_true] at hb' hfr hne
  obtain ⟨f0, f1, f2, f3, f4, f5⟩ := hfr
  obtain ⟨b0, b1, b2, b3, b4, b5⟩ := hb'
  refine cd_sq ?_
  refine cd_region ?_
  refine ln_pv (pv_assign ev_c) b0 ?_
  refine ln_nil (at_cd ?_)
  refine cd_block ?_
  refine cd_loop' (S := Nat × Value × List Value) ⟨fun z => (y4, .int .i32 (z.1 : Int)) :: L, fun z => RdE br z.2.1 :: .row (.slice (some ⟨gb, 0, none⟩) ls.length cap) et ez ls.length (z.2.2 ++ (List.replicate (ls.length - z.1) zc).flatten) :: H0,
      fun z u => z.1 ≤ ls.length ∧ z.2.2.length = z.1 * ez ∧ RSv u z.2.1 ((ls.drop z.1).flatMap enc ++ rest) ∧ ∀ k, (hk : k < ls.length) → k < z.1 → REl u o sb (el ls[k]) (seg z.2.2 k ez), fun z => ls.length - z.1⟩ (0, v, [])
    (fun u hu => ⟨Nat.zero_le _, by simp, by simpa using RSv.mv hv hu, fun k hk h0 => absurd h0 (Nat.not_lt_zero k)⟩) .rfl' (by simp) ?_
  rintro ⟨i, v, xs⟩ u hu ⟨hi, hxl, hvz, hEl⟩
  dsimp only at hi hxl hvz hEl ⊢
  refine cd_sq ?_
  refine cd_sq ?_
  refine cd_region ?_
  refine ln_pv (pv_move lk_eq) b1 ?_
  refine ln_pv (pv_move (v := .int .i32 (ls.length : Int)) (by rw [ev_t, lk_ne (lk_fr f1 hy3), lk_ne (lk_fr f0 hy3)]; exact hy3)) b2 ?_
  refine ln_pv (pv_lss (k := .i32) (i := (i : Int)) (j := (ls.length : Int)) (by simp [ev_t, lk_eq, lk_ne, hne]) lk_eq) b3 ?_
  refine ln_nil (at_cd ?_)
  have hs : ∀ u1 u2 u3, sub ((y4, .int .i32 (i : Int)) :: L) ((h3, u3) :: (h2, u2) :: (h1, u1) :: (y4, .int .i32 (i : Int)) :: L) := fun u1 u2 u3 => .put (by simp [lk_eq, lk_ne, hne]) (.skip f3 (.skip f2 (.skip f1 (.skip f0 .rfl'))))
  refine cd_if lk_eq (fun hlt => cd_sub_ (hs _ _ _) ?_) (fun hge => cd_sub_ (hs _ _ _) ?_)
  · have hi' : i < ls.length := by omega
    refine cd_skip (at_cd ?_)
    refine cd_sq ?_
    refine cd_block ?_
    rw [drop_enc' hi'] at hvz
    have e1 : ls.length - i = (ls.length - (i + 1)) + 1 := by omega
    rw [e1, rep_step]
    refine hbody i hi' u v xs _ _ hu hxl hvz (fun u' v' c hu' hc hv' => ?_)
    refine at_cd ?_
    refine cd_region ?_
    refine ln_pv (pv_move lk_eq) b4 ?_
    refine ln_pv (pv_add' (k := .i32) (i := (i : Int)) (j := 1) (r := ((i + 1 : Nat) : Int)) lk_eq ev_c (by rw [show (i : Int) + 1 = ((i + 1 : Nat) : Int) by omega, w32 (by omega)])) b5 ?_
    refine ln_pv (pv_assign lk_eq) b0 ?_
    refine ln_nil ?_
    have hcl : c.length = ez := by rw [hc.len.1, hez]
    refine at_rnd' (i + 1, v', xs ++ c) (hu.trans hu') (fun u3 hu3 => ⟨by dsimp only; omega, by dsimp only; rw [List.length_append, hxl, hcl, Nat.succ_mul], RSv.mv hv' hu3, fun k hk hki => ?_⟩) (by dsimp only; omega) ?_ ?_
    · dsimp only at hki ⊢
      by_cases hkk : k < i
      · rw [(seg_app hxl hcl).1 hkk]
        exact (hEl k hk hkk).mv (hu'.trans hu3)
      · have hke : k = i := by omega
        subst hke
        rw [(seg_app (j := k) hxl hcl).2]
        exact hc.mv hu3
    · exact .put lk_eq (.skip f0 (.skip f5 (.skip f4 (.skip f0 .rfl'))))
    · dsimp only
      rw [List.append_assoc]
      exact List.Sublist.refl _
  · have him : i = ls.length := by omega
    subst him
    refine cd_exit (K := N) (by simp [lkx]) ?_
    refine at_sub (.skip f0 .rfl') ?_
    simp only [Nat.sub_self, List.replicate_zero, List.flatten_nil, List.append_nil]
    simp only [List.drop_length, List.flatMap_nil, List.nil_append] at hvz
    refine at_perm (List.Perm.swap _ _ _) ?_
    refine at_free1 (fun q hq => by rw [blks_cons]; exact List.mem_append.2 (.inr (hO q hq))) (fun u3 hu3 hK => ?_)
    have hEl3 := fun k (hk : k < ls.length) => (hEl k hk hk).mv hu3
    have hone : ∀ v ∈ xs, v.oneCell' = true := fun v hv => by
      obtain ⟨q, hq, rfl⟩ := List.getElem_of_mem hv
      have hpos : 0 < ez := by
        rw [← hez]
        split
        · omega
        · split <;> omega
      have h1 : q / ez < ls.length := by rw [Nat.div_lt_iff_lt_mul hpos]; rw [← hxl]; exact hq
      refine (hEl3 (q / ez) h1).len.2 _ ?_
      unfold seg
      have h2 : q = q / ez * ez + q % ez := by rw [Nat.mul_comm]; exact (Nat.div_add_mod q ez).symm
      have h3 := Nat.mod_lt q hpos
      have h4 : ((xs.drop (q / ez * ez)).take ez)[q % ez]? = some xs[q] := by
        rw [List.getElem?_take_of_lt h3, List.getElem?_drop, ← h2]
        exact List.getElem?_eq_getElem hq
      exact List.mem_of_getElem? h4
    exact kk u3 v xs (hu.trans hu3) (RSv.mv hvz hu3) (hK.rs hone) hEl3
end
end K
end Go.Proofs.YtepbicjadambbabGreatDoor
namespace Go.Proofs.YtepbicjadambbabGreatDoor
namespace K
open Go Go.Lib
theorem po_eq {po sh fo m : Nat} (h : fo = sh + m) : po + fo = (po + sh) + m := by omega
theorem rls_of {u : Vw} {a b nul tag d o : Int} {sub : List Fld} {v0 : Int} {q : Bool} {y : Tre} {ez g cap : Nat} {xs : List Value} (hn : ¬ nul ≥ 0) (hez : (if o = 7 then 16 else if o = 10 then fszs sub + 1 else 1) = ez) (hpos : 0 < (y.l.take 32767).length)
    (hRS : RS u ez (.slice (some ⟨g, 0, none⟩) (y.l.take 32767).length cap) (y.l.take 32767).length xs) (hEl : ∀ i, (hi : i < (y.l.take 32767).length) → REl u o sub (elI o sub v0 q (y.l.take 32767)[i]) (seg xs i ez)) :
    RMf u (.mk 11 a b nul tag d o sub) (imF (.mk 11 a b nul tag d o sub) v0 q y) [.slice (some ⟨g, 0, none⟩) (y.l.take 32767).length cap] := by
  rw [RMf_list, lI hn]
  refine ⟨_, rfl, .inr ⟨?_, g, 0, cap, xs, by simp [tl], ?_, fun i hi => ?_⟩⟩
  · simp only [tz, decide_eq_false_iff_not]
    intro h
    rw [List.length_take, h] at hpos
    omega
  · rw [hez]
    simpa [tl] using hRS
  · rw [hez]
    have hi' : i < (y.l.take 32767).length := by simpa [tl] using hi
    have := hEl i hi'
    simpa [tl] using this
theorem rls_nil {u : Vw} {a b nul tag d o : Int} {sub : List Fld} {v0 : Int} {q : Bool} {y : Tre} (hn : ¬ nul ≥ 0) (h0 : (y.l.take 32767).length = 0) :
    RMf u (.mk 11 a b nul tag d o sub) (imF (.mk 11 a b nul tag d o sub) v0 q y) [.slice none 0 0] := by
  rw [RMf_list, lI hn]
  refine ⟨_, rfl, .inl ⟨?_, rfl⟩⟩
  simp only [tz, decide_eq_true_eq]
  rw [List.length_take] at h0
  omega
section
variable {n : Nat} {L : Env} {H H0 : Hp} {C : Cx} {s : Vw} {N R : Act → World → Prop} {X : List (Nat × (Act → World → Prop))}
variable {id id0 id1 id2 id3 id4 id5 id6 id7 id8 id9 ida idb idc idd ide idf idg : Nat} {tb ts un fx vr x y d0 d1 d2 d3 d4 d5 d6 d7 d8 d9 e0 e1 e2 e3 e4 y1 y2 y3 y4 g1 g2 g3 g4 g5 h1 h2 h3 h4 h5 i1 j1 j2 j3 j4 : Nat} {f g : FuncId} {br b o po len fo k sz : Nat} {mk : List Value → Ent} {v c val : Value} {rest bs : List UInt8}
variable {ty0 ty1 ty2 ty3 ty4 ty5 ty6 ty7 ty8 ty9 : TypeId} {p0 p1 p2 p3 p4 p5 p6 p7 p8 p9 : String} {a0 a1 a2 a3 a4 a5 a6 a7 a8 a9 : Array Edge} {tys tyt tyo : Array TypeId}
variable {uy1 uy2 uy3 uy4 uy5 uy6 uy7 uy8 : TypeId} {q1 q2 q3 q4 q5 q6 q7 q8 : String} {c1 c2 c3 c4 c5 c6 c7 c8 : Array Edge}
variable {vy1 vy2 vy3 vy4 vy5 vy6 vy7 vy8 vy9 : TypeId} {r1 r2 r3 r4 r5 r6 r7 r8 r9 : String} {b1 b2 b3 b4 b5 b6 b7 b8 b9 : Array Edge}
variable {wy1 wy2 wy3 wy4 wy5 wy6 wy7 wy8 wy9 : TypeId} {s1 s2 s3 s4 s5 s6 s7 s8 s9 : String} {m1 m2 m3 m4 m5 m6 m7 m8 m9 : Array Edge}
variable {xy1 xy2 xy3 xy4 xy5 xy6 xy7 xy8 xy9 : TypeId} {t1 t2 t3 t4 t5 t6 t7 t8 t9 : String} {n1 n2 n3 n4 n5 n6 n7 n8 n9 : Array Edge}
variable {T ft ST et it : TypeId} {fs : Array Field} {fd : Field} {r fsd : List Fld} {v0 : Int} {q : Bool} {xx Y : Tre} {T' : List UInt8} {done zc zs : List Value} {z : Value} {E0 : Ent}
/-- y = x, where y may have been said -/
theorem rg_set (hx : lk L x = some val) (hb : Nat.blt y n = true) (hf : frs n L [d1] = true) (kk : At N n ((y, val) :: L) H C s) : Cd Tryz.prog (.region id [⟨some d1, .move (.tmp x), ty1, p1, a1, none⟩, ⟨some y, .assign (.tmp d1), ty2, p2, a2, none⟩].toArray false) ⟨N, R, X⟩ n L H C s := by
  obtain ⟨hb', hfr, hne⟩ := frs_get hf
  simp only [List.mem_cons, List.not_mem_nil, or_false, forall_eq] at hb' hfr
  refine cd_region ?_
  refine ln_pv (pv_move hx) hb' ?_
  refine ln_pv (pv_assign lk_eq) hb ?_
  exact ln_nil (at_sub (sub.cons (.skip hfr .rfl')) kk)
/-- e = &a[i] -/
theorem rg_ix {m i cap gb ez : Nat} (hy2 : lk L y2 = some (.slice (some ⟨gb, 0, none⟩) m cap)) (hy4 : lk L y4 = some (.int .i32 (i : Int))) (hi : i < m) (hST : Tryz.prog.underlying ST = some (.slice et)) (hes : (Tryz.prog.info? et).map (·.size) = some ez) (hf : frs n L [y, d1, d2, d3] = true)
    (kk : At N n ((y, .pointer (some ⟨gb, 0 + i * ez, none⟩)) :: L) H C s) :
    Cd Tryz.prog (.region id [⟨some d1, .move (.tmp y2), ty1, p1, a1, none⟩, ⟨some d2, .move (.tmp y4), ty2, p2, a2, none⟩, ⟨some d3, .indexAddr ST (.tmp d1) (.tmp d2), ty3, p3, a3, none⟩, ⟨some y, .assign (.tmp d3), ty4, p4, a4, none⟩].toArray false) ⟨N, R, X⟩ n L H C s := by
  obtain ⟨hb', hfr, hne⟩ := frs_get hf
  simp only [List.pairwise_cons, List.mem_cons, List.not_mem_nil, or_false, forall_eq_or_imp, forall_eq, List.Pairwise.nil, and_true, false_imp_iff, implies_true] at hb' hfr hne
  refine cd_region ?_
  refine ln_pv (pv_move hy2) hb'.2.1 ?_
  refine ln_pv (pv_move (v := .int .i32 (i : Int)) (by rw [ev_t, lk_ne (lk_fr hfr.2.1 hy4)]; exact hy4)) hb'.2.2.1 ?_
  refine ln_pv (pv_ixN (b := gb) (o := 0) (i := i) hST hes (by simp [ev_t, lk_eq, lk_ne, hne] <;> rfl) lk_eq hi) hb'.2.2.2 ?_
  refine ln_pv (pv_assign lk_eq) hb'.1 ?_
  exact ln_nil (at_sub (sub.cons (.skip hfr.2.2.2 (.skip hfr.2.2.1 (.skip hfr.2.1 .rfl')))) kk)
/-- a thing of a list that is one cell: read, put in its place -/
theorem st_elem {m i cap gb ez : Nat} {of_ : Int} {sb : List Fld} {x1 : Tre} {xs rp : List Value} (hof : of_ ≠ 10) (hb : lk L tb = some (.pointer (some ⟨br, 0, none⟩))) (hent : Enters Tryz.prog f) (hc : Sc f of_ false q x1) (hv : RSv s v (valueB of_ sb false v0 q x1 ++ rest)) (hy2 : lk L y2 = some (.slice (some ⟨gb, 0, none⟩) m cap)) (hy4 : lk L y4 = some (.int .i32 (i : Int))) (hi : i < m) (hxl : xs.length = i * 1) (hrl : rp.length = (m - (i + 1)) * 1) (hST : Tryz.prog.underlying ST = some (.slice et)) (hes : (Tryz.prog.info? et).map (·.size) = some 1) (hf1 : frs n L [y, d5] = true) (hf : frs n ((y, .bool true) :: L) [d1, d2, d3, d4] = true)
    (kk : ∀ u v' c, Tr s u → REl u of_ sb (elI of_ sb v0 q x1) c → RSv u v' rest → At N n L (RdE br v' :: .row (.slice (some ⟨gb, 0, none⟩) m cap) et 1 m (xs ++ (c ++ rp)) :: H0) C u) :
    Cd Tryz.prog (.seq (.region id0 [⟨some d5, .call ⟨.value (.func f), [.tmp tb].toArray, tys⟩, ty6, p6, a6, none⟩, ⟨some y, .assign (.tmp d5), ty7, p7, a7, none⟩].toArray false)
      (.region id [⟨some d1, .move (.tmp y2), ty1, p1, a1, none⟩, ⟨some d2, .move (.tmp y4), ty2, p2, a2, none⟩, ⟨some d3, .move (.tmp y), ty3, p3, a3, none⟩, ⟨some d4, .indexAddr ST (.tmp d1) (.tmp d2), ty4, p4, a4, none⟩, ⟨none, .store et (.tmp d4) (.tmp d3), ty5, p5, a5, none⟩].toArray false)) ⟨N, R, X⟩ n L (RdE br v :: .row (.slice (some ⟨gb, 0, none⟩) m cap) et 1 m (xs ++ ([z] ++ rp)) :: H0) C s := by
  obtain ⟨zf, ff, nf⟩ := frs_get hf1
  simp only [List.pairwise_cons, List.mem_cons, List.not_mem_nil, or_false, forall_eq_or_imp, forall_eq, List.Pairwise.nil, and_true, false_imp_iff, implies_true] at zf ff nf
  refine cd_sq ?_
  have hv' : RSv s v (scalarB of_ false q x1 ++ rest) := by simpa only [valueB, if_neg hof] using hv
  refine rg_call hb hent (fun u _ => hc u) hv' hf1 (fun u ux v' c hu1 hu2 hm hv2 => at_cd ?_)
  have hm := hm.mv hu2
  have h1 : c.oneCell' = true := hm.len.2 c (by simp)
  have hE : REl u of_ sb (elI of_ sb v0 q x1) [c] := by simpa only [REl, elI, if_neg hof] using hm
  obtain ⟨zg, fg, ng⟩ := frs_get hf
  simp only [List.pairwise_cons, List.mem_cons, List.not_mem_nil, or_false, forall_eq_or_imp, forall_eq, List.Pairwise.nil, and_true, false_imp_iff, implies_true] at zg fg ng
  obtain ⟨k1, k2, k3, k4⟩ := fg
  refine cd_region ?_
  refine ln_pv (pv_move (v := .slice (some ⟨gb, 0, none⟩) m cap) (by rw [ev_t, lk_ne (lk_fr ff.1 hy2)]; exact hy2)) zg.1 ?_
  have q4 : lk ((y, c) :: L) y4 = some (.int .i32 (i : Int)) := by rw [lk_ne (lk_fr ff.1 hy4)]; exact hy4
  refine ln_pv (pv_move (v := .int .i32 (i : Int)) (by rw [ev_t, lk_ne (lk_fr (L := (y, c) :: L) k1 q4)]; exact q4)) zg.2.1 ?_
  refine ln_pv (pv_move (v := c) (by rw [ev_t, lk_ne (lk_fr (L := (y, c) :: L) k2 lk_eq), lk_ne (lk_fr (L := (y, c) :: L) k1 lk_eq), lk_eq])) zg.2.2.1 ?_
  refine ln_pv (pv_ixN (b := gb) (o := 0) (i := i) hST hes (by simp [ev_t, lk_eq, lk_ne, ng] <;> rfl) (by simp [ev_t, lk_eq, lk_ne, ng] <;> rfl) hi) zg.2.2.2 ?_
  have hT := (Tgt.row gb cap m 1 et).mid xs rp 1 (0 + i * 1) (by rw [hxl, hrl]; omega) (by rw [hxl])
  refine ln_storeG1 (mk := fun w => .row (.slice (some ⟨gb, 0, none⟩) m cap) et 1 m (xs ++ (w ++ rp))) (win := [z]) (off := 0) (i := 1) (v := c) hT rfl rfl (by rw [Nat.add_zero]; exact lk_eq) (by simp [ev_t, lk_eq, lk_ne, ng]) h1 hes (by decide) ?_
  refine ln_nil (at_sub (.skip (by simpa [fr] using (by have := k4; simp only [fr, Bool.and_eq_true] at this; exact this.2)) (.skip (by have := k3; simp only [fr, Bool.and_eq_true] at this; exact this.2) (.skip (by have := k2; simp only [fr, Bool.and_eq_true] at this; exact this.2) (.skip (by have := k1; simp only [fr, Bool.and_eq_true] at this; exact this.2) (.skip ff.1 .rfl'))))) ?_)
  exact kk u v' [c] hu1 hE hv2.1
theorem REl_part {u : Vw} {sb : List Fld} {v0 : Int} {q : Bool} {x1 : Tre} {c : List Value} (h : RMp u sb (.mk 0 [] false (imL sb v0 q x1 0) (imU sb q x1.u)) c) : REl u 10 sb (elI 10 sb v0 q x1) c := by simpa [REl, elI] using h
theorem RSv.el {sb : List Fld} {x1 : Tre} (hn : ntFs sb = true) (h : RSv s v (valueB 10 sb false v0 q x1 ++ rest)) : RSv s v (plainB sb v0 q x1 0 ++ (tgsB q x1 ++ rest)) := RSv.part hn (by simpa only [valueB, if_true] using h)
/-- of a part: at least one octet -/
theorem part_pos {sb : List Fld} {v0 : Int} {q : Bool} {z : Tre} (h : 1 ≤ (plainB sb v0 q z 0).length) : 1 ≤ (valueB 10 sb false v0 q z).length := by
  simp only [valueB, if_true, partB, partOf, List.length_append]
  omega
theorem scalar_pos (k : Int) (null q : Bool) (y : Tre) : 1 ≤ (scalarB k null q y).length := by
  have hc : ∀ (l : List UInt8) (sz : Nat), 1 ≤ sz → 1 ≤ (counted q null l.length sz ++ l).length := fun l sz h => by
    have : 1 ≤ (counted q null l.length sz).length := by
      unfold counted
      split
      · simp
      · split
        · have := uvar_pos (l.length + 1); omega
        · split <;> rw [fixed_length] <;> omega
    rw [List.length_append]
    omega
  unfold scalarB
  split
  · simp
  · split
    · rw [show y.s.take 16 ++ List.replicate (16 - y.s.length) 0 = uuid y.s from rfl, uuid_length]; omega
    · split
      · exact hc _ 2 (by omega)
      · split
        · exact hc _ 4 (by omega)
        · rw [fixed_length]
          unfold widthN
          split
          · omega
          · split
            · omega
            · split <;> omega
theorem plain_pos {k a b nul tag d o : Int} {sub r : List Fld} {v0 : Int} {q : Bool} {z : Tre} (h11 : k ≠ 11) (h10 : k ≠ 10) (ht : tag < 0) (hh : hasB (.mk k a b nul tag d o sub) v0 = true) : 1 ≤ (plainB (.mk k a b nul tag d o sub :: r) v0 q z 0).length := by
  rw [plainB, List.length_append]
  have e : (decide ((Fld.mk k a b nul tag d o sub).tag < 0) && hasB (.mk k a b nul tag d o sub) v0) = true := by rw [hh]; simp [Fld.tag, ht]
  rw [if_pos e, fB_sc h11 h10]
  have := scalar_pos k (Tre.z (z.at_ 0) && decide (nul ≥ 0) && decide (v0 ≥ nul)) q (z.at_ 0)
  omega
end
end K
end Go.Proofs.YtepbicjadambbabGreatDoor
namespace Go.Proofs.YtepbicjadambbabGreatDoor
namespace K
open Go Go.Lib
section
variable {n : Nat} {L : Env} {H H0 : Hp} {C : Cx} {s : Vw} {N R : Act → World → Prop} {X : List (Nat × (Act → World → Prop))}
variable {id id0 id1 id2 id3 id4 id5 id6 id7 id8 id9 ida idb idc idd ide idf idg : Nat} {tb ts un fx vr x y d0 d1 d2 d3 d4 d5 d6 d7 d8 d9 e0 e1 e2 e3 e4 y1 y2 y3 y4 g1 g2 g3 g4 g5 h1 h2 h3 h4 h5 i1 j1 j2 j3 j4 : Nat} {f g : FuncId} {br b o po len fo k sz : Nat} {mk : List Value → Ent} {v c val : Value} {rest bs : List UInt8}
variable {ty0 ty1 ty2 ty3 ty4 ty5 ty6 ty7 ty8 ty9 : TypeId} {p0 p1 p2 p3 p4 p5 p6 p7 p8 p9 : String} {a0 a1 a2 a3 a4 a5 a6 a7 a8 a9 : Array Edge} {tys tyt tyo : Array TypeId}
variable {uy1 uy2 uy3 uy4 uy5 uy6 uy7 uy8 : TypeId} {q1 q2 q3 q4 q5 q6 q7 q8 : String} {c1 c2 c3 c4 c5 c6 c7 c8 : Array Edge}
variable {vy1 vy2 vy3 vy4 vy5 vy6 vy7 vy8 vy9 : TypeId} {r1 r2 r3 r4 r5 r6 r7 r8 r9 : String} {b1 b2 b3 b4 b5 b6 b7 b8 b9 : Array Edge}
variable {wy1 wy2 wy3 wy4 wy5 wy6 wy7 wy8 wy9 : TypeId} {s1 s2 s3 s4 s5 s6 s7 s8 s9 : String} {m1 m2 m3 m4 m5 m6 m7 m8 m9 : Array Edge}
variable {xy1 xy2 xy3 xy4 xy5 xy6 xy7 xy8 xy9 : TypeId} {t1 t2 t3 t4 t5 t6 t7 t8 t9 : String} {n1 n2 n3 n4 n5 n6 n7 n8 n9 : Array Edge}
variable {T ft ST et it : TypeId} {fs : Array Field} {fd : Field} {r fsd : List Fld} {v0 : Int} {q : Bool} {xx Y : Tre} {T' : List UInt8} {done zc zs : List Value} {z : Value} {E0 : Ent}
variable {idz idy z1 z2 z3 z4 z5 z6 z7 : Nat} {zy1 zy2 zy3 zy4 zy5 zy6 zy7 zy8 zy9 ly1 ly2 ly3 : TypeId} {o1 o2 o3 o4 o5 o6 o7 o8 : String} {l1 l2 l3 l4 l5 l6 l7 l8 : Array Edge}
theorem hasB_frm {k a b nul tag d o : Int} {sub : List Fld} {v : Int} (h : hasB (.mk k a b nul tag d o sub) v = true) : a ≤ v := by
  simp only [hasB, Bool.and_eq_true, decide_eq_true_eq] at h
  exact h.1
theorem lN_no {a b nul tag d o : Int} {sub : List Fld} {v : Int} {q : Bool} {y : Tre} (h : nullB (.mk 11 a b nul tag d o sub) v y = false) : fieldB (.mk 11 a b nul tag d o sub) v q y = counted q false (y.l.take 32767).length 4 ++ (y.l.take 32767).flatMap (valueB o sub false v q) := by
  rw [fieldB_eq, h]
  simp [Fld.kind, Fld.of_, Fld.sub]
theorem lN_yes {a b nul tag d o : Int} {sub : List Fld} {v : Int} {q : Bool} {y : Tre} (h : nullB (.mk 11 a b nul tag d o sub) v y = true) : fieldB (.mk 11 a b nul tag d o sub) v q y = counted q true 0 4 := by
  rw [fieldB_eq, h]
  simp [Fld.kind, Fld.of_, Fld.sub]
theorem lNI_no {a b nul tag d o : Int} {sub : List Fld} {v : Int} {q : Bool} {y : Tre} (hn : nul ≥ 0) (h : nullB (.mk 11 a b nul tag d o sub) v y = false) : imF (.mk 11 a b nul tag d o sub) v q y = .mk 0 [] false ((y.l.take 32767).map (elI o sub v q)) [] := by
  have e : elI o sub v q = fun x => if o = 10 then .mk 0 [] false (imL sub v q x 0) (imU sub q x.u) else imS o false x := by funext x; rfl
  rw [nullB_mk] at h
  rw [e, imF, h]
  simp [hn]
theorem lNI_yes {a b nul tag d o : Int} {sub : List Fld} {v : Int} {q : Bool} {y : Tre} (hn : nul ≥ 0) (h : nullB (.mk 11 a b nul tag d o sub) v y = true) : imF (.mk 11 a b nul tag d o sub) v q y = .mk 0 [] true [] [] := by
  rw [nullB_mk] at h
  rw [imF, h]
  simp [hn]
theorem rls_ofN {u : Vw} {a b nul tag d o : Int} {sub : List Fld} {v0 : Int} {q : Bool} {y : Tre} {ez g cap : Nat} {xs : List Value} (hn : nul ≥ 0) (hnb : nullB (.mk 11 a b nul tag d o sub) v0 y = false) (hez : (if o = 7 then 16 else if o = 10 then fszs sub + 1 else 1) = ez)
    (hRS : RS u ez (.slice (some ⟨g, 0, none⟩) (y.l.take 32767).length cap) (y.l.take 32767).length xs) (hEl : ∀ i, (hi : i < (y.l.take 32767).length) → REl u o sub (elI o sub v0 q (y.l.take 32767)[i]) (seg xs i ez)) :
    RMf u (.mk 11 a b nul tag d o sub) (imF (.mk 11 a b nul tag d o sub) v0 q y) [.slice (some ⟨g, 0, none⟩) (y.l.take 32767).length cap] := by
  rw [RMf_list, lNI_no hn hnb]
  refine ⟨_, rfl, .inr ⟨rfl, g, 0, cap, xs, by simp [tl], ?_, fun i hi => ?_⟩⟩
  · rw [hez]
    simpa [tl] using hRS
  · rw [hez]
    have hi' : i < (y.l.take 32767).length := by simpa [tl] using hi
    have := hEl i hi'
    simpa [tl] using this
/-- if version < K || l == 0 { a = []T{} } -/
theorem rl_null {nul r0 : Int} {za : Value} {ez by_ : Nat} (hvk : ¬ v0 < nul) (hx : lk L vr = some (.int .i16 v0)) (hy3 : lk L y3 = some (.int .i32 r0)) (hST : Tryz.prog.underlying ST = some (.slice et)) (hti : TI Tryz.prog et za ez by_) (hzs : za.cells.size = ez) (hez0 : 0 < ez) (hb2 : Nat.blt y2 n = true) (hf : frs n L [z1, z2, z3, z4, z5, z6] = true) (hf7 : frs n L [z7] = true)
    (k0 : r0 = 0 → ∀ b0, At N n ((y2, .slice (some ⟨b0, 0, none⟩) 0 0) :: L) (.obj b0 (.cells ([] : List Value).toArray et) :: H) C s) (k1 : r0 ≠ 0 → At N n L H C s) :
    Cd Tryz.prog (.seq (.region idz [⟨some z1, .move (.tmp vr), zy1, o1, l1, none⟩, ⟨some z2, .binOp .lss zy2 (.tmp z1) (.const (.int .i16 nul)) zy3, zy4, o2, l2, none⟩, ⟨some z3, .move (.tmp z2), zy5, o3, l3, none⟩, ⟨some z4, .move (.tmp y3), zy6, o4, l4, some (2, false)⟩, ⟨some z5, .binOp .eql zy7 (.tmp z4) (.const (.int .i32 0)) zy8, zy9, o5, l5, some (2, false)⟩, ⟨some z6, .pick (.tmp z3) (.const (.bool true)) (.tmp z5), ly1, o6, l6, none⟩].toArray false) (.cond (.tmp z6) (.region idy [⟨some z7, .buildSlice ST 0 ([] : List (Nat × Operand)).toArray, ly2, o7, l7, none⟩, ⟨some y2, .assign (.tmp z7), ly3, o8, l8, none⟩].toArray false) .skip)) ⟨N, R, X⟩ n L H C s := by
  obtain ⟨hb', hfr, hne⟩ := frs_get hf
  simp only [List.pairwise_cons, List.mem_cons, List.not_mem_nil, or_false, forall_eq_or_imp, forall_eq, List.Pairwise.nil, and_true, false_imp_iff, implies_true] at hb' hfr hne
  obtain ⟨f1, f2, f3, f4, f5, f6⟩ := hfr
  obtain ⟨b1, b2, b3, b4, b5, b6⟩ := hb'
  obtain ⟨gb, gf, _⟩ := frs_get hf7
  simp only [List.mem_cons, List.not_mem_nil, or_false, forall_eq] at gb gf
  have hs : ∀ u1 u2 u3 u4 u5 u6, sub L ((z6, u6) :: (z5, u5) :: (z4, u4) :: (z3, u3) :: (z2, u2) :: (z1, u1) :: L) := fun u1 u2 u3 u4 u5 u6 => .skip f6 (.skip f5 (.skip f4 (.skip f3 (.skip f2 (.skip f1 .rfl')))))
  refine cd_sq ?_
  refine cd_region ?_
  refine ln_pv (pv_move hx) b1 ?_
  refine ln_pv (pv_ff (pv_lss lk_eq ev_c) hvk) b2 ?_
  refine ln_pv (pv_move lk_eq) b3 ?_
  refine ln_gt rfl rfl lk_eq (pv_move (by rw [ev_t, lk_ne (lk_fr f3 hy3), lk_ne (lk_fr f2 hy3), lk_ne (lk_fr f1 hy3)]; exact hy3)) b4 ?_
  refine ln_gt rfl rfl (by rw [lk_ne (by simp [hne]), lk_eq]) (pv_eql lk_eq ev_c) b5 ?_
  refine ln_pv (pv_pick (by rw [ev_t, lk_ne (by simp [hne]), lk_ne (by simp [hne]), lk_eq]) (fun _ => ev_c) (fun _ => lk_eq)) b6 ?_
  refine ln_nil (at_cd ?_)
  refine cd_if lk_eq (fun h => cd_sub_ (hs _ _ _ _ _ _) ?_) (fun h => cd_sub_ (hs _ _ _ _ _ _) (cd_skip (k1 h)))
  refine cd_region ?_
  refine ln_lit (vs := []) hST hti hzs hez0 rfl rfl (by simp) rfl rfl gb (fun b0 => ?_)
  refine ln_pv (pv_assign lk_eq) hb2 ?_
  exact ln_nil (at_sub (sub.cons (.skip gf .rfl')) (k0 h b0))
theorem rl_make0 {A : Code} {r0 : Int} (hy3 : lk L y3 = some (.int .i32 r0)) (h : ¬ r0 > 0) (hf : frs n L [g1, g2] = true) (k : At N n L H C s) :
    Cd Tryz.prog (.seq (.region id [⟨some g1, .move (.tmp y3), ty1, p1, a1, none⟩, ⟨some g2, .binOp .gtr it (.tmp g1) (.const (.int .i32 0)) uy1, ty2, p2, a2, none⟩].toArray false) (.cond (.tmp g2) A .skip)) ⟨N, R, X⟩ n L H C s := by
  obtain ⟨hb', hfr, hne⟩ := frs_get hf
  simp only [List.pairwise_cons, List.mem_cons, List.not_mem_nil, or_false, forall_eq_or_imp, forall_eq, List.Pairwise.nil, and_true, false_imp_iff, implies_true] at hb' hfr hne
  refine cd_sq ?_
  refine cd_region ?_
  refine ln_pv (pv_move hy3) hb'.1 ?_
  refine ln_pv (pv_ff (pv_gtr lk_eq ev_c) h) hb'.2 ?_
  refine ln_nil (at_cd ?_)
  exact cd_ff lk_eq (cd_sub_ (.skip hfr.2 (.skip hfr.1 .rfl')) (cd_skip k))
theorem rl_cutN {ad : Option Addr} {cp : Nat} (hy : lk L y2 = some (.slice ad 0 cp)) (hST : Tryz.prog.underlying ST = some (.slice et)) (het : (Tryz.prog.info? et).isSome = true) (hb2 : Nat.blt y2 n = true) (hf : frs n L [d1, d2] = true) (kk : At N n L H C s) :
    Cd Tryz.prog (.region id [⟨some d1, .move (.tmp y2), ty1, p1, a1, none⟩, ⟨some d2, .slice ST (.tmp d1) none (some (.const (.int .i64 0))) none, ty2, p2, a2, none⟩, ⟨some y2, .assign (.tmp d2), ty3, p3, a3, none⟩].toArray false) ⟨N, R, X⟩ n L H C s := by
  obtain ⟨hb', hfr, hne⟩ := frs_get hf
  simp only [List.pairwise_cons, List.mem_cons, List.not_mem_nil, or_false, forall_eq_or_imp, forall_eq, List.Pairwise.nil, and_true, false_imp_iff, implies_true] at hb' hfr hne
  refine cd_region ?_
  refine ln_pv (pv_move hy) hb'.1 ?_
  refine ln_pv (pv_slice_hi' (k := .i64) (i := 0) (k' := 0) hST het lk_eq ev_c (by decide) (Int.natCast_nonneg _) rfl) hb'.2 ?_
  refine ln_pv (pv_assign lk_eq) hb2 ?_
  refine ln_nil (at_sub ?_ kk)
  intro t u hu
  by_cases e : y2 = t
  · subst e; rw [lk_eq]; exact hy.symm.trans hu
  · rw [lk_ne e, lk_ne (lk_fr hfr.2 hu), lk_ne (lk_fr hfr.1 hu)]; exact hu
theorem rl_loopN {body : Code} {r0 : Int} (hy3 : lk L y3 = some (.int .i32 r0)) (h0 : ¬ 0 < r0) (hf : frs n L [y4, h1, h2, h3] = true) (kk : ∀ u, Tr s u → At N n L H C u) :
    Cd Tryz.prog (.seq (.region id [⟨some y4, .assign (.const (.int .i32 0)), ty1, p1, a1, none⟩].toArray false) (.block id1 (.loop (.seq (.seq (.region id2 [⟨some h1, .move (.tmp y4), ty2, p2, a2, none⟩, ⟨some h2, .move (.tmp y3), ty3, p3, a3, none⟩, ⟨some h3, .binOp .lss uy1 (.tmp h1) (.tmp h2) uy2, ty4, p4, a4, none⟩].toArray false) (.cond (.tmp h3) .skip (.exit id1))) body)))) ⟨N, R, X⟩ n L H C s := by
  obtain ⟨hb', hfr, hne⟩ := frs_get hf
  simp only [List.pairwise_cons, List.mem_cons, List.not_mem_nil, or_false, forall_eq_or_imp, forall_eq, List.Pairwise.nil, and_true, false_imp_iff, implies_true] at hb' hfr hne
  refine cd_sq ?_
  refine cd_region ?_
  refine ln_pv (pv_assign ev_c) hb'.1 ?_
  refine ln_nil (at_cd ?_)
  refine cd_block ?_
  refine cd_loop' (S := Unit) ⟨fun _ => (y4, .int .i32 0) :: L, fun _ => H, fun _ _ => True, fun _ => 0⟩ () (fun _ _ => trivial) .rfl' (List.Sublist.refl _) ?_
  intro _ u hu _
  dsimp only
  refine cd_sq ?_
  refine cd_sq ?_
  refine cd_region ?_
  refine ln_pv (pv_move lk_eq) hb'.2.1 ?_
  refine ln_pv (pv_move (v := .int .i32 r0) (by rw [ev_t, lk_ne (lk_fr hfr.2.1 hy3), lk_ne (lk_fr hfr.1 hy3)]; exact hy3)) hb'.2.2.1 ?_
  refine ln_pv (pv_ff (pv_lss (k := .i32) (i := 0) (j := r0) (by simp [ev_t, lk_eq, lk_ne, hne]) lk_eq) h0) hb'.2.2.2 ?_
  refine ln_nil (at_cd ?_)
  refine cd_ff lk_eq ?_
  refine cd_exit (K := N) (by simp [lkx]) ?_
  exact at_sub (.skip hfr.2.2.2 (.skip hfr.2.2.1 (.skip hfr.2.1 (.skip hfr.1 .rfl')))) (kk u hu)
/-- the thing of a list is put in its place -/
theorem el_put {m i cap gb : Nat} {xs rp : List Value} (h1 : c.oneCell' = true) (hy2 : lk L y2 = some (.slice (some ⟨gb, 0, none⟩) m cap)) (hy4 : lk L y4 = some (.int .i32 (i : Int))) (hi : i < m) (hxl : xs.length = i * 1) (hrl : rp.length = (m - (i + 1)) * 1) (hST : Tryz.prog.underlying ST = some (.slice et)) (hes : (Tryz.prog.info? et).map (·.size) = some 1) (hfy : fr y L = true) (hf : frs n ((y, .bool true) :: L) [d1, d2, d3, d4] = true)
    (kk : At N n L (E0 :: .row (.slice (some ⟨gb, 0, none⟩) m cap) et 1 m (xs ++ ([c] ++ rp)) :: H0) C s) :
    Cd Tryz.prog (.region id [⟨some d1, .move (.tmp y2), ty1, p1, a1, none⟩, ⟨some d2, .move (.tmp y4), ty2, p2, a2, none⟩, ⟨some d3, .move (.tmp y), ty3, p3, a3, none⟩, ⟨some d4, .indexAddr ST (.tmp d1) (.tmp d2), ty4, p4, a4, none⟩, ⟨none, .store et (.tmp d4) (.tmp d3), ty5, p5, a5, none⟩].toArray false) ⟨N, R, X⟩ n ((y, c) :: L) (E0 :: .row (.slice (some ⟨gb, 0, none⟩) m cap) et 1 m (xs ++ ([z] ++ rp)) :: H0) C s := by
  obtain ⟨zg, fg, ng⟩ := frs_get hf
  simp only [List.pairwise_cons, List.mem_cons, List.not_mem_nil, or_false, forall_eq_or_imp, forall_eq, List.Pairwise.nil, and_true, false_imp_iff, implies_true] at zg fg ng
  obtain ⟨k1, k2, k3, k4⟩ := fg
  refine cd_region ?_
  refine ln_pv (pv_move (v := .slice (some ⟨gb, 0, none⟩) m cap) (by rw [ev_t, lk_ne (lk_fr hfy hy2)]; exact hy2)) zg.1 ?_
  have q4 : lk ((y, c) :: L) y4 = some (.int .i32 (i : Int)) := by rw [lk_ne (lk_fr hfy hy4)]; exact hy4
  refine ln_pv (pv_move (v := .int .i32 (i : Int)) (by rw [ev_t, lk_ne (lk_fr (L := (y, c) :: L) k1 q4)]; exact q4)) zg.2.1 ?_
  refine ln_pv (pv_move (v := c) (by rw [ev_t, lk_ne (lk_fr (L := (y, c) :: L) k2 lk_eq), lk_ne (lk_fr (L := (y, c) :: L) k1 lk_eq), lk_eq])) zg.2.2.1 ?_
  refine ln_pv (pv_ixN (b := gb) (o := 0) (i := i) hST hes (by simp [ev_t, lk_eq, lk_ne, ng] <;> rfl) (by simp [ev_t, lk_eq, lk_ne, ng] <;> rfl) hi) zg.2.2.2 ?_
  have hT := (Tgt.row gb cap m 1 et).mid xs rp 1 (0 + i * 1) (by rw [hxl, hrl]; omega) (by rw [hxl])
  refine ln_storeG1 (mk := fun w => .row (.slice (some ⟨gb, 0, none⟩) m cap) et 1 m (xs ++ (w ++ rp))) (win := [z]) (off := 0) (i := 1) (v := c) hT rfl rfl (by rw [Nat.add_zero]; exact lk_eq) (by simp [ev_t, lk_eq, lk_ne, ng]) h1 hes (by decide) ?_
  refine ln_nil (at_sub (.skip (by simpa [fr] using (by have := k4; simp only [fr, Bool.and_eq_true] at this; exact this.2)) (.skip (by have := k3; simp only [fr, Bool.and_eq_true] at this; exact this.2) (.skip (by have := k2; simp only [fr, Bool.and_eq_true] at this; exact this.2) (.skip (by have := k1; simp only [fr, Bool.and_eq_true] at this; exact this.2) (.skip hfy .rfl'))))) ?_)
  exact kk
/-- a text of a list -/
theorem st_elemS {A : Code} {m i cap gb : Nat} {of_ : Int} {sb : List Fld} {x1 : Tre} {xs rp : List Value} (hof : of_ ≠ 10) (hb : lk L tb = some (.pointer (some ⟨br, 0, none⟩))) (hun : lk L un = some (.bool false)) (hq : lk L fx = some (.bool q)) (hent : Enters Tryz.prog f) (heng : Enters Tryz.prog g) (hc : q = true → Sc f of_ false q x1) (hc' : q = false → Sc g of_ false q x1) (hv : RSv s v (valueB of_ sb false v0 q x1 ++ rest)) (hy2 : lk L y2 = some (.slice (some ⟨gb, 0, none⟩) m cap)) (hy4 : lk L y4 = some (.int .i32 (i : Int))) (hi : i < m) (hxl : xs.length = i * 1) (hrl : rp.length = (m - (i + 1)) * 1) (hST : Tryz.prog.underlying ST = some (.slice et)) (hes : (Tryz.prog.info? et).map (·.size) = some 1) (hf7 : frs n L [d7] = true) (hf0 : frs n L [d0] = true) (hf1 : frs n L [y, e1] = true) (hf2 : frs n L [y, e2] = true) (hf : frs n ((y, .bool true) :: L) [d1, d2, d3, d4] = true)
    (kk : ∀ u v' c, Tr s u → REl u of_ sb (elI of_ sb v0 q x1) c → RSv u v' rest → At N n L (RdE br v' :: .row (.slice (some ⟨gb, 0, none⟩) m cap) et 1 m (xs ++ (c ++ rp)) :: H0) C u) :
    Cd Tryz.prog (.seq (.seq (.region id7 [⟨some d7, .move (.tmp un), ty8, p8, a8, none⟩].toArray false) (.cond (.tmp d7) A (.seq (.region id0 [⟨some d0, .move (.tmp fx), ty0, p0, a0, none⟩].toArray false) (.cond (.tmp d0)
      (.region id1 [⟨some e1, .call ⟨.value (.func f), [.tmp tb].toArray, tys⟩, uy1, q1, c1, none⟩, ⟨some y, .assign (.tmp e1), uy2, q2, c2, none⟩].toArray false)
      (.region id2 [⟨some e2, .call ⟨.value (.func g), [.tmp tb].toArray, tyt⟩, uy3, q3, c3, none⟩, ⟨some y, .assign (.tmp e2), uy4, q4, c4, none⟩].toArray false)))))
      (.region id [⟨some d1, .move (.tmp y2), ty1, p1, a1, none⟩, ⟨some d2, .move (.tmp y4), ty2, p2, a2, none⟩, ⟨some d3, .move (.tmp y), ty3, p3, a3, none⟩, ⟨some d4, .indexAddr ST (.tmp d1) (.tmp d2), ty4, p4, a4, none⟩, ⟨none, .store et (.tmp d4) (.tmp d3), ty5, p5, a5, none⟩].toArray false)) ⟨N, R, X⟩ n L (RdE br v :: .row (.slice (some ⟨gb, 0, none⟩) m cap) et 1 m (xs ++ ([z] ++ rp)) :: H0) C s := by
  obtain ⟨zf, ff, nf⟩ := frs_get hf1
  simp only [List.pairwise_cons, List.mem_cons, List.not_mem_nil, or_false, forall_eq_or_imp, forall_eq, List.Pairwise.nil, and_true, false_imp_iff, implies_true] at zf ff nf
  have hv' : RSv s v (scalarB of_ false q x1 ++ rest) := by simpa only [valueB, if_neg hof] using hv
  refine cd_sq ?_
  refine rg_safe hun hf7 ?_
  refine rg_flex hb hq hent heng (fun h u _ => hc h u) (fun h u _ => hc' h u) hv' hf0 hf1 hf2 (fun u ux v' c hu1 hu2 hm hv2 => at_cd ?_)
  have hm := hm.mv hu2
  have h1 : c.oneCell' = true := hm.len.2 c (by simp)
  have hE : REl u of_ sb (elI of_ sb v0 q x1) [c] := by simpa only [REl, elI, if_neg hof] using hm
  exact el_put h1 hy2 hy4 hi hxl hrl hST hes ff.1 hf (kk u v' [c] hu1 hE hv2.1)
end
end K
end Go.Proofs.YtepbicjadambbabGreatDoor
namespace Go.Proofs.YtepbicjadambbabGreatDoor
namespace K
open Go Go.Lib
theorem list_fits {m i ez : Nat} {xs z : List Value} (hi : i < m) (hxl : xs.length = i * ez) (hz : z.length = ez) : xs.length + (ez + (List.replicate (m - (i + 1)) z).flatten.length) = m * ez := by
  obtain ⟨d, rfl⟩ : ∃ d, m = i + 1 + d := ⟨m - (i + 1), by omega⟩
  rw [show i + 1 + d - (i + 1) = d by omega, List.length_flatten, List.map_replicate, List.sum_replicate_nat, hz, hxl]
  simp only [Nat.add_mul]
  omega
/-- the cells behind a message's version -/
theorem Tgt.behind (b : Nat) (T : TypeId) (c : Value) (len : Nat) : Tgt (fun w => MsgBox b T (c :: w)) b 1 len := by
  have h := (Tgt.obj b T (len + 1)).mid [c] [] len 1 (by simp; omega) rfl
  have e : (fun win : List Value => (Ent.obj b (.cells ([c] ++ (win ++ [])).toArray T))) = fun w => MsgBox b T (c :: w) := by
    funext w
    simp [MsgBox]
  rwa [e] at h
section
variable {P : Program} {n : Nat} {L : Env} {H E : Hp} {C : Cx} {s : Vw} {S : World → Prop} {d : Option Nat} {g : Option (Nat × Bool)} {t u ty : TypeId} {pos : String} {af : Array Edge} {x y : Operand}
theorem at_retHq {fn : Func} {t : Vw} {R : Vw → Value → Hp → Prop} (E' : Hp) (hs : E'.Sublist H) {q : Nat} {v : Value} (hr : fn.results = #[.tmp q]) (hv : lk L q = some v)
    (h : ∀ w, ∀ hS : St ⟨t, fun b => b ∈ blks E⟩ s H w, R (hS.finH E' hs) v E') : At (rpH P fn t E R) n L H ⟨t, fun b => b ∈ blks E⟩ s := fun a w hF hS =>
  ⟨hF.df, v, by rw [results_tmp hr]; simp [hF.get q v hv], E', fun e he => hS.hf e (hs.subset he), fun b hb => (hS.own b ((blks_sub hs).subset hb)).2, hS.nd.sublist (blks_sub hs), hS.whole, (hS.finH E' hs).lt, h w hS⟩
theorem in_eqI {ms : Array (String × TypeId)} (q : Nat) (w : World) (hu : P.underlying t = some (.interface ms)) : (Op.equalIn (q + 1) t .nilIface .nilIface).run P w = .ok true w := by
  simp [Op.equalIn, run_underlying hu]
theorem run_eqI {ms : Array (String × TypeId)} (w : World) (hu : P.underlying t = some (.interface ms)) : (Op.equal t .nilIface .nilIface).run P w = .ok true w := in_eqI 9999 w hu
/-- err != nil, and it is nil -/
theorem pv_neqI {ms : Array (String × TypeId)} (hu : P.underlying t = some (.interface ms)) (hx : ev L x = some .nilIface) :
    PV P S ⟨d, .binOp .neq t x (.const .nilIface) u, ty, pos, af, g⟩ n L (.bool false) := fun a w hF _ => by
  have hy : ev L (.const .nilIface) = some .nilIface := rfl
  simp [execOp, hF.ev hx, hF.ev hy, eqGuard, binOp, run_eqI w hu]
end
end K
end Go.Proofs.YtepbicjadambbabGreatDoor
