import Derived.Test.YtjjfpdofkdolnaaDoorS3
set_option linter.unusedVariables false
set_option linter.unusedSimpArgs false
namespace Go.Proofs.YtjjfpdofkdolnaaDoor
namespace K
open Go Go.Lib
mutual
def okF : Fld → Bool
  | .mk _ _ _ _ tag _ _ sub => decide (tag < 1000000) && decide (sub.length < 1000000) && okFs sub
def okFs : List Fld → Bool
  | [] => true
  | f :: r => okF f && okFs r
end
theorem okFs.mem : ∀ {l : List Fld}, okFs l = true → ∀ f ∈ l, okF f = true
  | [], _, f, h => by simp at h
  | g :: r, h, f, hf => by
    simp only [okFs, Bool.and_eq_true] at h
    rcases List.mem_cons.1 hf with rfl | hf
    · exact h.1
    · exact okFs.mem h.2 f hf
theorem okF.tag {f : Fld} (h : okF f = true) : f.tag < 1000000 := by
  cases f
  simp only [okF, Bool.and_eq_true, decide_eq_true_eq] at h
  exact h.1.1
theorem okFs.tags {l : List Fld} (h : okFs l = true) : TagOk l := fun f hf => okF.tag (okFs.mem h f hf)
theorem okF.sub {f : Fld} (h : okF f = true) : okFs f.sub = true := by
  cases f
  simp only [okF, Bool.and_eq_true, decide_eq_true_eq] at h
  exact h.2
theorem okF.len {f : Fld} (h : okF f = true) : f.sub.length < 1000000 := by
  cases f
  simp only [okF, Bool.and_eq_true, decide_eq_true_eq] at h
  exact h.1.2
mutual
def smT : Tre → Prop
  | .mk _ s _ l u => s.length < 1099511627776 ∧ l.length < 1099511627776 ∧ u.length < 1099511627776 ∧ smTs l
def smTs : List Tre → Prop
  | [] => True
  | x :: r => smT x ∧ smTs r
end
theorem smTs.mem : ∀ {l : List Tre}, smTs l → ∀ x ∈ l, smT x
  | [], _, f, h => by simp at h
  | g :: r, h, f, hf => by
    simp only [smTs] at h
    rcases List.mem_cons.1 hf with rfl | hf
    · exact h.1
    · exact smTs.mem h.2 f hf
theorem smT.open {x : Tre} (h : smT x) : x.s.length < 1099511627776 ∧ x.l.length < 1099511627776 ∧ x.u.length < 1099511627776 ∧ smTs x.l := by
  cases x
  simpa only [smT, Tre.s, Tre.l, Tre.u] using h
theorem smT.nul : smT .nul := by simp [Tre.nul, smT, smTs]
theorem smT.at_ {x : Tre} (h : smT x) (i : Nat) : smT (x.at_ i) := by
  unfold Tre.at_
  by_cases hi : i < x.l.length
  · rw [List.getElem?_eq_getElem hi]
    exact smTs.mem h.open.2.2.2 _ (List.getElem_mem hi)
  · rw [List.getElem?_eq_none (by omega)]
    exact smT.nul
mutual
def usualB : Fld → Tre → Bool
  | .mk k _ _ nul _ d _ sub, t =>
    if k = 0 then decide (t.n % 2 = d)
    else if k = 7 then (t.s.take 16).all fun b => decide (b = 0)
    else if k = 8 ∨ k = 9 then (if nul ≥ 0 then t.z else decide (t.s.length = 0))
    else if k = 11 then decide (t.l.length = 0)
    else if k = 10 then usualL sub t 0 && decide ((unkn (known sub) t.u).length = 0)
    else decide (fixed t.n (widthN k) = fixed d (widthN k))
def usualL : List Fld → Tre → Nat → Bool
  | [], _, _ => true
  | f :: r, t, i => usualB f (t.at_ i) && usualL r t (i + 1)
end
theorem usualB_eq (f : Fld) (t : Tre) : usualB f t =
    if f.kind = 0 then decide (t.n % 2 = f.dflt)
    else if f.kind = 7 then (t.s.take 16).all fun b => decide (b = 0)
    else if f.kind = 8 ∨ f.kind = 9 then (if f.nul ≥ 0 then t.z else decide (t.s.length = 0))
    else if f.kind = 11 then decide (t.l.length = 0)
    else if f.kind = 10 then usualL f.sub t 0 && decide ((unkn (known f.sub) t.u).length = 0)
    else decide (fixed t.n (widthN f.kind) = fixed f.dflt (widthN f.kind)) := by
  cases f
  simp only [usualB]
  rfl
theorem usualL_drop {l : List Fld} {t : Tre} {i : Nat} (hi : i < l.length) : usualL (l.drop i) t i = (usualB l[i] (t.at_ i) && usualL (l.drop (i + 1)) t (i + 1)) := by
  rw [List.drop_eq_getElem_cons hi, usualL]
/-- what is written of a value that has no parts -/
def scalarB (k : Int) (null flex : Bool) (t : Tre) : List UInt8 :=
  if k = 0 then [b8 (t.n % 2)]
  else if k = 7 then t.s.take 16 ++ List.replicate (16 - t.s.length) 0
  else if k = 8 then counted flex null (if null then [] else t.s.take 32767).length 2 ++ (if null then [] else t.s.take 32767)
  else if k = 9 then counted flex null (if null then [] else t.s.take 32767).length 4 ++ (if null then [] else t.s.take 32767)
  else fixed t.n (widthN k)
def tagB (x : Nat × List UInt8) : List UInt8 := uvar x.1 ++ uvar x.2.length ++ x.2
def cut (x : Nat × List UInt8) : Nat × List UInt8 := (x.1, x.2.take 32767)
def partOf (flex : Bool) (plain : List UInt8) (tg : List (Int × List UInt8)) (kn : Nat) (un : Tags) : List UInt8 :=
  plain ++ if flex then
    let tags := ((List.range kn).flatMap fun (k : Nat) => (tg.filter fun y => decide (y.1 = (k : Int))).map fun y => (k, y.2)) ++ un.map cut
    uvar tags.length ++ tags.flatMap tagB
  else []
mutual
def fieldB : Fld → Int → Bool → Tre → List UInt8
  | .mk k _ _ nul _ _ o sub, v, flex, t =>
    let null := t.z && decide (nul ≥ 0) && decide (v ≥ nul)
    if k = 11 then
      counted flex null (if null then [] else t.l.take 32767).length 4 ++ (if null then [] else t.l.take 32767).flatMap fun x => if o = 10 then partOf flex (plainB sub v flex x 0) (tgB sub v flex x 0) (known sub).toNat (unkn (known sub) x.u) else scalarB o false flex x
    else if k = 10 then
      if nul ≥ 0 then
        if null then fixed (-1) 1 else fixed 1 1 ++ partOf flex (plainB sub v flex t 0) (tgB sub v flex t 0) (known sub).toNat (unkn (known sub) t.u)
      else partOf flex (plainB sub v flex t 0) (tgB sub v flex t 0) (known sub).toNat (unkn (known sub) t.u)
    else scalarB k null flex t
def plainB : List Fld → Int → Bool → Tre → Nat → List UInt8
  | [], _, _, _, _ => []
  | f :: r, v, flex, t, i => (if decide (f.tag < 0) && hasB f v then fieldB f v flex (t.at_ i) else []) ++ plainB r v flex t (i + 1)
def tgB : List Fld → Int → Bool → Tre → Nat → List (Int × List UInt8)
  | [], _, _, _, _ => []
  | f :: r, v, flex, t, i => (if usualB f (t.at_ i) then [] else [(f.tag, fieldB f v flex (t.at_ i))]) ++ tgB r v flex t (i + 1)
end
def partB (fs : List Fld) (v : Int) (flex : Bool) (t : Tre) : List UInt8 := partOf flex (plainB fs v flex t 0) (tgB fs v flex t 0) (known fs).toNat (unkn (known fs) t.u)
def valueB (k : Int) (sub : List Fld) (null : Bool) (v : Int) (flex : Bool) (t : Tre) : List UInt8 := if k = 10 then partB sub v flex t else scalarB k null flex t
theorem fieldB_eq (f : Fld) (v : Int) (flex : Bool) (t : Tre) : fieldB f v flex t =
    if f.kind = 11 then counted flex (nullB f v t) (if nullB f v t then [] else t.l.take 32767).length 4 ++ (if nullB f v t then [] else t.l.take 32767).flatMap fun x => valueB f.of_ f.sub false v flex x
    else if f.kind = 10 ∧ f.nul ≥ 0 then if nullB f v t then fixed (-1) 1 else fixed 1 1 ++ partB f.sub v flex t
    else valueB f.kind f.sub (nullB f v t) v flex t := by
  cases f with
  | mk k a b nul c d o sub =>
  simp only [fieldB, Fld.kind, Fld.dflt, Fld.nul, Fld.sub, Fld.of_, nullB, valueB, partB]
  by_cases h11 : k = 11
  · simp only [h11, if_true]
    rfl
  · by_cases h10 : k = 10
    · by_cases hn : nul ≥ 0
      · simp [h10, hn]
      · simp [h10, hn]
    · simp only [h11, h10, if_false, false_and]
      rfl
end K
end Go.Proofs.YtjjfpdofkdolnaaDoor
