import Derived.Test.YtepbicjadambbabGreatDoorP2
set_option linter.unusedVariables false
set_option linter.unusedSimpArgs false
namespace Go.Proofs.YtepbicjadambbabGreatDoor
namespace K
open Go Go.Lib
/-! ### how long it is -/
def wtu : Tags → Nat
  | [] => 0
  | y :: r => 1 + y.2.length + wtu r
mutual
def wt : Tre → Nat
  | .mk _ s _ l u => 1 + s.length + wts l + wtu u
def wts : List Tre → Nat
  | [] => 0
  | x :: r => wt x + wts r
end
theorem wt_open (x : Tre) : wt x = 1 + x.s.length + wts x.l + wtu x.u := by
  cases x
  rfl
theorem wts_mem : ∀ {l : List Tre} {x : Tre}, x ∈ l → wt x ≤ wts l
  | y :: r, x, h => by
    simp only [wts]
    rcases List.mem_cons.1 h with rfl | h
    · omega
    · have := wts_mem h
      omega
theorem wt_pos (x : Tre) : 1 ≤ wt x := by rw [wt_open]; omega
theorem wts_len : ∀ (l : List Tre), l.length ≤ wts l
  | [] => by simp
  | x :: r => by
    have := wts_len r
    have := wt_pos x
    simp only [wts, List.length_cons]
    omega
theorem wtu_len : ∀ (l : Tags), l.length ≤ wtu l
  | [] => by simp
  | x :: r => by
    have := wtu_len r
    simp only [wtu, List.length_cons]
    omega
theorem wt_at (x : Tre) (i : Nat) : wt (x.at_ i) ≤ wt x := by
  unfold Tre.at_
  by_cases hi : i < x.l.length
  · rw [List.getElem?_eq_getElem hi]
    have := wts_mem (List.getElem_mem hi)
    rw [wt_open x]
    simp only [Option.getD_some]
    omega
  · rw [List.getElem?_eq_none (by omega)]
    have := wt_pos x
    simpa [Tre.nul, wt, wts, wtu] using this
mutual
theorem smT_wt : ∀ (x : Tre), wt x < 1099511627776 → smT x
  | .mk n s z l u, h => by
    simp only [wt] at h
    have h1 := wts_len l
    have h2 := wtu_len u
    simp only [smT]
    exact ⟨by omega, by omega, by omega, smTs_wt l (by omega)⟩
theorem smTs_wt : ∀ (l : List Tre), wts l < 1099511627776 → smTs l
  | [], _ => by simp [smTs]
  | x :: r, h => by
    simp only [wts] at h
    simp only [smTs]
    exact ⟨smT_wt x (by omega), smTs_wt r (by omega)⟩
end
mutual
def KF : Fld → Nat
  | .mk _ _ _ _ _ _ _ sub => 100 + 2 * (known sub).toNat + (1 + (known sub).toNat) * KFs sub
def KFs : List Fld → Nat
  | [] => 0
  | f :: r => 20 + KF f + KFs r
end
def KP (fs : List Fld) : Nat := 100 + 2 * (known fs).toNat + (1 + (known fs).toNat) * KFs fs
theorem counted_len (fl null : Bool) (n size : Nat) (hn : n ≤ 32767) (hs : size ≤ 8) : (counted fl null n size).length ≤ 10 := by
  have := counted_le fl null n size (by omega) hs
  omega
theorem scalarB_len (k : Int) (null fl : Bool) (y : Tre) : (scalarB k null fl y).length ≤ 20 + y.s.length := by
  unfold scalarB
  have hc : ∀ (q : List UInt8) (sz : Nat), sz ≤ 8 → q.length ≤ 32767 → q.length ≤ y.s.length → (counted fl null q.length sz ++ q).length ≤ 20 + y.s.length := fun q sz h1 h2 h3 => by
    have := counted_len fl null q.length sz h2 h1
    rw [List.length_append]
    omega
  have hl : (if null = true then [] else y.s.take 32767).length ≤ 32767 ∧ (if null = true then [] else y.s.take 32767).length ≤ y.s.length := by
    cases null
    · simp only [Bool.false_eq_true, if_false, List.length_take]; omega
    · simp
  split
  · simp only [List.length_singleton]; omega
  · split
    · rw [uuid_len]; omega
    · split
      · exact hc _ 2 (by omega) hl.1 hl.2
      · split
        · exact hc _ 4 (by omega) hl.1 hl.2
        · rw [fixed_length]
          have := widthN_le k
          omega
theorem flatMap_len {α : Type} {f : α → List UInt8} {w : α → Nat} {K : Nat} : ∀ (l : List α), (∀ x ∈ l, (f x).length ≤ K * w x) → (l.flatMap f).length ≤ K * (l.map w).sum
  | [], _ => by simp
  | x :: r, h => by
    have h0 := h x (by simp)
    have ih := flatMap_len r fun y hy => h y (by simp [hy])
    simp only [List.flatMap_cons, List.length_append, List.map_cons, List.sum_cons, Nat.mul_add]
    omega
theorem wts_sum : ∀ (l : List Tre), (l.map wt).sum = wts l
  | [] => rfl
  | x :: r => by simp [wts, wts_sum r]
theorem wts_take (l : List Tre) (k : Nat) : wts (l.take k) ≤ wts l := by
  induction l generalizing k with
  | nil => simp
  | cons x r ih =>
    cases k with
    | zero => simp [wts]
    | succ k =>
      simp only [List.take_succ_cons, wts]
      have := ih k
      omega
theorem range_flat_len {α : Type} {F : Nat → List α} {M : Nat} : ∀ (n : Nat), (∀ k, k < n → (F k).length ≤ M) → ((List.range n).flatMap F).length ≤ n * M
  | 0, _ => by simp
  | n + 1, h => by
    rw [List.range_succ, List.flatMap_append, List.length_append, Nat.succ_mul]
    have := range_flat_len n fun k hk => h k (by omega)
    have := h n (by omega)
    simp only [List.flatMap_cons, List.flatMap_nil, List.append_nil]
    omega
theorem insT_wt (least : Int) (out : Tags) (x : Nat × List UInt8) : wtu (insT least out x) ≤ wtu out + (1 + x.2.length) := by
  have happ : ∀ a b : Tags, wtu (a ++ b) = wtu a + wtu b := fun a b => by
    induction a with
    | nil => simp [wtu]
    | cons y r ih => simp only [List.cons_append, wtu, ih]; omega
  unfold insT
  split
  · omega
  · split
    · omega
    · have h := happ (out.take (pre out x.1)) (out.drop (pre out x.1))
      rw [List.take_append_drop] at h
      rw [happ]
      simp only [wtu]
      omega
theorem unkn_wt (least : Int) (u : Tags) : wtu (unkn least u) ≤ wtu u := by
  have h : ∀ (l out : Tags), wtu (l.foldl (insT least) out) ≤ wtu out + wtu l := by
    intro l
    induction l with
    | nil => intro out; simp [wtu]
    | cons y r ih =>
      intro out
      have h1 := ih (insT least out y)
      have h2 := insT_wt least out y
      simp only [List.foldl_cons, wtu]
      omega
  have h1 := h (u.take 32767) []
  have h2 : wtu (u.take 32767) ≤ wtu u := by
    have : ∀ (l : Tags) (k : Nat), wtu (l.take k) ≤ wtu l := by
      intro l
      induction l with
      | nil => intro k; simp
      | cons y r ih =>
        intro k
        cases k with
        | zero => simp [wtu]
        | succ k => simp only [List.take_succ_cons, wtu]; have := ih k; omega
    exact this u _
  simp only [wtu] at h1
  unfold unkn
  omega
theorem cut_flat_len : ∀ (l : Tags), (∀ y ∈ l, y.1 < 4294967296) → ((l.map cut).flatMap tagB).length ≤ 20 * wtu l
  | [], _ => by simp [wtu]
  | y :: r, h => by
    have ih := cut_flat_len r fun z hz => h z (by simp [hz])
    have h0 := h y (by simp)
    have h1 := uvar_length_le y.1 4 (by omega)
    have h2 := uvar_length_le (y.2.take 32767).length 4 (by rw [List.length_take]; omega)
    simp only [List.map_cons, List.flatMap_cons, tagB, cut, List.length_append, List.length_take, wtu] at h2 ⊢
    omega
theorem tag_one_len {k : Nat} {b : List UInt8} {M : Nat} (hk : k < 1000000) (hb : b.length ≤ M) (hM : M < 1152921504606846976) : (tagB (k, b)).length ≤ 20 + M := by
  have h1 := uvar_length_le k 4 (by omega)
  have h2 := uvar_length_le b.length 9 (by omega)
  simp only [tagB, List.length_append]
  omega
theorem partOf_len {fl : Bool} {plain : List UInt8} {tg : List (Int × List UInt8)} {kn : Nat} {u : Tags} {least : Int} {M w : Nat} (hp : plain.length ≤ M * w) (htg : ∀ k : Nat, k < kn → (((tg.filter fun y => decide (y.1 = (k : Int))).map fun y => (k, y.2)).flatMap tagB).length ≤ M * w ∧ ((tg.filter fun y => decide (y.1 = (k : Int))).map fun y => (k, y.2)).length ≤ M * w)
    (hw : 1 + wtu u ≤ w) (hM : (1 + kn) * M * w < 1152921504606846976) (hk : ∀ y ∈ u, y.1 < 4294967296) : (partOf fl plain tg kn (unkn least u)).length + 10 ≤ (100 + 2 * kn + (1 + kn) * M) * w := by
  unfold partOf
  have e1 : (100 + 2 * kn + (1 + kn) * M) * w = 100 * w + 2 * kn * w + (M * w + kn * (M * w)) := by
    rw [Nat.add_mul, Nat.add_mul, Nat.add_mul 1 kn M, Nat.add_mul, Nat.one_mul, Nat.mul_assoc kn M w]
  rw [e1, List.length_append]
  cases fl with
  | false => simp only [Bool.false_eq_true, if_false, List.length_nil]; omega
  | true =>
    have h1 := range_flat_len (F := fun (k : Nat) => (tg.filter fun y => decide (y.1 = (k : Int))).map fun y => (k, y.2)) kn fun k hk' => (htg k hk').2
    have h2 := range_flat_len (F := fun (k : Nat) => ((tg.filter fun y => decide (y.1 = (k : Int))).map fun y => (k, y.2)).flatMap tagB) kn fun k hk' => (htg k hk').1
    have h3 := unkn_wt least u
    have h4 := cut_flat_len (unkn least u) fun y hy => hk y (unkn_mem hy).1
    have h5 := unkn_le least u
    have h6 : kn * (M * w) < 1152921504606846976 := by
      have : kn * (M * w) ≤ (1 + kn) * M * w := by rw [Nat.mul_assoc, Nat.add_mul]; omega
      omega
    simp only [if_true, List.length_append, List.length_map, List.flatMap_append, List.flatMap_assoc]
    have h7 := uvar_length_le (((List.range kn).flatMap fun (k : Nat) => (tg.filter fun y => decide (y.1 = (k : Int))).map fun y => (k, y.2)).length + (unkn least u).length) 9 (by omega)
    omega
theorem fieldB_mk (k a b nul tag d o : Int) (sub : List Fld) (v : Int) (flex : Bool) (t : Tre) : fieldB (.mk k a b nul tag d o sub) v flex t =
    if k = 11 then counted flex (nullB (.mk k a b nul tag d o sub) v t) (if nullB (.mk k a b nul tag d o sub) v t then [] else t.l.take 32767).length 4 ++ (if nullB (.mk k a b nul tag d o sub) v t then [] else t.l.take 32767).flatMap fun x => valueB o sub false v flex x
    else if k = 10 ∧ nul ≥ 0 then if nullB (.mk k a b nul tag d o sub) v t then fixed (-1) 1 else fixed 1 1 ++ partB sub v flex t
    else valueB k sub (nullB (.mk k a b nul tag d o sub) v t) v flex t := fieldB_eq _ _ _ _
abbrev BIG : Nat := 1152921504606846976
def FsB (fs : List Fld) (v : Int) (fl : Bool) : Prop := ∀ (y : Tre) (i : Nat), keysT y → KFs fs * wt y < BIG → (plainB fs v fl y i).length ≤ KFs fs * wt y ∧
  ∀ k : Nat, k < 1000000 → ((((tgB fs v fl y i).filter fun y => decide (y.1 = (k : Int))).map fun y => (k, y.2)).flatMap tagB).length ≤ KFs fs * wt y ∧ (((tgB fs v fl y i).filter fun y => decide (y.1 = (k : Int))).map fun y => (k, y.2)).length ≤ KFs fs * wt y
theorem known_lt {fs : List Fld} (h : okFs fs = true) : (known fs).toNat ≤ 1000000 := by
  have := known_le (okFs.tags h)
  omega
theorem range_flat_len' {α : Type} {F : Nat → List α} {M : Nat} (n : Nat) (h : ∀ k, k < n → (F k).length ≤ M) : ((List.range n).flatMap F).length ≤ n * M := range_flat_len n h
theorem partB_of {fs : List Fld} {v : Int} {fl : Bool} (h : FsB fs v fl) (hok : okFs fs = true) (y : Tre) (hk : keysT y) (hM : KP fs * wt y < BIG) : (partB fs v fl y).length + 10 ≤ KP fs * wt y := by
  have e : KFs fs ≤ (1 + (known fs).toNat) * KFs fs := by rw [Nat.add_mul]; omega
  have e2 : (1 + (known fs).toNat) * KFs fs * wt y < BIG := Nat.lt_of_le_of_lt (Nat.mul_le_mul_right _ (by unfold KP; omega)) hM
  have hM2 : KFs fs * wt y < BIG := Nat.lt_of_le_of_lt (Nat.mul_le_mul_right _ e) e2
  obtain ⟨h1, h2⟩ := h y 0 hk hM2
  have hkn := known_lt hok
  exact partOf_len h1 (fun k hk' => h2 k (by omega)) (by rw [wt_open]; omega) e2 hk.open.1
mutual
theorem fieldB_len : ∀ (f : Fld) (v : Int) (fl : Bool) (y : Tre), okF f = true → keysT y → KF f * wt y < BIG → (fieldB f v fl y).length ≤ KF f * wt y
  | .mk k a b nul tag d o sub, v, fl, y, hok, hk, hM => by
    have hsub : okFs sub = true := okF.sub hok
    have hKF : KF (.mk k a b nul tag d o sub) = KP sub := rfl
    rw [hKF] at hM ⊢
    have hpart : ∀ x : Tre, keysT x → wt x ≤ wt y → (partB sub v fl x).length + 10 ≤ KP sub * wt x := fun x hkx hx =>
      partB_of (fieldsB_len sub v fl hsub) hsub x hkx (Nat.lt_of_le_of_lt (Nat.mul_le_mul_left _ hx) hM)
    have hs : ∀ (k : Int) (nl : Bool) (x : Tre), (scalarB k nl fl x).length ≤ KP sub * wt x := fun k nl x => by
      have h1 := scalarB_len k nl fl x
      have h2 : 100 * wt x ≤ KP sub * wt x := Nat.mul_le_mul_right _ (by unfold KP; omega)
      have h3 := wt_open x
      omega
    have hv : ∀ (k : Int) (nl : Bool) (x : Tre), keysT x → wt x ≤ wt y → (valueB k sub nl v fl x).length ≤ KP sub * wt x := fun k nl x hkx hx => by
      unfold valueB
      split
      · have := hpart x hkx hx
        omega
      · exact hs k nl x
    have hpos := wt_pos y
    have h100 : 100 * wt y ≤ KP sub * wt y := Nat.mul_le_mul_right _ (by unfold KP; omega)
    rw [fieldB_mk]
    by_cases h11 : k = 11
    · rw [if_pos h11]
      generalize nullB (.mk k a b nul tag d o sub) v y = nb
      rw [List.length_append]
      have hl : (if nb = true then [] else y.l.take 32767).length ≤ 32767 := by
        cases nb
        · simp only [Bool.false_eq_true, if_false, List.length_take]; omega
        · simp
      have h1 := counted_len fl nb (if nb = true then [] else y.l.take 32767).length 4 hl (by omega)
      have hmem : ∀ x ∈ (if nb = true then [] else y.l.take 32767), x ∈ y.l := fun x hx => by
        cases nb
        · simp only [Bool.false_eq_true, if_false] at hx
          exact List.mem_of_mem_take hx
        · simp at hx
      have h2 := flatMap_len (f := fun x => valueB o sub false v fl x) (w := wt) (K := KP sub) (if nb = true then [] else y.l.take 32767) fun x hx => hv o false x (keysTs.mem hk.open.2 x (hmem x hx)) (by
        have h1 := wts_mem (hmem x hx)
        have h2 := wt_open y
        omega)
      rw [wts_sum] at h2
      have h3 : wts (if nb = true then [] else y.l.take 32767) ≤ wts y.l := by
        cases nb
        · simp only [Bool.false_eq_true, if_false]
          exact wts_take _ _
        · simp [wts]
      have h4 := wt_open y
      have h5 : KP sub * wts (if nb = true then [] else y.l.take 32767) ≤ KP sub * (wt y - 1) := Nat.mul_le_mul_left _ (by omega)
      have h6 : KP sub * wt y = KP sub * (wt y - 1) + KP sub := by
        rw [← Nat.mul_succ]
        congr 1
        omega
      have h7 : 100 ≤ KP sub := by unfold KP; omega
      omega
    · rw [if_neg h11]
      by_cases h10 : k = 10 ∧ nul ≥ 0
      · rw [if_pos h10]
        split
        · rw [fixed_length]; omega
        · have h1 := hpart y hk (Nat.le_refl _)
          rw [List.length_append, fixed_length]
          omega
      · rw [if_neg h10]
        exact hv k _ y hk (Nat.le_refl _)
theorem fieldsB_len : ∀ (fs : List Fld) (v : Int) (fl : Bool), okFs fs = true → FsB fs v fl
  | [], v, fl, _ => fun y i _ _ => by simp [plainB, tgB]
  | f :: r, v, fl, hok => fun y i hk hM => by
    simp only [okFs, Bool.and_eq_true] at hok
    have e : KFs (f :: r) * wt y = 20 * wt y + KF f * wt y + KFs r * wt y := by
      show (20 + KF f + KFs r) * wt y = _
      rw [Nat.add_mul, Nat.add_mul]
    rw [e] at hM ⊢
    have hle : KF f * wt (y.at_ i) ≤ KF f * wt y := Nat.mul_le_mul_left _ (wt_at y i)
    have h0 := fieldB_len f v fl (y.at_ i) hok.1 (hk.at_ i) (by omega)
    obtain ⟨h1, h2⟩ := fieldsB_len r v fl hok.2 y (i + 1) hk (by omega)
    have hpos := wt_pos y
    refine ⟨?_, fun k hkk => ?_⟩
    · simp only [plainB, List.length_append]
      split
      · omega
      · simp only [List.length_nil]; omega
    · obtain ⟨h3, h4⟩ := h2 k hkk
      simp only [tgB, List.filter_append, List.map_append, List.flatMap_append, List.length_append]
      have h5 := tag_one_len (k := k) (b := fieldB f v fl (y.at_ i)) (M := KF f * wt y) hkk (by omega) (by unfold BIG at hM; omega)
      by_cases hu : usualB f (y.at_ i) = true
      · simp only [hu, if_true, List.filter_nil, List.map_nil, List.flatMap_nil, List.length_nil]
        omega
      · simp only [if_neg hu]
        by_cases ht : f.tag = (k : Int)
        · simp only [ht, List.filter_cons, decide_true, if_true, List.filter_nil, List.map_cons, List.map_nil, List.flatMap_cons, List.flatMap_nil, List.append_nil, List.length_singleton]
          omega
        · simp only [List.filter_cons, ht, decide_false, List.filter_nil, List.map_nil, List.flatMap_nil, List.length_nil, Bool.false_eq_true, if_false]
          omega
end
theorem writeB_len (fs : List Fld) (fx v : Int) (y : Tre) (hok : okFs fs = true) (hk : keysT y) (hw : wt y ≤ 1048576) (hK : KP fs < 1048576) : (writeB fs fx v y).length < 1099511627776 := by
  have h1 : KP fs * wt y ≤ 1048575 * 1048576 := Nat.mul_le_mul (by omega) hw
  have := partB_of (fl := flexB fx v) (v := v) (fieldsB_len fs v _ hok) hok y hk (by unfold BIG; omega)
  unfold writeB
  omega
end K
end Go.Proofs.YtepbicjadambbabGreatDoor
