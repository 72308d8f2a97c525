import Derived.Test.YtjjfpdofkdolnaaDoorU3
import Derived.Test.YtjjfpdofkdolnaaDoorTm
import Derived.Test.YtjjfpdofkdolnaaDoorVa
import Derived.Test.YtjjfpdofkdolnaaDoorS10
set_option linter.unusedVariables false
set_option linter.unusedSimpArgs false
namespace Go.Proofs.YtjjfpdofkdolnaaDoor
namespace K
open Go Go.Lib
/-! ### What a reader makes of any octets: the tree, what is left, whether it failed -/
abbrev Rst := List UInt8 × Bool
def stp {α : Type} (g : List UInt8 → α × List UInt8 × Bool) (s : Rst) : α × Rst := ((g s.1).1, (g s.1).2.1, s.2 || (g s.1).2.2)
def Sane {α : Type} (f : Rst → α × Rst) : Prop := ∀ s, (s.2 = true → (f s).2.2 = true) ∧ (f s).2.1.length ≤ s.1.length
theorem stp_sane {α : Type} {g : List UInt8 → α × List UInt8 × Bool} (h : ∀ bs, (g bs).2.1.length ≤ bs.length) : Sane (stp g) := fun s => ⟨fun hb => by simp [stp, hb], h s.1⟩
theorem gN_le (k : Nat) (bs : List UInt8) : (gN k bs).2.1.length ≤ bs.length := by
  unfold gN
  split <;> simp
theorem gUv_le (bs : List UInt8) : (gUv bs).2.1.length ≤ bs.length := by
  unfold gUv
  split <;> simp
theorem gSp_le (l : Int) (bs : List UInt8) : (gSp l bs).2.1.length ≤ bs.length ∧ (gSp l bs).1.length ≤ bs.length := by
  unfold gSp
  split
  · simp
  · simp only [List.length_drop, List.length_take]
    omega
theorem gStr_le (bs : List UInt8) : (gStr bs).2.1.length ≤ bs.length ∧ (gStr bs).1.length ≤ bs.length := by
  have h1 := gN_le 2 bs
  have h2 := gSp_le (IntKind.i64.wrap (IntKind.i16.wrap ((gN 2 bs).1 : Int))) (gN 2 bs).2.1
  unfold gStr
  exact ⟨Nat.le_trans h2.1 h1, Nat.le_trans h2.2 h1⟩
theorem gCStr_le (bs : List UInt8) : (gCStr bs).2.1.length ≤ bs.length ∧ (gCStr bs).1.length ≤ bs.length := by
  have h1 := gUv_le bs
  have h2 := gSp_le (uvL bs) (gUv bs).2.1
  unfold gCStr
  exact ⟨Nat.le_trans h2.1 h1, Nat.le_trans h2.2 h1⟩
theorem gLen_le (n : Int) (bs : List UInt8) (b : Bool) : (gLen n bs b).2.1.length ≤ bs.length := by
  unfold gLen
  split <;> simp
def I32 (n : Int) : Prop := -2147483648 ≤ n ∧ n ≤ 2147483647
theorem i32_of (x : Int) : I32 (IntKind.i32.wrap x) := by unfold I32; simp [IntKind.wrap, IntKind.bits, IntKind.signed]; omega
theorem gLen_few {n : Int} (hn : I32 n) (bs : List UInt8) (b : Bool) : (gLen n bs b).1.toNat ≤ (gLen n bs b).2.1.length := by
  unfold I32 at hn
  unfold gLen
  split
  · simp
  · rename_i h
    rw [wrap_i64 (by omega) (by omega)] at h
    simp only
    omega
theorem gAL_le (bs : List UInt8) : (gAL bs).2.1.length ≤ bs.length ∧ (gAL bs).1.toNat ≤ (gAL bs).2.1.length := ⟨Nat.le_trans (gLen_le _ _ _) (gN_le 4 bs), gLen_few (i32_of _) _ _⟩
theorem gCAL_le (bs : List UInt8) : (gCAL bs).2.1.length ≤ bs.length ∧ (gCAL bs).1.toNat ≤ (gCAL bs).2.1.length := ⟨Nat.le_trans (gLen_le _ _ _) (gUv_le bs), gLen_few (i32_of _) _ _⟩
/-- so many things, one behind the other -/
def iterS {α : Type} (f : Rst → α × Rst) : Nat → Rst → List α × Rst
  | 0, s => ([], s)
  | n + 1, s => ((f s).1 :: (iterS f n (f s).2).1, (iterS f n (f s).2).2)
theorem iterS_length {α : Type} (f : Rst → α × Rst) : ∀ (n : Nat) (s : Rst), (iterS f n s).1.length = n
  | 0, _ => rfl
  | n + 1, s => by simp [iterS, iterS_length f n]
theorem iterS_succ {α : Type} (f : Rst → α × Rst) : ∀ (n : Nat) (s : Rst), iterS f (n + 1) s = ((iterS f n s).1 ++ [(f (iterS f n s).2).1], (f (iterS f n s).2).2)
  | 0, s => rfl
  | n + 1, s => by
    have ih := iterS_succ f n (f s).2
    rw [show iterS f (n + 1 + 1) s = ((f s).1 :: (iterS f (n + 1) (f s).2).1, (iterS f (n + 1) (f s).2).2) from rfl, ih]
    rfl
theorem iterS_sane {α : Type} {f : Rst → α × Rst} (h : Sane f) (n : Nat) : Sane (iterS f n) := fun s => by
  induction n generalizing s with
  | zero => exact ⟨id, Nat.le_refl _⟩
  | succ n ih =>
    have h1 := h s
    have h2 := ih (f s).2
    exact ⟨fun hb => h2.1 (h1.1 hb), Nat.le_trans h2.2 h1.2⟩
theorem iterS_all {α : Type} {f : Rst → α × Rst} {P : α → Prop} (K : Nat) (hs : Sane f) (hf : ∀ s, s.1.length ≤ K → P (f s).1) : ∀ (n : Nat) (s : Rst), s.1.length ≤ K → ∀ x ∈ (iterS f n s).1, P x
  | 0, s, _, x, hx => by simp [iterS] at hx
  | n + 1, s, hK, x, hx => by
    simp only [iterS, List.mem_cons] at hx
    rcases hx with rfl | hx
    · exact hf s hK
    · exact iterS_all K hs hf n (f s).2 (Nat.le_trans (hs s).2 hK) x hx
/-- a value that has no parts -/
noncomputable def dcS (k : Int) (q : Bool) (s : Rst) : Tre × Rst :=
  if k = 0 then (.mk (if (stp gB s).1 then 1 else 0) [] false [] [], (stp gB s).2)
  else if k = 1 then (.mk ((stp (gN 1) s).1 : Int) [] false [] [], (stp (gN 1) s).2)
  else if k = 2 ∨ k = 5 then (.mk ((stp (gN 2) s).1 : Int) [] false [] [], (stp (gN 2) s).2)
  else if k = 3 then (.mk ((stp (gN 4) s).1 : Int) [] false [] [], (stp (gN 4) s).2)
  else if k = 7 then (.mk 0 (stp (gSp 16) s).1 false [] [], (stp (gSp 16) s).2)
  else if k = 8 then (if q then (.mk 0 (stp gCStr s).1 false [] [], (stp gCStr s).2) else (.mk 0 (stp gStr s).1 false [] [], (stp gStr s).2))
  else (.mk (IntKind.i64.wrap ((stp (gN 8) s).1 : Int)) [] false [] [], (stp (gN 8) s).2)
theorem dcS_sane (k : Int) (q : Bool) : Sane (dcS k q) := fun s => by
  have hb : ∀ bs, (gB bs).2.1.length ≤ bs.length := fun bs => gN_le 1 bs
  unfold dcS
  repeat' split
  all_goals first
    | exact stp_sane hb s
    | exact stp_sane (gN_le 1) s
    | exact stp_sane (gN_le 2) s
    | exact stp_sane (gN_le 4) s
    | exact stp_sane (gN_le 8) s
    | exact stp_sane (fun bs => (gSp_le 16 bs).1) s
    | exact stp_sane (fun bs => (gCStr_le bs).1) s
    | exact stp_sane (fun bs => (gStr_le bs).1) s
theorem dcS_s {k : Int} {q : Bool} {K : Nat} {s : Rst} (h : s.1.length ≤ K) : (dcS k q s).1.s.length ≤ K := by
  unfold dcS
  repeat' split
  all_goals first
    | (simp only [Tre.s, List.length_nil]; omega)
    | exact Nat.le_trans (gSp_le 16 s.1).2 h
    | exact Nat.le_trans (gCStr_le s.1).2 h
    | exact Nat.le_trans (gStr_le s.1).2 h
noncomputable def dcN (q : Bool) (s : Rst) : Int × Rst := if q then stp gCAL s else stp gAL s
theorem dcN_sane (q : Bool) : Sane (dcN q) := fun s => by
  unfold dcN
  split
  · exact stp_sane (fun bs => (gCAL_le bs).1) s
  · exact stp_sane (fun bs => (gAL_le bs).1) s
theorem dcN_few (q : Bool) (s : Rst) : (dcN q s).1.toNat ≤ s.1.length := by
  unfold dcN
  split
  · exact Nat.le_trans (gCAL_le s.1).2 (gCAL_le s.1).1
  · exact Nat.le_trans (gAL_le s.1).2 (gAL_le s.1).1
/-! ### Unknown tags, in the order in which they are first set -/
def setU (k : Nat) (b : List UInt8) : Tags → Tags
  | [] => [(k, b)]
  | (k', b') :: r => if k' = k then (k, b) :: r else (k', b') :: setU k b r
/-- the tags by their keys -/
def insU (x : Nat × List UInt8) : Tags → Tags
  | [] => [x]
  | y :: r => if x.1 ≤ y.1 then x :: y :: r else y :: insU x r
def srtU : Tags → Tags
  | [] => []
  | x :: r => insU x (srtU r)
theorem insU_perm (x : Nat × List UInt8) : ∀ u : Tags, (insU x u).Perm (x :: u)
  | [] => List.Perm.refl _
  | y :: r => by
    rw [insU]
    split
    · exact List.Perm.refl _
    · exact ((insU_perm x r).cons y).trans (List.Perm.swap x y r)
theorem srtU_perm : ∀ u : Tags, (srtU u).Perm u
  | [] => List.Perm.refl _
  | x :: r => (insU_perm x (srtU r)).trans ((srtU_perm r).cons x)
theorem insU_srt {x : Nat × List UInt8} : ∀ {u : Tags}, u.Pairwise (fun a b => a.1 ≤ b.1) → (insU x u).Pairwise (fun a b => a.1 ≤ b.1)
  | [], _ => by simp [insU]
  | y :: r, h => by
    have hc := List.pairwise_cons.1 h
    rw [insU]
    split
    · rename_i hxy
      refine List.pairwise_cons.2 ⟨fun z hz => ?_, h⟩
      rcases List.mem_cons.1 hz with rfl | hz
      · exact hxy
      · exact Nat.le_trans hxy (hc.1 z hz)
    · rename_i hxy
      refine List.pairwise_cons.2 ⟨fun z hz => ?_, insU_srt hc.2⟩
      rcases List.mem_cons.1 ((insU_perm x r).mem_iff.1 hz) with rfl | hz
      · omega
      · exact hc.1 z hz
theorem srtU_srt : ∀ u : Tags, (srtU u).Pairwise (fun a b => a.1 ≤ b.1)
  | [] => List.Pairwise.nil
  | x :: r => insU_srt (srtU_srt r)
theorem srtU_lt {u : Tags} (h : (u.map (·.1)).Nodup) : (srtU u).Pairwise (fun a b => a.1 < b.1) := by
  have h2 : ((srtU u).map (·.1)).Nodup := (((srtU_perm u).map _).nodup_iff).2 h
  have h3 : (srtU u).Pairwise (fun a b => a.1 ≠ b.1) := List.pairwise_map.1 h2
  exact (List.Pairwise.and (srtU_srt u) h3).imp fun h => Nat.lt_of_le_of_ne h.1 h.2
noncomputable def dcG (s : Rst) : (Nat × List UInt8) × Rst := (((stp gUv s).1, (stp (gSp (IntKind.i64.wrap ((stp gUv (stp gUv s).2).1 : Int))) (stp gUv (stp gUv s).2).2).1), (stp (gSp (IntKind.i64.wrap ((stp gUv (stp gUv s).2).1 : Int))) (stp gUv (stp gUv s).2).2).2)
theorem dcG_sane : Sane dcG := fun s => by
  have h1 := stp_sane gUv_le s
  have h2 := stp_sane gUv_le (stp gUv s).2
  have h3 := stp_sane (fun bs => (gSp_le (IntKind.i64.wrap ((stp gUv (stp gUv s).2).1 : Int)) bs).1) (stp gUv (stp gUv s).2).2
  exact ⟨fun hb => h3.1 (h2.1 (h1.1 hb)), Nat.le_trans h3.2 (Nat.le_trans h2.2 h1.2)⟩
noncomputable def dcU (q : Bool) (s : Rst) : Tags × Rst := if q then (srtU ((iterS dcG (stp gUv s).1 (stp gUv s).2).1.foldl (fun u x => setU x.1 x.2 u) []), (iterS dcG (stp gUv s).1 (stp gUv s).2).2) else ([], s)
theorem dcU_sane (q : Bool) : Sane (dcU q) := fun s => by
  unfold dcU
  split
  · have h1 := stp_sane gUv_le s
    have h2 := iterS_sane dcG_sane (stp gUv s).1 (stp gUv s).2
    exact ⟨fun hb => h2.1 (h1.1 hb), Nat.le_trans h2.2 h1.2⟩
  · exact ⟨id, Nat.le_refl _⟩
/-! ### Fields, parts -/
mutual
noncomputable def dcF : Fld → Int → Bool → Rst → Tre × Rst
  | .mk k _ _ nul _ _ o sub, v, q, s =>
    if k = 11 then
      (.mk 0 [] (if nul ≥ 0 then decide ((dcN q s).1 < 0 ∧ ¬ v < nul) else decide ((dcN q s).1 ≤ 0)) (iterS (fun s => if o = 10 then (.mk 0 [] false (dcL sub v q s).1 (dcU q (dcL sub v q s).2).1, (dcU q (dcL sub v q s).2).2) else dcS o q s) (dcN q s).1.toNat (dcN q s).2).1 [],
        (iterS (fun s => if o = 10 then (.mk 0 [] false (dcL sub v q s).1 (dcU q (dcL sub v q s).2).1, (dcU q (dcL sub v q s).2).2) else dcS o q s) (dcN q s).1.toNat (dcN q s).2).2)
    else dcS k q s
noncomputable def dcL : List Fld → Int → Bool → Rst → List Tre × Rst
  | [], _, _, s => ([], s)
  | f :: r, v, q, s => ((if hasB f v then (dcF f v q s).1 else dfF f) :: (dcL r v q (if hasB f v then (dcF f v q s).2 else s)).1, (dcL r v q (if hasB f v then (dcF f v q s).2 else s)).2)
end
noncomputable def dcP (fs : List Fld) (v : Int) (q : Bool) (s : Rst) : Tre × Rst := (.mk 0 [] false (dcL fs v q s).1 (dcU q (dcL fs v q s).2).1, (dcU q (dcL fs v q s).2).2)
noncomputable def dcE (o : Int) (sub : List Fld) (v : Int) (q : Bool) (s : Rst) : Tre × Rst := if o = 10 then dcP sub v q s else dcS o q s
theorem dcF_list {a b nul tag d o : Int} {sub : List Fld} {v : Int} {q : Bool} {s : Rst} : dcF (.mk 11 a b nul tag d o sub) v q s = (.mk 0 [] (if nul ≥ 0 then decide ((dcN q s).1 < 0 ∧ ¬ v < nul) else decide ((dcN q s).1 ≤ 0)) (iterS (dcE o sub v q) (dcN q s).1.toNat (dcN q s).2).1 [], (iterS (dcE o sub v q) (dcN q s).1.toNat (dcN q s).2).2) := by
  simp only [dcF, if_true]
  rfl
theorem hasB_low {k nul tag d o v : Int} {sub : List Fld} (h0 : -32768 ≤ v) : hasB (.mk k (-32768) (-1) nul tag d o sub) v = true := by simp [hasB, Fld.frm, Fld.to, h0]
theorem dcF_sc {k a b nul tag d o : Int} {sub : List Fld} {v : Int} {q : Bool} {s : Rst} (h : ¬ k = 11) : dcF (.mk k a b nul tag d o sub) v q s = dcS k q s := by
  simp only [dcF]
  rw [if_neg h]
mutual
theorem dcF_sane : ∀ (f : Fld) (v : Int) (q : Bool), Sane (dcF f v q)
  | .mk k a b nul tag d o sub, v, q => fun s => by
    by_cases h : k = 11
    · subst h
      rw [dcF_list]
      have hE : Sane (dcE o sub v q) := fun s => by
        unfold dcE
        split
        · have h1 := dcL_sane sub v q s
          have h2 := dcU_sane q (dcL sub v q s).2
          exact ⟨fun hb => h2.1 (h1.1 hb), Nat.le_trans h2.2 h1.2⟩
        · exact dcS_sane o q s
      have h1 := dcN_sane q s
      have h2 := iterS_sane hE (dcN q s).1.toNat (dcN q s).2
      exact ⟨fun hb => h2.1 (h1.1 hb), Nat.le_trans h2.2 h1.2⟩
    · rw [dcF_sc h]
      exact dcS_sane k q s
theorem dcL_sane : ∀ (fs : List Fld) (v : Int) (q : Bool), Sane (dcL fs v q)
  | [], v, q => fun s => by simp [dcL]
  | f :: r, v, q => fun s => by
    simp only [dcL]
    by_cases hh : hasB f v = true
    · simp only [if_pos hh]
      have h1 := dcF_sane f v q s
      have h2 := dcL_sane r v q (dcF f v q s).2
      exact ⟨fun hb => h2.1 (h1.1 hb), Nat.le_trans h2.2 h1.2⟩
    · simp only [if_neg hh]
      exact dcL_sane r v q s
end
theorem dcP_sane (fs : List Fld) (v : Int) (q : Bool) : Sane (dcP fs v q) := fun s => by
  have h1 := dcL_sane fs v q s
  have h2 := dcU_sane q (dcL fs v q s).2
  exact ⟨fun hb => h2.1 (h1.1 hb), Nat.le_trans h2.2 h1.2⟩
theorem dcE_sane (o : Int) (sub : List Fld) (v : Int) (q : Bool) : Sane (dcE o sub v q) := fun s => by
  unfold dcE
  split
  · exact dcP_sane sub v q s
  · exact dcS_sane o q s
end K
end Go.Proofs.YtjjfpdofkdolnaaDoor
namespace Go.Proofs.YtjjfpdofkdolnaaDoor
namespace K
open Go Go.Lib
/-- a part that is being read out of any octets: what stands, what is to come -/
structure RsU (s : Vw) (rs fsd : List Fld) (v0 : Int) (q : Bool) (Y : Tre) (st E : Rst) (v : Value) (done : List Value) : Prop where
  hv : RSv s v st.1
  acc : RMl s fsd Y 0 done
  hY : ∀ j, j < rs.length → Y.at_ (fsd.length + j) = ((dcL rs v0 q st).1[j]?).getD .nul
  fin : (dcL rs v0 q st).2 = E
  sm : st.1.length ≤ 32767
theorem RsU.mv {s t : Vw} {rs fsd : List Fld} {v0 : Int} {q : Bool} {Y : Tre} {st E : Rst} {v : Value} {done : List Value} (h : RsU s rs fsd v0 q Y st E v done) (ht : Tr s t) : RsU t rs fsd v0 q Y st E v done := ⟨RSv.mv h.hv ht, RMl.mv ht h.acc, h.hY, h.fin, h.sm⟩
theorem RsU.len {s : Vw} {rs fsd : List Fld} {v0 : Int} {q : Bool} {Y : Tre} {st E : Rst} {v : Value} {done : List Value} (h : RsU s rs fsd v0 q Y st E v done) : done.length = fszs fsd := (RMl.len h.acc).1
theorem RsU.start {s : Vw} {F : List Fld} {v0 : Int} {q : Bool} {st : Rst} {v : Value} {z : Bool} {U : Tags} (hv : RSv s v st.1) (hK : st.1.length ≤ 32767) : RsU s F [] v0 q (.mk 0 [] z (dcL F v0 q st).1 U) st (dcL F v0 q st).2 v [] :=
  ⟨hv, by simp [RMl], fun j hj => by simp [Tre.at_, Tre.l], rfl, hK⟩
theorem dcL_yes {f : Fld} {r : List Fld} {v : Int} {q : Bool} {s : Rst} (h : hasB f v = true) : dcL (f :: r) v q s = ((dcF f v q s).1 :: (dcL r v q (dcF f v q s).2).1, (dcL r v q (dcF f v q s).2).2) := by simp only [dcL, if_pos h]
theorem dcL_no {f : Fld} {r : List Fld} {v : Int} {q : Bool} {s : Rst} (h : hasB f v = false) : dcL (f :: r) v q s = (dfF f :: (dcL r v q s).1, (dcL r v q s).2) := by
  have h' : ¬ hasB f v = true := by rw [h]; decide
  simp only [dcL, if_neg h']
theorem RsU.step {s t : Vw} {fl : Fld} {r fsd : List Fld} {v0 : Int} {q : Bool} {Y : Tre} {st E : Rst} {v v' : Value} {done cs : List Value} (h : RsU s (fl :: r) fsd v0 q Y st E v done) (hh : hasB fl v0 = true) (ht : Tr s t) (hv : RSv t v' (dcF fl v0 q st).2.1) (hm : RMf t fl (dcF fl v0 q st).1 cs) :
    RsU t r (fsd ++ [fl]) v0 q Y (dcF fl v0 q st).2 E v' (done ++ cs) := by
  have hY := h.hY
  have hf := h.fin
  rw [dcL_yes hh] at hY hf
  refine ⟨hv, RMl_snoc (RMl.mv ht h.acc) ?_, fun j hj => ?_, hf, Nat.le_trans (dcF_sane fl v0 q st).2 h.sm⟩
  · have := hY 0 (by simp)
    simp only [Nat.add_zero, List.getElem?_cons_zero, Option.getD_some] at this
    rw [Nat.zero_add, this]
    exact hm
  · have := hY (j + 1) (by simpa using hj)
    simp only [List.getElem?_cons_succ] at this
    simp only [List.length_append, List.length_cons, List.length_nil]
    rw [show fsd.length + (0 + 1) + j = fsd.length + (j + 1) by omega]
    exact this
/-- a function that reads a field's one cell -/
def Fx (f : FuncId) (fl : Fld) (v0 : Int) (q : Bool) (st : Rst) : Prop := ∀ (u : Vw) (b : Nat) (v : Value), RSv u v st.1 → (RdX b v st.2).ok u.w → (∀ y ∈ (RdX b v st.2).blk, u.av y) →
  CT Tryd.prog f [.pointer (some ⟨b, 0, none⟩)] u (RdX b v st.2) fun w r e' => RMf w fl (dcF fl v0 q st).1 [r] ∧ ∃ v', e' = RdX b v' (dcF fl v0 q st).2.2 ∧ RSv w v' (dcF fl v0 q st).2.1
theorem Fx.of {α : Type} {f : FuncId} {fl : Fld} {v0 : Int} {q : Bool} {st : Rst} {g : List UInt8 → α × List UInt8 × Bool} {Rr : Vw → Value → α → Prop} (h : ∀ t, GxC f g Rr t) (e : (dcF fl v0 q st).2 = (stp g st).2) (hm : ∀ w r, Rr w r (g st.1).1 → RMf w fl (dcF fl v0 q st).1 [r]) : Fx f fl v0 q st := fun u b v hv hok hav =>
  CT.mono (h u b v st.2 st.1 hv hok hav) fun w r e' ⟨h1, v', h2, h3⟩ => ⟨hm w r h1, v', by rw [h2, e]; rfl, by rw [e]; exact h3⟩
section
variable {n : Nat} {L : Env} {H H0 : Hp} {C : Cx} {s : Vw} {N R : Act → World → Prop} {X : List (Nat × (Act → World → Prop))}
variable {id id0 id1 id2 id3 id4 id5 id6 id7 id8 id9 : Nat} {tb ts un fx vr x y d0 d1 d2 d3 d4 d5 d6 d7 d8 e1 e2 e3 e4 : Nat} {f g : FuncId} {br b o po len fo k sz : Nat} {mk : List Value → Ent} {v c val : Value} {rest bs : List UInt8}
variable {ty0 ty1 ty2 ty3 ty4 ty5 ty6 ty7 ty8 ty9 : TypeId} {p0 p1 p2 p3 p4 p5 p6 p7 p8 p9 : String} {a0 a1 a2 a3 a4 a5 a6 a7 a8 a9 : Array Edge} {tys tyt : Array TypeId}
variable {uy1 uy2 uy3 uy4 uy5 uy6 : TypeId} {q1 q2 q3 q4 q5 q6 : String} {c1 c2 c3 c4 c5 c6 : Array Edge}
variable {T ft : TypeId} {fs : Array Field} {fd : Field} {fl : Fld} {r fsd : List Fld} {v0 : Int} {q : Bool} {Y : Tre} {done zc zs : List Value} {z : Value} {E0 : Ent}
variable {st E : Rst} {ub : Bool}
theorem rg_callU (hb : lk L tb = some (.pointer (some ⟨br, 0, none⟩))) (hent : Enters Tryd.prog f) (hc : Fx f fl v0 q st) (hv : RSv s v st.1) (hf : frs n L [y, d1] = true)
    (kk : ∀ u ux v' c, Tr s u → Tr ux u → RMf ux fl (dcF fl v0 q st).1 [c] → RSv u v' (dcF fl v0 q st).2.1 → At N n ((y, c) :: L) (RdX br v' (dcF fl v0 q st).2.2 :: H0) C u) :
    Cd Tryd.prog (.region id [⟨some d1, .call ⟨.value (.func f), [.tmp tb].toArray, tys⟩, ty1, p1, a1, none⟩, ⟨some y, .assign (.tmp d1), ty2, p2, a2, none⟩].toArray false) ⟨N, R, X⟩ n L (RdX br v st.2 :: H0) C s := by
  obtain ⟨hb', hfr, hne⟩ := frs_get hf
  simp only [List.pairwise_cons, List.mem_cons, List.not_mem_nil, or_false, forall_eq_or_imp, forall_eq, List.Pairwise.nil, and_true, false_imp_iff, implies_true] at hb' hfr hne
  refine cd_region ?_
  refine ln_callT (i := 0) (vals := [.pointer (some ⟨br, 0, none⟩)]) hent (by simp [evs, ev_t, hb]) rfl (fun u hu hok hav => hc u br v (RSv.mv hv hu) hok hav) hb'.2 ?_
  rintro u c _ ht ⟨ux, ⟨h1, v', rfl, h2⟩, hx⟩
  refine ln_pv (pv_assign lk_eq) hb'.1 ?_
  exact ln_nil (at_sub (sub.cons (.skip hfr.2 .rfl')) (kk u ux v' c ht hx h1 (RSv.mv h2 hx)))
theorem rg_flexU (hb : lk L tb = some (.pointer (some ⟨br, 0, none⟩))) (hq : lk L fx = some (.bool q)) (hent : Enters Tryd.prog f) (heng : Enters Tryd.prog g) (hc : q = true → Fx f fl v0 q st) (hc' : q = false → Fx g fl v0 q st) (hv : RSv s v st.1) (hf : frs n L [d0] = true) (hf1 : frs n L [y, d1] = true) (hf2 : frs n L [y, d2] = true)
    (kk : ∀ u ux v' c, Tr s u → Tr ux u → RMf ux fl (dcF fl v0 q st).1 [c] → RSv u v' (dcF fl v0 q st).2.1 → At N n ((y, c) :: L) (RdX br v' (dcF fl v0 q st).2.2 :: H0) C u) :
    Cd Tryd.prog (.seq (.region id0 [⟨some d0, .move (.tmp fx), ty0, p0, a0, none⟩].toArray false) (.cond (.tmp d0)
      (.region id1 [⟨some d1, .call ⟨.value (.func f), [.tmp tb].toArray, tys⟩, ty1, p1, a1, none⟩, ⟨some y, .assign (.tmp d1), ty2, p2, a2, none⟩].toArray false)
      (.region id2 [⟨some d2, .call ⟨.value (.func g), [.tmp tb].toArray, tyt⟩, ty3, p3, a3, none⟩, ⟨some y, .assign (.tmp d2), ty4, p4, a4, none⟩].toArray false))) ⟨N, R, X⟩ n L (RdX br v st.2 :: H0) C s := by
  obtain ⟨hb', hfr, hne⟩ := frs_get hf
  simp only [List.mem_cons, List.not_mem_nil, or_false, forall_eq] at hb' hfr
  refine cd_sq ?_
  refine cd_region ?_
  refine ln_pv (pv_move hq) hb' ?_
  refine ln_nil (at_cd ?_)
  exact cd_cond lk_eq (fun h => cd_sub_ (.skip hfr .rfl') (rg_callU hb hent (hc h) hv hf1 kk)) (fun h => cd_sub_ (.skip hfr .rfl') (rg_callU hb heng (hc' h) hv hf2 kk))
theorem st_putU (hR : RsU s (fl :: r) fsd v0 q Y st E v done) (hh : hasB fl v0 = true) {v' : Value} {u : Vw} (hu' : Tr s u) (hv' : RSv u v' (dcF fl v0 q st).2.1) (hm : RMf u fl (dcF fl v0 q st).1 [c]) (hs : lk L ts = some (.pointer (some ⟨b, po, none⟩))) (hx : lk L x = some c) (hT : Tgt mk b o len) (hl : fszs fsd + (zs.length + 1) = len) (hu : Tryd.prog.underlying T = some (.struct fs)) (hk : fs[k]? = some fd) (hsz : (Tryd.prog.info? fd.type).map (·.size) = some (sz + 1)) (ho : fd.offset = fo)
    (hpo : po + fo = o + fszs fsd) (hsz1 : (Tryd.prog.info? ft).map (·.size) = some 1) (hf : frs n L [d1, d2, d3, d4] = true) (kk : ∀ done', RsU u r (fsd ++ [fl]) v0 q Y (dcF fl v0 q st).2 E v' done' → At N n L (E0 :: mk (done' ++ zs) :: H0) C u) :
    Cd Tryd.prog (.region id [⟨some d1, .move (.tmp ts), ty1, p1, a1, none⟩, ⟨some d2, .move (.tmp x), ty2, p2, a2, none⟩, ⟨some d3, .nilCheck (.tmp d1), ty3, p3, a3, none⟩, ⟨some d4, .fieldAddr T (.tmp d3) k, ty4, p4, a4, none⟩, ⟨none, .store ft (.tmp d4) (.tmp d2), ty5, p5, a5, none⟩].toArray false) ⟨N, R, X⟩ n L (E0 :: mk (done ++ z :: zs) :: H0) C u := by
  have hdl := hR.len
  have h1 : c.oneCell' = true := (RMf.len hm).2 c (by simp)
  refine rg_put (off := done.length) hs hx h1 hT (by simp [hdl]; omega) hu hk hsz ho (by rw [hdl]; exact hpo) hsz1 (by rw [hdl]; omega) hf ?_
  have e : (done ++ z :: zs).set done.length c = (done ++ [c]) ++ zs := by simp
  rw [e]
  exact kk _ (hR.step hh hu' hv' hm)
theorem st_numU (hR : RsU s (fl :: r) fsd v0 q Y st E v done) (hh : hasB fl v0 = true) (hb : lk L tb = some (.pointer (some ⟨br, 0, none⟩))) (hent : Enters Tryd.prog f) (hc : Fx f fl v0 q st) (hs : lk L ts = some (.pointer (some ⟨b, po, none⟩))) (hT : Tgt mk b o len) (hl : fszs fsd + (zs.length + 1) = len) (hu : Tryd.prog.underlying T = some (.struct fs)) (hk : fs[k]? = some fd) (hsz : (Tryd.prog.info? fd.type).map (·.size) = some (sz + 1)) (ho : fd.offset = fo)
    (hpo : po + fo = o + fszs fsd) (hsz1 : (Tryd.prog.info? ft).map (·.size) = some 1) (hf1 : frs n L [y, d5] = true) (hf : frs n L [y, d1, d2, d3, d4] = true) (kk : ∀ u v' st' done', Tr s u → RsU u r (fsd ++ [fl]) v0 q Y st' E v' done' → At N n L (RdX br v' st'.2 :: mk (done' ++ zs) :: H0) C u) :
    Cd Tryd.prog (.seq (.region id0 [⟨some d5, .call ⟨.value (.func f), [.tmp tb].toArray, tys⟩, ty6, p6, a6, none⟩, ⟨some y, .assign (.tmp d5), ty7, p7, a7, none⟩].toArray false) (.region id [⟨some d1, .move (.tmp ts), ty1, p1, a1, none⟩, ⟨some d2, .move (.tmp y), ty2, p2, a2, none⟩, ⟨some d3, .nilCheck (.tmp d1), ty3, p3, a3, none⟩, ⟨some d4, .fieldAddr T (.tmp d3) k, ty4, p4, a4, none⟩, ⟨none, .store ft (.tmp d4) (.tmp d2), ty5, p5, a5, none⟩].toArray false)) ⟨N, R, X⟩ n L (RdX br v st.2 :: mk (done ++ z :: zs) :: H0) C s := by
  obtain ⟨hb', hfr, hne⟩ := frs_get hf
  simp only [List.pairwise_cons, List.mem_cons, List.not_mem_nil, or_false, forall_eq_or_imp, forall_eq, List.Pairwise.nil, and_true, false_imp_iff, implies_true] at hb' hfr hne
  refine cd_sq ?_
  refine rg_callU hb hent hc hR.hv hf1 (fun u ux v' c hu1 hu2 hm hv' => ?_)
  refine at_cd ?_
  refine st_putU (c := c) hR hh hu1 hv' (RMf.mv hu2 hm) (by rw [lk_ne (lk_fr hfr.1 hs)]; exact hs) lk_eq hT hl hu hk hsz ho hpo hsz1 ?_ (fun done' hR' => ?_)
  · simp only [frs, fr, Bool.and_eq_true, List.all_cons, List.all_nil] at hf ⊢
    simp_all
  · exact at_sub (.skip hfr.1 .rfl') (kk u v' _ done' hu1 hR')
theorem st_restU {u ux : Vw} {v' : Value} (hR : RsU s (fl :: r) fsd v0 q Y st E v done) (hh : hasB fl v0 = true) (hu1 : Tr s u) (hu2 : Tr ux u) (hm : RMf ux fl (dcF fl v0 q st).1 [c]) (hv' : RSv u v' (dcF fl v0 q st).2.1) (hs : lk L ts = some (.pointer (some ⟨b, po, none⟩))) (hT : Tgt mk b o len) (hl : fszs fsd + (zs.length + 1) = len) (hu : Tryd.prog.underlying T = some (.struct fs)) (hk : fs[k]? = some fd) (hsz : (Tryd.prog.info? fd.type).map (·.size) = some (sz + 1)) (ho : fd.offset = fo)
    (hpo : po + fo = o + fszs fsd) (hsz1 : (Tryd.prog.info? ft).map (·.size) = some 1) (hf : frs n L [y, d1, d2, d3, d4] = true) (kk : ∀ u v' st' done', Tr s u → RsU u r (fsd ++ [fl]) v0 q Y st' E v' done' → At N n L (RdX br v' st'.2 :: mk (done' ++ zs) :: H0) C u) :
    Cd Tryd.prog (.region id [⟨some d1, .move (.tmp ts), ty1, p1, a1, none⟩, ⟨some d2, .move (.tmp y), ty2, p2, a2, none⟩, ⟨some d3, .nilCheck (.tmp d1), ty3, p3, a3, none⟩, ⟨some d4, .fieldAddr T (.tmp d3) k, ty4, p4, a4, none⟩, ⟨none, .store ft (.tmp d4) (.tmp d2), ty5, p5, a5, none⟩].toArray false) ⟨N, R, X⟩ n ((y, c) :: L) (RdX br v' (dcF fl v0 q st).2.2 :: mk (done ++ z :: zs) :: H0) C u := by
  obtain ⟨hb', hfr, hne⟩ := frs_get hf
  simp only [List.pairwise_cons, List.mem_cons, List.not_mem_nil, or_false, forall_eq_or_imp, forall_eq, List.Pairwise.nil, and_true, false_imp_iff, implies_true] at hb' hfr hne
  refine st_putU (c := c) hR hh hu1 hv' (RMf.mv hu2 hm) (by rw [lk_ne (lk_fr hfr.1 hs)]; exact hs) lk_eq hT hl hu hk hsz ho hpo hsz1 ?_ (fun done' hR' => ?_)
  · simp only [frs, fr, Bool.and_eq_true, List.all_cons, List.all_nil] at hf ⊢
    simp_all
  · exact at_sub (.skip hfr.1 .rfl') (kk u v' _ done' hu1 hR')
end
section
variable {n : Nat} {L : Env} {H H0 : Hp} {C : Cx} {s : Vw} {N R : Act → World → Prop} {X : List (Nat × (Act → World → Prop))}
variable {id id0 id1 id2 id3 id4 id5 id6 id7 id8 id9 : Nat} {tb ts un fx vr x y d0 d1 d2 d3 d4 d5 d6 d7 d8 d9 e1 e2 e3 e4 y1 y2 y3 y4 : Nat} {f g : FuncId} {br b o po len fo k sz : Nat} {mk : List Value → Ent} {v c val : Value} {rest bs : List UInt8}
variable {ty0 ty1 ty2 ty3 ty4 ty5 ty6 ty7 ty8 ty9 : TypeId} {p0 p1 p2 p3 p4 p5 p6 p7 p8 p9 : String} {a0 a1 a2 a3 a4 a5 a6 a7 a8 a9 : Array Edge} {tys tyt : Array TypeId}
variable {uy1 uy2 uy3 uy4 uy5 uy6 uy7 uy8 : TypeId} {q1 q2 q3 q4 q5 q6 q7 q8 : String} {c1 c2 c3 c4 c5 c6 c7 c8 : Array Edge}
variable {T ft : TypeId} {fs : Array Field} {fd : Field} {fl : Fld} {r fsd : List Fld} {v0 : Int} {q : Bool} {Y : Tre} {done zc zs : List Value} {z : Value} {E0 : Ent}
variable {st E : Rst} {ub : Bool}

theorem st_strU {f' g' : FuncId} {tysA tytA : Array TypeId} {ida idb idc : Nat} {za zb zc' : Nat} {tya0 tya1 tya2 tya3 tya4 : TypeId} {pa0 pa1 pa2 pa3 pa4 : String} {aa0 aa1 aa2 aa3 aa4 : Array Edge} (henta : Enters Tryd.prog f') (hentg : Enters Tryd.prog g') (hcu : q = true → Fx f' fl v0 q st) (hcu' : q = false → Fx g' fl v0 q st) (hfa : frs n L [za] = true) (hfb : frs n L [y, zb] = true) (hfc : frs n L [y, zc'] = true) (hR : RsU s (fl :: r) fsd v0 q Y st E v done) (hh : hasB fl v0 = true) (hb : lk L tb = some (.pointer (some ⟨br, 0, none⟩))) (hun : lk L un = some (.bool ub)) (hq : lk L fx = some (.bool q)) (hent : Enters Tryd.prog f) (heng : Enters Tryd.prog g) (hc : q = true → Fx f fl v0 q st) (hc' : q = false → Fx g fl v0 q st) (hs : lk L ts = some (.pointer (some ⟨b, po, none⟩))) (hT : Tgt mk b o len) (hl : fszs fsd + (zs.length + 1) = len) (hu : Tryd.prog.underlying T = some (.struct fs)) (hk : fs[k]? = some fd) (hsz : (Tryd.prog.info? fd.type).map (·.size) = some (sz + 1)) (ho : fd.offset = fo)
    (hpo : po + fo = o + fszs fsd) (hsz1 : (Tryd.prog.info? ft).map (·.size) = some 1) (hf7 : frs n L [d7] = true) (hf0 : frs n L [d0] = true) (hf1 : frs n L [y, e1] = true) (hf2 : frs n L [y, e2] = true) (hf : frs n L [y, d1, d2, d3, d4] = true) (kk : ∀ u v' st' done', Tr s u → RsU u r (fsd ++ [fl]) v0 q Y st' E v' done' → At N n L (RdX br v' st'.2 :: mk (done' ++ zs) :: H0) C u) :
    Cd Tryd.prog (.seq (.seq (.region id7 [⟨some d7, .move (.tmp un), ty8, p8, a8, none⟩].toArray false) (.cond (.tmp d7) (.seq (.region ida [⟨some za, .move (.tmp fx), tya0, pa0, aa0, none⟩].toArray false) (.cond (.tmp za)
      (.region idb [⟨some zb, .call ⟨.value (.func f'), [.tmp tb].toArray, tysA⟩, tya1, pa1, aa1, none⟩, ⟨some y, .assign (.tmp zb), tya2, pa2, aa2, none⟩].toArray false)
      (.region idc [⟨some zc', .call ⟨.value (.func g'), [.tmp tb].toArray, tytA⟩, tya3, pa3, aa3, none⟩, ⟨some y, .assign (.tmp zc'), tya4, pa4, aa4, none⟩].toArray false))) (.seq (.region id0 [⟨some d0, .move (.tmp fx), ty0, p0, a0, none⟩].toArray false) (.cond (.tmp d0)
      (.region id1 [⟨some e1, .call ⟨.value (.func f), [.tmp tb].toArray, tys⟩, uy1, q1, c1, none⟩, ⟨some y, .assign (.tmp e1), uy2, q2, c2, none⟩].toArray false)
      (.region id2 [⟨some e2, .call ⟨.value (.func g), [.tmp tb].toArray, tyt⟩, uy3, q3, c3, none⟩, ⟨some y, .assign (.tmp e2), uy4, q4, c4, none⟩].toArray false)))))
      (.region id [⟨some d1, .move (.tmp ts), ty1, p1, a1, none⟩, ⟨some d2, .move (.tmp y), ty2, p2, a2, none⟩, ⟨some d3, .nilCheck (.tmp d1), ty3, p3, a3, none⟩, ⟨some d4, .fieldAddr T (.tmp d3) k, ty4, p4, a4, none⟩, ⟨none, .store ft (.tmp d4) (.tmp d2), ty5, p5, a5, none⟩].toArray false)) ⟨N, R, X⟩ n L (RdX br v st.2 :: mk (done ++ z :: zs) :: H0) C s := by
  refine cd_sq ?_
  obtain ⟨hb7, hfr7, _⟩ := frs_get hf7
  simp only [List.mem_cons, List.not_mem_nil, or_false, forall_eq] at hb7 hfr7
  refine cd_sq ?_
  refine cd_region ?_
  refine ln_pv (pv_move hun) hb7 ?_
  refine ln_nil (at_cd ?_)
  refine cd_cond lk_eq (fun h => cd_sub_ (.skip hfr7 .rfl') ?_) (fun h => cd_sub_ (.skip hfr7 .rfl') ?_)
  · refine rg_flexU hb hq henta hentg hcu hcu' hR.hv hfa hfb hfc (fun u ux v' c hu1 hu2 hm hv' => ?_)
    exact at_cd (st_restU hR hh hu1 hu2 hm hv' hs hT hl hu hk hsz ho hpo hsz1 hf kk)
  · refine rg_flexU hb hq hent heng hc hc' hR.hv hf0 hf1 hf2 (fun u ux v' c hu1 hu2 hm hv' => ?_)
    exact at_cd (st_restU hR hh hu1 hu2 hm hv' hs hT hl hu hk hsz ho hpo hsz1 hf kk)
end
end K
end Go.Proofs.YtjjfpdofkdolnaaDoor
namespace Go.Proofs.YtjjfpdofkdolnaaDoor
namespace K
open Go Go.Lib
theorem iterS_get {α : Type} (f : Rst → α × Rst) : ∀ (m : Nat) (s : Rst) (i : Nat), i < m → (iterS f m s).1[i]? = some (f (iterS f i s).2).1
  | 0, s, i, h => absurd h (Nat.not_lt_zero i)
  | m + 1, s, 0, h => rfl
  | m + 1, s, i + 1, h => by
    have := iterS_get f m (f s).2 i (by omega)
    simpa [iterS] using this
theorem iterS_add {α : Type} (f : Rst → α × Rst) : ∀ (a b : Nat) (s : Rst), (iterS f (a + b) s).2 = (iterS f b (iterS f a s).2).2
  | 0, b, s => by rw [Nat.zero_add]; rfl
  | a + 1, b, s => by
    rw [show a + 1 + b = (a + b) + 1 by omega]
    exact iterS_add f a b (f s).2
theorem iterS_bad {α : Type} {f : Rst → α × Rst} (hs : Sane f) {i m : Nat} (h : i ≤ m) (s : Rst) (hb : (iterS f i s).2.2 = true) : (iterS f m s).2.2 = true := by
  have e := iterS_add f i (m - i) s
  rw [show i + (m - i) = m by omega] at e
  rw [e]
  exact (iterS_sane hs _ _).1 hb
theorem dcL_bad {f : Fld} {r : List Fld} {v : Int} {q : Bool} {s E : Rst} (hh : hasB f v = true) (he : (dcL (f :: r) v q s).2 = E) (hb : (dcF f v q s).2.2 = true) : E.2 = true := by
  rw [← he, dcL_yes hh]
  exact (dcL_sane r v q _).1 hb
theorem rls_ofU {u : Vw} {a b nul tag d o : Int} {sub : List Fld} {v0 : Int} {q : Bool} {st : Rst} {ez g cap m : Nat} {xs : List Value} (hm : (dcN q st).1.toNat = m) (hz : ¬ (if nul ≥ 0 then (dcN q st).1 < 0 ∧ ¬ v0 < nul else (dcN q st).1 ≤ 0)) (hez : (if o = 7 then 16 else if o = 10 then fszs sub + 1 else 1) = ez)
    (hRS : RS u ez (.slice (some ⟨g, 0, none⟩) m cap) m xs) (hEl : ∀ i, i < m → REl u o sub (dcE o sub v0 q (iterS (dcE o sub v0 q) i (dcN q st).2).2).1 (seg xs i ez)) :
    RMf u (.mk 11 a b nul tag d o sub) (dcF (.mk 11 a b nul tag d o sub) v0 q st).1 [.slice (some ⟨g, 0, none⟩) m cap] := by
  rw [RMf_list, dcF_list, hm]
  have hl : (iterS (dcE o sub v0 q) m (dcN q st).2).1.length = m := iterS_length _ _ _
  refine ⟨_, rfl, .inr ⟨?_, g, 0, cap, xs, by simp only [tl, hl], ?_, fun i hi => ?_⟩⟩
  · simp only [tz]
    by_cases h : nul ≥ 0
    · rw [if_pos h] at hz ⊢
      simpa using hz
    · rw [if_neg h] at hz ⊢
      simpa using hz
  · simp only [tl, hl, hez]
    exact hRS
  · simp only [tl, hl] at hi ⊢
    rw [hez]
    have e := iterS_get (dcE o sub v0 q) m (dcN q st).2 i hi
    rw [List.getElem?_eq_getElem (by rw [hl]; exact hi)] at e
    rw [Option.some.inj e]
    exact hEl i hi
theorem rls_nilU {u : Vw} {a b nul tag d o : Int} {sub : List Fld} {v0 : Int} {q : Bool} {st : Rst} (hz : if nul ≥ 0 then (dcN q st).1 < 0 ∧ ¬ v0 < nul else (dcN q st).1 ≤ 0) :
    RMf u (.mk 11 a b nul tag d o sub) (dcF (.mk 11 a b nul tag d o sub) v0 q st).1 [.slice none 0 0] := by
  rw [RMf_list, dcF_list]
  refine ⟨_, rfl, .inl ⟨?_, rfl⟩⟩
  simp only [tz]
  by_cases h : nul ≥ 0
  · rw [if_pos h] at hz ⊢
    simpa using hz
  · rw [if_neg h] at hz ⊢
    simpa using hz
theorem dcF_none {a b nul tag d o : Int} {sub : List Fld} {v0 : Int} {q : Bool} {st : Rst} (h : ¬ (dcN q st).1 > 0) : (dcF (.mk 11 a b nul tag d o sub) v0 q st).2 = (dcN q st).2 := by
  rw [dcF_list, show (dcN q st).1.toNat = 0 by omega]
  rfl
theorem append_zerosB (b0 : Nat) {P : Program} (w : World) (t it ty e : TypeId) (i : TypeInfo) (z : Value) (ht : P.underlying t = some (.slice e)) (hit : P.underlying it = some (.int .i32)) (hi : P.info? e = some i) (hz : i.zero = some z) (hs : 0 < i.size) (m : Nat) (h0 : 0 < m) (hm : m ≤ 32767) (hby : m * i.bytes ≤ 140737488355328) :
    (Builtin.append_ #[t, it] ty #[.slice (some ⟨b0, 0, none⟩) 0 0, .int .i32 (m : Int)]).run P w = .ok (.slice (some ⟨w.heap.size, 0, none⟩) m (grownCap w m 0 e)) (w.drew.alloc (.cells (Builtin.zeroCells z.cells m ++ Builtin.zeroCells z.cells (grownCap w m 0 e - m)) e)) := by
  have hn : ¬ (m = 0) := by omega
  have hn2 : ¬ (m ≤ 0) := by omega
  have hw : IntKind.i64.wrap (m : Int) = (m : Int) := wrap_i64 (by omega) (by omega)
  have hneg : ¬ ((m : Int) < 0) := by omega
  have hbi : ((m : Int) * (i.bytes : Int)) ≤ 140737488355328 := by have h : ((m * i.bytes : Nat) : Int) ≤ 140737488355328 := by omega
                                                                   rwa [Int.natCast_mul] at h
  have h48 : ¬ (281474976710656 < (m : Int) * (i.bytes : Int)) := by omega
  have h63 : ¬ (9223372036854775807 < (m : Int)) := by omega
  have h48' : ¬ (281474976710656 < Builtin.nextslicecap m 0 * i.bytes) := by rw [nextslicecap_zero h0]; omega
  have hms : ¬ (m * i.size = 0) := by
    intro h
    rcases Nat.mul_eq_zero.1 h with h | h <;> omega
  have hms1 : ¬ (i.size = 0) := by omega
  simp [Builtin.append_, run_underlying ht, run_underlying hit, sizeOf, typeInfo, zeroValue, hi, hz, asInt, asIntOf, hw, hneg, h48, h48', h63, hn, hms1, Builtin.firstCells, Question.forced, newRow, grownCap]
  have hl : (loadCells ⟨b0, 0, none⟩ 0).run P w.drew = .ok #[] w.drew := by simp [loadCells, loadCellsFrom]
  simp [hl, Result.andThen, hms, hms1, hn]
section
variable {P : Program} {n : Nat} {L : Env} {H : Hp} {C : Cx} {s : Vw} {K : Act → World → Prop} {ops : Array Oper} {rest : List Oper} {ty : TypeId} {pos : String} {af : Array Edge}
theorem ln_appendZG (ad : Option Nat) {d m sz by_ : Nat} {t it e : TypeId} {z : Value} {x y : Operand} {zc : List Value} (hu : P.underlying t = some (.slice e)) (hit : P.underlying it = some (.int .i32)) (hti : TI P e z sz by_) (hzc : z.cells = zc.toArray) (hzl : zc.length = sz) (hs : 0 < sz) (hx : ev L x = some (.slice (ad.map fun b => ⟨b, 0, none⟩) 0 0)) (hy : ev L y = some (.int .i32 (m : Int))) (h0 : 0 < m) (hm : m ≤ 32767) (hby : 32767 * by_ ≤ 140737488355328) (hd : Nat.blt d n = true)
    (k : ∀ g cap, Ln P ops rest K n ((d, .slice (some ⟨g, 0, none⟩) m cap) :: L) (.row (.slice (some ⟨g, 0, none⟩) m cap) e sz m (List.replicate m zc).flatten :: H) C s) : Ln P ops (⟨some d, .call ⟨.builtin .append, #[x, y], #[t, it]⟩, ty, pos, af, none⟩ :: rest) K n L H C s := fun a w hF hS => by
  obtain ⟨ii, hii, hz0, hz1, hz2⟩ := info_parts hti
  have hb : m * by_ ≤ 140737488355328 := Nat.le_trans (Nat.mul_le_mul_right _ hm) hby
  have hr : (Builtin.append_ #[t, it] ty #[.slice (ad.map fun b => ⟨b, 0, none⟩) 0 0, .int .i32 (m : Int)]).run P w = .ok (.slice (some ⟨w.heap.size, 0, none⟩) m (grownCap w m 0 e)) (w.drew.alloc (.cells (Builtin.zeroCells z.cells m ++ Builtin.zeroCells z.cells (grownCap w m 0 e - m)) e)) := by
    cases ad with
    | none => exact append_zeros (P := P) w t it ty e ii z hu hit hii hz0 (by omega) m h0 hm (by rw [hz2]; exact hb)
    | some b0 => exact append_zerosB (P := P) b0 w t it ty e ii z hu hit hii hz0 (by omega) m h0 hm (by rw [hz2]; exact hb)
  have hzs : z.cells.size = sz := by rw [hzc]; simpa using hzl
  have hzL := zeroCells_list z.cells (by omega) m
  have hge := grownCap_ge w m 0 e
  have hcm : grownCap w m 0 e ≤ maxLen := grownCap_le_maxLen w m 0 e (by simp only [maxLen]; omega)
  have hS' : St C s (.row (.slice none 0 0) e sz 0 [] :: H) w := hS.nilrow e sz
  have hzt : z.cells.toList = zc := by rw [hzc]
  rw [hzt] at hzL
  refine wpl_val (w' := w.drew.alloc (.cells (Builtin.zeroCells z.cells m ++ Builtin.zeroCells z.cells (grownCap w m 0 e - m)) e)) rfl (by simp [execOp, resolve, invoke, builtin, hF.ev hx, hF.ev hy, hr, Result.andThen]) (k w.heap.size (grownCap w m 0 e) _ _ (hF.put d _ hd) ?_)
  refine hS'.turn (i := 0) (e' := .row (.slice (some ⟨w.heap.size, 0, none⟩) m (grownCap w m 0 e)) e sz m (List.replicate m zc).flatten) rfl ?_ ?_ (fun q hq => .inr (by simp only [Ent.blk, Value.ownBlock, Option.toList, List.mem_singleton] at hq; omega)) (by simp [Ent.blk, Value.ownBlock])
  · exact ⟨rfl, rfl, rfl, by simp, fun k hk _ => Go.RowKit.Below.heap_alloc w.drew _ _ hk⟩
  · refine ⟨by rw [rep_len, hzl], .inr ⟨w.heap.size, _, _, rfl, Nat.zero_le _, heap_alloc_new w.drew _, hge, hcm, ?_, ?_⟩⟩
    · simp only [Array.size_append, size_zeroCells, hzs, ← Nat.add_mul]
      congr 1
      omega
    · have e2 : m * sz = (Builtin.zeroCells z.cells m).toList.length := by rw [hzL, rep_len, hzl]
      rw [Array.toList_append, hzL]
      have e3 : m * sz = (List.replicate m zc).flatten.length := by rw [rep_len, hzl]
      rw [e3]
      exact List.take_left
end
section
variable {n : Nat} {L : Env} {H H0 : Hp} {C : Cx} {s : Vw} {N R : Act → World → Prop} {X : List (Nat × (Act → World → Prop))}
variable {id id0 id1 id2 id3 id4 id5 id6 id7 id8 id9 ida idb idc idd ide idf idg : Nat} {tb ts un fx vr x y d0 d1 d2 d3 d4 d5 d6 d7 d8 d9 e0 e1 e2 e3 e4 y1 y2 y3 y4 g1 g2 g3 g4 g5 h1 h2 h3 h4 h5 i1 j1 j2 j3 j4 : Nat} {f g : FuncId} {br b o po len fo k sz : Nat} {mk : List Value → Ent} {v c val : Value} {rest bs : List UInt8}
variable {ty0 ty1 ty2 ty3 ty4 ty5 ty6 ty7 ty8 ty9 : TypeId} {p0 p1 p2 p3 p4 p5 p6 p7 p8 p9 : String} {a0 a1 a2 a3 a4 a5 a6 a7 a8 a9 : Array Edge} {tys tyt tyo : Array TypeId}
variable {uy1 uy2 uy3 uy4 uy5 uy6 uy7 uy8 : TypeId} {q1 q2 q3 q4 q5 q6 q7 q8 : String} {c1 c2 c3 c4 c5 c6 c7 c8 : Array Edge}
variable {vy1 vy2 vy3 vy4 vy5 vy6 vy7 vy8 vy9 : TypeId} {r1 r2 r3 r4 r5 r6 r7 r8 r9 : String} {b1 b2 b3 b4 b5 b6 b7 b8 b9 : Array Edge}
variable {wy1 wy2 wy3 wy4 wy5 wy6 wy7 wy8 wy9 : TypeId} {s1 s2 s3 s4 s5 s6 s7 s8 s9 : String} {m1 m2 m3 m4 m5 m6 m7 m8 m9 : Array Edge}
variable {xy1 xy2 xy3 xy4 xy5 xy6 xy7 xy8 xy9 : TypeId} {t1 t2 t3 t4 t5 t6 t7 t8 t9 : String} {n1 n2 n3 n4 n5 n6 n7 n8 n9 : Array Edge}
variable {T ft ST et it : TypeId} {fs : Array Field} {fd : Field} {r fsd : List Fld} {v0 : Int} {q : Bool} {Y : Tre} {done zc zs : List Value} {z : Value} {E0 : Ent}
variable {idz idy z1 z2 z3 z4 z5 z6 z7 : Nat} {zy1 zy2 zy3 zy4 zy5 zy6 zy7 zy8 zy9 ly1 ly2 ly3 : TypeId} {o1 o2 o3 o4 o5 o6 o7 o8 : String} {l1 l2 l3 l4 l5 l6 l7 l8 : Array Edge}
variable {st E : Rst} {ub bad : Bool}

/-- l = b.ArrayLen(), of one kind or the other -/
theorem rl_lenU (hb : lk L tb = some (.pointer (some ⟨br, 0, none⟩))) (hq : lk L fx = some (.bool q)) (hv : RSv s v st.1) (hf : frs n L [d0] = true) (hf1 : frs n L [y, d1] = true) (hf2 : frs n L [y, d2] = true)
    (kk : ∀ u v', Tr s u → RSv u v' (dcN q st).2.1 → At N n ((y, .int .i32 (dcN q st).1) :: L) (RdX br v' (dcN q st).2.2 :: H0) C u) :
    Cd Tryd.prog (.seq (.region id0 [⟨some d0, .move (.tmp fx), ty0, p0, a0, none⟩].toArray false) (.cond (.tmp d0)
      (.region id1 [⟨some d1, .call ⟨.value (.func 110), [.tmp tb].toArray, tys⟩, ty1, p1, a1, none⟩, ⟨some y, .assign (.tmp d1), ty2, p2, a2, none⟩].toArray false)
      (.region id2 [⟨some d2, .call ⟨.value (.func 111), [.tmp tb].toArray, tyt⟩, ty3, p3, a3, none⟩, ⟨some y, .assign (.tmp d2), ty4, p4, a4, none⟩].toArray false))) ⟨N, R, X⟩ n L (RdX br v st.2 :: H0) C s := by
  have one : ∀ {f : FuncId} {g : List UInt8 → Int × List UInt8 × Bool} {id d1 : Nat} {tys : Array TypeId} {ty1 ty2 : TypeId} {p1 p2 : String} {a1 a2 : Array Edge}, Enters Tryd.prog f → (∀ u, GxC f g (fun _ r z => r = .int .i32 z) u) → dcN q st = stp g st → frs n L [y, d1] = true → Cd Tryd.prog (.region id [⟨some d1, .call ⟨.value (.func f), [.tmp tb].toArray, tys⟩, ty1, p1, a1, none⟩, ⟨some y, .assign (.tmp d1), ty2, p2, a2, none⟩].toArray false) ⟨N, R, X⟩ n L (RdX br v st.2 :: H0) C s := by
    intro f g id d1 tys ty1 ty2 p1 p2 a1 a2 hent hc he hf1
    obtain ⟨hb', hfr, hne⟩ := frs_get hf1
    simp only [List.pairwise_cons, List.mem_cons, List.not_mem_nil, or_false, forall_eq_or_imp, forall_eq, List.Pairwise.nil, and_true, false_imp_iff, implies_true] at hb' hfr hne
    refine cd_region ?_
    refine ln_callT (i := 0) (vals := [.pointer (some ⟨br, 0, none⟩)]) hent (by simp [evs, ev_t, hb]) rfl (fun u hu hok hav => hc u br v st.2 st.1 (RSv.mv hv hu) hok hav) hb'.2 ?_
    rintro u c _ ht ⟨ux, ⟨rfl, v', rfl, h2⟩, hx⟩
    refine ln_pv (pv_assign lk_eq) hb'.1 ?_
    have := kk u v' ht (by rw [he]; exact RSv.mv h2 hx)
    rw [he] at this
    exact ln_nil (at_sub (sub.cons (.skip hfr.2 .rfl')) this)
  obtain ⟨hb', hfr, hne⟩ := frs_get hf
  simp only [List.mem_cons, List.not_mem_nil, or_false, forall_eq] at hb' hfr
  refine cd_sq ?_
  refine cd_region ?_
  refine ln_pv (pv_move hq) hb' ?_
  refine ln_nil (at_cd ?_)
  exact cd_cond lk_eq (fun h => cd_sub_ (.skip hfr .rfl') (one en_110 gx_CompactArrayLen (by simp only [dcN, h, if_true]) hf1)) (fun h => cd_sub_ (.skip hfr .rfl') (one en_111 gx_ArrayLen (by simp [dcN, h]) hf2))
/-- if !b.Ok() { .. } -/
theorem rl_okU {A : Code} (hb : lk L tb = some (.pointer (some ⟨br, 0, none⟩))) (hf : frs n L [d1, d2] = true) (kA : bad = true → ∀ u, Tr s u → Cd Tryd.prog A ⟨N, R, X⟩ n L (RdX br v true :: H0) C u) (kk : bad = false → ∀ u, Tr s u → At N n L (RdX br v bad :: H0) C u) :
    Cd Tryd.prog (.seq (.region id [⟨some d1, .call ⟨.value (.func 112), [.tmp tb].toArray, tys⟩, ty1, p1, a1, none⟩, ⟨some d2, .unOp .not ty3 (.tmp d1), ty2, p2, a2, none⟩].toArray false) (.cond (.tmp d2) A .skip)) ⟨N, R, X⟩ n L (RdX br v bad :: H0) C s := by
  obtain ⟨hb', hfr, hne⟩ := frs_get hf
  simp only [List.pairwise_cons, List.mem_cons, List.not_mem_nil, or_false, forall_eq_or_imp, forall_eq, List.Pairwise.nil, and_true, false_imp_iff, implies_true] at hb' hfr hne
  refine cd_sq ?_
  refine cd_region ?_
  refine ln_callT (i := 0) (vals := [.pointer (some ⟨br, 0, none⟩)]) en_112 (by simp [evs, ev_t, hb]) rfl (fun u hu hok hav => gx_Ok u br v bad hok hav) hb'.1 ?_
  rintro u c _ ht ⟨ux, ⟨rfl, rfl⟩, hx⟩
  refine ln_pv (pv_not lk_eq) hb'.2 ?_
  refine ln_nil (at_cd ?_)
  refine cd_cond lk_eq (fun h => cd_sub_ (.skip hfr.2 (.skip hfr.1 .rfl')) ?_) (fun h => cd_sub_ (.skip hfr.2 (.skip hfr.1 .rfl')) ?_)
  · have hbd : bad = true := by simpa using h
    have := kA hbd u ht
    rw [← hbd] at this
    exact this
  · exact cd_skip (kk (by simpa using h) u ht)
/-- the loop over the things: each is read in its place -/
theorem rl_loopU {body : Code} {m : Nat} {f : Rst → Tre × Rst} {o : Int} {sb : List Fld} {ez gb cap : Nat} (sN : Rst) (hpos : 0 < m) (hlen : m ≤ 32767) (hzl : zc.length = ez) (hez : (if o = 7 then 16 else if o = 10 then fszs sb + 1 else 1) = ez) (hy3 : lk L y3 = some (.int .i32 (m : Int))) (hv : RSv s v sN.1) (hO : ∀ q, C.O q → q ∈ blks H0) (hf : frs n L [y4, h1, h2, h3, h4, h5] = true)
    (hbody : ∀ (i : Nat) (hi : i < m) (u : Vw) (v : Value) (xs : List Value) (N' : Act → World → Prop) (X' : List (Nat × (Act → World → Prop))), Tr s u → xs.length = i * ez → RSv u v (iterS f i sN).2.1 →
      (∀ u' v' c, Tr u u' → REl u' o sb (f (iterS f i sN).2).1 c → RSv u' v' (f (iterS f i sN).2).2.1 → At N' n ((y4, .int .i32 (i : Int)) :: L) (RdX br v' (f (iterS f i sN).2).2.2 :: .row (.slice (some ⟨gb, 0, none⟩) m cap) et ez m (xs ++ (c ++ (List.replicate (m - (i + 1)) zc).flatten)) :: H0) C u') →
      Cd Tryd.prog body ⟨N', R, X'⟩ n ((y4, .int .i32 (i : Int)) :: L) (RdX br v (iterS f i sN).2.2 :: .row (.slice (some ⟨gb, 0, none⟩) m cap) et ez m (xs ++ (zc ++ (List.replicate (m - (i + 1)) zc).flatten)) :: H0) C u)
    (kk : ∀ u v' xs, Tr s u → RSv u v' (iterS f m sN).2.1 → RS u ez (.slice (some ⟨gb, 0, none⟩) m cap) m xs → (∀ i, i < m → REl u o sb (f (iterS f i sN).2).1 (seg xs i ez)) → At N n L (RdX br v' (iterS f m sN).2.2 :: H0) C u) :
    Cd Tryd.prog (.seq (.region id [⟨some y4, .assign (.const (.int .i32 0)), ty1, p1, a1, none⟩].toArray false) (.block id1 (.loop (.seq (.seq (.region id2 [⟨some h1, .move (.tmp y4), ty2, p2, a2, none⟩, ⟨some h2, .move (.tmp y3), ty3, p3, a3, none⟩, ⟨some h3, .binOp .lss uy1 (.tmp h1) (.tmp h2) uy2, ty4, p4, a4, none⟩].toArray false) (.cond (.tmp h3) .skip (.exit id1)))
      (.seq (.block id3 body) (.region id4 [⟨some h4, .move (.tmp y4), ty5, p5, a5, none⟩, ⟨some h5, .binOp .add uy3 (.tmp h4) (.const (.int .i32 1)) uy4, ty6, p6, a6, none⟩, ⟨some y4, .assign (.tmp h5), ty7, p7, a7, none⟩].toArray false)))))) ⟨N, R, X⟩ n L (RdX br v sN.2 :: .row (.slice (some ⟨gb, 0, none⟩) m cap) et ez m (List.replicate m zc).flatten :: H0) C s := by
  obtain ⟨hb', hfr, hne⟩ := frs_get hf
  simp only [List.pairwise_cons, List.mem_cons, List.not_mem_nil, or_false, forall_eq_or_imp, forall_eq, List.Pairwise.nil, and_true, false_imp_iff, implies_true] at hb' hfr hne
  obtain ⟨f0, f1, f2, f3, f4, f5⟩ := hfr
  obtain ⟨b0, b1, b2, b3, b4, b5⟩ := hb'
  refine cd_sq ?_
  refine cd_region ?_
  refine ln_pv (pv_assign ev_c) b0 ?_
  refine ln_nil (at_cd ?_)
  refine cd_block ?_
  refine cd_loop' (S := Nat × Value × List Value) ⟨fun z => (y4, .int .i32 (z.1 : Int)) :: L, fun z => RdX br z.2.1 (iterS f z.1 sN).2.2 :: .row (.slice (some ⟨gb, 0, none⟩) m cap) et ez m (z.2.2 ++ (List.replicate (m - z.1) zc).flatten) :: H0,
      fun z u => z.1 ≤ m ∧ z.2.2.length = z.1 * ez ∧ RSv u z.2.1 (iterS f z.1 sN).2.1 ∧ ∀ k, k < m → k < z.1 → REl u o sb (f (iterS f k sN).2).1 (seg z.2.2 k ez), fun z => m - z.1⟩ (0, v, [])
    (fun u hu => ⟨Nat.zero_le _, by simp, RSv.mv hv hu, fun k hk h0 => absurd h0 (Nat.not_lt_zero k)⟩) .rfl' (by simp [iterS]) ?_
  rintro ⟨i, v, xs⟩ u hu ⟨hi, hxl, hvz, hEl⟩
  dsimp only at hi hxl hvz hEl ⊢
  refine cd_sq ?_
  refine cd_sq ?_
  refine cd_region ?_
  refine ln_pv (pv_move lk_eq) b1 ?_
  refine ln_pv (pv_move (v := .int .i32 (m : Int)) (by rw [ev_t, lk_ne (lk_fr f1 hy3), lk_ne (lk_fr f0 hy3)]; exact hy3)) b2 ?_
  refine ln_pv (pv_lss (k := .i32) (i := (i : Int)) (j := (m : Int)) (by simp [ev_t, lk_eq, lk_ne, hne]) lk_eq) b3 ?_
  refine ln_nil (at_cd ?_)
  have hs : ∀ u1 u2 u3, sub ((y4, .int .i32 (i : Int)) :: L) ((h3, u3) :: (h2, u2) :: (h1, u1) :: (y4, .int .i32 (i : Int)) :: L) := fun u1 u2 u3 => .put (by simp [lk_eq, lk_ne, hne]) (.skip f3 (.skip f2 (.skip f1 (.skip f0 .rfl'))))
  refine cd_if lk_eq (fun hlt => cd_sub_ (hs _ _ _) ?_) (fun hge => cd_sub_ (hs _ _ _) ?_)
  · have hi' : i < m := by omega
    refine cd_skip (at_cd ?_)
    refine cd_sq ?_
    refine cd_block ?_
    have e1 : m - i = (m - (i + 1)) + 1 := by omega
    rw [e1, rep_step]
    refine hbody i hi' u v xs _ _ hu hxl hvz (fun u' v' c hu' hc hv' => ?_)
    refine at_cd ?_
    refine cd_region ?_
    refine ln_pv (pv_move lk_eq) b4 ?_
    refine ln_pv (pv_add' (k := .i32) (i := (i : Int)) (j := 1) (r := ((i + 1 : Nat) : Int)) lk_eq ev_c (by rw [show (i : Int) + 1 = ((i + 1 : Nat) : Int) by omega, w32 (by omega)])) b5 ?_
    refine ln_pv (pv_assign lk_eq) b0 ?_
    refine ln_nil ?_
    have hcl : c.length = ez := by rw [hc.len.1, hez]
    refine at_rnd' (i + 1, v', xs ++ c) (hu.trans hu') (fun u3 hu3 => ⟨by dsimp only; omega, by dsimp only; rw [List.length_append, hxl, hcl, Nat.succ_mul], by dsimp only; rw [iterS_succ]; exact RSv.mv hv' hu3, fun k hk hki => ?_⟩) (by dsimp only; omega) ?_ ?_
    · dsimp only at hki ⊢
      by_cases hkk : k < i
      · rw [(seg_app hxl hcl).1 hkk]
        exact (hEl k hk hkk).mv (hu'.trans hu3)
      · have hke : k = i := by omega
        subst hke
        rw [(seg_app (j := k) hxl hcl).2]
        exact hc.mv hu3
    · exact .put lk_eq (.skip f0 (.skip f5 (.skip f4 (.skip f0 .rfl'))))
    · dsimp only
      rw [List.append_assoc, iterS_succ]
      exact List.Sublist.refl _
  · have him : m = i := by omega
    subst him
    refine cd_exit (K := N) (by simp [lkx]) ?_
    refine at_sub (.skip f0 .rfl') ?_
    simp only [Nat.sub_self, List.replicate_zero, List.flatten_nil, List.append_nil]
    refine at_perm (List.Perm.swap _ _ _) ?_
    refine at_free1 (fun q hq => by rw [blks_cons]; exact List.mem_append.2 (.inr (hO q hq))) (fun u3 hu3 hK => ?_)
    have hEl3 := fun k (hk : k < m) => (hEl k hk hk).mv hu3
    have hone : ∀ v ∈ xs, v.oneCell' = true := fun v hv => by
      obtain ⟨q, hq, rfl⟩ := List.getElem_of_mem hv
      have hpos : 0 < ez := by
        rw [← hez]
        split
        · omega
        · split <;> omega
      have h1 : q / ez < m := by rw [Nat.div_lt_iff_lt_mul hpos]; rw [← hxl]; exact hq
      refine (hEl3 (q / ez) h1).len.2 _ ?_
      unfold seg
      have h2 : q = q / ez * ez + q % ez := by rw [Nat.mul_comm]; exact (Nat.div_add_mod q ez).symm
      have h3 := Nat.mod_lt q hpos
      have h4 : ((xs.drop (q / ez * ez)).take ez)[q % ez]? = some xs[q] := by
        rw [List.getElem?_take_of_lt h3, List.getElem?_drop, ← h2]
        exact List.getElem?_eq_getElem hq
      exact List.mem_of_getElem? h4
    exact kk u3 v xs (hu.trans hu3) (RSv.mv hvz hu3) (hK.rs hone) hEl3
/-- a list that can't be null -/
theorem st_listU {body : Code} {A : Code} {ka kb nul tag dd of_ : Int} {sb : List Fld} {ez by_ : Nat} {za : Value} (hR : RsU s (.mk 11 ka kb nul tag dd of_ sb :: r) fsd v0 q Y st E v done) (hh : hasB (.mk 11 ka kb nul tag dd of_ sb) v0 = true) (hnul : ¬ nul ≥ 0) (hb : lk L tb = some (.pointer (some ⟨br, 0, none⟩))) (hq : lk L fx = some (.bool q)) (hs : lk L ts = some (.pointer (some ⟨b, po, none⟩))) (hT : Tgt mk b o len) (hl : fszs fsd + (zs.length + 1) = len) (hu : Tryd.prog.underlying T = some (.struct fs)) (hk : fs[k]? = some fd) (hsz : (Tryd.prog.info? fd.type).map (·.size) = some (sz + 1)) (ho : fd.offset = fo)
    (hpo : po + fo = o + fszs fsd) (hsz1 : (Tryd.prog.info? ST).map (·.size) = some 1) (hST : Tryd.prog.underlying ST = some (.slice et)) (hit : Tryd.prog.underlying it = some (.int .i32)) (hti : TI Tryd.prog et za ez by_) (hzc : za.cells = zc.toArray) (hzl : zc.length = ez) (hez : (if of_ = 7 then 16 else if of_ = 10 then fszs sb + 1 else 1) = ez) (hez0 : 0 < ez) (hby : 32767 * by_ ≤ 140737488355328)
    (hO : ∀ q, C.O q → q = b ∨ q ∈ blks H0)
    (hfA : frs n L [y1, d1, d2, d3, d4] = true) (hfB : frs n ((y1, .bool true) :: L) [y2, d5] = true) (hfC : frs n ((y2, .bool true) :: (y1, .bool true) :: L) [y3] = true) (hfD : frs n ((y2, .bool true) :: (y1, .bool true) :: L) [d6] = true) (hfD1 : frs n ((y2, .bool true) :: (y1, .bool true) :: L) [y3, d7] = true) (hfD2 : frs n ((y2, .bool true) :: (y1, .bool true) :: L) [y3, d8] = true)
    (hfE : frs n ((y3, .bool true) :: (y2, .bool true) :: (y1, .bool true) :: L) [e1, e2] = true) (hfF : frs n ((y3, .bool true) :: (y2, .bool true) :: (y1, .bool true) :: L) [e3, e4] = true) (hfG : frs n ((y3, .bool true) :: (y2, .bool true) :: (y1, .bool true) :: L) [g1, g2] = true) (hfG2 : frs n ((y3, .bool true) :: (y2, .bool true) :: (y1, .bool true) :: L) [g3, g4, g5] = true)
    (hfH : frs n ((y3, .bool true) :: (y2, .bool true) :: (y1, .bool true) :: L) [y4, h1, h2, h3, h4, h5] = true) (hfI : frs n ((y3, .bool true) :: (y2, .bool true) :: (y1, .bool true) :: L) [i1] = true) (hfJ : frs n ((y3, .bool true) :: (y2, .bool true) :: (y1, .bool true) :: L) [j1, j2, j3, j4] = true)
    (hA : E.2 = true → ∀ u v' (L' : Env) (N1 : Act → World → Prop), Tr s u → sub L L' → Cd Tryd.prog A ⟨N1, R, X⟩ n L' (RdX br v' true :: mk (done ++ .slice none 0 0 :: zs) :: H0) C u)
    (hbody : ∀ (gb cap m i : Nat) (st1 : Rst) (u : Vw) (v : Value) (xs : List Value) (N' : Act → World → Prop) (X' : List (Nat × (Act → World → Prop))), i < m → m ≤ 32767 → st1.1.length ≤ 32767 → Tr s u → xs.length = i * ez → RSv u v st1.1 → ((dcE of_ sb v0 q st1).2.2 = true → E.2 = true) →
      (∀ u' v' c, Tr u u' → REl u' of_ sb (dcE of_ sb v0 q st1).1 c → RSv u' v' (dcE of_ sb v0 q st1).2.1 → At N' n ((y4, .int .i32 (i : Int)) :: (y2, .slice (some ⟨gb, 0, none⟩) m cap) :: (y3, .int .i32 (m : Int)) :: (y2, .slice none 0 0) :: (y1, .slice none 0 0) :: L) (RdX br v' (dcE of_ sb v0 q st1).2.2 :: .row (.slice (some ⟨gb, 0, none⟩) m cap) et ez m (xs ++ (c ++ (List.replicate (m - (i + 1)) zc).flatten)) :: mk (done ++ .slice none 0 0 :: zs) :: H0) C u') →
      Cd Tryd.prog body ⟨N', R, X'⟩ n ((y4, .int .i32 (i : Int)) :: (y2, .slice (some ⟨gb, 0, none⟩) m cap) :: (y3, .int .i32 (m : Int)) :: (y2, .slice none 0 0) :: (y1, .slice none 0 0) :: L) (RdX br v st1.2 :: .row (.slice (some ⟨gb, 0, none⟩) m cap) et ez m (xs ++ (zc ++ (List.replicate (m - (i + 1)) zc).flatten)) :: mk (done ++ .slice none 0 0 :: zs) :: H0) C u)
    (kk : ∀ u v' st' done', Tr s u → RsU u r (fsd ++ [.mk 11 ka kb nul tag dd of_ sb]) v0 q Y st' E v' done' → At N n L (RdX br v' st'.2 :: mk (done' ++ zs) :: H0) C u) :
    Cd Tryd.prog (.seq (.region ida [⟨some d1, .move (.tmp ts), ty1, p1, a1, none⟩, ⟨some d2, .nilCheck (.tmp d1), ty2, p2, a2, none⟩, ⟨some d3, .fieldAddr T (.tmp d2) k, ty3, p3, a3, none⟩, ⟨some d4, .load ST (.tmp d3), ty4, p4, a4, none⟩, ⟨some y1, .assign (.tmp d4), ty5, p5, a5, none⟩].toArray false)
      (.seq (.region idb [⟨some d5, .move (.tmp y1), ty6, p6, a6, none⟩, ⟨some y2, .assign (.tmp d5), ty7, p7, a7, none⟩].toArray false)
      (.seq (.region idc [⟨some y3, .assign (.const (.int .i32 0)), ty8, p8, a8, none⟩].toArray false)
      (.seq (.seq (.region id0 [⟨some d6, .move (.tmp fx), uy1, q1, c1, none⟩].toArray false) (.cond (.tmp d6)
        (.region id1 [⟨some d7, .call ⟨.value (.func 110), [.tmp tb].toArray, tys⟩, uy2, q2, c2, none⟩, ⟨some y3, .assign (.tmp d7), uy3, q3, c3, none⟩].toArray false)
        (.region id2 [⟨some d8, .call ⟨.value (.func 111), [.tmp tb].toArray, tyt⟩, uy4, q4, c4, none⟩, ⟨some y3, .assign (.tmp d8), uy5, q5, c5, none⟩].toArray false)))
      (.seq (.seq (.region id3 [⟨some e1, .call ⟨.value (.func 112), [.tmp tb].toArray, tyo⟩, uy6, q6, c6, none⟩, ⟨some e2, .unOp .not vy9 (.tmp e1), uy7, q7, c7, none⟩].toArray false) (.cond (.tmp e2) A .skip))
      (.seq (.region id4 [⟨some e3, .move (.tmp y2), vy1, r1, b1, none⟩, ⟨some e4, .slice ST (.tmp e3) none (some (.const (.int .i64 0))) none, vy2, r2, b2, none⟩, ⟨some y2, .assign (.tmp e4), vy3, r3, b3, none⟩].toArray false)
      (.seq (.seq (.region id5 [⟨some g1, .move (.tmp y3), vy4, r4, b4, none⟩, ⟨some g2, .binOp .gtr it (.tmp g1) (.const (.int .i32 0)) vy5, vy6, r5, b5, none⟩].toArray false) (.cond (.tmp g2)
        (.region id6 [⟨some g3, .move (.tmp y2), vy7, r6, b6, none⟩, ⟨some g4, .move (.tmp y3), vy8, r7, b7, none⟩, ⟨some g5, .call ⟨.builtin .append, #[.tmp g3, .tmp g4], #[ST, it]⟩, wy1, r8, b8, none⟩, ⟨some y2, .assign (.tmp g5), wy2, r9, b9, none⟩].toArray false) .skip))
      (.seq (.seq (.region id7 [⟨some y4, .assign (.const (.int .i32 0)), wy3, s1, m1, none⟩].toArray false) (.block idd (.loop (.seq (.seq (.region id8 [⟨some h1, .move (.tmp y4), wy4, s2, m2, none⟩, ⟨some h2, .move (.tmp y3), wy5, s3, m3, none⟩, ⟨some h3, .binOp .lss wy6 (.tmp h1) (.tmp h2) wy7, wy8, s4, m4, none⟩].toArray false) (.cond (.tmp h3) .skip (.exit idd)))
        (.seq (.block ide body) (.region id9 [⟨some h4, .move (.tmp y4), wy9, s5, m5, none⟩, ⟨some h5, .binOp .add xy1 (.tmp h4) (.const (.int .i32 1)) xy2, xy3, s6, m6, none⟩, ⟨some y4, .assign (.tmp h5), xy4, s7, m7, none⟩].toArray false))))))
      (.seq (.region idf [⟨some i1, .move (.tmp y2), xy5, s8, m8, none⟩, ⟨some y1, .assign (.tmp i1), xy6, s9, m9, none⟩].toArray false)
        (.region idg [⟨some j1, .move (.tmp ts), xy7, t1, n1, none⟩, ⟨some j2, .move (.tmp y1), xy8, t2, n2, none⟩, ⟨some j3, .nilCheck (.tmp j1), xy9, t3, n3, none⟩, ⟨some j4, .fieldAddr T (.tmp j3) k, uy8, t4, n4, none⟩, ⟨none, .store ST (.tmp j4) (.tmp j2), ty9, t5, n5, none⟩].toArray false)))))))))) ⟨N, R, X⟩ n L (RdX br v st.2 :: mk (done ++ .slice none 0 0 :: zs) :: H0) C s := by
  obtain ⟨zA, fA, nA⟩ := frs_get hfA
  obtain ⟨zB, fB, nB⟩ := frs_get hfB
  obtain ⟨zC, fC, nC⟩ := frs_get hfC
  simp only [List.mem_cons, List.not_mem_nil, or_false, forall_eq_or_imp, forall_eq] at zA fA zB fB zC fC
  have fy1 : fr y1 L = true := fA.1
  have fy2 : fr y2 L = true ∧ ¬ y1 = y2 := by
    have := fB.1
    simp only [fr, Bool.and_eq_true, Bool.not_eq_true'] at this
    exact ⟨this.2, fun e => by subst e; simp at this⟩
  have fy3 : fr y3 L = true ∧ ¬ y2 = y3 ∧ ¬ y1 = y3 := by
    have := fC
    simp only [fr, Bool.and_eq_true, Bool.not_eq_true'] at this
    exact ⟨this.2.2, fun e => by subst e; simp at this, fun e => by subst e; simp at this⟩
  have l1 : ∀ {t : Nat} {w w1 : Value}, lk L t = some w → lk ((y1, w1) :: L) t = some w := fun h => by rw [lk_ne (lk_fr fy1 h)]; exact h
  have l2 : ∀ {t : Nat} {w w1 w2 : Value}, lk L t = some w → lk ((y2, w2) :: (y1, w1) :: L) t = some w := fun h => by rw [lk_ne (lk_fr fy2.1 h)]; exact l1 h
  have l3 : ∀ {t : Nat} {w w1 w2 w3 : Value}, lk L t = some w → lk ((y3, w3) :: (y2, w2) :: (y1, w1) :: L) t = some w := fun h => by rw [lk_ne (lk_fr fy3.1 h)]; exact l2 h
  have hetS : (Tryd.prog.info? et).isSome = true := by rw [Option.isSome_iff_exists]; exact (Option.map_eq_some_iff.1 hti.size).imp fun _ h => h.1
  have hfH2 : ∀ (w1 w2 w3 : Value), frs n ((y3, w3) :: (y2, w2) :: (y1, w1) :: L) [y4, h1, h2, h3] = true := fun w1 w2 w3 => by
    have hH := hfH
    simp only [frs, fr, Bool.and_eq_true, List.all_cons, List.all_nil] at hH ⊢
    simp_all
  have hput : ∀ (u : Vw) (v' : Value) (w1 w2 w3 : Value) (cc : Value), Tr s u → RSv u v' (dcF (.mk 11 ka kb nul tag dd of_ sb) v0 q st).2.1 → RMf u (.mk 11 ka kb nul tag dd of_ sb) (dcF (.mk 11 ka kb nul tag dd of_ sb) v0 q st).1 [cc] →
      lk ((y3, w3) :: (y2, w2) :: (y1, w1) :: L) y2 = some cc → Cd Tryd.prog (.seq (.region idf [⟨some i1, .move (.tmp y2), xy5, s8, m8, none⟩, ⟨some y1, .assign (.tmp i1), xy6, s9, m9, none⟩].toArray false)
        (.region idg [⟨some j1, .move (.tmp ts), xy7, t1, n1, none⟩, ⟨some j2, .move (.tmp y1), xy8, t2, n2, none⟩, ⟨some j3, .nilCheck (.tmp j1), xy9, t3, n3, none⟩, ⟨some j4, .fieldAddr T (.tmp j3) k, uy8, t4, n4, none⟩, ⟨none, .store ST (.tmp j4) (.tmp j2), ty9, t5, n5, none⟩].toArray false)) ⟨N, R, X⟩ n ((y3, w3) :: (y2, w2) :: (y1, w1) :: L) (RdX br v' (dcF (.mk 11 ka kb nul tag dd of_ sb) v0 q st).2.2 :: mk (done ++ .slice none 0 0 :: zs) :: H0) C u := by
    intro u v' w1 w2 w3 cc ht hv' hm hc
    refine cd_sq (rg_set hc zA.1 hfI (at_cd ?_))
    refine st_putU (c := cc) hR hh ht hv' hm ?_ lk_eq hT hl hu hk hsz ho hpo hsz1 ?_ (fun done' hR' => ?_)
    · rw [lk_ne (lk_fr fy1 hs)]; exact l3 hs
    · obtain ⟨zJ, fJ, nJ⟩ := frs_get hfJ
      have hJ := hfJ
      simp only [frs, fr, Bool.and_eq_true, List.all_cons, List.all_nil] at hJ ⊢
      simp_all
    · exact at_sub (.skip fy1 (.skip fy3.1 (.skip fy2.1 (.skip fy1 .rfl')))) (kk u v' _ done' ht hR')
  have hsb : (dcN q st).2.2 = true → E.2 = true := fun hb => dcL_bad hh hR.fin (by rw [dcF_list]; exact (iterS_sane (dcE_sane _ _ _ _) _ _).1 hb)
  have hsm := hR.sm
  have hfew := dcN_few q st
  have hsN := (dcN_sane q st).2
  refine cd_sq (rl_load hR.len hs hT hl hu hk hsz ho hpo hST hfA (at_cd ?_))
  refine cd_sq (rg_move lk_eq hfB (at_cd ?_))
  refine cd_sq (rg_const hfC (at_cd ?_))
  refine cd_sq (rl_lenU (l2 hb) (l2 hq) hR.hv hfD hfD1 hfD2 (fun u1 v1 ht1 hv1 => at_cd ?_))
  refine cd_sq (rl_okU (l3 hb) hfE (fun hbd u2 ht2 => hA (hsb hbd) u2 v1 _ _ (ht1.trans ht2) (.skip fy3.1 (.skip fy2.1 (.skip fy1 .rfl')))) (fun hbd u2 ht2 => at_cd ?_))
  have hy2 : lk ((y3, Value.int .i32 (dcN q st).1) :: (y2, .slice none 0 0) :: (y1, .slice none 0 0) :: L) y2 = some (.slice none 0 0) := by rw [lk_ne (fun e => fy3.2.1 e.symm), lk_eq]
  refine cd_sq (rl_cut hy2 hST hetS zB.1 hfF (at_cd ?_))
  by_cases hpos : (dcN q st).1 > 0
  · skip
    obtain ⟨m, hm⟩ : ∃ m : Nat, (dcN q st).1 = (m : Int) := ⟨(dcN q st).1.toNat, by omega⟩
    have hm2 : (dcN q st).1.toNat = m := by omega
    have hmp : 0 < m := by omega
    have hlm : m ≤ 32767 := by omega
    refine cd_sq (rl_make hy2 (by rw [lk_eq, hm]) hlm hST hit hti hzc hzl hez0 hby zB.1 hfG hfG2 (fun hm0 => absurd hm0 (by omega)) (fun hmp gb cap => at_cd ?_))
    refine cd_perm (List.Perm.swap _ _ _) ?_
    rw [hm]
    refine cd_sq (rl_loopU (o := of_) (sb := sb) (f := dcE of_ sb v0 q) (dcN q st).2 hmp hlm hzl hez (by rw [lk_ne fy3.2.1, lk_eq]) (RSv.mv hv1 ht2) (hO_push hT hO _) ?_ (fun i hi u v xs N' X' ht hxl hv' kb => hbody gb cap m i _ u v xs N' X' hi hlm (Nat.le_trans (iterS_sane (dcE_sane _ _ _ _) _ _).2 (Nat.le_trans hsN hsm)) (ht1.trans (ht2.trans ht)) hxl hv' (fun hbd => dcL_bad hh hR.fin (by rw [dcF_list, hm2]; exact iterS_bad (dcE_sane _ _ _ _) (show i + 1 ≤ m by omega) _ (by rw [iterS_succ]; exact hbd))) kb) (fun u3 v3 xs ht3 hv3 hRS hEl => at_cd ?_))
    · have hH := hfH
      have hn2 : fr y4 ((y3, Value.bool true) :: (y2, .bool true) :: (y1, .bool true) :: L) = true := (frs_get hfH).2.1 y4 (by simp)
      simp only [frs, fr, Bool.and_eq_true, List.all_cons, List.all_nil] at hH ⊢
      simp_all
    · refine cd_sub_ (L' := (y3, .int .i32 (m : Int)) :: (y2, .slice (some ⟨gb, 0, none⟩) m cap) :: (y1, .slice none 0 0) :: L) ?_ ?_
      · refine .put (by rw [lk_ne fy3.2.1, lk_eq]) (.put lk_eq (.put ?_ ?_))
        · rw [lk_ne (fun e => fy2.2 e.symm), lk_ne (fun e => fy3.2.2 e.symm), lk_ne (fun e => fy2.2 e.symm), lk_eq]
        · exact .skip fy2.1 (.skip fy3.1 (.skip fy2.1 (.skip fy1 .rfl')))
      · have e2 : (dcF (.mk 11 ka kb nul tag dd of_ sb) v0 q st).2 = (iterS (dcE of_ sb v0 q) m (dcN q st).2).2 := by rw [dcF_list, hm2]
        have := hput u3 v3 (.slice none 0 0) (.slice (some ⟨gb, 0, none⟩) m cap) (.int .i32 (m : Int)) (.slice (some ⟨gb, 0, none⟩) m cap) (ht1.trans (ht2.trans ht3)) (by rw [e2]; exact hv3) (rls_ofU hm2 (by rw [if_neg hnul]; omega) hez hRS hEl) (by rw [lk_ne (fun e => fy3.2.1 e.symm), lk_eq])
        rw [e2] at this
        exact this
  · skip
    refine cd_sq (rl_make0 lk_eq hpos hfG (at_cd ?_))
    refine cd_sq (rl_loopN lk_eq (by omega) (hfH2 _ _ _) (fun u3 ht3 => at_cd ?_))
    have := hput u3 v1 (.slice none 0 0) (.slice none 0 0) (.int .i32 (dcN q st).1) (.slice none 0 0) (ht1.trans (ht2.trans ht3)) (by rw [dcF_none hpos]; exact RSv.mv (RSv.mv hv1 ht2) ht3) (rls_nilU (by rw [if_neg hnul]; omega)) hy2
    rw [dcF_none hpos] at this
    exact this

theorem rl_makeG (ad : Option Nat) {m ez by_ : Nat} {za : Value} (hy : lk L y2 = some (.slice (ad.map fun b => ⟨b, 0, none⟩) 0 0)) (hy3 : lk L y3 = some (.int .i32 (m : Int))) (hm : m ≤ 32767) (hST : Tryd.prog.underlying ST = some (.slice et)) (hit : Tryd.prog.underlying it = some (.int .i32)) (hti : TI Tryd.prog et za ez by_) (hzc : za.cells = zc.toArray) (hzl : zc.length = ez) (hez : 0 < ez) (hby : 32767 * by_ ≤ 140737488355328) (hb2 : Nat.blt y2 n = true) (hf : frs n L [g1, g2] = true) (hf2 : frs n L [g3, g4, g5] = true)
    (k0 : m = 0 → At N n L H C s) (k1 : 0 < m → ∀ g cap, At N n ((y2, .slice (some ⟨g, 0, none⟩) m cap) :: L) (.row (.slice (some ⟨g, 0, none⟩) m cap) et ez m (List.replicate m zc).flatten :: H) C s) :
    Cd Tryd.prog (.seq (.region id [⟨some g1, .move (.tmp y3), ty1, p1, a1, none⟩, ⟨some g2, .binOp .gtr it (.tmp g1) (.const (.int .i32 0)) uy1, ty2, p2, a2, none⟩].toArray false) (.cond (.tmp g2)
      (.region id1 [⟨some g3, .move (.tmp y2), ty3, p3, a3, none⟩, ⟨some g4, .move (.tmp y3), ty4, p4, a4, none⟩, ⟨some g5, .call ⟨.builtin .append, #[.tmp g3, .tmp g4], #[ST, it]⟩, ty5, p5, a5, none⟩, ⟨some y2, .assign (.tmp g5), ty6, p6, a6, none⟩].toArray false) .skip)) ⟨N, R, X⟩ n L H C s := by
  obtain ⟨hb', hfr, hne⟩ := frs_get hf
  simp only [List.pairwise_cons, List.mem_cons, List.not_mem_nil, or_false, forall_eq_or_imp, forall_eq, List.Pairwise.nil, and_true, false_imp_iff, implies_true] at hb' hfr hne
  obtain ⟨gb', gfr, gne⟩ := frs_get hf2
  simp only [List.pairwise_cons, List.mem_cons, List.not_mem_nil, or_false, forall_eq_or_imp, forall_eq, List.Pairwise.nil, and_true, false_imp_iff, implies_true] at gb' gfr gne
  refine cd_sq ?_
  refine cd_region ?_
  refine ln_pv (pv_move hy3) hb'.1 ?_
  refine ln_pv (pv_gtr lk_eq ev_c) hb'.2 ?_
  refine ln_nil (at_cd ?_)
  refine cd_if lk_eq (fun h => cd_sub_ (.skip hfr.2 (.skip hfr.1 .rfl')) ?_) (fun h => cd_sub_ (.skip hfr.2 (.skip hfr.1 .rfl')) (cd_skip (k0 (by omega))))
  refine cd_region ?_
  refine ln_pv (pv_move hy) gb'.1 ?_
  refine ln_pv (pv_move (v := .int .i32 (m : Int)) (by rw [ev_t, lk_ne (lk_fr gfr.1 hy3)]; exact hy3)) gb'.2.1 ?_
  refine ln_appendZG ad (m := m) hST hit hti hzc hzl hez (by simp [ev_t, lk_eq, lk_ne, gne]) (by simp [ev_t, lk_eq, lk_ne, gne]) (by omega) hm hby gb'.2.2 (fun g cap => ?_)
  refine ln_pv (pv_assign lk_eq) hb2 ?_
  exact ln_nil (at_sub (sub.cons (.skip gfr.2.2 (.skip gfr.2.1 (.skip gfr.1 .rfl')))) (k1 (by omega) g cap))
theorem rl_nullV {nul r0 : Int} {za : Value} {ez by_ : Nat} (hx : lk L vr = some (.int .i16 v0)) (hy3 : lk L y3 = some (.int .i32 r0)) (hST : Tryd.prog.underlying ST = some (.slice et)) (hti : TI Tryd.prog et za ez by_) (hzs : za.cells.size = ez) (hez0 : 0 < ez) (hb2 : Nat.blt y2 n = true) (hf : frs n L [z1, z2, z3, z4, z5, z6] = true) (hf7 : frs n L [z7] = true)
    (k0 : (v0 < nul ∨ r0 = 0) → ∀ b0, At N n ((y2, .slice (some ⟨b0, 0, none⟩) 0 0) :: L) (.obj b0 (.cells ([] : List Value).toArray et) :: H) C s) (k1 : ¬ v0 < nul → r0 ≠ 0 → At N n L H C s) :
    Cd Tryd.prog (.seq (.region idz [⟨some z1, .move (.tmp vr), zy1, o1, l1, none⟩, ⟨some z2, .binOp .lss zy2 (.tmp z1) (.const (.int .i16 nul)) zy3, zy4, o2, l2, none⟩, ⟨some z3, .move (.tmp z2), zy5, o3, l3, none⟩, ⟨some z4, .move (.tmp y3), zy6, o4, l4, some (2, false)⟩, ⟨some z5, .binOp .eql zy7 (.tmp z4) (.const (.int .i32 0)) zy8, zy9, o5, l5, some (2, false)⟩, ⟨some z6, .pick (.tmp z3) (.const (.bool true)) (.tmp z5), ly1, o6, l6, none⟩].toArray false) (.cond (.tmp z6) (.region idy [⟨some z7, .buildSlice ST 0 ([] : List (Nat × Operand)).toArray, ly2, o7, l7, none⟩, ⟨some y2, .assign (.tmp z7), ly3, o8, l8, none⟩].toArray false) .skip)) ⟨N, R, X⟩ n L H C s := by
  obtain ⟨hb', hfr, hne⟩ := frs_get hf
  simp only [List.pairwise_cons, List.mem_cons, List.not_mem_nil, or_false, forall_eq_or_imp, forall_eq, List.Pairwise.nil, and_true, false_imp_iff, implies_true] at hb' hfr hne
  obtain ⟨f1, f2, f3, f4, f5, f6⟩ := hfr
  obtain ⟨b1, b2, b3, b4, b5, b6⟩ := hb'
  obtain ⟨gb, gf, _⟩ := frs_get hf7
  simp only [List.mem_cons, List.not_mem_nil, or_false, forall_eq] at gb gf
  have hs : ∀ u1 u2 u3 u4 u5 u6, sub L ((z6, u6) :: (z5, u5) :: (z4, u4) :: (z3, u3) :: (z2, u2) :: (z1, u1) :: L) := fun u1 u2 u3 u4 u5 u6 => .skip f6 (.skip f5 (.skip f4 (.skip f3 (.skip f2 (.skip f1 .rfl')))))
  refine cd_sq ?_
  refine cd_region ?_
  refine ln_pv (pv_move hx) b1 ?_
  by_cases hvk : v0 < nul
  · refine ln_pv (pv_tt (pv_lss lk_eq ev_c) hvk) b2 ?_
    refine ln_pv (pv_move lk_eq) b3 ?_
    refine ln_gf rfl rfl lk_eq rfl b4 ?_
    refine ln_gf rfl rfl (by rw [lk_ne (by simp [hne]), lk_eq]) rfl b5 ?_
    refine ln_pv (pv_pick (v := .bool false) (by rw [ev_t, lk_ne (by simp [hne]), lk_ne (by simp [hne]), lk_eq]) (fun _ => ev_c) (fun h => by cases h)) b6 ?_
    refine ln_nil (at_cd ?_)
    refine cd_tt lk_eq (cd_sub_ (hs _ _ _ _ _ _) ?_)
    refine cd_region ?_
    refine ln_lit (vs := []) hST hti hzs hez0 rfl rfl (by simp) rfl rfl gb (fun b0 => ?_)
    refine ln_pv (pv_assign lk_eq) hb2 ?_
    exact ln_nil (at_sub (sub.cons (.skip gf .rfl')) (k0 (.inl hvk) b0))
  refine ln_pv (pv_ff (pv_lss lk_eq ev_c) hvk) b2 ?_
  refine ln_pv (pv_move lk_eq) b3 ?_
  refine ln_gt rfl rfl lk_eq (pv_move (by rw [ev_t, lk_ne (lk_fr f3 hy3), lk_ne (lk_fr f2 hy3), lk_ne (lk_fr f1 hy3)]; exact hy3)) b4 ?_
  refine ln_gt rfl rfl (by rw [lk_ne (by simp [hne]), lk_eq]) (pv_eql lk_eq ev_c) b5 ?_
  refine ln_pv (pv_pick (by rw [ev_t, lk_ne (by simp [hne]), lk_ne (by simp [hne]), lk_eq]) (fun _ => ev_c) (fun _ => lk_eq)) b6 ?_
  refine ln_nil (at_cd ?_)
  refine cd_if lk_eq (fun h => cd_sub_ (hs _ _ _ _ _ _) ?_) (fun h => cd_sub_ (hs _ _ _ _ _ _) (cd_skip (k1 hvk h)))
  refine cd_region ?_
  refine ln_lit (vs := []) hST hti hzs hez0 rfl rfl (by simp) rfl rfl gb (fun b0 => ?_)
  refine ln_pv (pv_assign lk_eq) hb2 ?_
  exact ln_nil (at_sub (sub.cons (.skip gf .rfl')) (k0 (.inr h) b0))
/-- a list that may be null -/
theorem st_listNU {body : Code} {A : Code} {ka kb nul tag dd of_ : Int} {sb : List Fld} {ez by_ : Nat} {za : Value} (hR : RsU s (.mk 11 ka kb nul tag dd of_ sb :: r) fsd v0 q Y st E v done) (hh : hasB (.mk 11 ka kb nul tag dd of_ sb) v0 = true) (hnul : nul ≥ 0) (hx : lk L vr = some (.int .i16 v0)) (hb : lk L tb = some (.pointer (some ⟨br, 0, none⟩))) (hq : lk L fx = some (.bool q)) (hs : lk L ts = some (.pointer (some ⟨b, po, none⟩))) (hT : Tgt mk b o len) (hl : fszs fsd + (zs.length + 1) = len) (hu : Tryd.prog.underlying T = some (.struct fs)) (hk : fs[k]? = some fd) (hsz : (Tryd.prog.info? fd.type).map (·.size) = some (sz + 1)) (ho : fd.offset = fo)
    (hpo : po + fo = o + fszs fsd) (hsz1 : (Tryd.prog.info? ST).map (·.size) = some 1) (hST : Tryd.prog.underlying ST = some (.slice et)) (hit : Tryd.prog.underlying it = some (.int .i32)) (hti : TI Tryd.prog et za ez by_) (hzc : za.cells = zc.toArray) (hzl : zc.length = ez) (hez : (if of_ = 7 then 16 else if of_ = 10 then fszs sb + 1 else 1) = ez) (hez0 : 0 < ez) (hby : 32767 * by_ ≤ 140737488355328)
    (hO : ∀ q, C.O q → q = b ∨ q ∈ blks H0)
    (hfA : frs n L [y1, d1, d2, d3, d4] = true) (hfB : frs n ((y1, .bool true) :: L) [y2, d5] = true) (hfC : frs n ((y2, .bool true) :: (y1, .bool true) :: L) [y3] = true) (hfD : frs n ((y2, .bool true) :: (y1, .bool true) :: L) [d6] = true) (hfD1 : frs n ((y2, .bool true) :: (y1, .bool true) :: L) [y3, d7] = true) (hfD2 : frs n ((y2, .bool true) :: (y1, .bool true) :: L) [y3, d8] = true)
    (hfE : frs n ((y3, .bool true) :: (y2, .bool true) :: (y1, .bool true) :: L) [e1, e2] = true) (hfF : frs n ((y3, .bool true) :: (y2, .bool true) :: (y1, .bool true) :: L) [e3, e4] = true) (hfG : frs n ((y3, .bool true) :: (y2, .bool true) :: (y1, .bool true) :: L) [g1, g2] = true) (hfG2 : frs n ((y3, .bool true) :: (y2, .bool true) :: (y1, .bool true) :: L) [g3, g4, g5] = true)
    (hfH : frs n ((y3, .bool true) :: (y2, .bool true) :: (y1, .bool true) :: L) [y4, h1, h2, h3, h4, h5] = true) (hfI : frs n ((y3, .bool true) :: (y2, .bool true) :: (y1, .bool true) :: L) [i1] = true) (hfJ : frs n ((y3, .bool true) :: (y2, .bool true) :: (y1, .bool true) :: L) [j1, j2, j3, j4] = true)
    (hfZ : frs n ((y3, .bool true) :: (y2, .bool true) :: (y1, .bool true) :: L) [z1, z2, z3, z4, z5, z6] = true) (hfZ7 : frs n ((y3, .bool true) :: (y2, .bool true) :: (y1, .bool true) :: L) [z7] = true)
    (hA : E.2 = true → ∀ u v' (L' : Env) (N1 : Act → World → Prop), Tr s u → sub L L' → Cd Tryd.prog A ⟨N1, R, X⟩ n L' (RdX br v' true :: mk (done ++ .slice none 0 0 :: zs) :: H0) C u)
    (hbody : ∀ (gb cap m i : Nat) (st1 : Rst) (u : Vw) (v : Value) (xs : List Value) (N' : Act → World → Prop) (X' : List (Nat × (Act → World → Prop))), i < m → m ≤ 32767 → st1.1.length ≤ 32767 → Tr s u → xs.length = i * ez → RSv u v st1.1 → ((dcE of_ sb v0 q st1).2.2 = true → E.2 = true) →
      (∀ u' v' c, Tr u u' → REl u' of_ sb (dcE of_ sb v0 q st1).1 c → RSv u' v' (dcE of_ sb v0 q st1).2.1 → At N' n ((y4, .int .i32 (i : Int)) :: (y2, .slice (some ⟨gb, 0, none⟩) m cap) :: (y3, .int .i32 (m : Int)) :: (y2, .slice none 0 0) :: (y1, .slice none 0 0) :: L) (RdX br v' (dcE of_ sb v0 q st1).2.2 :: .row (.slice (some ⟨gb, 0, none⟩) m cap) et ez m (xs ++ (c ++ (List.replicate (m - (i + 1)) zc).flatten)) :: mk (done ++ .slice none 0 0 :: zs) :: H0) C u') →
      Cd Tryd.prog body ⟨N', R, X'⟩ n ((y4, .int .i32 (i : Int)) :: (y2, .slice (some ⟨gb, 0, none⟩) m cap) :: (y3, .int .i32 (m : Int)) :: (y2, .slice none 0 0) :: (y1, .slice none 0 0) :: L) (RdX br v st1.2 :: .row (.slice (some ⟨gb, 0, none⟩) m cap) et ez m (xs ++ (zc ++ (List.replicate (m - (i + 1)) zc).flatten)) :: mk (done ++ .slice none 0 0 :: zs) :: H0) C u)
    (kk : ∀ u v' st' done', Tr s u → RsU u r (fsd ++ [.mk 11 ka kb nul tag dd of_ sb]) v0 q Y st' E v' done' → At N n L (RdX br v' st'.2 :: mk (done' ++ zs) :: H0) C u) :
    Cd Tryd.prog (.seq (.region ida [⟨some d1, .move (.tmp ts), ty1, p1, a1, none⟩, ⟨some d2, .nilCheck (.tmp d1), ty2, p2, a2, none⟩, ⟨some d3, .fieldAddr T (.tmp d2) k, ty3, p3, a3, none⟩, ⟨some d4, .load ST (.tmp d3), ty4, p4, a4, none⟩, ⟨some y1, .assign (.tmp d4), ty5, p5, a5, none⟩].toArray false)
      (.seq (.region idb [⟨some d5, .move (.tmp y1), ty6, p6, a6, none⟩, ⟨some y2, .assign (.tmp d5), ty7, p7, a7, none⟩].toArray false)
      (.seq (.region idc [⟨some y3, .assign (.const (.int .i32 0)), ty8, p8, a8, none⟩].toArray false)
      (.seq (.seq (.region id0 [⟨some d6, .move (.tmp fx), uy1, q1, c1, none⟩].toArray false) (.cond (.tmp d6)
        (.region id1 [⟨some d7, .call ⟨.value (.func 110), [.tmp tb].toArray, tys⟩, uy2, q2, c2, none⟩, ⟨some y3, .assign (.tmp d7), uy3, q3, c3, none⟩].toArray false)
        (.region id2 [⟨some d8, .call ⟨.value (.func 111), [.tmp tb].toArray, tyt⟩, uy4, q4, c4, none⟩, ⟨some y3, .assign (.tmp d8), uy5, q5, c5, none⟩].toArray false)))
      (.seq (.seq (.region idz [⟨some z1, .move (.tmp vr), zy1, o1, l1, none⟩, ⟨some z2, .binOp .lss zy2 (.tmp z1) (.const (.int .i16 nul)) zy3, zy4, o2, l2, none⟩, ⟨some z3, .move (.tmp z2), zy5, o3, l3, none⟩, ⟨some z4, .move (.tmp y3), zy6, o4, l4, some (2, false)⟩, ⟨some z5, .binOp .eql zy7 (.tmp z4) (.const (.int .i32 0)) zy8, zy9, o5, l5, some (2, false)⟩, ⟨some z6, .pick (.tmp z3) (.const (.bool true)) (.tmp z5), ly1, o6, l6, none⟩].toArray false) (.cond (.tmp z6) (.region idy [⟨some z7, .buildSlice ST 0 ([] : List (Nat × Operand)).toArray, ly2, o7, l7, none⟩, ⟨some y2, .assign (.tmp z7), ly3, o8, l8, none⟩].toArray false) .skip))
      (.seq (.seq (.region id3 [⟨some e1, .call ⟨.value (.func 112), [.tmp tb].toArray, tyo⟩, uy6, q6, c6, none⟩, ⟨some e2, .unOp .not vy9 (.tmp e1), uy7, q7, c7, none⟩].toArray false) (.cond (.tmp e2) A .skip))
      (.seq (.region id4 [⟨some e3, .move (.tmp y2), vy1, r1, b1, none⟩, ⟨some e4, .slice ST (.tmp e3) none (some (.const (.int .i64 0))) none, vy2, r2, b2, none⟩, ⟨some y2, .assign (.tmp e4), vy3, r3, b3, none⟩].toArray false)
      (.seq (.seq (.region id5 [⟨some g1, .move (.tmp y3), vy4, r4, b4, none⟩, ⟨some g2, .binOp .gtr it (.tmp g1) (.const (.int .i32 0)) vy5, vy6, r5, b5, none⟩].toArray false) (.cond (.tmp g2)
        (.region id6 [⟨some g3, .move (.tmp y2), vy7, r6, b6, none⟩, ⟨some g4, .move (.tmp y3), vy8, r7, b7, none⟩, ⟨some g5, .call ⟨.builtin .append, #[.tmp g3, .tmp g4], #[ST, it]⟩, wy1, r8, b8, none⟩, ⟨some y2, .assign (.tmp g5), wy2, r9, b9, none⟩].toArray false) .skip))
      (.seq (.seq (.region id7 [⟨some y4, .assign (.const (.int .i32 0)), wy3, s1, m1, none⟩].toArray false) (.block idd (.loop (.seq (.seq (.region id8 [⟨some h1, .move (.tmp y4), wy4, s2, m2, none⟩, ⟨some h2, .move (.tmp y3), wy5, s3, m3, none⟩, ⟨some h3, .binOp .lss wy6 (.tmp h1) (.tmp h2) wy7, wy8, s4, m4, none⟩].toArray false) (.cond (.tmp h3) .skip (.exit idd)))
        (.seq (.block ide body) (.region id9 [⟨some h4, .move (.tmp y4), wy9, s5, m5, none⟩, ⟨some h5, .binOp .add xy1 (.tmp h4) (.const (.int .i32 1)) xy2, xy3, s6, m6, none⟩, ⟨some y4, .assign (.tmp h5), xy4, s7, m7, none⟩].toArray false))))))
      (.seq (.region idf [⟨some i1, .move (.tmp y2), xy5, s8, m8, none⟩, ⟨some y1, .assign (.tmp i1), xy6, s9, m9, none⟩].toArray false)
        (.region idg [⟨some j1, .move (.tmp ts), xy7, t1, n1, none⟩, ⟨some j2, .move (.tmp y1), xy8, t2, n2, none⟩, ⟨some j3, .nilCheck (.tmp j1), xy9, t3, n3, none⟩, ⟨some j4, .fieldAddr T (.tmp j3) k, uy8, t4, n4, none⟩, ⟨none, .store ST (.tmp j4) (.tmp j2), ty9, t5, n5, none⟩].toArray false))))))))))) ⟨N, R, X⟩ n L (RdX br v st.2 :: mk (done ++ .slice none 0 0 :: zs) :: H0) C s := by
  obtain ⟨zA, fA, nA⟩ := frs_get hfA
  obtain ⟨zB, fB, nB⟩ := frs_get hfB
  obtain ⟨zC, fC, nC⟩ := frs_get hfC
  simp only [List.mem_cons, List.not_mem_nil, or_false, forall_eq_or_imp, forall_eq] at zA fA zB fB zC fC
  have fy1 : fr y1 L = true := fA.1
  have fy2 : fr y2 L = true ∧ ¬ y1 = y2 := by
    have := fB.1
    simp only [fr, Bool.and_eq_true, Bool.not_eq_true'] at this
    exact ⟨this.2, fun e => by subst e; simp at this⟩
  have fy3 : fr y3 L = true ∧ ¬ y2 = y3 ∧ ¬ y1 = y3 := by
    have := fC
    simp only [fr, Bool.and_eq_true, Bool.not_eq_true'] at this
    exact ⟨this.2.2, fun e => by subst e; simp at this, fun e => by subst e; simp at this⟩
  have l1 : ∀ {t : Nat} {w w1 : Value}, lk L t = some w → lk ((y1, w1) :: L) t = some w := fun h => by rw [lk_ne (lk_fr fy1 h)]; exact h
  have l2 : ∀ {t : Nat} {w w1 w2 : Value}, lk L t = some w → lk ((y2, w2) :: (y1, w1) :: L) t = some w := fun h => by rw [lk_ne (lk_fr fy2.1 h)]; exact l1 h
  have l3 : ∀ {t : Nat} {w w1 w2 w3 : Value}, lk L t = some w → lk ((y3, w3) :: (y2, w2) :: (y1, w1) :: L) t = some w := fun h => by rw [lk_ne (lk_fr fy3.1 h)]; exact l2 h
  have hetS : (Tryd.prog.info? et).isSome = true := by rw [Option.isSome_iff_exists]; exact (Option.map_eq_some_iff.1 hti.size).imp fun _ h => h.1
  have hzs : za.cells.size = ez := by rw [hzc]; simpa using hzl
  have hfH2 : ∀ (w1 w2 w3 : Value), frs n ((y3, w3) :: (y2, w2) :: (y1, w1) :: L) [y4, h1, h2, h3] = true := fun w1 w2 w3 => by
    have hH := hfH
    simp only [frs, fr, Bool.and_eq_true, List.all_cons, List.all_nil] at hH ⊢
    simp_all
  have hput : ∀ (u : Vw) (v' : Value) (w1 w2 w3 : Value) (cc : Value), Tr s u → RSv u v' (dcF (.mk 11 ka kb nul tag dd of_ sb) v0 q st).2.1 → RMf u (.mk 11 ka kb nul tag dd of_ sb) (dcF (.mk 11 ka kb nul tag dd of_ sb) v0 q st).1 [cc] →
      lk ((y3, w3) :: (y2, w2) :: (y1, w1) :: L) y2 = some cc → Cd Tryd.prog (.seq (.region idf [⟨some i1, .move (.tmp y2), xy5, s8, m8, none⟩, ⟨some y1, .assign (.tmp i1), xy6, s9, m9, none⟩].toArray false)
        (.region idg [⟨some j1, .move (.tmp ts), xy7, t1, n1, none⟩, ⟨some j2, .move (.tmp y1), xy8, t2, n2, none⟩, ⟨some j3, .nilCheck (.tmp j1), xy9, t3, n3, none⟩, ⟨some j4, .fieldAddr T (.tmp j3) k, uy8, t4, n4, none⟩, ⟨none, .store ST (.tmp j4) (.tmp j2), ty9, t5, n5, none⟩].toArray false)) ⟨N, R, X⟩ n ((y3, w3) :: (y2, w2) :: (y1, w1) :: L) (RdX br v' (dcF (.mk 11 ka kb nul tag dd of_ sb) v0 q st).2.2 :: mk (done ++ .slice none 0 0 :: zs) :: H0) C u := by
    intro u v' w1 w2 w3 cc ht hv' hm hc
    refine cd_sq (rg_set hc zA.1 hfI (at_cd ?_))
    refine st_putU (c := cc) hR hh ht hv' hm ?_ lk_eq hT hl hu hk hsz ho hpo hsz1 ?_ (fun done' hR' => ?_)
    · rw [lk_ne (lk_fr fy1 hs)]; exact l3 hs
    · obtain ⟨zJ, fJ, nJ⟩ := frs_get hfJ
      have hJ := hfJ
      simp only [frs, fr, Bool.and_eq_true, List.all_cons, List.all_nil] at hJ ⊢
      simp_all
    · exact at_sub (.skip fy1 (.skip fy3.1 (.skip fy2.1 (.skip fy1 .rfl')))) (kk u v' _ done' ht hR')
  have hsb : (dcN q st).2.2 = true → E.2 = true := fun hb => dcL_bad hh hR.fin (by rw [dcF_list]; exact (iterS_sane (dcE_sane _ _ _ _) _ _).1 hb)
  have hsm := hR.sm
  have hfew := dcN_few q st
  have hsN := (dcN_sane q st).2
  refine cd_sq (rl_load hR.len hs hT hl hu hk hsz ho hpo hST hfA (at_cd ?_))
  refine cd_sq (rg_move lk_eq hfB (at_cd ?_))
  refine cd_sq (rg_const hfC (at_cd ?_))
  refine cd_sq (rl_lenU (l2 hb) (l2 hq) hR.hv hfD hfD1 hfD2 (fun u1 v1 ht1 hv1 => at_cd ?_))
  have tail : ∀ (ad : Option Nat) (u1 : Vw) (v1 : Value), Tr s u1 → RSv u1 v1 (dcN q st).2.1 → (ad = none → ¬ v0 < nul ∧ (dcN q st).1 ≠ 0) → (ad ≠ none → v0 < nul ∨ (dcN q st).1 = 0) →
      Cd Tryd.prog (.seq (.seq (.region id3 [⟨some e1, .call ⟨.value (.func 112), [.tmp tb].toArray, tyo⟩, uy6, q6, c6, none⟩, ⟨some e2, .unOp .not vy9 (.tmp e1), uy7, q7, c7, none⟩].toArray false) (.cond (.tmp e2) A .skip)) (.seq (.region id4 [⟨some e3, .move (.tmp y2), vy1, r1, b1, none⟩, ⟨some e4, .slice ST (.tmp e3) none (some (.const (.int .i64 0))) none, vy2, r2, b2, none⟩, ⟨some y2, .assign (.tmp e4), vy3, r3, b3, none⟩].toArray false)
      (.seq (.seq (.region id5 [⟨some g1, .move (.tmp y3), vy4, r4, b4, none⟩, ⟨some g2, .binOp .gtr it (.tmp g1) (.const (.int .i32 0)) vy5, vy6, r5, b5, none⟩].toArray false) (.cond (.tmp g2)
        (.region id6 [⟨some g3, .move (.tmp y2), vy7, r6, b6, none⟩, ⟨some g4, .move (.tmp y3), vy8, r7, b7, none⟩, ⟨some g5, .call ⟨.builtin .append, #[.tmp g3, .tmp g4], #[ST, it]⟩, wy1, r8, b8, none⟩, ⟨some y2, .assign (.tmp g5), wy2, r9, b9, none⟩].toArray false) .skip))
      (.seq (.seq (.region id7 [⟨some y4, .assign (.const (.int .i32 0)), wy3, s1, m1, none⟩].toArray false) (.block idd (.loop (.seq (.seq (.region id8 [⟨some h1, .move (.tmp y4), wy4, s2, m2, none⟩, ⟨some h2, .move (.tmp y3), wy5, s3, m3, none⟩, ⟨some h3, .binOp .lss wy6 (.tmp h1) (.tmp h2) wy7, wy8, s4, m4, none⟩].toArray false) (.cond (.tmp h3) .skip (.exit idd)))
        (.seq (.block ide body) (.region id9 [⟨some h4, .move (.tmp y4), wy9, s5, m5, none⟩, ⟨some h5, .binOp .add xy1 (.tmp h4) (.const (.int .i32 1)) xy2, xy3, s6, m6, none⟩, ⟨some y4, .assign (.tmp h5), xy4, s7, m7, none⟩].toArray false))))))
      (.seq (.region idf [⟨some i1, .move (.tmp y2), xy5, s8, m8, none⟩, ⟨some y1, .assign (.tmp i1), xy6, s9, m9, none⟩].toArray false)
        (.region idg [⟨some j1, .move (.tmp ts), xy7, t1, n1, none⟩, ⟨some j2, .move (.tmp y1), xy8, t2, n2, none⟩, ⟨some j3, .nilCheck (.tmp j1), xy9, t3, n3, none⟩, ⟨some j4, .fieldAddr T (.tmp j3) k, uy8, t4, n4, none⟩, ⟨none, .store ST (.tmp j4) (.tmp j2), ty9, t5, n5, none⟩].toArray false)))))) ⟨N, R, X⟩ n ((y3, .int .i32 (dcN q st).1) :: (y2, .slice (ad.map fun b => ⟨b, 0, none⟩) 0 0) :: (y1, .slice none 0 0) :: L) (RdX br v1 (dcN q st).2.2 :: mk (done ++ .slice none 0 0 :: zs) :: H0) C u1 := by
    intro ad u1 v1 ht1 hv1 hn0 hn1
    refine cd_sq (rl_okU (l3 hb) hfE (fun hbd u2 ht2 => hA (hsb hbd) u2 v1 _ _ (ht1.trans ht2) (.skip fy3.1 (.skip fy2.1 (.skip fy1 .rfl')))) (fun hbd u2 ht2 => at_cd ?_))
    have hy2 : lk ((y3, Value.int .i32 (dcN q st).1) :: (y2, .slice (ad.map fun b => ⟨b, 0, none⟩) 0 0) :: (y1, .slice none 0 0) :: L) y2 = some (.slice (ad.map fun b => ⟨b, 0, none⟩) 0 0) := by rw [lk_ne (fun e => fy3.2.1 e.symm), lk_eq]
    refine cd_sq (rl_cutN hy2 hST hetS zB.1 hfF (at_cd ?_))
    by_cases hpos : (dcN q st).1 > 0
    · skip
      obtain ⟨m, hm⟩ : ∃ m : Nat, (dcN q st).1 = (m : Int) := ⟨(dcN q st).1.toNat, by omega⟩
      have hm2 : (dcN q st).1.toNat = m := by omega
      have hmp : 0 < m := by omega
      have hlm : m ≤ 32767 := by omega
      refine cd_sq (rl_makeG ad hy2 (by rw [lk_eq, hm]) hlm hST hit hti hzc hzl hez0 hby zB.1 hfG hfG2 (fun hm0 => absurd hm0 (by omega)) (fun hmp gb cap => at_cd ?_))
      refine cd_perm (List.Perm.swap _ _ _) ?_
      rw [hm]
      refine cd_sub_ (L' := (y2, .slice (some ⟨gb, 0, none⟩) m cap) :: (y3, .int .i32 (m : Int)) :: (y2, .slice none 0 0) :: (y1, .slice none 0 0) :: L) ?_ ?_
      · intro t w hw
        by_cases e : y2 = t
        · subst e; rw [lk_eq] at hw ⊢; exact hw
        · rw [lk_ne e] at hw ⊢
          by_cases e3 : y3 = t
          · subst e3; rw [lk_eq] at hw ⊢; exact hw
          · rw [lk_ne e3, lk_ne e] at hw ⊢; exact hw
      refine cd_sq (rl_loopU (o := of_) (sb := sb) (f := dcE of_ sb v0 q) (dcN q st).2 hmp hlm hzl hez (by rw [lk_ne fy3.2.1, lk_eq]) (RSv.mv hv1 ht2) (hO_push hT hO _) ?_ (fun i hi u v xs N' X' ht hxl hv' kb => hbody gb cap m i _ u v xs N' X' hi hlm (Nat.le_trans (iterS_sane (dcE_sane _ _ _ _) _ _).2 (Nat.le_trans hsN hsm)) (ht1.trans (ht2.trans ht)) hxl hv' (fun hbd => dcL_bad hh hR.fin (by rw [dcF_list, hm2]; exact iterS_bad (dcE_sane _ _ _ _) (show i + 1 ≤ m by omega) _ (by rw [iterS_succ]; exact hbd))) kb) (fun u3 v3 xs ht3 hv3 hRS hEl => at_cd ?_))
      · have hH := hfH
        have hn2 : fr y4 ((y3, Value.bool true) :: (y2, .bool true) :: (y1, .bool true) :: L) = true := (frs_get hfH).2.1 y4 (by simp)
        simp only [frs, fr, Bool.and_eq_true, List.all_cons, List.all_nil] at hH ⊢
        simp_all
      · refine cd_sub_ (L' := (y3, .int .i32 (m : Int)) :: (y2, .slice (some ⟨gb, 0, none⟩) m cap) :: (y1, .slice none 0 0) :: L) ?_ ?_
        · refine .put (by rw [lk_ne fy3.2.1, lk_eq]) (.put lk_eq (.put ?_ ?_))
          · rw [lk_ne (fun e => fy2.2 e.symm), lk_ne (fun e => fy3.2.2 e.symm), lk_ne (fun e => fy2.2 e.symm), lk_eq]
          · exact .skip fy2.1 (.skip fy3.1 (.skip fy2.1 (.skip fy1 .rfl')))
        · have e2 : (dcF (.mk 11 ka kb nul tag dd of_ sb) v0 q st).2 = (iterS (dcE of_ sb v0 q) m (dcN q st).2).2 := by rw [dcF_list, hm2]
          have := hput u3 v3 (.slice none 0 0) (.slice (some ⟨gb, 0, none⟩) m cap) (.int .i32 (m : Int)) (.slice (some ⟨gb, 0, none⟩) m cap) (ht1.trans (ht2.trans ht3)) (by rw [e2]; exact hv3) (rls_ofU hm2 (by rw [if_pos hnul]; omega) hez hRS hEl) (by rw [lk_ne (fun e => fy3.2.1 e.symm), lk_eq])
          rw [e2] at this
          exact this
    · skip
      refine cd_sq (rl_make0 lk_eq hpos hfG (at_cd ?_))
      refine cd_sq (rl_loopN lk_eq (by omega) (hfH2 _ _ _) (fun u3 ht3 => at_cd ?_))
      have := hput u3 v1 (.slice none 0 0) (.slice (ad.map fun b => ⟨b, 0, none⟩) 0 0) (.int .i32 (dcN q st).1) (.slice (ad.map fun b => ⟨b, 0, none⟩) 0 0) (ht1.trans (ht2.trans ht3)) (by rw [dcF_none hpos]; exact RSv.mv (RSv.mv hv1 ht2) ht3) (by
        cases ad with
        | none =>
          obtain ⟨g1, g2⟩ := hn0 rfl
          exact rls_nilU (by rw [if_pos hnul]; exact ⟨by omega, g1⟩)
        | some b0 =>
          have g1 := hn1 (by simp)
          exact rls_ofU (m := 0) (xs := []) (by omega) (by rw [if_pos hnul]; omega) hez ⟨by simp, by simp, .inr ⟨_, _, rfl, Nat.le_refl _, fun hne => absurd rfl hne⟩⟩ (fun i hi => absurd hi (by omega))) hy2
      rw [dcF_none hpos] at this
      exact this
  refine cd_sq (rl_nullV (l3 hx) lk_eq hST hti hzs hez0 zB.1 hfZ hfZ7 (fun h b0 => at_cd ?_) (fun g1 g2 => at_cd (tail none u1 v1 ht1 hv1 (fun _ => ⟨g1, g2⟩) (fun h => absurd rfl h))))
  refine cd_dropH (H' := RdX br v1 (dcN q st).2.2 :: mk (done ++ .slice none 0 0 :: zs) :: H0) (.cons _ (List.Sublist.refl _)) ?_
  refine cd_sub_ (L' := (y3, .int .i32 (dcN q st).1) :: (y2, .slice (some ⟨b0, 0, none⟩) 0 0) :: (y1, .slice none 0 0) :: L) ?_ (tail (some b0) u1 v1 ht1 hv1 (fun h => by cases h) (fun _ => h))
  refine .put (by rw [lk_ne fy3.2.1, lk_eq]) (.put lk_eq (.put ?_ ?_))
  · rw [lk_ne (fun e => fy2.2 e.symm), lk_ne (fun e => fy3.2.2 e.symm), lk_ne (fun e => fy2.2 e.symm), lk_eq]
  · exact .skip fy2.1 (.skip fy3.1 (.skip fy2.1 (.skip fy1 .rfl')))
/-- a function that reads a thing of one cell -/
def Ex (f : FuncId) (of_ : Int) (sb : List Fld) (v0 : Int) (q : Bool) (st : Rst) : Prop := ∀ (u : Vw) (b : Nat) (v : Value), RSv u v st.1 → (RdX b v st.2).ok u.w → (∀ y ∈ (RdX b v st.2).blk, u.av y) →
  CT Tryd.prog f [.pointer (some ⟨b, 0, none⟩)] u (RdX b v st.2) fun w r e' => REl w of_ sb (dcE of_ sb v0 q st).1 [r] ∧ ∃ v', e' = RdX b v' (dcE of_ sb v0 q st).2.2 ∧ RSv w v' (dcE of_ sb v0 q st).2.1
theorem Ex.of {α : Type} {f : FuncId} {of_ : Int} {sb : List Fld} {v0 : Int} {q : Bool} {st : Rst} {g : List UInt8 → α × List UInt8 × Bool} {Rr : Vw → Value → α → Prop} (h : ∀ t, GxC f g Rr t) (e : (dcE of_ sb v0 q st).2 = (stp g st).2) (hm : ∀ w r, Rr w r (g st.1).1 → REl w of_ sb (dcE of_ sb v0 q st).1 [r]) : Ex f of_ sb v0 q st := fun u b v hv hok hav =>
  CT.mono (h u b v st.2 st.1 hv hok hav) fun w r e' ⟨h1, v', h2, h3⟩ => ⟨hm w r h1, v', by rw [h2, e]; rfl, by rw [e]; exact h3⟩
theorem rg_callE {of_ : Int} {sb : List Fld} (hb : lk L tb = some (.pointer (some ⟨br, 0, none⟩))) (hent : Enters Tryd.prog f) (hc : Ex f of_ sb v0 q st) (hv : RSv s v st.1) (hf : frs n L [y, d1] = true)
    (kk : ∀ u v' c, Tr s u → REl u of_ sb (dcE of_ sb v0 q st).1 [c] → RSv u v' (dcE of_ sb v0 q st).2.1 → At N n ((y, c) :: L) (RdX br v' (dcE of_ sb v0 q st).2.2 :: H0) C u) :
    Cd Tryd.prog (.region id [⟨some d1, .call ⟨.value (.func f), [.tmp tb].toArray, tys⟩, ty1, p1, a1, none⟩, ⟨some y, .assign (.tmp d1), ty2, p2, a2, none⟩].toArray false) ⟨N, R, X⟩ n L (RdX br v st.2 :: H0) C s := by
  obtain ⟨hb', hfr, hne⟩ := frs_get hf
  simp only [List.pairwise_cons, List.mem_cons, List.not_mem_nil, or_false, forall_eq_or_imp, forall_eq, List.Pairwise.nil, and_true, false_imp_iff, implies_true] at hb' hfr hne
  refine cd_region ?_
  refine ln_callT (i := 0) (vals := [.pointer (some ⟨br, 0, none⟩)]) hent (by simp [evs, ev_t, hb]) rfl (fun u hu hok hav => hc u br v (RSv.mv hv hu) hok hav) hb'.2 ?_
  rintro u c _ ht ⟨ux, ⟨h1, v', rfl, h2⟩, hx⟩
  refine ln_pv (pv_assign lk_eq) hb'.1 ?_
  exact ln_nil (at_sub (sub.cons (.skip hfr.2 .rfl')) (kk u v' c ht (h1.mv hx) (RSv.mv h2 hx)))
theorem st_elemU {m i cap gb ez : Nat} {of_ : Int} {sb : List Fld} {xs rp : List Value} (hb : lk L tb = some (.pointer (some ⟨br, 0, none⟩))) (hent : Enters Tryd.prog f) (hc : Ex f of_ sb v0 q st) (hv : RSv s v st.1) (hy2 : lk L y2 = some (.slice (some ⟨gb, 0, none⟩) m cap)) (hy4 : lk L y4 = some (.int .i32 (i : Int))) (hi : i < m) (hxl : xs.length = i * 1) (hrl : rp.length = (m - (i + 1)) * 1) (hST : Tryd.prog.underlying ST = some (.slice et)) (hes : (Tryd.prog.info? et).map (·.size) = some 1) (hf1 : frs n L [y, d5] = true) (hf : frs n ((y, .bool true) :: L) [d1, d2, d3, d4] = true)
    (kk : ∀ u v' c, Tr s u → REl u of_ sb (dcE of_ sb v0 q st).1 c → RSv u v' (dcE of_ sb v0 q st).2.1 → At N n L (RdX br v' (dcE of_ sb v0 q st).2.2 :: .row (.slice (some ⟨gb, 0, none⟩) m cap) et 1 m (xs ++ (c ++ rp)) :: H0) C u) :
    Cd Tryd.prog (.seq (.region id0 [⟨some d5, .call ⟨.value (.func f), [.tmp tb].toArray, tys⟩, ty6, p6, a6, none⟩, ⟨some y, .assign (.tmp d5), ty7, p7, a7, none⟩].toArray false)
      (.region id [⟨some d1, .move (.tmp y2), ty1, p1, a1, none⟩, ⟨some d2, .move (.tmp y4), ty2, p2, a2, none⟩, ⟨some d3, .move (.tmp y), ty3, p3, a3, none⟩, ⟨some d4, .indexAddr ST (.tmp d1) (.tmp d2), ty4, p4, a4, none⟩, ⟨none, .store et (.tmp d4) (.tmp d3), ty5, p5, a5, none⟩].toArray false)) ⟨N, R, X⟩ n L (RdX br v st.2 :: .row (.slice (some ⟨gb, 0, none⟩) m cap) et 1 m (xs ++ ([z] ++ rp)) :: H0) C s := by
  refine cd_sq (rg_callE hb hent hc hv hf1 (fun u v' c hu hE hv' => at_cd ?_))
  exact el_put (hE.len.2 c (by simp)) hy2 hy4 hi hxl hrl hST hes ((frs_get hf1).2.1 y (by simp)) hf (kk u v' [c] hu hE hv')
end
end K
end Go.Proofs.YtjjfpdofkdolnaaDoor
namespace Go.Proofs.YtjjfpdofkdolnaaDoor
namespace K
open Go Go.Lib
/-! ### Unknown tags out of any octets: a key may come again -/
def setM (k : Nat) (v : Value) : List (Nat × Value) → List (Nat × Value)
  | [] => [(k, v)]
  | (k', v') :: r => if k' = k then (k, v) :: r else (k', v') :: setM k v r
theorem setM_new {k : Nat} {v : Value} : ∀ {l : List (Nat × Value)}, (∀ x ∈ l, x.1 ≠ k) → setM k v l = l ++ [(k, v)]
  | [], _ => rfl
  | (k', v') :: r, h => by
    have h1 : ¬ k' = k := h (k', v') (by simp)
    rw [setM, if_neg h1, setM_new (fun x hx => h x (by simp [hx]))]
    rfl
theorem setM_old {k : Nat} {v : Value} : ∀ {l : List (Nat × Value)} {j : Nat} (hj : j < l.length), (l.map (·.1)).Nodup → l[j].1 = k → setM k v l = l.set j (k, v)
  | [], j, hj, _, _ => absurd hj (Nat.not_lt_zero j)
  | (k', v') :: r, 0, hj, _, h => by
    have h1 : k' = k := h
    rw [setM, if_pos h1]
    rfl
  | (k', v') :: r, j + 1, hj, hn, h => by
    have hj' : j < r.length := by simpa using hj
    have hk : r[j].1 = k := h
    have h1 : ¬ k' = k := fun e => by
      subst e
      simp only [List.map_cons, List.nodup_cons] at hn
      exact hn.1 (List.mem_map.2 ⟨r[j], List.getElem_mem hj', hk⟩)
    simp only [List.map_cons, List.nodup_cons] at hn
    rw [setM, if_neg h1, setM_old hj' hn.2 hk]
    rfl
theorem RK.set {s : Vw} {k : Nat} {v : Value} {b : List UInt8} (hb : RSv s v b) : ∀ {l : List (Nat × Value)} {u : Tags}, RK s l u → RK s (setM k v l) (setU k b u)
  | [], u, h => by
    simp only [RK] at h
    subst h
    exact ⟨b, [], rfl, hb, rfl⟩
  | (k', v') :: r, u, ⟨b', r', h1, h2, h3⟩ => by
    subst h1
    rw [setM, setU]
    by_cases h : k' = k
    · rw [if_pos h, if_pos h]
      exact ⟨b, r', rfl, hb, h3⟩
    · rw [if_neg h, if_neg h]
      exact ⟨b', _, rfl, h2, RK.set hb h3⟩
theorem setU_keys {k : Nat} {b : List UInt8} : ∀ {u : Tags}, (∀ y, y ∈ (setU k b u).map (·.1) ↔ y = k ∨ y ∈ u.map (·.1)) ∧ ((u.map (·.1)).Nodup → ((setU k b u).map (·.1)).Nodup)
  | [] => by simp [setU]
  | (k', b') :: r => by
    have ih := setU_keys (k := k) (b := b) (u := r)
    rw [setU]
    by_cases h : k' = k
    · subst h
      rw [if_pos rfl]
      simp
    · rw [if_neg h]
      refine ⟨fun y => ?_, fun hn => ?_⟩
      · simp only [List.map_cons, List.mem_cons]
        rw [ih.1 y]
        constructor
        · rintro (h1 | h1 | h1)
          · exact .inr (.inl h1)
          · exact .inl h1
          · exact .inr (.inr h1)
        · rintro (h1 | h1 | h1)
          · exact .inr (.inl h1)
          · exact .inl h1
          · exact .inr (.inr h1)
      · simp only [List.map_cons, List.nodup_cons] at hn ⊢
        refine ⟨fun hm => ?_, ih.2 hn.2⟩
        rcases (ih.1 k').1 hm with h1 | h1
        · exact h h1
        · exact hn.1 h1
theorem setU_mem {k : Nat} {b : List UInt8} : ∀ {u : Tags} {y : Nat × List UInt8}, y ∈ setU k b u → y = (k, b) ∨ y ∈ u
  | [], y, h => by simpa [setU] using h
  | (k', b') :: r, y, h => by
    rw [setU] at h
    by_cases hk : k' = k
    · rw [if_pos hk] at h
      rcases List.mem_cons.1 h with h1 | h1
      · exact .inl h1
      · exact .inr (List.mem_cons_of_mem _ h1)
    · rw [if_neg hk] at h
      rcases List.mem_cons.1 h with h1 | h1
      · exact .inr (by rw [h1]; exact List.mem_cons_self)
      · rcases setU_mem h1 with h2 | h2
        · exact .inl h2
        · exact .inr (List.mem_cons_of_mem _ h2)
/-- what the tags that were read are: keys once, each of 32 bits, values no longer than what there was -/
theorem dcG_few (K : Nat) (s : Rst) (h : s.1.length ≤ K) : (dcG s).1.1 < 4294967296 ∧ (dcG s).1.2.length ≤ K := by
  have h1 := (stp_sane gUv_le s).2
  have h2 := (stp_sane gUv_le (stp gUv s).2).2
  have h3 := (gSp_le (IntKind.i64.wrap ((stp gUv (stp gUv s).2).1 : Int)) (stp gUv (stp gUv s).2).2.1).2
  refine ⟨?_, Nat.le_trans h3 (Nat.le_trans h2 (Nat.le_trans h1 h))⟩
  show (gUv s.1).1 < 4294967296
  have := (uv_spec s.1).1
  unfold gUv
  split <;> simp <;> omega
theorem setU_len {k : Nat} {b : List UInt8} : ∀ {u : Tags}, (setU k b u).length ≤ u.length + 1
  | [] => by simp [setU]
  | (k', b') :: r => by
    rw [setU]
    split
    · simp
    · have := setU_len (k := k) (b := b) (u := r)
      simp only [List.length_cons]
      omega
theorem dcU_few (q : Bool) (K : Nat) (s : Rst) (h : s.1.length ≤ K) : (dcU q s).1.Pairwise (fun a b => a.1 < b.1) ∧ (∀ y ∈ (dcU q s).1, y.1 < 4294967296 ∧ y.2.length ≤ K) ∧ (dcU q s).1.length < 4294967296 := by
  unfold dcU
  split
  · have hs := (stp_sane gUv_le s).2
    have hn : (stp gUv s).1 < 4294967296 := by
      show (gUv s.1).1 < 4294967296
      have := (uv_spec s.1).1
      unfold gUv
      split <;> simp <;> omega
    have hall := iterS_all (P := fun x : Nat × List UInt8 => x.1 < 4294967296 ∧ x.2.length ≤ K) K dcG_sane (fun s h => dcG_few K s h) (stp gUv s).1 (stp gUv s).2 (Nat.le_trans hs h)
    have hlen := iterS_length dcG (stp gUv s).1 (stp gUv s).2
    have go : ∀ (l : List (Nat × List UInt8)) (u : Tags), (∀ x ∈ l, x.1 < 4294967296 ∧ x.2.length ≤ K) → (u.map (·.1)).Nodup → (∀ y ∈ u, y.1 < 4294967296 ∧ y.2.length ≤ K) → ((l.foldl (fun u x => setU x.1 x.2 u) u).map (·.1)).Nodup ∧ (∀ y ∈ l.foldl (fun u x => setU x.1 x.2 u) u, y.1 < 4294967296 ∧ y.2.length ≤ K) ∧ (l.foldl (fun u x => setU x.1 x.2 u) u).length ≤ u.length + l.length := by
      intro l
      induction l with
      | nil => intro u _ h1 h2; exact ⟨h1, h2, by simp⟩
      | cons x r ih =>
        intro u hl h1 h2
        have h3 := ih (setU x.1 x.2 u) (fun y hy => hl y (List.mem_cons_of_mem _ hy)) (setU_keys.2 h1) (fun y hy => ?_)
        · have := setU_len (k := x.1) (b := x.2) (u := u)
          exact ⟨h3.1, h3.2.1, by have := h3.2.2; simp only [List.foldl_cons, List.length_cons] at this ⊢; omega⟩
        · rcases setU_mem hy with rfl | hy
          · exact hl x List.mem_cons_self
          · exact h2 y hy
    obtain ⟨h1, h2, h3⟩ := go _ [] hall (by simp) (by simp)
    refine ⟨srtU_lt h1, fun y hy => h2 y ((srtU_perm _).mem_iff.1 hy), ?_⟩
    dsimp only
    rw [(srtU_perm _).length_eq]
    simp only [List.length_nil] at h3
    omega
  · simp
section
variable {P : Program} {n : Nat} {L : Env} {H : Hp} {C : Cx} {s : Vw} {K : Act → World → Prop} {ops : Array Oper} {rest : List Oper} {ty : TypeId} {pos : String} {af : Array Edge}
theorem ln_mapSetE {i m ck : Nat} {t kt et : TypeId} {x y z : Operand} {es : Array MapEntry} {q : Int} {v : Value} (hi : H[i]? = some (.obj m (.map es ck))) (hu : P.underlying t = some (.map kt et)) (hk : P.underlying kt = some (.int .u32)) (hx : ev L x = some (.map (some m))) (hy : ev L y = some (.int .u32 q)) (hz : ev L z = some v)
    (hks : ∀ e ∈ es.toList, ∃ q', e.key = .int .u32 q') (hold : ∃ e ∈ es.toList, e.key = .int .u32 q)
    (k : ∀ (j : Nat) (e : MapEntry), es[j]? = some e → e.key = .int .u32 q → Ln P ops rest K n L (H.set i (.obj m (.map (es.modify j fun e => { e with key := .int .u32 q, val := v }) ck))) C s) : Ln P ops (⟨none, .mapUpdate t x y z, ty, pos, af, none⟩ :: rest) K n L H C s := fun a w hF hS => by
  have hb : w.heap[m]? = some (.map es ck) := hS.hf _ (List.mem_of_getElem? hi)
  have hkk : MapKept.IsKey (.int .u32) (.int .u32 q) := rfl
  rcases MapKept.findNow_spec hkk es.toList 0 (fun e he => by obtain ⟨q', h⟩ := hks e he; rw [h]; rfl) with ⟨_, h2⟩ | ⟨j, e, h1, h2, h3⟩
  · obtain ⟨e, he, hq⟩ := hold
    exact absurd hq (h2 e he)
  · have hj : es[j]? = some e := by simpa using h2
    refine wpl_skip (w' := { w with heap := w.heap.setIfInBounds m (.map (es.modify j fun e => { e with key := .int .u32 q, val := v }) ck) }) rfl ?_ (k j e hj h3 _ _ hF (hS.turn (e' := .obj m (.map (es.modify j fun e => { e with key := .int .u32 q, val := v }) ck)) hi (by simpa [Ent.blk] using mod_set hb) (MapKept.heap_set hb).1 (by simp [Ent.blk]) (by simp [Ent.blk])))
    simp [execOp, hF.ev hx, hF.ev hy, hF.ev hz, Instr.mapUpdate, run_underlying hu, MapKept.run_getObj_map hb, MapKept.run_checkKey hk hkk, MapKept.run_findKey hk h1, hj, h3, MapKept.run_keyThatStays hkk, MapKept.run_setObj_map _ hb, Result.andThen]
end
theorem ME_get {l : List (Nat × Value)} {j : Nat} : (ME l)[j]? = (l[j]?).map fun x => (⟨.int .u32 (x.1 : Int), x.2, j⟩ : MapEntry) := by
  simp [ME, List.getElem?_map, Option.map_map, Function.comp_def]
theorem ME_set {l : List (Nat × Value)} {j k : Nat} {v : Value} (hj : j < l.length) : (ME l).modify j (fun e => { e with key := .int .u32 (k : Int), val := v }) = ME (l.set j (k, v)) := by
  apply Array.ext_getElem?
  intro i
  rw [Array.getElem?_modify, ME_get, ME_get]
  by_cases h : j = i
  · subst h
    simp [hj]
  · rw [if_neg h, List.getElem?_set_ne h]
theorem tags_SetE (t : Vw) (b off k m : Nat) (cs : List Value) (ty : TypeId) (v : Value) (l : List (Nat × Value)) (hv : cs[off]? = some (.map (some m))) (hold : ∃ x ∈ l, x.1 = k) (hnk : (l.map (·.1)).Nodup) (hok : HF [.obj m (.map (ME l) l.length), .obj b (.cells cs.toArray ty)] t.w) (hav : ∀ q ∈ blks [.obj m (.map (ME l) l.length), .obj b (.cells cs.toArray ty)], t.av q) (hnd : (blks [.obj m (.map (ME l) l.length), .obj b (.cells cs.toArray ty)]).Nodup) : CH Tryd.prog 146 [.pointer (some ⟨b, off, none⟩), .int .u32 (k : Int), v] t [.obj m (.map (ME l) l.length), .obj b (.cells cs.toArray ty)] fun u r E' => E' = [.obj m (.map (ME (setM k v l)) (setM k v l).length), .obj b (.cells cs.toArray ty)] := by
  refine ch_enter Tryd.func146 rfl Tryd.ntmps146 rfl hok hav hnd ?_
  refine cd_seq ?_
  refine cd_sr ?_
  refine ln_pv (pv_move rfl) rfl ?_
  refine ln_pv (pv_nilCheck rfl) rfl ?_
  refine ln_pv (pv_fieldAddr (off := 0) (r := off) Tryd.underlying79 rfl timap_uint32_Sl_uint8.size rfl rfl rfl) rfl ?_
  refine ln_pv (pv_ldo (i := 1) rfl Tryd.underlying77 rfl rfl hv) rfl ?_
  refine ln_pv (pv_eqM Tryd.underlying77 rfl rfl) rfl ?_
  refine ln_cd ?_
  refine cd_ff rfl ?_
  refine cd_skip ?_
  refine at_cd ?_
  refine cd_region ?_
  refine ln_pv (pv_move rfl) rfl ?_
  refine ln_pv (pv_nilCheck rfl) rfl ?_
  refine ln_pv (pv_fieldAddr (off := 0) (r := off) Tryd.underlying79 rfl timap_uint32_Sl_uint8.size rfl rfl rfl) rfl ?_
  refine ln_pv (pv_ldo (i := 1) rfl Tryd.underlying77 rfl rfl hv) rfl ?_
  refine ln_pv (pv_move rfl) rfl ?_
  refine ln_pv (pv_move rfl) rfl ?_
  refine ln_mapSetE (i := 0) rfl Tryd.underlying77 Tryd.underlying55 rfl rfl rfl (ME_keys l) ?_ (fun j e hj he => ?_)
  · obtain ⟨x, hx, rfl⟩ := hold
    obtain ⟨j, hj, rfl⟩ := List.getElem_of_mem hx
    exact ⟨_, ME_at l hj, rfl⟩
  · rw [ME_get] at hj
    obtain ⟨x, hx, rfl⟩ := Option.map_eq_some_iff.1 hj
    obtain ⟨hjl, hjx⟩ := List.getElem?_eq_some_iff.1 hx
    have hkj : l[j].1 = k := by
      rw [hjx]
      simp only [Value.int.injEq, true_and] at he
      omega
    refine ln_nil ?_
    exact at_retH0 _ (List.Sublist.refl _) rfl (fun w hS => by rw [setM_old hjl hnk hkj, ME_set hjl, List.length_set]; rfl)
theorem tags_SetA (t : Vw) (b off k : Nat) (M : List Value) (ty : TypeId) (v : Value) (mo : Option Nat) (l : List (Nat × Value)) (hlt : off < M.length) (h0 : mo = none → l = []) (hnk : (l.map (·.1)).Nodup) (hok : HF (mapE mo l ++ [.obj b (.cells (M.set off (mapV mo)).toArray ty)]) t.w)
    (hav : ∀ q ∈ blks (mapE mo l ++ [.obj b (.cells (M.set off (mapV mo)).toArray ty)]), t.av q) (hnd : (blks (mapE mo l ++ [.obj b (.cells (M.set off (mapV mo)).toArray ty)])).Nodup) :
    CH Tryd.prog 146 [.pointer (some ⟨b, off, none⟩), .int .u32 (k : Int), v] t (mapE mo l ++ [.obj b (.cells (M.set off (mapV mo)).toArray ty)]) fun u r E' => ∃ m, E' = mapE (some m) (setM k v l) ++ [.obj b (.cells (M.set off (mapV (some m))).toArray ty)] := by
  by_cases hnew : ∀ x ∈ l, x.1 ≠ k
  · rw [setM_new hnew]
    exact tags_SetU t b off k M ty v mo l hlt h0 hnew hok hav hnd
  · have hold : ∃ x ∈ l, x.1 = k := by
      simpa using hnew
    cases mo with
    | none =>
      obtain rfl := h0 rfl
      simp at hold
    | some m =>
      have := tags_SetE t b off k m (M.set off (.map (some m))) ty v l (set_get hlt) hold hnk hok hav hnd
      refine Calls.mono this fun e w' ⟨r, E', he, h1, h2, h3, h4, h5, h6⟩ => ⟨r, E', he, h1, h2, h3, h4, h5, m, ?_⟩
      rw [h6]
      rfl
theorem gx_Tags (t : Vw) (b : Nat) (v : Value) (st : Rst) (hv : RSv t v st.1) (hok : (RdX b v st.2).ok t.w) (hav : ∀ q ∈ (RdX b v st.2).blk, t.av q) :
    CT Tryd.prog 119 [.pointer (some ⟨b, 0, none⟩)] t (RdX b v st.2) fun u r e' => (∃ mv ml, r = .agg #[mv] ∧ MK u mv ml ∧ RKp u ml (dcU true st).1) ∧ ∃ v', e' = RdX b v' (dcU true st).2.2 ∧ RSv u v' (dcU true st).2.1 := by
  have hnk : ∀ (i : Nat), (((iterS dcG i (stp gUv st).2).1.foldl (fun u x => setU x.1 x.2 u) ([] : Tags)).map (·.1)).Nodup := fun i => by
    have go : ∀ (l : List (Nat × List UInt8)) (u : Tags), (u.map (·.1)).Nodup → ((l.foldl (fun u x => setU x.1 x.2 u) u).map (·.1)).Nodup := by
      intro l
      induction l with
      | nil => intro u h; exact h
      | cons x r ih => intro u h; exact ih _ (setU_keys.2 h)
    exact go _ [] (by simp)
  have hUd : dcU true st = (srtU ((iterS dcG (stp gUv st).1 (stp gUv st).2).1.foldl (fun u x => setU x.1 x.2 u) []), (iterS dcG (stp gUv st).1 (stp gUv st).2).2) := by simp only [dcU, if_true]
  have hnlt : (stp gUv st).1 < 4294967296 := by
    show (gUv st.1).1 < 4294967296
    have := (uv_spec st.1).1
    unfold gUv
    split <;> simp <;> omega
  refine ct_enter Tryd.func119 rfl Tryd.ntmps119 rfl hok hav (by simp [Ent.blk]) ?_
  refine cd_sr ?_
  refine ln_alloc (l := [.map none]) tipub_kmsg_Tags rfl rfl (fun b2 => ?_)
  refine ln_cd ?_
  refine cd_sr ?_
  refine ln_alloc (l := [.map none]) tipub_kmsg_Tags rfl rfl (fun b3 => ?_)
  refine ln_cd ?_
  refine cd_seq ?_
  refine cd_sr ?_
  refine ln_pv (pv_move rfl) rfl ?_
  refine ln_callT (i := 2) (vals := [.pointer (some ⟨b, 0, none⟩)]) en_145 rfl rfl (fun u hu hok hav => gx_Uvarint u b v st.2 st.1 (RSv.mv hv hu) hok hav) rfl ?_
  rintro u1 _ _ ht1 ⟨ux1, ⟨rfl, v1, rfl, hv1⟩, hx1⟩
  have hv1 := RSv.mv hv1 hx1
  rw [hUd]
  obtain ⟨cnt, hcnt⟩ : ∃ c : Nat, c = (gUv st.1).1 := ⟨_, rfl⟩
  obtain ⟨s1, hs1⟩ : ∃ s1 : Rst, s1 = (stp gUv st).2 := ⟨_, rfl⟩
  have hcnt' : (stp gUv st).1 = cnt := hcnt.symm
  rw [← hs1] at hnk ⊢
  rw [hcnt'] at hnlt ⊢
  have hv1 : RSv u1 v1 s1.1 := by rw [hs1]; exact hv1
  have hbd : (st.2 || (gUv st.1).2.2) = s1.2 := by rw [hs1]; rfl
  rw [hbd, ← hcnt]
  refine ln_pv (pv_assign rfl) rfl ?_
  refine ln_cd ?_
  refine cd_perm (H' := [RdX b v1 s1.2, .obj b3 (.cells [Value.map none].toArray 79), .obj b2 (.cells [Value.map none].toArray 79)]) (by
    refine List.Perm.trans (List.perm_append_comm (l₁ := [Ent.obj b3 (.cells [Value.map none].toArray 79), .obj b2 (.cells [Value.map none].toArray 79)]) (l₂ := [RdX b v1 s1.2])) ?_
    exact List.Perm.refl _) ?_
  refine cd_block ?_
  refine cd_loop' (S := Nat × Option Nat × List (Nat × Value) × Value) ⟨fun z => [(4, .int .u32 ((cnt - z.1 : Nat) : Int)), (3, .pointer (some ⟨b3, 0, none⟩)), (2, .pointer (some ⟨b2, 0, none⟩)), (0, .pointer (some ⟨b, 0, none⟩))],
      fun z => RdX b z.2.2.2 (iterS dcG z.1 s1).2.2 :: (mapE z.2.1 z.2.2.1 ++ .obj b3 (.cells [mapV z.2.1].toArray 79) :: [.obj b2 (.cells [Value.map none].toArray 79)]),
      fun z u => z.1 ≤ cnt ∧ RK u z.2.2.1 ((iterS dcG z.1 s1).1.foldl (fun u x => setU x.1 x.2 u) []) ∧ (z.2.1 = none → z.2.2.1 = []) ∧ RSv u z.2.2.2 (iterS dcG z.1 s1).2.1, fun z => cnt - z.1⟩ (0, none, [], v1)
    (fun u hu => ⟨Nat.zero_le _, rfl, fun _ => rfl, RSv.mv hv1 hu⟩) ?_ (List.Sublist.refl _) ?_
  · exact .put rfl (.put rfl (.put rfl (.put rfl (fun _ _ h => by simp [lk] at h))))
  · rintro ⟨i, mo, ml, v2⟩ u hu ⟨hi, hRK, hmo, hv2⟩
    dsimp only at hi hRK hmo hv2 ⊢
    refine cd_seq ?_
    refine cd_sr ?_
    refine ln_pv (pv_move rfl) rfl ?_
    refine ln_pv (pv_gtr rfl rfl) rfl ?_
    refine ln_cd ?_
    refine cd_if rfl (fun hlt => ?_) (fun hge => ?_)
    · have hi' : i < cnt := by omega
      refine cd_skip ?_
      refine at_cd ?_
      refine cd_seq ?_
      refine cd_block ?_
      have hsc := iterS_succ dcG i s1
      have hki := hnk i
      obtain ⟨sti, hsti⟩ : ∃ z : Rst, z = (iterS dcG i s1).2 := ⟨_, rfl⟩
      rw [← hsti] at hv2 hsc ⊢
      refine cd_sr ?_
      refine ln_pv (pv_move rfl) rfl ?_
      refine ln_callT (i := 0) (vals := [.pointer (some ⟨b, 0, none⟩)]) en_145 rfl rfl (fun u hu hok hav => gx_Uvarint u b v2 sti.2 sti.1 (RSv.mv hv2 hu) hok hav) rfl ?_
      rintro u3 _ _ ht3 ⟨ux3, ⟨rfl, v3, rfl, hv3⟩, hx3⟩
      have hv3 := RSv.mv hv3 hx3
      refine ln_pv (pv_move rfl) rfl ?_
      refine ln_callT (i := 0) (vals := [.pointer (some ⟨b, 0, none⟩)]) en_145 rfl rfl (fun u hu hok hav => gx_Uvarint u b v3 (stp gUv sti).2.2 (stp gUv sti).2.1 (RSv.mv hv3 hu) hok hav) rfl ?_
      rintro u4 _ _ ht4 ⟨ux4, ⟨rfl, v4, rfl, hv4⟩, hx4⟩
      have hv4 := RSv.mv hv4 hx4
      refine ln_pv (pv_assign rfl) rfl ?_
      refine ln_pv (pv_assign rfl) rfl ?_
      refine ln_cd ?_
      refine cd_region ?_
      refine ln_pv (pv_move rfl) rfl ?_
      refine ln_pv (pv_move rfl) rfl ?_
      refine ln_pv (pv_move rfl) rfl ?_
      refine ln_pv (pv_conv' (k := .u32) (i := ((stp gUv (stp gUv sti).2).1 : Int)) Tryd.underlying55 Tryd.underlying3 rfl (r := IntKind.i64.wrap ((stp gUv (stp gUv sti).2).1 : Int)) rfl) rfl ?_
      refine ln_callT (i := 0) (vals := [.pointer (some ⟨b, 0, none⟩), .int .i64 (IntKind.i64.wrap ((stp gUv (stp gUv sti).2).1 : Int))]) en_147 rfl rfl (fun u hu hok hav => gx_Span u (IntKind.i64.wrap ((stp gUv (stp gUv sti).2).1 : Int)) b v4 (stp gUv (stp gUv sti).2).2.2 (stp gUv (stp gUv sti).2).2.1 (RSv.mv hv4 hu) hok hav) rfl ?_
      rintro u5 r5 _ ht5 ⟨ux5, ⟨hr5, v5, rfl, hv5⟩, hx5⟩
      have hv5 := RSv.mv hv5 hx5
      have hr5 := RSv.mv hr5 hx5
      have hRK5 := RK.mv (ht3.trans (ht4.trans ht5)) hRK
      have hgb : ((stp gUv (stp gUv sti).2).2.2 || (gSp (IntKind.i64.wrap ((stp gUv (stp gUv sti).2).1 : Int)) (stp gUv (stp gUv sti).2).2.1).2.2) = (dcG sti).2.2 := rfl
      have hgv : RSv u5 v5 (dcG sti).2.1 := hv5
      have hgr : RSv u5 r5 (dcG sti).1.2 := hr5
      rw [hgb]
      refine ln_callH (E := mapE mo ml ++ [.obj b3 (.cells [mapV mo].toArray 79)]) (H0 := [RdX b v5 (dcG sti).2.2, .obj b2 (.cells [Value.map none].toArray 79)]) (vals := [.pointer (some ⟨b3, 0, none⟩), .int .u32 ((dcG sti).1.1 : Int), r5]) (show List.Perm (RdX b v5 (dcG sti).2.2 :: (mapE mo ml ++ Ent.obj b3 (.cells [mapV mo].toArray 79) :: [Ent.obj b2 (.cells [Value.map none].toArray 79)])) (_ ++ _) from set_perm) en_146 rfl
        (fun u hu hok hav hnd => tags_SetA u b3 0 (dcG sti).1.1 [.map none] 79 r5 mo ml (by decide) hmo (by rw [RK.keys hRK]; exact hki) hok hav hnd) rfl ?_
      rintro u6 r6 _ ht6 ⟨_, ⟨m, rfl⟩, _⟩
      refine ln_nil ?_
      refine at_cd ?_
      refine cd_region ?_
      refine ln_pv (pv_move rfl) rfl ?_
      refine ln_pv (pv_sub' (k := .u32) (i := ((cnt - i : Nat) : Int)) (j := 1) rfl rfl (r := ((cnt - (i + 1) : Nat) : Int)) (by rw [wrap_u32_eq]; omega)) rfl ?_
      refine ln_pv (pv_assign rfl) rfl ?_
      refine ln_nil ?_
      refine at_perm (H' := RdX b v5 (dcG sti).2.2 :: (mapE (some m) (setM (dcG sti).1.1 r5 ml) ++ .obj b3 (.cells [mapV (some m)].toArray 79) :: [.obj b2 (.cells [Value.map none].toArray 79)])) ?_ ?_
      · exact set_perm.symm
      refine at_rnd' (i + 1, some m, setM (dcG sti).1.1 r5 ml, v5) (hu.trans (ht3.trans (ht4.trans (ht5.trans ht6)))) (fun u7 hu7 => ⟨by dsimp only; omega, ?_, (fun h => by cases h), ?_⟩) (by dsimp only; omega) ?_ ?_
      · dsimp only
        rw [hsc, List.foldl_append]
        exact RK.set (RSv.mv hgr (ht6.trans hu7)) (RK.mv (ht6.trans hu7) hRK5)
      · dsimp only
        rw [hsc]
        exact RSv.mv hgv (ht6.trans hu7)
      · exact .put rfl (.put rfl (.put rfl (.put rfl (fun _ _ h => by simp [lk] at h))))
      · dsimp only
        rw [hsc]
        exact List.Sublist.refl _
    · have him : cnt = i := by omega
      subst him
      refine cd_exit rfl ?_
      refine at_cd ?_
      cases mo with
      | none =>
        obtain rfl := hmo rfl
        refine cd_sr ?_
        refine ln_pv (pv_ldO (i := 1) (l := [.map none]) rfl Tryd.underlying79 rfl tipub_kmsg_Tags.size rfl rfl) rfl ?_
        refine ln_storeW (i := 2) (vs := [.map none]) rfl rfl rfl rfl tipub_kmsg_Tags.size rfl (by simp) ?_
        refine ln_cd ?_
        refine cd_ret ?_
        exact at_retTC (i := 0) (j := 2) rfl rfl rfl rfl Tryd.underlying79 rfl tipub_kmsg_Tags.size rfl (fun w hS => ⟨⟨_, _, rfl, .inl ⟨rfl, rfl⟩, _, RK.mv (hS.trFinT _ _) hRK, (srtU_perm _).symm⟩, _, rfl, RSv.mv hv2 (hS.trFinT _ _)⟩)
      | some m =>
        refine cd_sr ?_
        refine ln_pv (pv_ldO (i := 2) (l := [.map (some m)]) rfl Tryd.underlying79 rfl tipub_kmsg_Tags.size rfl rfl) rfl ?_
        refine ln_storeW (i := 3) (vs := [.map (some m)]) rfl rfl rfl rfl tipub_kmsg_Tags.size rfl (by simp) ?_
        refine ln_cd ?_
        refine cd_ret ?_
        exact at_retTC (i := 0) (j := 3) rfl rfl rfl rfl Tryd.underlying79 rfl tipub_kmsg_Tags.size rfl (fun w hS => ⟨⟨_, _, rfl, .inr ⟨m, rfl, obT hS (by simp [Ent.blk]) (i := 0) (j := 1) rfl rfl (by decide)⟩, _, RK.mv (hS.trFinT _ _) hRK, (srtU_perm _).symm⟩, _, rfl, RSv.mv hv2 (hS.trFinT _ _)⟩)
/-! ### The end: whether it failed -/
/-- the reader's error lies in its variable -/
def EG (s : Vw) : Prop := ∃ (ty : TypeId) (x : Value), RC s 0 0 [.iface ty x]
theorem EG.mv {s t : Vw} (h : EG s) (ht : Tr s t) : EG t := by
  obtain ⟨ty, x, h⟩ := h
  exact ⟨ty, x, RC.mv h ht (by simp)⟩
theorem gx_Complete (t : Vw) (b : Nat) (v : Value) (bad : Bool) (hG : EG t) (hok : (RdX b v bad).ok t.w) (hav : ∀ q ∈ (RdX b v bad).blk, t.av q) : CT Tryd.prog 113 [.pointer (some ⟨b, 0, none⟩)] t (RdX b v bad) fun u r e' => ((bad = false ∧ r = .nilIface) ∨ (bad = true ∧ ∃ ty x, r = .iface ty x)) ∧ e' = RdX b v bad := by
  refine ct_enter Tryd.func113 rfl Tryd.ntmps113 rfl hok hav (by simp [Ent.blk]) ?_
  refine cd_sr ?_
  refine ln_pv (pv_assign rfl) rfl ?_
  refine ln_cd ?_
  refine cd_seq ?_
  refine cd_sr ?_
  refine ln_pv (pv_move rfl) rfl ?_
  refine ln_pv (pv_nilCheck rfl) rfl ?_
  refine ln_pv (pv_fieldAddr (off := 1) (r := 1) Tryd.underlying142 rfl tibool.size rfl rfl rfl) rfl ?_
  refine ln_pv (pv_ldo (i := 0) (v := .bool bad) rfl Tryd.underlying4 rfl rfl rfl) rfl ?_
  refine ln_cd ?_
  cases bad with
  | false =>
    refine cd_ff rfl ?_
    refine cd_skip ?_
    refine at_cd ?_
    refine cd_sr ?_
    refine ln_pv (pv_assign rfl) rfl ?_
    refine ln_cd ?_
    refine cd_ret ?_
    exact at_retT (i := 0) rfl rfl rfl (fun w hS => ⟨.inl ⟨rfl, rfl⟩, rfl⟩)
  | true =>
    obtain ⟨ty, x, hG⟩ := hG
    refine cd_tt rfl ?_
    refine cd_sr ?_
    refine ln_pv (pv_ldr (j := 0) hG Tryd.underlying51 rfl rfl rfl) rfl ?_
    refine ln_pv (pv_assign rfl) rfl ?_
    refine ln_cd ?_
    refine cd_ret ?_
    exact at_retT (i := 0) rfl rfl rfl (fun w hS => ⟨.inr ⟨rfl, ty, x, rfl⟩, rfl⟩)
end K
end Go.Proofs.YtjjfpdofkdolnaaDoor
namespace Go.Proofs.YtjjfpdofkdolnaaDoor
namespace K
open Go Go.Lib
section
variable {k a b nul tag d o : Int} {sub : List Fld} {v : Int} {q : Bool} {st : Rst}
theorem dcS_i8 : dcS 1 q st = (.mk ((stp (gN 1) st).1 : Int) [] false [] [], (stp (gN 1) st).2) := by simp [dcS]
theorem dcS_i16 : dcS 2 q st = (.mk ((stp (gN 2) st).1 : Int) [] false [] [], (stp (gN 2) st).2) := by simp [dcS]
theorem dcS_i32 : dcS 3 q st = (.mk ((stp (gN 4) st).1 : Int) [] false [] [], (stp (gN 4) st).2) := by simp [dcS]
theorem dcS_i64 : dcS 4 q st = (.mk (IntKind.i64.wrap ((stp (gN 8) st).1 : Int)) [] false [] [], (stp (gN 8) st).2) := by simp [dcS]
theorem dcS_cstr : dcS 8 true st = (.mk 0 (stp gCStr st).1 false [] [], (stp gCStr st).2) := by simp [dcS]
theorem dcS_str : dcS 8 false st = (.mk 0 (stp gStr st).1 false [] [], (stp gStr st).2) := by simp [dcS]
theorem dcE_sc {v0 : Int} (h : ¬ o = 10) : dcE o sub v0 q st = dcS o q st := by rw [dcE, if_neg h]
theorem REl_sc {w : Vw} {y : Tre} {cs : List Value} (h : ¬ o = 10) : REl w o sub y cs = RS1 w o (-1) y cs := by rw [REl, if_neg h]
theorem fx_i8 : Fx 141 (.mk 1 a b nul tag d o sub) v q st := Fx.of gx_Int8 (by rw [dcF_sc (by decide), dcS_i8]) (fun w r h => by
    rw [RMf_i8, dcF_sc (by decide), dcS_i8]
    simp only [tn, stp, h])
theorem fx_i16 : Fx 125 (.mk 2 a b nul tag d o sub) v q st := Fx.of gx_Int16 (by rw [dcF_sc (by decide), dcS_i16]) (fun w r h => by
    rw [RMf_i16, dcF_sc (by decide), dcS_i16]
    simp only [tn, stp, h])
theorem fx_i32 : Fx 122 (.mk 3 a b nul tag d o sub) v q st := Fx.of gx_Int32 (by rw [dcF_sc (by decide), dcS_i32]) (fun w r h => by
    rw [RMf_i32, dcF_sc (by decide), dcS_i32]
    simp only [tn, stp, h])
theorem ex_i32 : Ex 122 3 sub v q st := Ex.of gx_Int32 (by rw [dcE_sc (by decide), dcS_i32]) (fun w r h => by
    rw [REl_sc (by decide), dcE_sc (by decide), dcS_i32]
    simp [RS1]
    simp only [tn, stp, h])
theorem fx_i64 : Fx 128 (.mk 4 a b nul tag d o sub) v q st := Fx.of gx_Int64 (by rw [dcF_sc (by decide), dcS_i64]) (fun w r h => by
    rw [RMf_i64, dcF_sc (by decide), dcS_i64]
    simp only [tn, stp, h]
    exact ⟨trivial, I64_wrap _⟩)
theorem fx_cstr (hn : nul < 0) (hq : q = true) : Fx 116 (.mk 8 a b nul tag d o sub) v q st := by
  subst hq
  exact Fx.of gx_CompactString (by rw [dcF_sc (by decide), dcS_cstr]) (fun w r h => by
    rw [RMf_str hn, dcF_sc (by decide), dcS_cstr]
    simp only [ts, stp, h])
theorem fx_str (hn : nul < 0) (hq : q = false) : Fx 117 (.mk 8 a b nul tag d o sub) v q st := by
  subst hq
  exact Fx.of gx_String (by rw [dcF_sc (by decide), dcS_str]) (fun w r h => by
    rw [RMf_str hn, dcF_sc (by decide), dcS_str]
    simp only [ts, stp, h])
theorem fx_ucstr (hn : nul < 0) (hq : q = true) : Fx 114 (.mk 8 a b nul tag d o sub) v q st := by
  subst hq
  exact Fx.of gx_UnsafeCompactString (by rw [dcF_sc (by decide), dcS_cstr]) (fun w r h => by
    rw [RMf_str hn, dcF_sc (by decide), dcS_cstr]
    simp only [ts, stp, h])
theorem fx_ustr (hn : nul < 0) (hq : q = false) : Fx 115 (.mk 8 a b nul tag d o sub) v q st := by
  subst hq
  exact Fx.of gx_UnsafeString (by rw [dcF_sc (by decide), dcS_str]) (fun w r h => by
    rw [RMf_str hn, dcF_sc (by decide), dcS_str]
    simp only [ts, stp, h])
end
section
variable {n : Nat} {L : Env} {H H0 : Hp} {C : Cx} {s : Vw} {N R : Act → World → Prop} {X : List (Nat × (Act → World → Prop))}
variable {id id0 id1 id2 id3 id4 id5 id6 id7 id8 id9 ida idb idc idd ide idf idg : Nat} {tb ts un fx vr x y d0 d1 d2 d3 d4 d5 d6 d7 d8 d9 e0 e1 e2 e3 e4 y1 y2 y3 y4 g1 g2 g3 g4 g5 h1 h2 h3 h4 h5 i1 j1 j2 j3 j4 : Nat} {f g : FuncId} {br b o po len fo k sz : Nat} {mk : List Value → Ent} {v c val : Value} {rest bs : List UInt8}
variable {ty0 ty1 ty2 ty3 ty4 ty5 ty6 ty7 ty8 ty9 : TypeId} {p0 p1 p2 p3 p4 p5 p6 p7 p8 p9 : String} {a0 a1 a2 a3 a4 a5 a6 a7 a8 a9 : Array Edge} {tys tyt tyo : Array TypeId}
variable {uy1 uy2 uy3 uy4 uy5 uy6 uy7 uy8 : TypeId} {q1 q2 q3 q4 q5 q6 q7 q8 : String} {c1 c2 c3 c4 c5 c6 c7 c8 : Array Edge}
variable {vy1 vy2 vy3 vy4 vy5 vy6 vy7 vy8 vy9 : TypeId} {r1 r2 r3 r4 r5 r6 r7 r8 r9 : String} {b1 b2 b3 b4 b5 b6 b7 b8 b9 : Array Edge}
variable {wy1 wy2 wy3 wy4 wy5 wy6 wy7 wy8 wy9 : TypeId} {s1 s2 s3 s4 s5 s6 s7 s8 s9 : String} {m1 m2 m3 m4 m5 m6 m7 m8 m9 : Array Edge}
variable {xy1 xy2 xy3 xy4 xy5 xy6 xy7 xy8 xy9 : TypeId} {t1 t2 t3 t4 t5 t6 t7 t8 t9 : String} {n1 n2 n3 n4 n5 n6 n7 n8 n9 : Array Edge}
variable {T ft ST et it : TypeId} {fs : Array Field} {fd : Field} {r fsd : List Fld} {v0 : Int} {q : Bool} {Y : Tre} {done zc zs : List Value} {z : Value} {E0 : Ent}
variable {idz idy z1 z2 z3 z4 z5 z6 z7 : Nat} {zy1 zy2 zy3 zy4 zy5 zy6 zy7 zy8 zy9 ly1 ly2 ly3 : TypeId} {o1 o2 o3 o4 o5 o6 o7 o8 : String} {l1 l2 l3 l4 l5 l6 l7 l8 : Array Edge}
variable {fl : Fld} {st E : Rst} {ub bad : Bool}

theorem st_tagsU {F : List Fld} {mt : TypeId} (hR : RsU s [] F v0 q Y st E v done) (hU : Y.u = (dcU q E).1) (hb : lk L tb = some (.pointer (some ⟨br, 0, none⟩))) (hq : lk L fx = some (.bool q)) (hs : lk L ts = some (.pointer (some ⟨b, po, none⟩))) (hT : Tgt mk b o len) (hl : fszs F + 1 = len) (hu : Tryd.prog.underlying T = some (.struct fs)) (hk : fs[k]? = some fd) (hsz : (Tryd.prog.info? fd.type).map (·.size) = some (sz + 1)) (ho : fd.offset = fo)
    (hpo : po + fo = o + fszs F) (hsz1 : (Tryd.prog.info? mt).map (·.size) = some 1) (hf0 : frs n L [d0] = true) (hf : frs n L [d1, d2, d3, d4] = true)
    (kk : ∀ u v' done', Tr s u → RSv u v' (dcU q E).2.1 → RMp u F Y done' → At N n L (RdX br v' (dcU q E).2.2 :: mk done' :: H0) C u) :
    Cd Tryd.prog (.seq (.region id0 [⟨some d0, .move (.tmp fx), ty0, p0, a0, none⟩].toArray false) (.cond (.tmp d0)
      (.region id [⟨some d1, .move (.tmp ts), ty1, p1, a1, none⟩, ⟨some d2, .call ⟨.value (.func 119), [.tmp tb].toArray, tys⟩, ty2, p2, a2, none⟩, ⟨some d3, .nilCheck (.tmp d1), ty3, p3, a3, none⟩, ⟨some d4, .fieldAddr T (.tmp d3) k, ty4, p4, a4, none⟩, ⟨none, .store mt (.tmp d4) (.tmp d2), ty5, p5, a5, none⟩].toArray false) .skip)) ⟨N, R, X⟩ n L (RdX br v st.2 :: mk (done ++ [.map none]) :: H0) C s := by
  obtain ⟨hb0, hfr0, _⟩ := frs_get hf0
  simp only [List.mem_cons, List.not_mem_nil, or_false, forall_eq] at hb0 hfr0
  obtain ⟨hb', hfr, hne⟩ := frs_get hf
  simp only [List.pairwise_cons, List.mem_cons, List.not_mem_nil, or_false, forall_eq_or_imp, forall_eq, List.Pairwise.nil, and_true, false_imp_iff, implies_true] at hb' hfr hne
  obtain ⟨f1, f2, f3, f4⟩ := hfr
  obtain ⟨b1, b2, b3, b4⟩ := hb'
  have hdl := hR.len
  have hv := hR.hv
  have hE : st = E := by simpa [dcL] using hR.fin
  subst hE
  refine cd_sq ?_
  refine cd_region ?_
  refine ln_pv (pv_move hq) hb0 ?_
  refine ln_nil (at_cd ?_)
  refine cd_cond lk_eq (fun h => cd_sub_ (.skip hfr0 .rfl') ?_) (fun h => cd_sub_ (.skip hfr0 .rfl') ?_)
  · subst h
    refine cd_region ?_
    refine ln_pv (pv_move hs) b1 ?_
    refine ln_callT (i := 0) (vals := [.pointer (some ⟨br, 0, none⟩)]) en_119 (by simp [evs, ev_t, lk_ne (lk_fr f1 hb), hb]) rfl (fun u hu hok hav => gx_Tags u br v st (RSv.mv hv hu) hok hav) b2 ?_
    rintro u c _ ht ⟨ux, ⟨⟨mv, ml, rfl, hM, hK⟩, v', rfl, h2⟩, hx⟩
    have h2 := RSv.mv h2 hx
    have hM := hM.mv hx
    have hK := RKp.mv hx hK
    refine ln_pv (pv_nilCheck (by simp [ev_t, lk_eq, lk_ne, hne] <;> rfl)) b3 ?_
    refine ln_pv (pv_fieldAddr (r := o + done.length) hu hk hsz ho lk_eq (by rw [hdl]; exact hpo)) b4 ?_
    have h1m : mv.oneCell' = true := RTg.one (s := u) (y := Y) ⟨ml, hM, by rw [hU]; exact hK⟩
    refine ln_storeG (i := 1) (vs := [mv]) (v := .agg #[mv]) (win' := done ++ [mv]) hT rfl (by simp [hdl] <;> omega) lk_eq (by simp [ev_t, lk_eq, lk_ne, hne]) rfl hsz1 (by simp [hdl] <;> omega) (by simp [h1m]) (by have := wr_done (done := done) (zc := [.map none]) (zs := []) (cs := [mv]) rfl; simpa using this) ?_
    refine ln_nil (at_sub (.skip f4 (.skip f3 (.skip f2 (.skip f1 .rfl')))) ?_)
    exact kk u v' _ ht h2 ⟨done, mv, rfl, RMl.mv ht hR.acc, ml, hM, by rw [hU]; exact hK⟩
  · subst h
    refine cd_skip (at_base fun u hu' => ?_)
    have hR := hR.mv hu'
    have e : dcU false st = ([], st) := by simp [dcU]
    rw [e] at kk hU
    exact kk u v _ hu' hR.hv ⟨done, .map none, rfl, hR.acc, [], .inl ⟨rfl, rfl⟩, by rw [hU]; exact ⟨[], rfl, List.Perm.refl _⟩⟩
theorem REl_partU {u : Vw} {sb : List Fld} {v0 : Int} {q : Bool} {st : Rst} {c : List Value} (h : RMp u sb (.mk 0 [] false (dcL sb v0 q st).1 (dcU q (dcL sb v0 q st).2).1) c) : REl u 10 sb (dcE 10 sb v0 q st).1 c := by
  rw [REl, if_pos rfl, dcE, if_pos rfl]
  exact h
theorem dcE_part {sb : List Fld} {v0 : Int} {q : Bool} {st : Rst} : (dcE 10 sb v0 q st).2 = (dcU q (dcL sb v0 q st).2).2 := by
  rw [dcE, if_pos rfl]
  rfl
theorem dcE_bad {sb : List Fld} {v0 : Int} {q : Bool} {st : Rst} (h : (dcL sb v0 q st).2.2 = true) : (dcE 10 sb v0 q st).2.2 = true := by
  rw [dcE_part]
  exact (dcU_sane q _).1 h
/-- return b.Complete(), early: it failed -/
theorem ret_early {fn : Func} {tv : Vw} {e0 e' : Ent} {R' : Vw → Value → Ent → Prop} {i : Nat} (hG : EG s) (hb : lk L tb = some (.pointer (some ⟨br, 0, none⟩))) (hr : fn.results = #[.tmp y]) (hd : Nat.blt d1 n = true) (hy : Nat.blt y n = true) (hi : H0[i]? = some e') (h : ∀ u r, (∃ ty x, r = .iface ty x) → R' u r e') :
    Cd Tryd.prog (.seq (.region id [⟨some d1, .call ⟨.value (.func 113), [.tmp tb].toArray, tys⟩, ty1, p1, a1, none⟩, ⟨some y, .assign (.tmp d1), ty2, p2, a2, none⟩].toArray false) .ret) ⟨N, rpT Tryd.prog fn tv e0 R', X⟩ n L (RdX br v true :: H0) ⟨tv, fun b => b ∈ e0.blk⟩ s := by
  refine cd_sq ?_
  refine cd_region ?_
  refine ln_callT (i := 0) (vals := [.pointer (some ⟨br, 0, none⟩)]) en_113 (by simp [evs, ev_t, hb]) rfl (fun u hu hok hav => gx_Complete u br v true (hG.mv hu) hok hav) hd ?_
  rintro u r _ ht ⟨ux, ⟨hr', rfl⟩, hx⟩
  refine ln_pv (pv_assign lk_eq) hy ?_
  refine ln_nil (at_cd ?_)
  refine cd_ret ?_
  refine at_retT (i := i + 1) hr lk_eq (by simpa using hi) (fun w hS => h _ _ ?_)
  rcases hr' with ⟨h1, _⟩ | ⟨_, h1⟩
  · cases h1
  · exact h1

end
end K
end Go.Proofs.YtjjfpdofkdolnaaDoor
namespace Go.Proofs.YtjjfpdofkdolnaaDoor
namespace K
open Go Go.Lib
/-! ### What was read out of any octets can be told -/
mutual
def npF : Fld → Bool
  | .mk k _ _ _ _ _ _ sub => decide (k ≠ 10) && npFs sub
def npFs : List Fld → Bool
  | [] => true
  | f :: r => npF f && npFs r
end
theorem tagsOk_dc (q : Bool) {s : Rst} (h : s.1.length ≤ 32767) : tagsOk (dcU q s).1 := by
  obtain ⟨h1, h2, h3⟩ := dcU_few q 32767 s h
  exact ⟨h1, fun z hz => (h2 z hz).1, fun z hz => by have := (h2 z hz).2; omega, by omega⟩
mutual
theorem tgF_dc : ∀ (f : Fld) (v : Int) (q : Bool) (s : Rst), npF f = true → s.1.length ≤ 32767 → tgF f (dcF f v q s).1
  | .mk k a b nul tag d o sub, v, q, s, hn, hK => by
    simp only [npF, Bool.and_eq_true, decide_eq_true_eq] at hn
    have ih := fun s hs => tgL_dc sub v q s [] 0 (dcU q (dcL sub v q s).2).1 hn.2 rfl hs
    by_cases h11 : k = 11
    · subst h11
      rw [dcF_list, tgF_list, els_mk]
      have hc := dcN_few q s
      have hs := (dcN_sane q s).2
      have hP := iterS_all (P := fun x : Tre => if o = 10 then tagsOk x.u ∧ tgL sub x 0 else x.s.length ≤ 32767) 32767 (dcE_sane o sub v q) (fun s1 h1 => by
        by_cases ho : o = 10
        · rw [if_pos ho, dcE, if_pos ho]
          exact ⟨tagsOk_dc q (Nat.le_trans (dcL_sane sub v q s1).2 h1), ih s1 h1⟩
        · rw [if_neg ho, dcE, if_neg ho]
          exact dcS_s h1) (dcN q s).1.toNat (dcN q s).2 (Nat.le_trans hs hK)
      have hlen := iterS_length (dcE o sub v q) (dcN q s).1.toNat (dcN q s).2
      generalize (if nul ≥ 0 then decide ((dcN q s).1 < 0 ∧ ¬ v < nul) else decide ((dcN q s).1 ≤ 0)) = z
      cases z with
      | true => simp
      | false =>
        simp only [Bool.false_eq_true, if_false]
        exact ⟨by omega, hP⟩
    · rw [dcF_sc h11, tgF_sc h11 hn.1]
      exact dcS_s hK
theorem tgL_dc : ∀ (fs : List Fld) (v : Int) (q : Bool) (s : Rst) (p : List Tre) (i : Nat) (U : Tags), npFs fs = true → p.length = i → s.1.length ≤ 32767 → tgL fs (.mk 0 [] false (p ++ (dcL fs v q s).1) U) i
  | [], _, _, _, _, _, _, _, _, _ => by simp [tgL]
  | f :: r, v, q, s, p, i, U, hn, hp, hK => by
    simp only [npFs, Bool.and_eq_true] at hn
    have hat : ∀ (t : Tre) (l : List Tre), (Tre.mk 0 [] false (p ++ t :: l) U).at_ i = t := fun t l => by simp [Tre.at_, Tre.l, ← hp]
    cases hh : hasB f v with
    | true =>
      have h1 := tgF_dc f v q s hn.1 hK
      have h2 := tgL_dc r v q (dcF f v q s).2 (p ++ [(dcF f v q s).1]) (i + 1) U hn.2 (by simp [hp]) (Nat.le_trans (dcF_sane f v q s).2 hK)
      rw [List.append_assoc] at h2
      rw [dcL_yes hh]
      refine ⟨?_, h2⟩
      rw [hat]
      exact h1
    | false =>
      have h0 := tgF_df f
      have h2 := tgL_dc r v q s (p ++ [dfF f]) (i + 1) U hn.2 (by simp [hp]) hK
      rw [List.append_assoc] at h2
      rw [dcL_no hh]
      refine ⟨?_, h2⟩
      rw [hat]
      exact h0
end
end K
end Go.Proofs.YtjjfpdofkdolnaaDoor
namespace Go.Proofs.YtjjfpdofkdolnaaDoor
namespace K
open Go Go.Lib
theorem in_neqI {P : Program} {t ety : TypeId} {x : Value} {ms : Array (String × TypeId)} (q : Nat) (w : World) (hu : P.underlying t = some (.interface ms)) : (Op.equalIn (q + 1) t (.iface ety x) .nilIface).run P w = .ok false w := by
  simp [Op.equalIn, run_underlying hu]
theorem run_neqI {P : Program} {t ety : TypeId} {x : Value} {ms : Array (String × TypeId)} (w : World) (hu : P.underlying t = some (.interface ms)) : (Op.equal t (.iface ety x) .nilIface).run P w = .ok false w := in_neqI 9999 w hu
section
variable {P : Program} {n : Nat} {L : Env} {S : World → Prop} {d : Option Nat} {g : Option (Nat × Bool)} {t u ty ety : TypeId} {pos : String} {af : Array Edge} {x y : Operand} {ev_ : Value}
/-- err != nil, and it is not nil -/
theorem pv_neqT {ms : Array (String × TypeId)} (hu : P.underlying t = some (.interface ms)) (hx : ev L x = some (.iface ety ev_)) :
    PV P S ⟨d, .binOp .neq t x (.const .nilIface) u, ty, pos, af, g⟩ n L (.bool true) := fun a w hF _ => by
  have hy : ev L (.const .nilIface) = some .nilIface := rfl
  simp [execOp, hF.ev hx, hF.ev hy, eqGuard, binOp, run_neqI w hu]
theorem in_eqB {a b : Bool} (q : Nat) (w : World) (hu : P.underlying t = some .bool) : (Op.equalIn (q + 1) t (.bool a) (.bool b)).run P w = .ok (a == b) w := by simp [Op.equalIn, run_underlying hu]
theorem run_eqB {a b : Bool} (w : World) (hu : P.underlying t = some .bool) : (Op.equal t (.bool a) (.bool b)).run P w = .ok (a == b) w := in_eqB 9999 w hu
theorem pv_neqB {a b : Bool} (hu : P.underlying t = some .bool) (hx : ev L x = some (.bool a)) (hy : ev L y = some (.bool b)) (h : a = b) :
    PV P S ⟨d, .binOp .neq t x y u, ty, pos, af, g⟩ n L (.bool false) := fun a w hF _ => by
  subst h
  simp [execOp, hF.ev hx, hF.ev hy, eqGuard, binOp, run_eqB w hu]
theorem pv_eqB {a b : Bool} (hu : P.underlying t = some .bool) (hx : ev L x = some (.bool a)) (hy : ev L y = some (.bool b)) (h : a = b) :
    PV P S ⟨d, .binOp .eql t x y u, ty, pos, af, g⟩ n L (.bool true) := fun a w hF _ => by
  subst h
  simp [execOp, hF.ev hx, hF.ev hy, eqGuard, binOp, run_eqB w hu]
end
/-! ### No tag's octets past all memory -/
mutual
def smV : Tre → Prop
  | .mk _ _ _ l u => (∀ z ∈ u, z.2.length < 4611686018427387904) ∧ smVs l
def smVs : List Tre → Prop
  | [] => True
  | x :: r => smV x ∧ smVs r
end
theorem smVs.mem : ∀ {l : List Tre}, smVs l → ∀ x ∈ l, smV x
  | [], _, f, h => by simp at h
  | g :: r, h, f, hf => by
    simp only [smVs] at h
    rcases List.mem_cons.1 hf with rfl | hf
    · exact h.1
    · exact smVs.mem h.2 f hf
theorem smVs_of : ∀ {l : List Tre}, (∀ x ∈ l, smV x) → smVs l
  | [], _ => trivial
  | x :: r, h => ⟨h x List.mem_cons_self, smVs_of fun y hy => h y (List.mem_cons_of_mem _ hy)⟩
theorem smV.open {x : Tre} (h : smV x) : (∀ z ∈ x.u, z.2.length < 4611686018427387904) ∧ smVs x.l := by
  cases x
  simpa only [smV, Tre.l, Tre.u] using h
theorem smV_tlS {k nul : Int} {y : Tre} : smV (tlS k nul y) := by
  unfold tlS
  repeat' split
  all_goals simp [smV, smVs]
theorem tagsOk.v {u : Tags} (h : tagsOk u) : ∀ z ∈ u, z.2.length < 4611686018427387904 := fun z hz => Nat.lt_of_le_of_lt (h.2.2.1 z hz) (by decide)
mutual
theorem smV_tlF : ∀ (f : Fld) (y : Tre), tgF f y → smV (tlF f y)
  | .mk k a b nul c d o sub, y, hg => by
    have ih := fun x i h => smVs_tlL sub x i h
    by_cases h11 : k = 11
    · subst h11
      rw [tgF_list] at hg
      rw [tlF_list]
      refine ⟨by simp, smVs_of fun x hx => ?_⟩
      obtain ⟨w, hw, rfl⟩ := List.mem_map.1 hx
      have h := hg.2 w hw
      by_cases ho10 : o = 10
      · simp only [if_pos ho10] at h ⊢
        exact ⟨h.1.v, ih w 0 h.2⟩
      · simp only [if_neg ho10] at h ⊢
        exact smV_tlS
    by_cases h10 : k = 10
    · subst h10
      rw [tgF_part] at hg
      rw [tlF_part]
      by_cases hz : nul ≥ 0 ∧ y.z = true
      · rw [if_pos hz]
        exact ⟨by simp, by simp [smVs]⟩
      · rw [if_neg hz] at hg ⊢
        exact ⟨hg.1.v, ih y 0 hg.2⟩
    rw [tgF_sc h11 h10] at hg
    rw [tlF_sc h11 h10]
    exact smV_tlS
theorem smVs_tlL : ∀ (fs : List Fld) (y : Tre) (i : Nat), tgL fs y i → smVs (tlL fs y i)
  | [], _, _, _ => by simp [tlL, smVs]
  | f :: r, y, i, hg => by
    simp only [tgL] at hg
    exact ⟨smV_tlF f _ hg.1, smVs_tlL r y (i + 1) hg.2⟩
end
theorem smV_tlT {fs : List Fld} {y : Tre} (hg : tgT fs y) : smV (tlT fs y) := ⟨hg.1.v, smVs_tlL fs y 0 hg.2⟩
def SameC (x : Tre) : Prop := ∀ (t : Vw) (cs gs : List Value), RT t x cs → RT t x gs → smT x → smV x → CS Tryd.prog 14 [.agg cs.toArray, .agg gs.toArray] t (.bool true)
set_option maxHeartbeats 2000000 in
theorem spec_SameTree1 (x : Tre) (ih : ∀ z ∈ x.l, SameC z) : SameC x := by
  intro t cs gs hx hy hsm hsv
  obtain ⟨sS, sL, sU, rfl, hn, hS, ⟨lc, hL, hLs⟩, hU⟩ := hx.open
  obtain ⟨adS, cS, rfl, hleS⟩ := hS.shape
  obtain ⟨adL, cL, rfl, hleL⟩ := hL.shape
  have hU0 := hU
  obtain ⟨uc, hU1, hUs⟩ := hU0
  obtain ⟨hz1, hz2, hz3, hz4⟩ := hsm.open
  obtain ⟨adU, cU, rfl, hleU⟩ := hU1.shape
  obtain ⟨gS, gL, gU, rfl, hgn, hgS, ⟨glc, hgL, hgLs⟩, hgU⟩ := hy.open
  obtain ⟨agS, cgS, rfl, hgleS⟩ := hgS.shape
  obtain ⟨agL, cgL, rfl, hgleL⟩ := hgL.shape
  obtain ⟨guc, hgU1, hgUs⟩ := hgU
  obtain ⟨agU, cgU, rfl, hgleU⟩ := hgU1.shape
  obtain ⟨hv1, hv2⟩ := hsv.open
  refine CA.cs ?_
  refine ca_enter Tryd.func14 rfl Tryd.ntmps14 rfl ?_
  refine cd_sr ?_
  refine ln_box rfl rfl rfl (fun b1 => ?_)
  refine ln_box rfl rfl rfl (fun b2 => ?_)
  refine ln_pv (pv_assign rfl) rfl ?_
  refine ln_cd ?_
  refine cd_seq ?_
  refine cd_sr ?_
  refine ln_pv (pv_fieldAddr (off := 0) (r := 0) Tryd.underlying35 rfl (tiint64).size rfl rfl rfl) rfl ?_
  refine ln_pv (pv_ldo (i := 1) rfl Tryd.underlying2 rfl rfl rfl) rfl ?_
  refine ln_pv (pv_fieldAddr (off := 0) (r := 0) Tryd.underlying35 rfl (tiint64).size rfl rfl rfl) rfl ?_
  refine ln_pv (pv_ldo (i := 0) rfl Tryd.underlying2 rfl rfl rfl) rfl ?_
  refine ln_pv (pv_ff (pv_neq rfl rfl) (fun q => q rfl)) rfl ?_
  refine ln_pv (pv_move rfl) rfl ?_
  refine ln_gt rfl rfl rfl (pv_fieldAddr (off := 2) (r := 2) Tryd.underlying35 rfl (tibool).size rfl rfl rfl) rfl ?_
  refine ln_gt rfl rfl rfl (pv_ldo (i := 1) rfl Tryd.underlying4 rfl rfl rfl) rfl ?_
  refine ln_gt rfl rfl rfl (pv_fieldAddr (off := 2) (r := 2) Tryd.underlying35 rfl (tibool).size rfl rfl rfl) rfl ?_
  refine ln_gt rfl rfl rfl (pv_ldo (i := 0) rfl Tryd.underlying4 rfl rfl rfl) rfl ?_
  refine ln_gt rfl rfl rfl (pv_neqB Tryd.underlying4 rfl rfl rfl) rfl ?_
  refine ln_pv (pv_pick rfl (fun _ => rfl) (fun _ => rfl)) rfl ?_
  refine ln_pv (pv_move rfl) rfl ?_
  refine ln_gt rfl rfl rfl (pv_fieldAddr (off := 1) (r := 1) Tryd.underlying35 rfl (tiSl_uint8).size rfl rfl rfl) rfl ?_
  refine ln_gt rfl rfl rfl (pv_ldo (i := 1) rfl Tryd.underlying22 rfl rfl rfl) rfl ?_
  refine ln_gt rfl rfl rfl (pv_fieldAddr (off := 1) (r := 1) Tryd.underlying35 rfl (tiSl_uint8).size rfl rfl rfl) rfl ?_
  refine ln_gt rfl rfl rfl (pv_ldo (i := 0) rfl Tryd.underlying22 rfl rfl rfl) rfl ?_
  refine ln_gE rfl rfl rfl ?_
  refine ln_callS en_41 rfl (fun u hu => by have h := spec_Same u _ _ _ _ (RSv.mv hS hu) (RSv.mv hgS hu) (by omega); rwa [decide_eq_true rfl] at h) rfl ?_
  refine ln_gt rfl rfl rfl (pv_not rfl) rfl ?_
  refine ln_pv (pv_pick rfl (fun _ => rfl) (fun _ => rfl)) rfl ?_
  refine ln_pv (pv_move rfl) rfl ?_
  refine ln_gt rfl rfl rfl (pv_fieldAddr (off := 3) (r := 3) Tryd.underlying35 rfl (tiSl_spec_Tree).size rfl rfl rfl) rfl ?_
  refine ln_gt rfl rfl rfl (pv_ldo (i := 1) rfl Tryd.underlying32 rfl rfl rfl) rfl ?_
  refine ln_gt rfl rfl rfl (pv_len_slice Tryd.underlying32 rfl) rfl ?_
  refine ln_gt rfl rfl rfl (pv_fieldAddr (off := 3) (r := 3) Tryd.underlying35 rfl (tiSl_spec_Tree).size rfl rfl rfl) rfl ?_
  refine ln_gt rfl rfl rfl (pv_ldo (i := 0) rfl Tryd.underlying32 rfl rfl rfl) rfl ?_
  refine ln_gt rfl rfl rfl (pv_len_slice Tryd.underlying32 rfl) rfl ?_
  refine ln_gt rfl rfl rfl (pv_ff (pv_neq rfl rfl) (fun q => q rfl)) rfl ?_
  refine ln_pv (pv_pick rfl (fun _ => rfl) (fun _ => rfl)) rfl ?_
  refine ln_pv (pv_move rfl) rfl ?_
  refine ln_gt rfl rfl rfl (pv_fieldAddr (off := 4) (r := 4) Tryd.underlying35 rfl (tiSl_spec_Tag).size rfl rfl rfl) rfl ?_
  refine ln_gt rfl rfl rfl (pv_ldo (i := 1) rfl Tryd.underlying33 rfl rfl rfl) rfl ?_
  refine ln_gt rfl rfl rfl (pv_len_slice Tryd.underlying33 rfl) rfl ?_
  refine ln_gt rfl rfl rfl (pv_fieldAddr (off := 4) (r := 4) Tryd.underlying35 rfl (tiSl_spec_Tag).size rfl rfl rfl) rfl ?_
  refine ln_gt rfl rfl rfl (pv_ldo (i := 0) rfl Tryd.underlying33 rfl rfl rfl) rfl ?_
  refine ln_gt rfl rfl rfl (pv_len_slice Tryd.underlying33 rfl) rfl ?_
  refine ln_gt rfl rfl rfl (pv_ff (pv_neq rfl rfl) (fun q => q rfl)) rfl ?_
  refine ln_pv (pv_pick rfl (fun _ => rfl) (fun _ => rfl)) rfl ?_
  refine ln_cd ?_
  refine cd_ff rfl ?_
  refine cd_skip ?_
  refine at_cd ?_
  refine cd_seq ?_
  refine cd_sr ?_
  refine ln_pv (pv_fieldAddr (off := 3) (r := 3) Tryd.underlying35 rfl (tiSl_spec_Tree).size rfl rfl rfl) rfl ?_
  refine ln_pv (pv_ldo (i := 1) rfl Tryd.underlying32 rfl rfl rfl) rfl ?_
  refine ln_pv (pv_len_slice Tryd.underlying32 rfl) rfl ?_
  refine ln_pv (pv_move rfl) rfl ?_
  refine ln_cd ?_
  refine cd_block ?_
  refine cd_loop (⟨fun (z : Nat) => [(2, .pointer (some ⟨b1, 0, none⟩)), (3, .pointer (some ⟨b2, 0, none⟩)), (47, .int .i64 (x.l.length : Int)), (48, .int .i64 ((z : Nat) : Int))], fun (z : Nat) => [.obj b2 (.cells [.int .i64 x.n, .slice agS x.s.length cgS, .bool x.z, .slice agL x.l.length cgL, .slice agU x.u.length cgU].toArray 35), .obj b1 (.cells [.int .i64 x.n, .slice adS x.s.length cS, .bool x.z, .slice adL x.l.length cL, .slice adU x.u.length cU].toArray 35)], fun (z : Nat) s => z ≤ x.l.length, fun (z : Nat) => x.l.length - z⟩ : Lp (Nat)) 0 ?_ ?_ ?_ ?_
  · intro s0 hs0
    exact Nat.zero_le _
  · exact ⟨rfl, rfl, rfl, rfl,  trivial⟩
  · exact (.cons_cons _ (.cons_cons _ .slnil))
  intro i s1 hl1 hI
  dsimp only at hI ⊢
  have hx := hx.mv hl1
  have hS := hS.mv hl1
  have hL := hL.mv hl1
  have hLs := hLs.mv hl1
  have hU1 := hU1.mv hl1
  have hUs := hUs.mv hl1
  have hy := hy.mv hl1
  have hgS := hgS.mv hl1
  have hgL := hgL.mv hl1
  have hgLs := hgLs.mv hl1
  have hgU1 := hgU1.mv hl1
  have hgUs := hgUs.mv hl1
  refine cd_sr ?_
  refine ln_pv (pv_lss rfl rfl) rfl ?_
  refine ln_cd ?_
  refine cd_seq ?_
  refine cd_if rfl (fun hc2 => ?_) (fun hc2 => ?_)
  · -- yes
    refine cd_skip ?_
    refine at_cd ?_
    refine cd_seq ?_
    refine cd_block ?_
    refine cd_sr ?_
    refine ln_pv (pv_move rfl) rfl ?_
    refine ln_pv (pv_assign rfl) rfl ?_
    refine ln_cd ?_
    have hi : i < x.l.length := by omega
    obtain ⟨b0, o0, rfl, hrc⟩ := hL.pos (by omega) (by decide)
    obtain ⟨c1, c2, c3, he, hk, hr⟩ := RTs.at_ hi hLs
    have hsub := hrc.sub (i * 5) he hk
    obtain ⟨b5, o5, rfl, hrcg⟩ := hgL.pos (by omega) (by decide)
    obtain ⟨d1, d2, d3, heg, hkg, hrg⟩ := RTs.at_ hi hgLs
    have hsubg := hrcg.sub (i * 5) heg hkg
    refine cd_dr' [0, 1] [0, 1, 2, 3, 4, 5, 6, 7, 8, 9, 11] [0, 1, 2, 3, 4, 5, 6, 7, 8, 9, 10, 11] mixed (by kernel_rfl) ?_
    refine lo_pv rfl rfl (sk_js (Tr.refl _) [0, 1] rfl) (pv_fieldAddr (off := 3) (r := 3) Tryd.underlying35 rfl (tiSl_spec_Tree).size rfl rfl rfl) rfl ?_
    refine lo_pv rfl rfl (sk_js (Tr.refl _) [0, 1] rfl) (pv_ldo (i := 1) rfl Tryd.underlying32 rfl rfl rfl) rfl ?_
    refine lo_pv rfl rfl (sk_js (Tr.refl _) [0, 1] rfl) (pv_move rfl) rfl ?_
    refine lo_pv rfl rfl (sk_js (Tr.refl _) [0, 1] rfl) (pv_ixN Tryd.underlying32 tispec_Tree.size rfl rfl hi) rfl ?_
    refine lo_pv rfl rfl (sk_js (Tr.refl _) [0, 1] rfl) (pv_ldR hsub Tryd.underlying35 rfl tispec_Tree.size rfl hr.len) rfl ?_
    refine lo_pv rfl rfl (sk_js (Tr.refl _) [0, 1] rfl) (pv_fieldAddr (off := 3) (r := 3) Tryd.underlying35 rfl (tiSl_spec_Tree).size rfl rfl rfl) rfl ?_
    refine lo_pv rfl rfl (sk_js (Tr.refl _) [0, 1] rfl) (pv_ldo (i := 0) rfl Tryd.underlying32 rfl rfl rfl) rfl ?_
    refine lo_pv rfl rfl (sk_js (Tr.refl _) [0, 1] rfl) (pv_move rfl) rfl ?_
    refine lo_pv rfl rfl (sk_js (Tr.refl _) [0, 1] rfl) (pv_ixN Tryd.underlying32 tispec_Tree.size rfl rfl hi) rfl ?_
    refine lo_pv rfl rfl (sk_js (Tr.refl _) [0, 1] rfl) (pv_ldR hsubg Tryd.underlying35 rfl tispec_Tree.size rfl hrg.len) rfl ?_
    refine lo_eff rfl rfl ?_
    refine ln_callS en_14 rfl (fun u hu => ih _ (List.getElem_mem hi) u _ _ (RT.mv hr hu) (RT.mv hrg hu) (smTs.mem hz4 _ (List.getElem_mem hi)) (smVs.mem hv2 _ (List.getElem_mem hi))) rfl ?_
    refine lo_back (sk_js (Tr.refl _) [0, 1] rfl) ?_
    refine lo_pv rfl rfl (sk_js (Tr.refl _) [0, 1] rfl) (pv_not rfl) rfl ?_
    refine lo_cd ?_
    refine cd_ff rfl ?_
    refine cd_skip ?_
    refine at_cd ?_
    refine cd_region ?_
    refine ln_pv (pv_add' rfl rfl (wrap_succ (by omega))) rfl ?_
    refine ln_pv (pv_move rfl) rfl ?_
    refine ln_nil ?_
    refine at_rnd (i + 1) hl1 ?_ ?_ ⟨rfl, rfl, rfl, rfl,  trivial⟩ (.cons_cons _ (.cons_cons _ .slnil))
    · intro s9 hs9
      show i + 1 ≤ _
      omega
    · dsimp only; omega
  · -- no
    refine cd_exit rfl ?_
    refine at_cd ?_
    refine cd_seq ?_
    refine cd_sr ?_
    refine ln_pv (pv_fieldAddr (off := 4) (r := 4) Tryd.underlying35 rfl (tiSl_spec_Tag).size rfl rfl rfl) rfl ?_
    refine ln_pv (pv_ldo (i := 1) rfl Tryd.underlying33 rfl rfl rfl) rfl ?_
    refine ln_pv (pv_len_slice Tryd.underlying33 rfl) rfl ?_
    refine ln_pv (pv_move rfl) rfl ?_
    refine ln_cd ?_
    refine cd_block ?_
    refine cd_loop (⟨fun (z : Nat) => [(2, .pointer (some ⟨b1, 0, none⟩)), (3, .pointer (some ⟨b2, 0, none⟩)), (66, .int .i64 (x.u.length : Int)), (67, .int .i64 ((z : Nat) : Int))], fun (z : Nat) => [.obj b2 (.cells [.int .i64 x.n, .slice agS x.s.length cgS, .bool x.z, .slice agL x.l.length cgL, .slice agU x.u.length cgU].toArray 35), .obj b1 (.cells [.int .i64 x.n, .slice adS x.s.length cS, .bool x.z, .slice adL x.l.length cL, .slice adU x.u.length cU].toArray 35)], fun (z : Nat) s => z ≤ x.u.length, fun (z : Nat) => x.u.length - z⟩ : Lp (Nat)) 0 ?_ ?_ ?_ ?_
    · intro s0 hs0
      exact Nat.zero_le _
    · exact ⟨rfl, rfl, rfl, rfl,  trivial⟩
    · exact (.cons_cons _ (.cons_cons _ .slnil))
    intro j s2 hl2 hI
    dsimp only at hI ⊢
    have hx := hx.mv hl2
    have hS := hS.mv hl2
    have hL := hL.mv hl2
    have hLs := hLs.mv hl2
    have hU1 := hU1.mv hl2
    have hUs := hUs.mv hl2
    have hy := hy.mv hl2
    have hgS := hgS.mv hl2
    have hgL := hgL.mv hl2
    have hgLs := hgLs.mv hl2
    have hgU1 := hgU1.mv hl2
    have hgUs := hgUs.mv hl2
    refine cd_sr ?_
    refine ln_pv (pv_lss rfl rfl) rfl ?_
    refine ln_cd ?_
    refine cd_seq ?_
    refine cd_if rfl (fun hc3 => ?_) (fun hc3 => ?_)
    · -- yes
      refine cd_skip ?_
      refine at_cd ?_
      refine cd_seq ?_
      refine cd_block ?_
      refine cd_sr ?_
      refine ln_pv (pv_move rfl) rfl ?_
      refine ln_pv (pv_assign rfl) rfl ?_
      refine ln_cd ?_
      have hj : j < x.u.length := by omega
      obtain ⟨b0, o0, rfl, hrc⟩ := hU1.pos (by omega) (by decide)
      obtain ⟨c1, tv, c3, he, hk, hkk, hTv⟩ := RUs.at_ hj hUs
      have hsub := hrc.sub (j * 2) he hk
      obtain ⟨b5, o5, rfl, hrcg⟩ := hgU1.pos (by omega) (by decide)
      obtain ⟨e1, tg, e3, heg, hkg, hkkg, hTg⟩ := RUs.at_ hj hgUs
      have hsubg := hrcg.sub (j * 2) heg hkg
      have hvl := hv1 _ (List.getElem_mem hj)
      refine cd_dr' [0, 1] [0, 1, 2, 3, 4, 5, 6, 7, 8, 9, 10, 11, 13, 14, 15, 16, 17, 18, 19, 20, 21, 22, 23, 24, 25, 27, 28] [0, 1, 2, 3, 4, 5, 6, 7, 8, 9, 10, 11, 12, 13, 14, 15, 16, 17, 18, 19, 20, 21, 22, 23, 24, 25, 26, 27, 28] mixed (by kernel_rfl) ?_
      refine lo_pv rfl rfl (sk_js (Tr.refl _) [0, 1] rfl) (pv_fieldAddr (off := 4) (r := 4) Tryd.underlying35 rfl (tiSl_spec_Tag).size rfl rfl rfl) rfl ?_
      refine lo_pv rfl rfl (sk_js (Tr.refl _) [0, 1] rfl) (pv_ldo (i := 1) rfl Tryd.underlying33 rfl rfl rfl) rfl ?_
      refine lo_pv rfl rfl (sk_js (Tr.refl _) [0, 1] rfl) (pv_move rfl) rfl ?_
      refine lo_pv rfl rfl (sk_js (Tr.refl _) [0, 1] rfl) (pv_ixN Tryd.underlying33 tispec_Tag.size rfl rfl hj) rfl ?_
      refine lo_pv rfl rfl (sk_js (Tr.refl _) [0, 1] rfl) (pv_fieldAddr (off := 0)  Tryd.underlying57 rfl (tiuint32).size rfl rfl rfl) rfl ?_
      refine lo_pv rfl rfl (sk_js (Tr.refl _) [0, 1] rfl) (pv_ldr (j := 0) hsub Tryd.underlying55 rfl rfl rfl) rfl ?_
      refine lo_pv rfl rfl (sk_js (Tr.refl _) [0, 1] rfl) (pv_fieldAddr (off := 4) (r := 4) Tryd.underlying35 rfl (tiSl_spec_Tag).size rfl rfl rfl) rfl ?_
      refine lo_pv rfl rfl (sk_js (Tr.refl _) [0, 1] rfl) (pv_ldo (i := 0) rfl Tryd.underlying33 rfl rfl rfl) rfl ?_
      refine lo_pv rfl rfl (sk_js (Tr.refl _) [0, 1] rfl) (pv_move rfl) rfl ?_
      refine lo_pv rfl rfl (sk_js (Tr.refl _) [0, 1] rfl) (pv_ixN Tryd.underlying33 tispec_Tag.size rfl rfl hj) rfl ?_
      refine lo_pv rfl rfl (sk_js (Tr.refl _) [0, 1] rfl) (pv_fieldAddr (off := 0)  Tryd.underlying57 rfl (tiuint32).size rfl rfl rfl) rfl ?_
      refine lo_pv rfl rfl (sk_js (Tr.refl _) [0, 1] rfl) (pv_ldr (j := 0) hsubg Tryd.underlying55 rfl rfl rfl) rfl ?_
      refine lo_eff rfl rfl ?_
      refine ln_pv (pv_ff (pv_neq rfl rfl) (fun q => q rfl)) rfl ?_
      refine lo_back (sk_js (Tr.refl _) [0, 1] rfl) ?_
      refine lo_pv rfl rfl (sk_js (Tr.refl _) [0, 1] rfl) (pv_move rfl) rfl ?_
      refine lo_gt rfl rfl (sk_js (Tr.refl _) [0, 1] rfl) rfl rfl rfl (pv_fieldAddr (off := 4) (r := 4) Tryd.underlying35 rfl (tiSl_spec_Tag).size rfl rfl rfl) rfl ?_
      refine lo_gt rfl rfl (sk_js (Tr.refl _) [0, 1] rfl) rfl rfl rfl (pv_ldo (i := 1) rfl Tryd.underlying33 rfl rfl rfl) rfl ?_
      refine lo_gt rfl rfl (sk_js (Tr.refl _) [0, 1] rfl) rfl rfl rfl (pv_move rfl) rfl ?_
      refine lo_gt rfl rfl (sk_js (Tr.refl _) [0, 1] rfl) rfl rfl rfl (pv_ixN Tryd.underlying33 tispec_Tag.size rfl rfl hj) rfl ?_
      refine lo_gt rfl rfl (sk_js (Tr.refl _) [0, 1] rfl) rfl rfl rfl (pv_fieldAddr (off := 1)  Tryd.underlying57 rfl (tiSl_uint8).size rfl rfl rfl) rfl ?_
      refine lo_gt rfl rfl (sk_js (Tr.refl _) [0, 1] rfl) rfl rfl rfl (pv_ldr (j := 1) hsub Tryd.underlying22 rfl rfl rfl) rfl ?_
      refine lo_gt rfl rfl (sk_js (Tr.refl _) [0, 1] rfl) rfl rfl rfl (pv_fieldAddr (off := 4) (r := 4) Tryd.underlying35 rfl (tiSl_spec_Tag).size rfl rfl rfl) rfl ?_
      refine lo_gt rfl rfl (sk_js (Tr.refl _) [0, 1] rfl) rfl rfl rfl (pv_ldo (i := 0) rfl Tryd.underlying33 rfl rfl rfl) rfl ?_
      refine lo_gt rfl rfl (sk_js (Tr.refl _) [0, 1] rfl) rfl rfl rfl (pv_move rfl) rfl ?_
      refine lo_gt rfl rfl (sk_js (Tr.refl _) [0, 1] rfl) rfl rfl rfl (pv_ixN Tryd.underlying33 tispec_Tag.size rfl rfl hj) rfl ?_
      refine lo_gt rfl rfl (sk_js (Tr.refl _) [0, 1] rfl) rfl rfl rfl (pv_fieldAddr (off := 1)  Tryd.underlying57 rfl (tiSl_uint8).size rfl rfl rfl) rfl ?_
      refine lo_gt rfl rfl (sk_js (Tr.refl _) [0, 1] rfl) rfl rfl rfl (pv_ldr (j := 1) hsubg Tryd.underlying22 rfl rfl rfl) rfl ?_
      refine lo_eff rfl rfl ?_
      refine ln_gE rfl rfl rfl ?_
      refine ln_callS en_41 rfl (fun u hu => by have h := spec_Same u _ _ _ _ (RSv.mv hTv hu) (RSv.mv hTg hu) hvl; rwa [decide_eq_true rfl] at h) rfl ?_
      refine lo_back (sk_js (Tr.refl _) [0, 1] rfl) ?_
      refine lo_gt rfl rfl (sk_js (Tr.refl _) [0, 1] rfl) rfl rfl rfl (pv_not rfl) rfl ?_
      refine lo_pv rfl rfl (sk_js (Tr.refl _) [0, 1] rfl) (pv_pick rfl (fun _ => rfl) (fun _ => rfl)) rfl ?_
      refine lo_cd ?_
      refine cd_ff rfl ?_
      refine cd_skip ?_
      refine at_cd ?_
      refine cd_region ?_
      refine ln_pv (pv_add' rfl rfl (wrap_succ (by omega))) rfl ?_
      refine ln_pv (pv_move rfl) rfl ?_
      refine ln_nil ?_
      refine at_rnd (j + 1) hl2 ?_ ?_ ⟨rfl, rfl, rfl, rfl,  trivial⟩ (.cons_cons _ (.cons_cons _ .slnil))
      · intro s9 hs9
        show j + 1 ≤ _
        omega
      · dsimp only; omega
    · -- no
      refine cd_exit rfl ?_
      refine at_cd ?_
      refine cd_sr ?_
      refine ln_pv (pv_assign rfl) rfl ?_
      refine ln_cd ?_
      refine cd_ret ?_
      refine at_retA rfl rfl (fun w hS => ?_)
      rfl
theorem spec_SameTree_n : ∀ (n : Nat) (x : Tre), SizeOf.sizeOf x < n → SameC x
  | 0, _, h => absurd h (by omega)
  | n + 1, x, h => spec_SameTree1 x fun z hz => spec_SameTree_n n z (by
      have h1 := List.sizeOf_lt_of_mem hz
      cases x
      simp only [Tre.l] at h1
      simp only [Tre.mk.sizeOf_spec] at h
      omega)
theorem spec_SameTree (x : Tre) : SameC x := spec_SameTree_n _ x (Nat.lt_succ_self _)
end K
end Go.Proofs.YtjjfpdofkdolnaaDoor
