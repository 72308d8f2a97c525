import Derived.Test.YtjjfpdofkdolnaaDoorUe
set_option linter.unusedVariables false
set_option linter.unusedSimpArgs false
namespace Go.Proofs.YtjjfpdofkdolnaaDoor
namespace K
open Go Go.Lib
section
variable {n : Nat} {L : Env} {H H0 : Hp} {C : Cx} {s : Vw} {N R : Act → World → Prop} {X : List (Nat × (Act → World → Prop))}
variable {id id0 id1 id2 id3 id4 id5 id6 id7 id8 id9 : Nat} {tb ts un fx vr x y d0 d1 d2 d3 d4 d5 d6 d7 d8 d9 e1 e2 e3 e4 y1 y2 y3 y4 : Nat} {f g : FuncId} {br b o po len fo k sz : Nat} {mk : List Value → Ent} {v c val : Value} {rest bs : List UInt8}
variable {ty0 ty1 ty2 ty3 ty4 ty5 ty6 ty7 ty8 ty9 : TypeId} {p0 p1 p2 p3 p4 p5 p6 p7 p8 p9 : String} {a0 a1 a2 a3 a4 a5 a6 a7 a8 a9 : Array Edge} {tys tyt : Array TypeId}
variable {uy1 uy2 uy3 uy4 uy5 uy6 uy7 uy8 : TypeId} {q1 q2 q3 q4 q5 q6 q7 q8 : String} {c1 c2 c3 c4 c5 c6 c7 c8 : Array Edge}
variable {T ft : TypeId} {fs : Array Field} {fd : Field} {fl : Fld} {r fsd : List Fld} {v0 : Int} {q : Bool} {Y : Tre} {done zc zs : List Value} {z : Value} {E0 : Ent}
variable {st E : Rst} {ub : Bool}

/-- a number of a named kind -/
theorem st_enumU (hR : RsU s (fl :: r) fsd v0 q Y st E v done) (hh : hasB fl v0 = true) (hb : lk L tb = some (.pointer (some ⟨br, 0, none⟩))) (hent : Enters Tryd.prog f) (hc : Fx f fl v0 q st) (hs : lk L ts = some (.pointer (some ⟨b, po, none⟩))) (hT : Tgt mk b o len) (hl : fszs fsd + (zs.length + 1) = len) (hu : Tryd.prog.underlying T = some (.struct fs)) (hk : fs[k]? = some fd) (hsz : (Tryd.prog.info? fd.type).map (·.size) = some (sz + 1)) (ho : fd.offset = fo)
    (hpo : po + fo = o + fszs fsd) (hsz1 : (Tryd.prog.info? ft).map (·.size) = some 1) (hf1 : frs n L [y1, d5, y2, d6, y, d7] = true) (hf : frs n L [y1, y2, y, d1, d2, d3, d4] = true) (kk : ∀ u v' st' done', Tr s u → RsU u r (fsd ++ [fl]) v0 q Y st' E v' done' → At N n L (RdX br v' st'.2 :: mk (done' ++ zs) :: H0) C u) :
    Cd Tryd.prog (.seq (.seq (.region id0 [⟨some d5, .call ⟨.value (.func f), [.tmp tb].toArray, tys⟩, ty6, p6, a6, none⟩, ⟨some y1, .assign (.tmp d5), ty7, p7, a7, none⟩].toArray false) (.region id1 [⟨some d6, .move (.tmp y1), uy1, q1, c1, none⟩, ⟨some y2, .assign (.tmp d6), uy2, q2, c2, none⟩].toArray false))
      (.seq (.region id2 [⟨some d7, .move (.tmp y2), uy3, q3, c3, none⟩, ⟨some y, .assign (.tmp d7), uy4, q4, c4, none⟩].toArray false) (.region id [⟨some d1, .move (.tmp ts), ty1, p1, a1, none⟩, ⟨some d2, .move (.tmp y), ty2, p2, a2, none⟩, ⟨some d3, .nilCheck (.tmp d1), ty3, p3, a3, none⟩, ⟨some d4, .fieldAddr T (.tmp d3) k, ty4, p4, a4, none⟩, ⟨none, .store ft (.tmp d4) (.tmp d2), ty5, p5, a5, none⟩].toArray false))) ⟨N, R, X⟩ n L (RdX br v st.2 :: mk (done ++ z :: zs) :: H0) C s := by
  have hff := hf1
  have hfg := hf
  obtain ⟨hb', hfr, hne⟩ := frs_get hf1
  simp only [List.pairwise_cons, List.mem_cons, List.not_mem_nil, or_false, forall_eq_or_imp, forall_eq, List.Pairwise.nil, and_true, false_imp_iff, implies_true] at hb' hfr hne
  obtain ⟨gb', gfr, gne⟩ := frs_get hf
  simp only [List.pairwise_cons, List.mem_cons, List.not_mem_nil, or_false, forall_eq_or_imp, forall_eq, List.Pairwise.nil, and_true, false_imp_iff, implies_true] at gb' gfr gne
  have k1 : frs n L [y1, d5] = true := by simp only [frs, fr, Bool.and_eq_true, List.all_cons, List.all_nil] at hff ⊢; simp_all
  have hbq : ∀ a b : Nat, ¬ a = b → Nat.beq a b = false := fun a b h => nbeq h
  refine cd_sq ?_
  refine cd_sq ?_
  refine rg_callU hb hent hc hR.hv k1 (fun u ux v' c hu1 hu2 hm hv' => ?_)
  refine at_cd ?_
  refine rg_move lk_eq (by simp only [frs, fr, Bool.and_eq_true, List.all_cons, List.all_nil] at hff ⊢; simp_all) ?_
  refine at_cd ?_
  refine cd_sq ?_
  refine rg_move lk_eq (by simp only [frs, fr, Bool.and_eq_true, List.all_cons, List.all_nil] at hff ⊢; simp_all) ?_
  refine at_cd ?_
  refine cd_sub_ (L' := (y, c) :: L) (.cons (.skip hfr.2.2.1 (.skip hfr.1 .rfl'))) ?_
  exact st_restU hR hh hu1 hu2 hm hv' hs hT hl hu hk hsz ho hpo hsz1 (frs_tail (frs_tail hf)) kk
end
theorem pm_in {a m : Ent} {E : Hp} : (a :: (E ++ [m])).Perm (m :: a :: E) := ((List.perm_append_singleton m E).cons a).trans (List.Perm.swap m a E)
theorem pm_out {a m c : Ent} {E : Hp} : (a :: m :: c :: E).Perm ((c :: (E ++ [m])) ++ [a]) := by
  refine List.Perm.trans ?_ (List.perm_append_singleton a _).symm
  exact (pm_in (a := c) (m := m) (E := E)).symm.cons a
theorem seven_of {α : Type} {l : List α} (h : l.length = 7) : ∃ a b c d e f g, l = [a, b, c, d, e, f, g] := by
  match l, h with
  | [a, b, c, d, e, f, g], _ => exact ⟨a, b, c, d, e, f, g, rfl⟩
/-! ### The message, as it is read: its fields are there at any version -/
abbrev tSub : List Fld := [.mk 8 (-32768) (-1) (-1) (-1) 0 0 [], .mk 11 (-32768) (-1) (-1) (-1) 0 3 []]
abbrev tPl : List Fld := [.mk 4 (-32768) (-1) (-1) (-1) 0 0 [], .mk 2 (-32768) (-1) (-1) (-1) 0 0 [], .mk 3 (-32768) (-1) (-1) (-1) 0 0 [], .mk 1 (-32768) (-1) (-1) (-1) 0 0 [], .mk 11 (-32768) (-1) 0 (-1) 0 10 tSub, .mk 4 (-32768) (-1) (-1) (-1) 0 0 [], .mk 4 (-32768) (-1) (-1) (-1) 0 0 []]
abbrev tG0 : Fld := .mk 4 (-32768) (-1) (-1) (-1) (-1) 0 []
abbrev tG2 : Fld := .mk 2 (-32768) (-1) (-1) (-1) (-1) 0 []
abbrev tAll : List Fld := tPl ++ [tG0] ++ [tG0] ++ [tG2] ++ [tG2]
def tF (k : Nat) : Fld := if k < 2 then tG0 else tG2
abbrev tDf : List Tre := [.mk (-1) [] false [] [], .mk (-1) [] false [] [], .mk 0 [] false [] [], .mk (-1) [] false [] []]
abbrev Wst := Rst × List Tre × Tags
/-- what one tag does -/
noncomputable def dcT (w : Wst) : Wst :=
  if (dcG w.1).1.1 < 4 then (((dcG w.1).2.1, (dcG w.1).2.2 || (dcF (tF (dcG w.1).1.1) 0 false ((dcG w.1).1.2, false)).2.2), w.2.1.set (dcG w.1).1.1 (dcF (tF (dcG w.1).1.1) 0 false ((dcG w.1).1.2, false)).1, w.2.2)
  else ((dcG w.1).2, w.2.1, setU (dcG w.1).1.1 (dcG w.1).1.2 w.2.2)
noncomputable def itT : Nat → Wst → Wst
  | 0, w => w
  | n + 1, w => dcT (itT n w)
noncomputable def dcTg (q : Bool) (s : Rst) : Wst := if q then itT (stp gUv s).1 ((stp gUv s).2, tDf, []) else (s, tDf, [])
noncomputable def tV (s : Rst) : Int := IntKind.i16.wrap ((gN 2 s.1).1 : Int)
noncomputable def tQ (s : Rst) : Bool := decide (tV s ≥ 1)
noncomputable def tL (s : Rst) : List Tre × Rst := dcL tPl (tV s) (tQ s) (stp (gN 2) s).2
noncomputable def tE (s : Rst) : Wst := dcTg (tQ s) (tL s).2
noncomputable def tY (s : Rst) : Tre := .mk 0 [] false ((tL s).1 ++ (tE s).2.1) (srtU (tE s).2.2)
theorem dcT_bad {w : Wst} (h : w.1.2 = true) : (dcT w).1.2 = true := by
  have h1 := (dcG_sane w.1).1 h
  unfold dcT
  split
  · simp [h1]
  · exact h1
theorem dcT_len (w : Wst) : (dcT w).1.1.length ≤ w.1.1.length := by
  have h1 := (dcG_sane w.1).2
  unfold dcT
  split
  · exact h1
  · exact h1
theorem itT_bad {w : Wst} {i : Nat} : ∀ {m : Nat}, i ≤ m → (itT i w).1.2 = true → (itT m w).1.2 = true
  | 0, h, hb => by
    obtain rfl : i = 0 := by omega
    exact hb
  | m + 1, h, hb => by
    by_cases e : i = m + 1
    · subst e; exact hb
    · exact dcT_bad (itT_bad (m := m) (by omega) hb)
theorem itT_len (w : Wst) : ∀ i, (itT i w).1.1.length ≤ w.1.1.length
  | 0 => Nat.le_refl _
  | i + 1 => Nat.le_trans (dcT_len _) (itT_len w i)
/-- what is had of the numbers and the tags on the way -/
def WOk (w : Wst) : Prop := w.2.1.length = 4 ∧ (∀ y ∈ w.2.1, y.s.length ≤ 32767) ∧ (w.2.2.map (·.1)).Nodup ∧ ∀ y ∈ w.2.2, y.1 < 4294967296 ∧ y.2.length ≤ 32767
theorem dcT_ok {w : Wst} (h : WOk w) (hK : w.1.1.length ≤ 32767) : WOk (dcT w) := by
  obtain ⟨h1, h2, h3, h4⟩ := h
  have hg := dcG_few 32767 w.1 hK
  unfold dcT
  split
  · refine ⟨by simpa using h1, fun y hy => ?_, h3, h4⟩
    rcases List.mem_or_eq_of_mem_set hy with hy | hy
    · exact h2 y hy
    · rw [hy]
      have e : ∀ k, (dcF (tF k) 0 false ((dcG w.1).1.2, false)).1.s.length ≤ 32767 := fun k => by
        unfold tF
        split
        · rw [dcF_sc (by decide)]; exact dcS_s hg.2
        · rw [dcF_sc (by decide)]; exact dcS_s hg.2
      exact e _
  · refine ⟨h1, h2, setU_keys.2 h3, fun y hy => ?_⟩
    rcases setU_mem hy with hy | hy
    · rw [hy]; exact hg
    · exact h4 y hy
theorem itT_ok {w : Wst} (h : WOk w) (hK : w.1.1.length ≤ 32767) : ∀ i, WOk (itT i w)
  | 0 => h
  | i + 1 => dcT_ok (itT_ok h hK i) (Nat.le_trans (itT_len w i) hK)
theorem itT_few (w : Wst) : ∀ i, (itT i w).2.2.length ≤ w.2.2.length + i
  | 0 => Nat.le_refl _
  | i + 1 => by
    have ih := itT_few w i
    show (dcT (itT i w)).2.2.length ≤ _
    unfold dcT
    split
    · simp only; omega
    · have := setU_len (k := (dcG (itT i w).1).1.1) (b := (dcG (itT i w).1).1.2) (u := (itT i w).2.2)
      simp only
      omega
theorem gUv_lt (bs : List UInt8) : (gUv bs).1 < 4294967296 := by
  have := (uv_spec bs).1
  unfold gUv
  split <;> simp <;> omega
theorem w0_ok (s : Rst) : WOk (s, tDf, []) := ⟨rfl, by simp [tDf, Tre.s], by simp, by simp⟩
theorem tE_ok {s : Rst} (hK : s.1.length ≤ 32767) : WOk (tE s) ∧ (tE s).2.2.length < 4294967296 := by
  have hl : (tL s).2.1.length ≤ 32767 := Nat.le_trans (dcL_sane tPl _ _ _).2 (Nat.le_trans (gN_le 2 s.1) hK)
  unfold tE dcTg
  split
  · have h1 := (stp_sane gUv_le (tL s).2).2
    refine ⟨itT_ok (w0_ok _) (Nat.le_trans h1 hl) _, ?_⟩
    have h2 := itT_few ((stp gUv (tL s).2).2, tDf, []) (stp gUv (tL s).2).1
    have h3 := gUv_lt (tL s).2.1
    have h4 : (stp gUv (tL s).2).1 = (gUv (tL s).2.1).1 := rfl
    simp only [List.length_nil, Nat.zero_add] at h2
    omega
  · exact ⟨w0_ok _, by simp⟩
theorem dcL_length : ∀ (fs : List Fld) (v : Int) (q : Bool) (s : Rst), (dcL fs v q s).1.length = fs.length
  | [], _, _, _ => by simp [dcL]
  | f :: r, v, q, s => by simp only [dcL, List.length_cons]; rw [dcL_length r]
theorem tL_len (s : Rst) : (tL s).1.length = 7 := dcL_length _ _ _ _
theorem tY_lo {s : Rst} {j : Nat} (h : j < 7) : (tY s).at_ j = ((tL s).1[j]?).getD .nul := by
  simp only [tY, Tre.at_, Tre.l]
  rw [List.getElem?_append_left (by rw [tL_len]; exact h)]
theorem tY_hi {s : Rst} {j : Nat} : (tY s).at_ (7 + j) = ((tE s).2.1[j]?).getD .nul := by
  simp only [tY, Tre.at_, Tre.l]
  rw [List.getElem?_append_right (by rw [tL_len]; omega), tL_len, Nat.add_sub_cancel_left]
theorem RsU.startT {u : Vw} {s : Rst} {v : Value} (hv : RSv u v (gN 2 s.1).2.1) (hK : s.1.length ≤ 32767) : RsU u tPl [] (tV s) (tQ s) (tY s) (stp (gN 2) s).2 (tL s).2 v [] :=
  ⟨hv, by simp [RMl], fun j hj => by
    have hj : j < 7 := hj
    rw [List.length_nil, Nat.zero_add, tY_lo hj]
    rfl, rfl, Nat.le_trans (gN_le 2 s.1) hK⟩
theorem tgL_congr : ∀ (fs : List Fld) (y y' : Tre) (i i' : Nat), (∀ j, j < fs.length → y.at_ (i + j) = y'.at_ (i' + j)) → tgL fs y i → tgL fs y' i'
  | [], _, _, _, _, _, _ => by simp [tgL]
  | f :: r, y, y', i, i', h, hg => by
    simp only [tgL] at hg ⊢
    have h0 := h 0 (by simp)
    simp only [Nat.add_zero] at h0
    refine ⟨h0 ▸ hg.1, tgL_congr r y y' (i + 1) (i' + 1) (fun j hj => ?_) hg.2⟩
    have := h (j + 1) (by simpa using hj)
    rw [show i + 1 + j = i + (j + 1) by omega, show i' + 1 + j = i' + (j + 1) by omega]
    exact this
theorem tgL_app : ∀ (a b : List Fld) (y : Tre) (i : Nat), tgL a y i → tgL b y (i + a.length) → tgL (a ++ b) y i
  | [], b, y, i, _, h => h
  | f :: r, b, y, i, h, h' => by
    simp only [List.cons_append, tgL] at h ⊢
    exact ⟨h.1, tgL_app r b y (i + 1) h.2 (by rw [show i + 1 + r.length = i + (f :: r).length by simp; omega]; exact h')⟩
theorem tgT_tY {s : Rst} (hK : s.1.length ≤ 32767) : tgT tAll (tY s) := by
  obtain ⟨⟨h1, h2, h3, h4⟩, h5⟩ := tE_ok hK
  have hp := srtU_perm (tE s).2.2
  refine ⟨⟨srtU_lt h3, fun y hy => (h4 y (hp.mem_iff.1 hy)).1, fun y hy => by have := (h4 y (hp.mem_iff.1 hy)).2; omega, by show (srtU (tE s).2.2).length < _; rw [hp.length_eq]; omega⟩, ?_⟩
  have hpl : tgL tPl (tY s) 0 := by
    have h := tgL_dc tPl (tV s) (tQ s) (stp (gN 2) s).2 [] 0 [] (by kernel_rfl) rfl (Nat.le_trans (gN_le 2 s.1) hK)
    refine tgL_congr tPl _ _ 0 0 (fun j hj => ?_) h
    rw [Nat.zero_add, tY_lo hj]
    rfl
  have hg : ∀ (f : Fld) (j : Nat), j < 4 → f = tG0 ∨ f = tG2 → tgL [f] (tY s) (7 + j) := fun f j hj hf => by
    have hs : ((tY s).at_ (7 + j)).s.length ≤ 32767 := by
      rw [tY_hi, List.getElem?_eq_getElem (by rw [h1]; exact hj)]
      exact h2 _ (List.getElem_mem _)
    rcases hf with rfl | rfl
    · exact ⟨by simpa [tgF] using hs, trivial⟩
    · exact ⟨by simpa [tgF] using hs, trivial⟩
  exact tgL_app _ _ _ 0 (tgL_app _ _ _ 0 (tgL_app _ _ _ 0 (tgL_app _ _ _ 0 hpl (hg _ 0 (by decide) (.inl rfl))) (hg _ 1 (by decide) (.inl rfl))) (hg _ 2 (by decide) (.inr rfl))) (hg _ 3 (by decide) (.inr rfl))
/-- the four numbers that are tagged, as they lie -/
def AcR (u : Vw) (a : List Tre) (c0 c1 c2 c3 : Value) : Prop := ∃ y0 y1 y2 y3, a = [y0, y1, y2, y3] ∧ RMf u tG0 y0 [c0] ∧ RMf u tG0 y1 [c1] ∧ RMf u tG2 y2 [c2] ∧ RMf u tG2 y3 [c3]
theorem AcR.mv {u w : Vw} {a : List Tre} {c0 c1 c2 c3 : Value} (h : AcR u a c0 c1 c2 c3) (ht : Tr u w) : AcR w a c0 c1 c2 c3 := by
  obtain ⟨y0, y1, y2, y3, e, h0, h1, h2, h3⟩ := h
  exact ⟨y0, y1, y2, y3, e, RMf.mv ht h0, RMf.mv ht h1, RMf.mv ht h2, RMf.mv ht h3⟩
theorem AcR.df (u : Vw) : AcR u tDf (.int .i64 (-1)) (.int .i64 (-1)) (.int .i16 0) (.int .i16 (-1)) :=
  ⟨_, _, _, _, rfl, RMf_i64.2 ⟨rfl, by unfold I64; decide⟩, RMf_i64.2 ⟨rfl, by unfold I64; decide⟩, RMf_i16.2 rfl, RMf_i16.2 rfl⟩
theorem AcR.set0 {u : Vw} {a : List Tre} {c0 c1 c2 c3 c : Value} {y : Tre} (h : AcR u a c0 c1 c2 c3) (hy : RMf u tG0 y [c]) : AcR u (a.set 0 y) c c1 c2 c3 := by
  obtain ⟨y0, y1, y2, y3, rfl, h0, h1, h2, h3⟩ := h
  exact ⟨_, _, _, _, rfl, hy, h1, h2, h3⟩
theorem AcR.set1 {u : Vw} {a : List Tre} {c0 c1 c2 c3 c : Value} {y : Tre} (h : AcR u a c0 c1 c2 c3) (hy : RMf u tG0 y [c]) : AcR u (a.set 1 y) c0 c c2 c3 := by
  obtain ⟨y0, y1, y2, y3, rfl, h0, h1, h2, h3⟩ := h
  exact ⟨_, _, _, _, rfl, h0, hy, h2, h3⟩
theorem AcR.set2 {u : Vw} {a : List Tre} {c0 c1 c2 c3 c : Value} {y : Tre} (h : AcR u a c0 c1 c2 c3) (hy : RMf u tG2 y [c]) : AcR u (a.set 2 y) c0 c1 c c3 := by
  obtain ⟨y0, y1, y2, y3, rfl, h0, h1, h2, h3⟩ := h
  exact ⟨_, _, _, _, rfl, h0, h1, hy, h3⟩
theorem AcR.set3 {u : Vw} {a : List Tre} {c0 c1 c2 c3 c : Value} {y : Tre} (h : AcR u a c0 c1 c2 c3) (hy : RMf u tG2 y [c]) : AcR u (a.set 3 y) c0 c1 c2 c := by
  obtain ⟨y0, y1, y2, y3, rfl, h0, h1, h2, h3⟩ := h
  exact ⟨_, _, _, _, rfl, h0, h1, h2, hy⟩
/-- at the end: the struct is the tree -/
theorem tY_rel {u : Vw} {s : Rst} {d : List Value} {c0 c1 c2 c3 mv : Value} {ml : List (Nat × Value)} (hac : RMl u tPl (tY s) 0 d) (ha : AcR u (tE s).2.1 c0 c1 c2 c3) (hM : MK u mv ml) (hK : RK u ml (tE s).2.2) : RMp u tAll (tY s) (d ++ [c0] ++ [c1] ++ [c2] ++ [c3] ++ [mv]) := by
  obtain ⟨y0, y1, y2, y3, e, h0, h1, h2, h3⟩ := ha
  have g : ∀ j, (tY s).at_ (7 + j) = ([y0, y1, y2, y3][j]?).getD .nul := fun j => by rw [tY_hi, e]
  have r1 := RMl_snoc (f := tG0) (c' := [c0]) hac (show RMf u tG0 ((tY s).at_ (0 + 7)) [c0] from by rw [show (0 + 7 : Nat) = 7 + 0 by rfl, g 0]; exact h0)
  have r2 := RMl_snoc (f := tG0) (c' := [c1]) r1 (show RMf u tG0 ((tY s).at_ (0 + 8)) [c1] from by rw [show (0 + 8 : Nat) = 7 + 1 by rfl, g 1]; exact h1)
  have r3 := RMl_snoc (f := tG2) (c' := [c2]) r2 (show RMf u tG2 ((tY s).at_ (0 + 9)) [c2] from by rw [show (0 + 9 : Nat) = 7 + 2 by rfl, g 2]; exact h2)
  have r4 := RMl_snoc (f := tG2) (c' := [c3]) r3 (show RMf u tG2 ((tY s).at_ (0 + 10)) [c3] from by rw [show (0 + 10 : Nat) = 7 + 3 by rfl, g 3]; exact h3)
  exact ⟨_, mv, rfl, r4, ml, hM, (tE s).2.2, hK, (srtU_perm _).symm⟩
theorem i16_tV (s : Rst) : -32768 ≤ tV s ∧ tV s ≤ 32767 := by
  unfold tV
  simp [IntKind.wrap, IntKind.bits, IntKind.signed]
  omega
end K
end Go.Proofs.YtjjfpdofkdolnaaDoor
