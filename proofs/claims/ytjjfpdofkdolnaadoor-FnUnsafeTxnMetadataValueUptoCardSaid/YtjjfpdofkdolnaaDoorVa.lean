import Derived.Test.YtjjfpdofkdolnaaDoorP4
import Derived.Test.YtjjfpdofkdolnaaDoorR1
import Derived.Test.YtjjfpdofkdolnaaDoorV4
import Derived.Test.YtjjfpdofkdolnaaDoorA8
import Derived.Test.YtjjfpdofkdolnaaDoorS10
set_option linter.unusedVariables false
set_option linter.unusedSimpArgs false
namespace Go.Proofs.YtjjfpdofkdolnaaDoor
namespace K
open Go Go.Lib
/-! ### What a reader makes of what was written: the image of a tree -/
def imS (k : Int) (null : Bool) (t : Tre) : Tre :=
  if k = 0 then .mk (t.n % 2) [] false [] []
  else if k = 1 then .mk (IntKind.i8.wrap t.n) [] false [] []
  else if k = 2 then .mk (IntKind.i16.wrap t.n) [] false [] []
  else if k = 3 then .mk (IntKind.i32.wrap t.n) [] false [] []
  else if k = 5 then .mk (IntKind.u16.wrap t.n) [] false [] []
  else if k = 7 then .mk 0 (uuid t.s) false [] []
  else if k = 8 ∨ k = 9 then .mk 0 (if null then [] else t.s.take 32767) null [] []
  else .mk (IntKind.i64.wrap t.n) [] false [] []
mutual
def dfF : Fld → Tre
  | .mk k _ _ nul _ d _ sub =>
    if k = 10 then (if nul ≥ 0 then .mk 0 [] true [] [] else .mk 0 [] false (dfL sub) [])
    else if k = 11 ∨ k = 9 then .mk 0 [] true [] []
    else if k = 8 then .mk 0 [] (decide (nul ≥ 0)) [] []
    else .mk d [] false [] []
def dfL : List Fld → List Tre
  | [] => []
  | f :: r => dfF f :: dfL r
end
def imU (fs : List Fld) (q : Bool) (u : Tags) : Tags := if q then (unkn (known fs) u).map cut else []
mutual
def imF : Fld → Int → Bool → Tre → Tre
  | .mk k _ _ nul _ _ o sub, v, q, t =>
    if k = 11 then .mk 0 [] (if nul ≥ 0 then t.z && decide (nul ≥ 0) && decide (v ≥ nul) else decide (t.l.length = 0))
      ((if t.z && decide (nul ≥ 0) && decide (v ≥ nul) then [] else t.l.take 32767).map fun x => if o = 10 then .mk 0 [] false (imL sub v q x 0) (imU sub q x.u) else imS o false x) []
    else if k = 10 then
      if t.z && decide (nul ≥ 0) && decide (v ≥ nul) then .mk 0 [] true [] []
      else .mk 0 [] false (imL sub v q t 0) (imU sub q t.u)
    else imS k (t.z && decide (nul ≥ 0) && decide (v ≥ nul)) t
def imL : List Fld → Int → Bool → Tre → Nat → List Tre
  | [], _, _, _, _ => []
  | f :: r, v, q, t, i => (if (if f.tag < 0 then hasB f v else q && !usualB f (t.at_ i)) then imF f v q (t.at_ i) else dfF f) :: imL r v q t (i + 1)
end
theorem imL_at : ∀ (fs : List Fld) (v : Int) (q : Bool) (x : Tre) (i j : Nat) (hj : j < fs.length), (imL fs v q x i)[j]? = some (if (if fs[j].tag < 0 then hasB fs[j] v else q && !usualB fs[j] (x.at_ (i + j))) then imF fs[j] v q (x.at_ (i + j)) else dfF fs[j])
  | f :: r, v, q, x, i, 0, hj => by simp [imL]
  | f :: r, v, q, x, i, j + 1, hj => by
    have := imL_at r v q x (i + 1) j (by simpa using hj)
    simp only [imL, List.getElem?_cons_succ, List.getElem_cons_succ]
    rw [this, show i + 1 + j = i + (j + 1) by omega]
theorem imT_at (fs : List Fld) (v : Int) (q : Bool) (x : Tre) (z : Bool) (u : Tags) (j : Nat) (hj : j < fs.length) (ht : fs[j].tag < 0) : (Tre.mk 0 [] z (imL fs v q x 0) u).at_ j = if hasB fs[j] v then imF fs[j] v q (x.at_ j) else dfF fs[j] := by
  have := imL_at fs v q x 0 j hj
  rw [Nat.zero_add, if_pos ht] at this
  simp [Tre.at_, tl, this]
/-! ### schemas without tags -/
mutual
def ntF : Fld → Bool
  | .mk _ _ _ _ tag _ _ sub => decide (tag < 0) && ntFs sub
def ntFs : List Fld → Bool
  | [] => true
  | f :: r => ntF f && ntFs r
end
theorem ntF_of {f : Fld} (h : ntF f = true) : f.tag < 0 ∧ ntFs f.sub = true := by
  cases f
  simpa only [ntF, Bool.and_eq_true, decide_eq_true_eq, Fld.tag, Fld.sub] using h
theorem ntFs_mem : ∀ {l : List Fld}, ntFs l = true → ∀ f ∈ l, ntF f = true
  | [], _, f, h => by simp at h
  | g :: r, h, f, hf => by
    simp only [ntFs, Bool.and_eq_true] at h
    rcases List.mem_cons.1 hf with rfl | hf
    · exact h.1
    · exact ntFs_mem h.2 f hf
theorem known_nt {l : List Fld} (h : ntFs l = true) : known l = 0 := known_neg _ l rfl fun g hg => (ntF_of (ntFs_mem h g hg)).1
/-- of a part without tags: what is written of it -/
theorem partB_nt {fs : List Fld} (h : ntFs fs = true) (v : Int) (q : Bool) (x : Tre) : partB fs v q x = plainB fs v q x 0 ++ if q then uvar (unkn 0 x.u).length ++ ((unkn 0 x.u).map cut).flatMap tagB else [] := by
  unfold partB partOf
  rw [known_nt h]
  cases q <;> simp
/-! ### the image is written as the tree -/
/-! ### the image can be set -/
end K
end Go.Proofs.YtjjfpdofkdolnaaDoor
namespace Go.Proofs.YtjjfpdofkdolnaaDoor
namespace K
open Go Go.Lib
/-! ### A part that is being read: what stands, what is to come -/
def imx (f : Fld) (v : Int) (q : Bool) (x : Tre) : Tre := if hasB f v then imF f v q x else dfF f
structure Rs (s : Vw) (rs fsd : List Fld) (v0 : Int) (q : Bool) (x Y : Tre) (T : List UInt8) (v : Value) (done : List Value) : Prop where
  hv : RSv s v (plainB rs v0 q x fsd.length ++ T)
  acc : RMl s fsd Y 0 done
  hY : ∀ j, (hj : j < rs.length) → Y.at_ (fsd.length + j) = imx rs[j] v0 q (x.at_ (fsd.length + j))
  nt : ntFs rs = true
theorem Rs.mv {s t : Vw} {rs fsd : List Fld} {v0 : Int} {q : Bool} {x Y : Tre} {T : List UInt8} {v : Value} {done : List Value} (h : Rs s rs fsd v0 q x Y T v done) (ht : Tr s t) : Rs t rs fsd v0 q x Y T v done := ⟨RSv.mv h.hv ht, RMl.mv ht h.acc, h.hY, h.nt⟩
theorem Rs.start {s : Vw} {F : List Fld} {v0 : Int} {q : Bool} {x : Tre} {T : List UInt8} {v : Value} {z : Bool} {U : Tags} (hv : RSv s v (plainB F v0 q x 0 ++ T)) (hn : ntFs F = true) : Rs s F [] v0 q x (.mk 0 [] z (imL F v0 q x 0) U) T v [] :=
  ⟨hv, by simp [RMl], fun j hj => by
    have := imT_at F v0 q x z U j hj (ntF_of (ntFs_mem hn _ (List.getElem_mem hj))).1
    simpa [imx] using this, hn⟩
theorem RMl_snoc {s : Vw} {f : Fld} {Y : Tre} : ∀ {fs : List Fld} {i : Nat} {c c' : List Value}, RMl s fs Y i c → RMf s f (Y.at_ (i + fs.length)) c' → RMl s (fs ++ [f]) Y i (c ++ c')
  | [], i, c, c', h, k => by
    simp only [RMl] at h
    subst h
    simp only [List.nil_append, RMl]
    exact ⟨c', [], by simp, by simpa using k, rfl⟩
  | g :: r, i, c, c', h, k => by
    simp only [RMl] at h
    obtain ⟨a, b, rfl, h2, h3⟩ := h
    simp only [List.cons_append, RMl]
    refine ⟨a, b ++ c', by simp, h2, RMl_snoc h3 ?_⟩
    have e : i + 1 + r.length = i + (g :: r).length := by simp; omega
    rw [e]
    exact k
theorem Rs.step {s t : Vw} {fl : Fld} {r fsd : List Fld} {v0 : Int} {q : Bool} {x Y : Tre} {T : List UInt8} {v v' : Value} {done cs : List Value} (h : Rs s (fl :: r) fsd v0 q x Y T v done) (ht : Tr s t) (hv : RSv t v' (plainB r v0 q x (fsd.length + 1) ++ T)) (hm : RMf t fl (imx fl v0 q (x.at_ fsd.length)) cs) :
    Rs t r (fsd ++ [fl]) v0 q x Y T v' (done ++ cs) := by
  have hn := h.nt
  simp only [ntFs, Bool.and_eq_true] at hn
  refine ⟨by simpa using hv, RMl_snoc (RMl.mv ht h.acc) ?_, fun j hj => ?_, hn.2⟩
  · have := h.hY 0 (by simp)
    simp only [Nat.add_zero, List.getElem_cons_zero] at this
    rw [Nat.zero_add, this]
    exact hm
  · have := h.hY (j + 1) (by simpa using hj)
    simp only [List.getElem_cons_succ] at this
    simp only [List.length_append, List.length_cons, List.length_nil]
    rw [show fsd.length + (0 + 1) + j = fsd.length + (j + 1) by omega]
    exact this
theorem Rs.has {s : Vw} {fl : Fld} {r fsd : List Fld} {v0 : Int} {q : Bool} {x Y : Tre} {T : List UInt8} {v : Value} {done : List Value} (h : Rs s (fl :: r) fsd v0 q x Y T v done) (hh : hasB fl v0 = true) : RSv s v (fieldB fl v0 q (x.at_ fsd.length) ++ (plainB r v0 q x (fsd.length + 1) ++ T)) := by
  have hn := h.nt
  simp only [ntFs, Bool.and_eq_true] at hn
  have := h.hv
  rw [plainB] at this
  have ht : decide (fl.tag < 0) = true := decide_eq_true (ntF_of hn.1).1
  rw [ht, hh] at this
  simpa [List.append_assoc] using this
theorem Rs.len {s : Vw} {rs fsd : List Fld} {v0 : Int} {q : Bool} {x Y : Tre} {T : List UInt8} {v : Value} {done : List Value} (h : Rs s rs fsd v0 q x Y T v done) : done.length = fszs fsd := (RMl.len h.acc).1
/-- what a field's value is read as -/
def Fc (f : FuncId) (fl : Fld) (v0 : Int) (q : Bool) (y : Tre) : Prop := ∀ u, RdC f (fieldB fl v0 q y) (fun u c => RMf u fl (imF fl v0 q y) [c]) u
theorem wr_done {done zc zs cs : List Value} (h : cs.length = zc.length) : wr (done ++ (zc ++ zs)) done.length cs = (done ++ cs) ++ zs := by
  simp only [wr, List.take_left', h]
  rw [← List.append_assoc, show done.length + zc.length = (done ++ zc).length by simp, List.drop_left, List.append_assoc]
theorem sub.same {L : Env} {d : Nat} {v : Value} (h : lk L d = some v) : sub L ((d, v) :: L) := fun t u hu => by
  by_cases e : d = t
  · subst e; rw [lk_eq]; exact h.symm.trans hu
  · rw [lk_ne e]; exact hu
section
variable {n : Nat} {L : Env} {H H0 : Hp} {C : Cx} {s : Vw} {N R : Act → World → Prop} {X : List (Nat × (Act → World → Prop))}
variable {id id0 id1 id2 id3 id4 id5 id6 id7 id8 id9 : Nat} {tb ts un fx vr x y d0 d1 d2 d3 d4 d5 d6 d7 d8 e1 e2 e3 e4 : Nat} {f g : FuncId} {br b o po len fo k sz : Nat} {mk : List Value → Ent} {v c val : Value} {rest bs : List UInt8}
variable {ty0 ty1 ty2 ty3 ty4 ty5 ty6 ty7 ty8 ty9 : TypeId} {p0 p1 p2 p3 p4 p5 p6 p7 p8 p9 : String} {a0 a1 a2 a3 a4 a5 a6 a7 a8 a9 : Array Edge} {tys tyt : Array TypeId}
variable {uy1 uy2 uy3 uy4 uy5 uy6 : TypeId} {q1 q2 q3 q4 q5 q6 : String} {c1 c2 c3 c4 c5 c6 : Array Edge}
variable {T ft : TypeId} {fs : Array Field} {fd : Field} {fl : Fld} {r fsd : List Fld} {v0 : Int} {q : Bool} {xx Y : Tre} {T' : List UInt8} {done zc zs : List Value} {z : Value} {E0 : Ent}
/-- y = a value that is known, and not asked again -/
theorem rg_const (hf : frs n L [y] = true) (kk : At N n L H C s) : Cd Tryd.prog (.region id [⟨some y, .assign (.const val), ty1, p1, a1, none⟩].toArray false) ⟨N, R, X⟩ n L H C s := by
  obtain ⟨hb, hfr, hne⟩ := frs_get hf
  simp only [List.mem_cons, List.not_mem_nil, or_false, forall_eq] at hb hfr
  refine cd_region ?_
  refine ln_pv (pv_assign ev_c) hb ?_
  exact ln_nil (at_sub (.skip hfr .rfl') kk)
/-- _ = x -/
theorem rg_blank (hx : lk L x = some val) (hf : frs n L [y] = true) (kk : At N n L H C s) : Cd Tryd.prog (.region id [⟨some y, .move (.tmp x), ty1, p1, a1, none⟩].toArray false) ⟨N, R, X⟩ n L H C s := by
  obtain ⟨hb, hfr, hne⟩ := frs_get hf
  simp only [List.mem_cons, List.not_mem_nil, or_false, forall_eq] at hb hfr
  refine cd_region ?_
  refine ln_pv (pv_move hx) hb ?_
  exact ln_nil (at_sub (.skip hfr .rfl') kk)
/-- y = x -/
theorem rg_move (hx : lk L x = some val) (hf : frs n L [y, d1] = true) (kk : At N n ((y, val) :: L) H C s) : Cd Tryd.prog (.region id [⟨some d1, .move (.tmp x), ty1, p1, a1, none⟩, ⟨some y, .assign (.tmp d1), ty2, p2, a2, none⟩].toArray false) ⟨N, R, X⟩ n L H C s := by
  obtain ⟨hb, hfr, hne⟩ := frs_get hf
  simp only [List.pairwise_cons, List.mem_cons, List.not_mem_nil, or_false, forall_eq_or_imp, forall_eq, List.Pairwise.nil, and_true, false_imp_iff, implies_true] at hb hfr hne
  refine cd_region ?_
  refine ln_pv (pv_move hx) hb.2 ?_
  refine ln_pv (pv_assign lk_eq) hb.1 ?_
  exact ln_nil (at_sub (sub.cons (.skip hfr.2 .rfl')) kk)
/-- s.F = x -/
theorem rg_put {win : List Value} {off : Nat} (hs : lk L ts = some (.pointer (some ⟨b, po, none⟩))) (hx : lk L x = some val) (h1 : val.oneCell' = true) (hT : Tgt mk b o len) (hl : win.length = len) (hu : Tryd.prog.underlying T = some (.struct fs)) (hk : fs[k]? = some fd) (hsz : (Tryd.prog.info? fd.type).map (·.size) = some (sz + 1)) (ho : fd.offset = fo)
    (hpo : po + fo = o + off) (hsz1 : (Tryd.prog.info? ft).map (·.size) = some 1) (hle : off + 1 ≤ len) (hf : frs n L [d1, d2, d3, d4] = true) (kk : At N n L (E0 :: mk (win.set off val) :: H0) C s) :
    Cd Tryd.prog (.region id [⟨some d1, .move (.tmp ts), ty1, p1, a1, none⟩, ⟨some d2, .move (.tmp x), ty2, p2, a2, none⟩, ⟨some d3, .nilCheck (.tmp d1), ty3, p3, a3, none⟩, ⟨some d4, .fieldAddr T (.tmp d3) k, ty4, p4, a4, none⟩, ⟨none, .store ft (.tmp d4) (.tmp d2), ty5, p5, a5, none⟩].toArray false) ⟨N, R, X⟩ n L (E0 :: mk win :: H0) C s := by
  obtain ⟨hb, hfr, hne⟩ := frs_get hf
  simp only [List.pairwise_cons, List.mem_cons, List.not_mem_nil, or_false, forall_eq_or_imp, forall_eq, List.Pairwise.nil, and_true, false_imp_iff, implies_true] at hb hfr hne
  obtain ⟨f1, f2, f3, f4⟩ := hfr
  obtain ⟨b1, b2, b3, b4⟩ := hb
  refine cd_region ?_
  refine ln_pv (pv_move hs) b1 ?_
  refine ln_pv (pv_move (v := val) (by rw [ev_t, lk_ne (lk_fr f1 hx)]; exact hx)) b2 ?_
  refine ln_pv (pv_nilCheck (by simp [ev_t, lk_eq, lk_ne, hne] <;> rfl)) b3 ?_
  refine ln_pv (pv_fieldAddr (r := o + off) hu hk hsz ho lk_eq hpo) b4 ?_
  refine ln_storeG1 (i := 1) (v := val) hT rfl hl lk_eq (by simp [ev_t, lk_eq, lk_ne, hne]) h1 hsz1 hle ?_
  exact ln_nil (at_sub (.skip f4 (.skip f3 (.skip f2 (.skip f1 .rfl')))) kk)
end
end K
end Go.Proofs.YtjjfpdofkdolnaaDoor
namespace Go.Proofs.YtjjfpdofkdolnaaDoor
namespace K
open Go Go.Lib
theorem frs_tail {n : Nat} {L : Env} {d : Nat} {ds : List Nat} (h : frs n L (d :: ds) = true) : frs n L ds = true := by
  simp only [frs, Bool.and_eq_true] at h
  exact h.2
/-- the blocks that were handed in are none of what is let go -/
theorem hO_push {C : Cx} {mk : List Value → Ent} {b o len : Nat} {H0 : Hp} (hT : Tgt mk b o len) (hO : ∀ q, C.O q → q = b ∨ q ∈ blks H0) (win : List Value) : ∀ q, C.O q → q ∈ blks (mk win :: H0) := fun q hq => by
  rw [blks_cons, hT.blk]
  rcases hO q hq with h | h
  · exact List.mem_append.2 (.inl (by simp [h]))
  · exact List.mem_append.2 (.inr h)
section
variable {P : Program} {n : Nat} {L : Env} {H H' : Hp} {C : Cx} {s : Vw} {p : Post} {K : Act → World → Prop}
theorem cd_eqH {c : Code} (h : H = H') (k : Cd P c p n L H' C s) : Cd P c p n L H C s := h ▸ k
theorem at_eqH (h : H = H') (k : At K n L H' C s) : At K n L H C s := h ▸ k
end
section
variable {n : Nat} {L : Env} {H H0 : Hp} {C : Cx} {s : Vw} {N R : Act → World → Prop} {X : List (Nat × (Act → World → Prop))}
variable {id id0 id1 id2 id3 id4 id5 id6 id7 id8 id9 : Nat} {tb ts un fx vr x y d0 d1 d2 d3 d4 d5 d6 d7 d8 d9 e1 e2 e3 e4 y1 y2 y3 y4 : Nat} {f g : FuncId} {br b o po len fo k sz : Nat} {mk : List Value → Ent} {v c val : Value} {rest bs : List UInt8}
variable {ty0 ty1 ty2 ty3 ty4 ty5 ty6 ty7 ty8 ty9 : TypeId} {p0 p1 p2 p3 p4 p5 p6 p7 p8 p9 : String} {a0 a1 a2 a3 a4 a5 a6 a7 a8 a9 : Array Edge} {tys tyt : Array TypeId}
variable {uy1 uy2 uy3 uy4 uy5 uy6 uy7 uy8 : TypeId} {q1 q2 q3 q4 q5 q6 q7 q8 : String} {c1 c2 c3 c4 c5 c6 c7 c8 : Array Edge}
variable {T ft : TypeId} {fs : Array Field} {fd : Field} {fl : Fld} {r fsd : List Fld} {v0 : Int} {q : Bool} {xx Y : Tre} {T' : List UInt8} {done zc zs : List Value} {z : Value} {E0 : Ent}
/-! ### the unknown tags of a part -/
def tgsB (q : Bool) (x : Tre) : List UInt8 := if q then uvar (unkn 0 x.u).length ++ ((unkn 0 x.u).map cut).flatMap tagB else []
theorem partB_tgs {F : List Fld} (h : ntFs F = true) (v0 : Int) (q : Bool) (x : Tre) : partB F v0 q x = plainB F v0 q x 0 ++ tgsB q x := partB_nt h v0 q x
theorem RSv.part {F : List Fld} {v0 : Int} {x : Tre} {T2 : List UInt8} (hn : ntFs F = true) (h : RSv s v (partB F v0 q x ++ T2)) : RSv s v (plainB F v0 q x 0 ++ (tgsB q x ++ T2)) := by rwa [partB_tgs hn, List.append_assoc] at h
end
end K
end Go.Proofs.YtjjfpdofkdolnaaDoor
namespace Go.Proofs.YtjjfpdofkdolnaaDoor
namespace K
open Go Go.Lib
/-! ### What each kind of field is read as -/
section
variable {k a b nul tag d o : Int} {sub : List Fld} {v : Int} {q : Bool} {y : Tre}
theorem fB_sc (h11 : k ≠ 11) (h10 : k ≠ 10) : fieldB (.mk k a b nul tag d o sub) v q y = scalarB k (y.z && decide (nul ≥ 0) && decide (v ≥ nul)) q y := by simp [fieldB, h11, h10]
theorem iF_sc (h11 : k ≠ 11) (h10 : k ≠ 10) : imF (.mk k a b nul tag d o sub) v q y = imS k (y.z && decide (nul ≥ 0) && decide (v ≥ nul)) y := by simp [imF, h11, h10]
theorem nn_neg (h : nul < 0) : (y.z && decide (nul ≥ 0) && decide (v ≥ nul)) = false := by
  have : ¬ nul ≥ 0 := by omega
  simp [this]
theorem I64_wrap (x : Int) : I64 (IntKind.i64.wrap x) := by
  simp [I64, IntKind.wrap, IntKind.bits, IntKind.signed]; omega
/-- the same, of a thing of a list: by its kind alone -/
def Sc (f : FuncId) (k : Int) (null q : Bool) (y : Tre) : Prop := ∀ u, RdC f (scalarB k null q y) (fun u c => RS1 u k (-1) (imS k null y) [c]) u
/-- a field that can't be null: as a thing of a list -/
theorem Fc.of {f : FuncId} (h11 : k ≠ 11) (h10 : k ≠ 10) (hn : nul < 0) (h : Sc f k false q y) : Fc f (.mk k a b nul tag d o sub) v q y := fun u => by
  rw [fB_sc h11 h10, iF_sc h11 h10, nn_neg hn]
  refine (h u).mono fun u c hc => ?_
  simp only [RMf, if_neg h11, if_neg h10]
  unfold RS1 at hc ⊢
  have h1 : (-1 : Int) < 0 := by decide
  simp only [h1, hn, if_true] at hc ⊢
  exact hc
/-! what a field is by default -/
end
/-! ### append(a, make([]T, n)...) -/
theorem rep_step (zc : List Value) (m : Nat) : (List.replicate (m + 1) zc).flatten = zc ++ (List.replicate m zc).flatten := by simp [List.replicate_succ]
theorem rep_len (zc : List Value) (m : Nat) : (List.replicate m zc).flatten.length = m * zc.length := by simp
theorem zeroCells_list (z : Array Value) (hz : 0 < z.size) : ∀ m : Nat, (Builtin.zeroCells z m).toList = (List.replicate m z.toList).flatten := by
  intro m
  have h : ∀ m : Nat, (List.range (m * z.size)).map (fun i => z[i % z.size]!) = (List.replicate m z.toList).flatten := by
    intro m
    induction m with
    | zero => simp
    | succ m ih =>
      rw [Nat.succ_mul, Nat.add_comm, List.range_add, List.map_append, List.map_map, rep_step, ← ih]
      congr 1
      · apply List.ext_getElem
        · simp
        · intro i h1 h2
          simp only [List.length_map, List.length_range] at h1
          simp [Nat.mod_eq_of_lt h1, h1]
      · apply List.map_congr_left
        intro i _
        simp
  rw [← h m]
  simp [Builtin.zeroCells]
theorem append_zeros {P : Program} (w : World) (t it ty e : TypeId) (i : TypeInfo) (z : Value) (ht : P.underlying t = some (.slice e)) (hit : P.underlying it = some (.int .i32)) (hi : P.info? e = some i) (hz : i.zero = some z) (hs : 0 < i.size) (m : Nat) (h0 : 0 < m) (hm : m ≤ 32767) (hby : m * i.bytes ≤ 140737488355328) :
    (Builtin.append_ #[t, it] ty #[.slice none 0 0, .int .i32 (m : Int)]).run P w = .ok (.slice (some ⟨w.heap.size, 0, none⟩) m (grownCap w m 0 e)) (w.drew.alloc (.cells (Builtin.zeroCells z.cells m ++ Builtin.zeroCells z.cells (grownCap w m 0 e - m)) e)) := by
  have hn : ¬ (m = 0) := by omega
  have hn2 : ¬ (m ≤ 0) := by omega
  have hw : IntKind.i64.wrap (m : Int) = (m : Int) := wrap_i64 (by omega) (by omega)
  have hneg : ¬ ((m : Int) < 0) := by omega
  have hbi : ((m : Int) * (i.bytes : Int)) ≤ 140737488355328 := by have h : ((m * i.bytes : Nat) : Int) ≤ 140737488355328 := by omega
                                                                   rwa [Int.natCast_mul] at h
  have h48 : ¬ (281474976710656 < (m : Int) * (i.bytes : Int)) := by omega
  have h63 : ¬ (9223372036854775807 < (m : Int)) := by omega
  have h48' : ¬ (281474976710656 < Builtin.nextslicecap m 0 * i.bytes) := by rw [nextslicecap_zero h0]; omega
  have hms : ¬ (m * i.size = 0) := by
    intro h
    rcases Nat.mul_eq_zero.1 h with h | h <;> omega
  have hms1 : ¬ (i.size = 0) := by omega
  simp [Builtin.append_, run_underlying ht, run_underlying hit, sizeOf, typeInfo, zeroValue, hi, hz, asInt, asIntOf, hw, hneg, h48, h48', h63, hn, hms1, Builtin.firstCells, Question.forced, newRow, grownCap]
  exact fun h => absurd h hms
section
variable {P : Program} {n : Nat} {L : Env} {H : Hp} {C : Cx} {s : Vw} {K : Act → World → Prop} {ops : Array Oper} {rest : List Oper} {ty : TypeId} {pos : String} {af : Array Edge}
theorem ln_appendZ {d m sz by_ : Nat} {t it e : TypeId} {z : Value} {x y : Operand} {zc : List Value} (hu : P.underlying t = some (.slice e)) (hit : P.underlying it = some (.int .i32)) (hti : TI P e z sz by_) (hzc : z.cells = zc.toArray) (hzl : zc.length = sz) (hs : 0 < sz) (hx : ev L x = some (.slice none 0 0)) (hy : ev L y = some (.int .i32 (m : Int))) (h0 : 0 < m) (hm : m ≤ 32767) (hby : 32767 * by_ ≤ 140737488355328) (hd : Nat.blt d n = true)
    (k : ∀ g cap, Ln P ops rest K n ((d, .slice (some ⟨g, 0, none⟩) m cap) :: L) (.row (.slice (some ⟨g, 0, none⟩) m cap) e sz m (List.replicate m zc).flatten :: H) C s) : Ln P ops (⟨some d, .call ⟨.builtin .append, #[x, y], #[t, it]⟩, ty, pos, af, none⟩ :: rest) K n L H C s := fun a w hF hS => by
  obtain ⟨ii, hii, hz0, hz1, hz2⟩ := info_parts hti
  have hb : m * by_ ≤ 140737488355328 := Nat.le_trans (Nat.mul_le_mul_right _ hm) hby
  have hr := append_zeros (P := P) w t it ty e ii z hu hit hii hz0 (by omega) m h0 hm (by rw [hz2]; exact hb)
  have hzs : z.cells.size = sz := by rw [hzc]; simpa using hzl
  have hzL := zeroCells_list z.cells (by omega) m
  have hge := grownCap_ge w m 0 e
  have hcm : grownCap w m 0 e ≤ maxLen := grownCap_le_maxLen w m 0 e (by simp only [maxLen]; omega)
  have hS' : St C s (.row (.slice none 0 0) e sz 0 [] :: H) w := hS.nilrow e sz
  have hzt : z.cells.toList = zc := by rw [hzc]
  rw [hzt] at hzL
  refine wpl_val (w' := w.drew.alloc (.cells (Builtin.zeroCells z.cells m ++ Builtin.zeroCells z.cells (grownCap w m 0 e - m)) e)) rfl (by simp [execOp, resolve, invoke, builtin, hF.ev hx, hF.ev hy, hr, Result.andThen]) (k w.heap.size (grownCap w m 0 e) _ _ (hF.put d _ hd) ?_)
  refine hS'.turn (i := 0) (e' := .row (.slice (some ⟨w.heap.size, 0, none⟩) m (grownCap w m 0 e)) e sz m (List.replicate m zc).flatten) rfl ?_ ?_ (fun q hq => .inr (by simp only [Ent.blk, Value.ownBlock, Option.toList, List.mem_singleton] at hq; omega)) (by simp [Ent.blk, Value.ownBlock])
  · exact ⟨rfl, rfl, rfl, by simp, fun k hk _ => Go.RowKit.Below.heap_alloc w.drew _ _ hk⟩
  · refine ⟨by rw [rep_len, hzl], .inr ⟨w.heap.size, _, _, rfl, Nat.zero_le _, heap_alloc_new w.drew _, hge, hcm, ?_, ?_⟩⟩
    · simp only [Array.size_append, size_zeroCells, hzs, ← Nat.add_mul]
      congr 1
      omega
    · have e2 : m * sz = (Builtin.zeroCells z.cells m).toList.length := by rw [hzL, rep_len, hzl]
      rw [Array.toList_append, hzL]
      have e3 : m * sz = (List.replicate m zc).flatten.length := by rw [rep_len, hzl]
      rw [e3]
      exact List.take_left
end
end K
end Go.Proofs.YtjjfpdofkdolnaaDoor
namespace Go.Proofs.YtjjfpdofkdolnaaDoor
namespace K
open Go Go.Lib
theorem Tgt.mid {mk : List Value → Ent} {b o len : Nat} (h : Tgt mk b o len) (p q : List Value) (len' o' : Nat) (hl : p.length + (len' + q.length) = len) (ho : o + p.length = o') : Tgt (fun win => mk (p ++ (win ++ q))) b o' len' := by
  have := h.sub p q len' o' (by omega) ho
  have e : (fun win => mk (p ++ win ++ q)) = fun win => mk (p ++ (win ++ q)) := by
    funext win
    rw [List.append_assoc]
  rwa [e] at this
/-- what Default does to a part's cells -/
def DfC (f : FuncId) (z1 z2 : List Value) : Prop := ∀ (mk : List Value → Ent) (b o : Nat) (hT : Tgt mk b o z1.length) (t : Vw), (mk z1).ok t.w → (∀ q ∈ (mk z1).blk, t.av q) → CT Tryd.prog f [.pointer (some ⟨b, o, none⟩)] t (mk z1) fun u r e' => r = .tuple #[] ∧ e' = mk z2
section
variable {a b nul tag d o : Int} {sub : List Fld} {v : Int} {q : Bool} {y : Tre}
end
section
variable {n : Nat} {L : Env} {H H0 : Hp} {C : Cx} {s : Vw} {N R : Act → World → Prop} {X : List (Nat × (Act → World → Prop))}
variable {id id0 id1 id2 id3 id4 id5 id6 id7 id8 id9 : Nat} {tb ts un fx vr x y d0 d1 d2 d3 d4 d5 d6 d7 d8 d9 e0 e1 e2 e3 e4 y1 y2 y3 y4 g1 g2 g3 g4 g5 h1 h2 h3 h4 h5 i1 j1 j2 j3 j4 : Nat} {f g : FuncId} {br b o po len fo k sz : Nat} {mk : List Value → Ent} {v c val : Value} {rest bs : List UInt8}
variable {ty0 ty1 ty2 ty3 ty4 ty5 ty6 ty7 ty8 ty9 : TypeId} {p0 p1 p2 p3 p4 p5 p6 p7 p8 p9 : String} {a0 a1 a2 a3 a4 a5 a6 a7 a8 a9 : Array Edge} {tys tyt tyo : Array TypeId}
variable {uy1 uy2 uy3 uy4 uy5 uy6 uy7 uy8 : TypeId} {q1 q2 q3 q4 q5 q6 q7 q8 : String} {c1 c2 c3 c4 c5 c6 c7 c8 : Array Edge}
variable {vy1 vy2 vy3 vy4 vy5 vy6 vy7 vy8 vy9 : TypeId} {r1 r2 r3 r4 r5 r6 r7 r8 r9 : String} {b1 b2 b3 b4 b5 b6 b7 b8 b9 : Array Edge}
variable {wy1 wy2 wy3 wy4 wy5 wy6 wy7 wy8 wy9 : TypeId} {s1 s2 s3 s4 s5 s6 s7 s8 s9 : String} {m1 m2 m3 m4 m5 m6 m7 m8 m9 : Array Edge}
variable {T ft ST et it : TypeId} {fs : Array Field} {fd : Field} {fl : Fld} {r fsd : List Fld} {v0 : Int} {q : Bool} {xx Y : Tre} {T' : List UInt8} {done zc zs : List Value} {z : Value} {E0 : Ent}
/-- e.Default() -/
theorem rg_dflt {z1 z2 : List Value} (he : lk L x = some (.pointer (some ⟨b, po, none⟩))) (hent : Enters Tryd.prog f) (hD : DfC f z1 z2) (hT : Tgt mk b po z1.length) (hf : frs n L [d1, d2] = true)
    (kk : ∀ u, Tr s u → At N n L (E0 :: mk z2 :: H0) C u) :
    Cd Tryd.prog (.region id [⟨some d1, .move (.tmp x), ty1, p1, a1, none⟩, ⟨some d2, .call ⟨.value (.func f), [.tmp d1].toArray, tys⟩, ty2, p2, a2, none⟩].toArray false) ⟨N, R, X⟩ n L (E0 :: mk z1 :: H0) C s := by
  obtain ⟨hb, hfr, hne⟩ := frs_get hf
  simp only [List.pairwise_cons, List.mem_cons, List.not_mem_nil, or_false, forall_eq_or_imp, forall_eq, List.Pairwise.nil, and_true, false_imp_iff, implies_true] at hb hfr hne
  refine cd_region ?_
  refine ln_pv (pv_move he) hb.1 ?_
  refine ln_callT (i := 1) (vals := [.pointer (some ⟨b, po, none⟩)]) hent (by simp [evs, ev_t, lk_eq]) rfl (fun u hu hok hav => hD mk b po hT u hok hav) hb.2 ?_
  rintro u c _ ht ⟨ux, ⟨rfl, rfl⟩, hx⟩
  exact ln_nil (at_sub (.skip hfr.2 (.skip hfr.1 .rfl')) (kk u ht))
/-- v := s.F, a list that is not there yet -/
theorem rl_load (hdl : done.length = fszs fsd) (hs : lk L ts = some (.pointer (some ⟨b, po, none⟩))) (hT : Tgt mk b o len) (hl : fszs fsd + (zs.length + 1) = len) (hu : Tryd.prog.underlying T = some (.struct fs)) (hk : fs[k]? = some fd) (hsz : (Tryd.prog.info? fd.type).map (·.size) = some (sz + 1)) (ho : fd.offset = fo) (hpo : po + fo = o + fszs fsd) (hST : Tryd.prog.underlying ST = some (.slice et)) (hf : frs n L [y1, d1, d2, d3, d4] = true)
    (kk : At N n ((y1, .slice none 0 0) :: L) (E0 :: mk (done ++ .slice none 0 0 :: zs) :: H0) C s) :
    Cd Tryd.prog (.region id [⟨some d1, .move (.tmp ts), ty1, p1, a1, none⟩, ⟨some d2, .nilCheck (.tmp d1), ty2, p2, a2, none⟩, ⟨some d3, .fieldAddr T (.tmp d2) k, ty3, p3, a3, none⟩, ⟨some d4, .load ST (.tmp d3), ty4, p4, a4, none⟩, ⟨some y1, .assign (.tmp d4), ty5, p5, a5, none⟩].toArray false) ⟨N, R, X⟩ n L (E0 :: mk (done ++ .slice none 0 0 :: zs) :: H0) C s := by
  obtain ⟨hb, hfr, hne⟩ := frs_get hf
  simp only [List.pairwise_cons, List.mem_cons, List.not_mem_nil, or_false, forall_eq_or_imp, forall_eq, List.Pairwise.nil, and_true, false_imp_iff, implies_true] at hb hfr hne
  refine cd_region ?_
  refine ln_pv (pv_move hs) hb.2.1 ?_
  refine ln_pv (pv_nilCheck lk_eq) hb.2.2.1 ?_
  refine ln_pv (pv_fieldAddr (r := o + done.length) hu hk hsz ho lk_eq (by rw [hdl]; exact hpo)) hb.2.2.2.1 ?_
  refine ln_pv (pv_ldG1 (i := 1) (v := .slice none 0 0) hT rfl (by simp [hdl]; omega) hST rfl lk_eq (by simp)) hb.2.2.2.2 ?_
  refine ln_pv (pv_assign lk_eq) hb.1 ?_
  exact ln_nil (at_sub (sub.cons (.skip hfr.2.2.2.2 (.skip hfr.2.2.2.1 (.skip hfr.2.2.1 (.skip hfr.2.1 .rfl'))))) kk)
/-- a = a[:0] -/
theorem rl_cut (hy : lk L y2 = some (.slice none 0 0)) (hST : Tryd.prog.underlying ST = some (.slice et)) (het : (Tryd.prog.info? et).isSome = true) (hb2 : Nat.blt y2 n = true) (hf : frs n L [d1, d2] = true) (kk : At N n L H C s) :
    Cd Tryd.prog (.region id [⟨some d1, .move (.tmp y2), ty1, p1, a1, none⟩, ⟨some d2, .slice ST (.tmp d1) none (some (.const (.int .i64 0))) none, ty2, p2, a2, none⟩, ⟨some y2, .assign (.tmp d2), ty3, p3, a3, none⟩].toArray false) ⟨N, R, X⟩ n L H C s := by
  obtain ⟨hb', hfr, hne⟩ := frs_get hf
  simp only [List.pairwise_cons, List.mem_cons, List.not_mem_nil, or_false, forall_eq_or_imp, forall_eq, List.Pairwise.nil, and_true, false_imp_iff, implies_true] at hb' hfr hne
  refine cd_region ?_
  refine ln_pv (pv_move hy) hb'.1 ?_
  refine ln_pv (pv_slice_hi' (k := .i64) (i := 0) (k' := 0) hST het lk_eq ev_c (by decide) (by decide) rfl) hb'.2 ?_
  refine ln_pv (pv_assign lk_eq) hb2 ?_
  refine ln_nil (at_sub ?_ kk)
  intro t u hu
  by_cases e : y2 = t
  · subst e; rw [lk_eq]; exact hy.symm.trans hu
  · rw [lk_ne e, lk_ne (lk_fr hfr.2 hu), lk_ne (lk_fr hfr.1 hu)]; exact hu
/-- if l > 0 { a = append(a, make([]T, l)...) } -/
theorem rl_make {m ez by_ : Nat} {za : Value} (hy : lk L y2 = some (.slice none 0 0)) (hy3 : lk L y3 = some (.int .i32 (m : Int))) (hm : m ≤ 32767) (hST : Tryd.prog.underlying ST = some (.slice et)) (hit : Tryd.prog.underlying it = some (.int .i32)) (hti : TI Tryd.prog et za ez by_) (hzc : za.cells = zc.toArray) (hzl : zc.length = ez) (hez : 0 < ez) (hby : 32767 * by_ ≤ 140737488355328) (hb2 : Nat.blt y2 n = true) (hf : frs n L [g1, g2] = true) (hf2 : frs n L [g3, g4, g5] = true)
    (k0 : m = 0 → At N n L H C s) (k1 : 0 < m → ∀ g cap, At N n ((y2, .slice (some ⟨g, 0, none⟩) m cap) :: L) (.row (.slice (some ⟨g, 0, none⟩) m cap) et ez m (List.replicate m zc).flatten :: H) C s) :
    Cd Tryd.prog (.seq (.region id [⟨some g1, .move (.tmp y3), ty1, p1, a1, none⟩, ⟨some g2, .binOp .gtr it (.tmp g1) (.const (.int .i32 0)) uy1, ty2, p2, a2, none⟩].toArray false) (.cond (.tmp g2)
      (.region id1 [⟨some g3, .move (.tmp y2), ty3, p3, a3, none⟩, ⟨some g4, .move (.tmp y3), ty4, p4, a4, none⟩, ⟨some g5, .call ⟨.builtin .append, #[.tmp g3, .tmp g4], #[ST, it]⟩, ty5, p5, a5, none⟩, ⟨some y2, .assign (.tmp g5), ty6, p6, a6, none⟩].toArray false) .skip)) ⟨N, R, X⟩ n L H C s := by
  obtain ⟨hb', hfr, hne⟩ := frs_get hf
  simp only [List.pairwise_cons, List.mem_cons, List.not_mem_nil, or_false, forall_eq_or_imp, forall_eq, List.Pairwise.nil, and_true, false_imp_iff, implies_true] at hb' hfr hne
  obtain ⟨gb', gfr, gne⟩ := frs_get hf2
  simp only [List.pairwise_cons, List.mem_cons, List.not_mem_nil, or_false, forall_eq_or_imp, forall_eq, List.Pairwise.nil, and_true, false_imp_iff, implies_true] at gb' gfr gne
  refine cd_sq ?_
  refine cd_region ?_
  refine ln_pv (pv_move hy3) hb'.1 ?_
  refine ln_pv (pv_gtr lk_eq ev_c) hb'.2 ?_
  refine ln_nil (at_cd ?_)
  refine cd_if lk_eq (fun h => cd_sub_ (.skip hfr.2 (.skip hfr.1 .rfl')) ?_) (fun h => cd_sub_ (.skip hfr.2 (.skip hfr.1 .rfl')) (cd_skip (k0 (by omega))))
  refine cd_region ?_
  refine ln_pv (pv_move hy) gb'.1 ?_
  refine ln_pv (pv_move (v := .int .i32 (m : Int)) (by rw [ev_t, lk_ne (lk_fr gfr.1 hy3)]; exact hy3)) gb'.2.1 ?_
  refine ln_appendZ (m := m) hST hit hti hzc hzl hez (by simp [ev_t, lk_eq, lk_ne, gne]) (by simp [ev_t, lk_eq, lk_ne, gne]) (by omega) hm hby gb'.2.2 (fun g cap => ?_)
  refine ln_pv (pv_assign lk_eq) hb2 ?_
  exact ln_nil (at_sub (sub.cons (.skip gfr.2.2 (.skip gfr.2.1 (.skip gfr.1 .rfl')))) (k1 (by omega) g cap))
end
end K
end Go.Proofs.YtjjfpdofkdolnaaDoor
namespace Go.Proofs.YtjjfpdofkdolnaaDoor
namespace K
open Go Go.Lib
theorem po_eq {po sh fo m : Nat} (h : fo = sh + m) : po + fo = (po + sh) + m := by omega
section
variable {n : Nat} {L : Env} {H H0 : Hp} {C : Cx} {s : Vw} {N R : Act → World → Prop} {X : List (Nat × (Act → World → Prop))}
variable {id id0 id1 id2 id3 id4 id5 id6 id7 id8 id9 ida idb idc idd ide idf idg : Nat} {tb ts un fx vr x y d0 d1 d2 d3 d4 d5 d6 d7 d8 d9 e0 e1 e2 e3 e4 y1 y2 y3 y4 g1 g2 g3 g4 g5 h1 h2 h3 h4 h5 i1 j1 j2 j3 j4 : Nat} {f g : FuncId} {br b o po len fo k sz : Nat} {mk : List Value → Ent} {v c val : Value} {rest bs : List UInt8}
variable {ty0 ty1 ty2 ty3 ty4 ty5 ty6 ty7 ty8 ty9 : TypeId} {p0 p1 p2 p3 p4 p5 p6 p7 p8 p9 : String} {a0 a1 a2 a3 a4 a5 a6 a7 a8 a9 : Array Edge} {tys tyt tyo : Array TypeId}
variable {uy1 uy2 uy3 uy4 uy5 uy6 uy7 uy8 : TypeId} {q1 q2 q3 q4 q5 q6 q7 q8 : String} {c1 c2 c3 c4 c5 c6 c7 c8 : Array Edge}
variable {vy1 vy2 vy3 vy4 vy5 vy6 vy7 vy8 vy9 : TypeId} {r1 r2 r3 r4 r5 r6 r7 r8 r9 : String} {b1 b2 b3 b4 b5 b6 b7 b8 b9 : Array Edge}
variable {wy1 wy2 wy3 wy4 wy5 wy6 wy7 wy8 wy9 : TypeId} {s1 s2 s3 s4 s5 s6 s7 s8 s9 : String} {m1 m2 m3 m4 m5 m6 m7 m8 m9 : Array Edge}
variable {xy1 xy2 xy3 xy4 xy5 xy6 xy7 xy8 xy9 : TypeId} {t1 t2 t3 t4 t5 t6 t7 t8 t9 : String} {n1 n2 n3 n4 n5 n6 n7 n8 n9 : Array Edge}
variable {T ft ST et it : TypeId} {fs : Array Field} {fd : Field} {r fsd : List Fld} {v0 : Int} {q : Bool} {xx Y : Tre} {T' : List UInt8} {done zc zs : List Value} {z : Value} {E0 : Ent}
/-- y = x, where y may have been said -/
theorem rg_set (hx : lk L x = some val) (hb : Nat.blt y n = true) (hf : frs n L [d1] = true) (kk : At N n ((y, val) :: L) H C s) : Cd Tryd.prog (.region id [⟨some d1, .move (.tmp x), ty1, p1, a1, none⟩, ⟨some y, .assign (.tmp d1), ty2, p2, a2, none⟩].toArray false) ⟨N, R, X⟩ n L H C s := by
  obtain ⟨hb', hfr, hne⟩ := frs_get hf
  simp only [List.mem_cons, List.not_mem_nil, or_false, forall_eq] at hb' hfr
  refine cd_region ?_
  refine ln_pv (pv_move hx) hb' ?_
  refine ln_pv (pv_assign lk_eq) hb ?_
  exact ln_nil (at_sub (sub.cons (.skip hfr .rfl')) kk)
/-- e = &a[i] -/
theorem rg_ix {m i cap gb ez : Nat} (hy2 : lk L y2 = some (.slice (some ⟨gb, 0, none⟩) m cap)) (hy4 : lk L y4 = some (.int .i32 (i : Int))) (hi : i < m) (hST : Tryd.prog.underlying ST = some (.slice et)) (hes : (Tryd.prog.info? et).map (·.size) = some ez) (hf : frs n L [y, d1, d2, d3] = true)
    (kk : At N n ((y, .pointer (some ⟨gb, 0 + i * ez, none⟩)) :: L) H C s) :
    Cd Tryd.prog (.region id [⟨some d1, .move (.tmp y2), ty1, p1, a1, none⟩, ⟨some d2, .move (.tmp y4), ty2, p2, a2, none⟩, ⟨some d3, .indexAddr ST (.tmp d1) (.tmp d2), ty3, p3, a3, none⟩, ⟨some y, .assign (.tmp d3), ty4, p4, a4, none⟩].toArray false) ⟨N, R, X⟩ n L H C s := by
  obtain ⟨hb', hfr, hne⟩ := frs_get hf
  simp only [List.pairwise_cons, List.mem_cons, List.not_mem_nil, or_false, forall_eq_or_imp, forall_eq, List.Pairwise.nil, and_true, false_imp_iff, implies_true] at hb' hfr hne
  refine cd_region ?_
  refine ln_pv (pv_move hy2) hb'.2.1 ?_
  refine ln_pv (pv_move (v := .int .i32 (i : Int)) (by rw [ev_t, lk_ne (lk_fr hfr.2.1 hy4)]; exact hy4)) hb'.2.2.1 ?_
  refine ln_pv (pv_ixN (b := gb) (o := 0) (i := i) hST hes (by simp [ev_t, lk_eq, lk_ne, hne] <;> rfl) lk_eq hi) hb'.2.2.2 ?_
  refine ln_pv (pv_assign lk_eq) hb'.1 ?_
  exact ln_nil (at_sub (sub.cons (.skip hfr.2.2.2 (.skip hfr.2.2.1 (.skip hfr.2.1 .rfl')))) kk)
theorem RSv.el {sb : List Fld} {x1 : Tre} (hn : ntFs sb = true) (h : RSv s v (valueB 10 sb false v0 q x1 ++ rest)) : RSv s v (plainB sb v0 q x1 0 ++ (tgsB q x1 ++ rest)) := RSv.part hn (by simpa only [valueB, if_true] using h)
end
end K
end Go.Proofs.YtjjfpdofkdolnaaDoor
namespace Go.Proofs.YtjjfpdofkdolnaaDoor
namespace K
open Go Go.Lib
section
variable {n : Nat} {L : Env} {H H0 : Hp} {C : Cx} {s : Vw} {N R : Act → World → Prop} {X : List (Nat × (Act → World → Prop))}
variable {id id0 id1 id2 id3 id4 id5 id6 id7 id8 id9 ida idb idc idd ide idf idg : Nat} {tb ts un fx vr x y d0 d1 d2 d3 d4 d5 d6 d7 d8 d9 e0 e1 e2 e3 e4 y1 y2 y3 y4 g1 g2 g3 g4 g5 h1 h2 h3 h4 h5 i1 j1 j2 j3 j4 : Nat} {f g : FuncId} {br b o po len fo k sz : Nat} {mk : List Value → Ent} {v c val : Value} {rest bs : List UInt8}
variable {ty0 ty1 ty2 ty3 ty4 ty5 ty6 ty7 ty8 ty9 : TypeId} {p0 p1 p2 p3 p4 p5 p6 p7 p8 p9 : String} {a0 a1 a2 a3 a4 a5 a6 a7 a8 a9 : Array Edge} {tys tyt tyo : Array TypeId}
variable {uy1 uy2 uy3 uy4 uy5 uy6 uy7 uy8 : TypeId} {q1 q2 q3 q4 q5 q6 q7 q8 : String} {c1 c2 c3 c4 c5 c6 c7 c8 : Array Edge}
variable {vy1 vy2 vy3 vy4 vy5 vy6 vy7 vy8 vy9 : TypeId} {r1 r2 r3 r4 r5 r6 r7 r8 r9 : String} {b1 b2 b3 b4 b5 b6 b7 b8 b9 : Array Edge}
variable {wy1 wy2 wy3 wy4 wy5 wy6 wy7 wy8 wy9 : TypeId} {s1 s2 s3 s4 s5 s6 s7 s8 s9 : String} {m1 m2 m3 m4 m5 m6 m7 m8 m9 : Array Edge}
variable {xy1 xy2 xy3 xy4 xy5 xy6 xy7 xy8 xy9 : TypeId} {t1 t2 t3 t4 t5 t6 t7 t8 t9 : String} {n1 n2 n3 n4 n5 n6 n7 n8 n9 : Array Edge}
variable {T ft ST et it : TypeId} {fs : Array Field} {fd : Field} {r fsd : List Fld} {v0 : Int} {q : Bool} {xx Y : Tre} {T' : List UInt8} {done zc zs : List Value} {z : Value} {E0 : Ent}
variable {idz idy z1 z2 z3 z4 z5 z6 z7 : Nat} {zy1 zy2 zy3 zy4 zy5 zy6 zy7 zy8 zy9 ly1 ly2 ly3 : TypeId} {o1 o2 o3 o4 o5 o6 o7 o8 : String} {l1 l2 l3 l4 l5 l6 l7 l8 : Array Edge}
theorem rl_make0 {A : Code} {r0 : Int} (hy3 : lk L y3 = some (.int .i32 r0)) (h : ¬ r0 > 0) (hf : frs n L [g1, g2] = true) (k : At N n L H C s) :
    Cd Tryd.prog (.seq (.region id [⟨some g1, .move (.tmp y3), ty1, p1, a1, none⟩, ⟨some g2, .binOp .gtr it (.tmp g1) (.const (.int .i32 0)) uy1, ty2, p2, a2, none⟩].toArray false) (.cond (.tmp g2) A .skip)) ⟨N, R, X⟩ n L H C s := by
  obtain ⟨hb', hfr, hne⟩ := frs_get hf
  simp only [List.pairwise_cons, List.mem_cons, List.not_mem_nil, or_false, forall_eq_or_imp, forall_eq, List.Pairwise.nil, and_true, false_imp_iff, implies_true] at hb' hfr hne
  refine cd_sq ?_
  refine cd_region ?_
  refine ln_pv (pv_move hy3) hb'.1 ?_
  refine ln_pv (pv_ff (pv_gtr lk_eq ev_c) h) hb'.2 ?_
  refine ln_nil (at_cd ?_)
  exact cd_ff lk_eq (cd_sub_ (.skip hfr.2 (.skip hfr.1 .rfl')) (cd_skip k))
theorem rl_cutN {ad : Option Addr} {cp : Nat} (hy : lk L y2 = some (.slice ad 0 cp)) (hST : Tryd.prog.underlying ST = some (.slice et)) (het : (Tryd.prog.info? et).isSome = true) (hb2 : Nat.blt y2 n = true) (hf : frs n L [d1, d2] = true) (kk : At N n L H C s) :
    Cd Tryd.prog (.region id [⟨some d1, .move (.tmp y2), ty1, p1, a1, none⟩, ⟨some d2, .slice ST (.tmp d1) none (some (.const (.int .i64 0))) none, ty2, p2, a2, none⟩, ⟨some y2, .assign (.tmp d2), ty3, p3, a3, none⟩].toArray false) ⟨N, R, X⟩ n L H C s := by
  obtain ⟨hb', hfr, hne⟩ := frs_get hf
  simp only [List.pairwise_cons, List.mem_cons, List.not_mem_nil, or_false, forall_eq_or_imp, forall_eq, List.Pairwise.nil, and_true, false_imp_iff, implies_true] at hb' hfr hne
  refine cd_region ?_
  refine ln_pv (pv_move hy) hb'.1 ?_
  refine ln_pv (pv_slice_hi' (k := .i64) (i := 0) (k' := 0) hST het lk_eq ev_c (by decide) (Int.natCast_nonneg _) rfl) hb'.2 ?_
  refine ln_pv (pv_assign lk_eq) hb2 ?_
  refine ln_nil (at_sub ?_ kk)
  intro t u hu
  by_cases e : y2 = t
  · subst e; rw [lk_eq]; exact hy.symm.trans hu
  · rw [lk_ne e, lk_ne (lk_fr hfr.2 hu), lk_ne (lk_fr hfr.1 hu)]; exact hu
theorem rl_loopN {body : Code} {r0 : Int} (hy3 : lk L y3 = some (.int .i32 r0)) (h0 : ¬ 0 < r0) (hf : frs n L [y4, h1, h2, h3] = true) (kk : ∀ u, Tr s u → At N n L H C u) :
    Cd Tryd.prog (.seq (.region id [⟨some y4, .assign (.const (.int .i32 0)), ty1, p1, a1, none⟩].toArray false) (.block id1 (.loop (.seq (.seq (.region id2 [⟨some h1, .move (.tmp y4), ty2, p2, a2, none⟩, ⟨some h2, .move (.tmp y3), ty3, p3, a3, none⟩, ⟨some h3, .binOp .lss uy1 (.tmp h1) (.tmp h2) uy2, ty4, p4, a4, none⟩].toArray false) (.cond (.tmp h3) .skip (.exit id1))) body)))) ⟨N, R, X⟩ n L H C s := by
  obtain ⟨hb', hfr, hne⟩ := frs_get hf
  simp only [List.pairwise_cons, List.mem_cons, List.not_mem_nil, or_false, forall_eq_or_imp, forall_eq, List.Pairwise.nil, and_true, false_imp_iff, implies_true] at hb' hfr hne
  refine cd_sq ?_
  refine cd_region ?_
  refine ln_pv (pv_assign ev_c) hb'.1 ?_
  refine ln_nil (at_cd ?_)
  refine cd_block ?_
  refine cd_loop' (S := Unit) ⟨fun _ => (y4, .int .i32 0) :: L, fun _ => H, fun _ _ => True, fun _ => 0⟩ () (fun _ _ => trivial) .rfl' (List.Sublist.refl _) ?_
  intro _ u hu _
  dsimp only
  refine cd_sq ?_
  refine cd_sq ?_
  refine cd_region ?_
  refine ln_pv (pv_move lk_eq) hb'.2.1 ?_
  refine ln_pv (pv_move (v := .int .i32 r0) (by rw [ev_t, lk_ne (lk_fr hfr.2.1 hy3), lk_ne (lk_fr hfr.1 hy3)]; exact hy3)) hb'.2.2.1 ?_
  refine ln_pv (pv_ff (pv_lss (k := .i32) (i := 0) (j := r0) (by simp [ev_t, lk_eq, lk_ne, hne]) lk_eq) h0) hb'.2.2.2 ?_
  refine ln_nil (at_cd ?_)
  refine cd_ff lk_eq ?_
  refine cd_exit (K := N) (by simp [lkx]) ?_
  exact at_sub (.skip hfr.2.2.2 (.skip hfr.2.2.1 (.skip hfr.2.1 (.skip hfr.1 .rfl')))) (kk u hu)
/-- the thing of a list is put in its place -/
theorem el_put {m i cap gb : Nat} {xs rp : List Value} (h1 : c.oneCell' = true) (hy2 : lk L y2 = some (.slice (some ⟨gb, 0, none⟩) m cap)) (hy4 : lk L y4 = some (.int .i32 (i : Int))) (hi : i < m) (hxl : xs.length = i * 1) (hrl : rp.length = (m - (i + 1)) * 1) (hST : Tryd.prog.underlying ST = some (.slice et)) (hes : (Tryd.prog.info? et).map (·.size) = some 1) (hfy : fr y L = true) (hf : frs n ((y, .bool true) :: L) [d1, d2, d3, d4] = true)
    (kk : At N n L (E0 :: .row (.slice (some ⟨gb, 0, none⟩) m cap) et 1 m (xs ++ ([c] ++ rp)) :: H0) C s) :
    Cd Tryd.prog (.region id [⟨some d1, .move (.tmp y2), ty1, p1, a1, none⟩, ⟨some d2, .move (.tmp y4), ty2, p2, a2, none⟩, ⟨some d3, .move (.tmp y), ty3, p3, a3, none⟩, ⟨some d4, .indexAddr ST (.tmp d1) (.tmp d2), ty4, p4, a4, none⟩, ⟨none, .store et (.tmp d4) (.tmp d3), ty5, p5, a5, none⟩].toArray false) ⟨N, R, X⟩ n ((y, c) :: L) (E0 :: .row (.slice (some ⟨gb, 0, none⟩) m cap) et 1 m (xs ++ ([z] ++ rp)) :: H0) C s := by
  obtain ⟨zg, fg, ng⟩ := frs_get hf
  simp only [List.pairwise_cons, List.mem_cons, List.not_mem_nil, or_false, forall_eq_or_imp, forall_eq, List.Pairwise.nil, and_true, false_imp_iff, implies_true] at zg fg ng
  obtain ⟨k1, k2, k3, k4⟩ := fg
  refine cd_region ?_
  refine ln_pv (pv_move (v := .slice (some ⟨gb, 0, none⟩) m cap) (by rw [ev_t, lk_ne (lk_fr hfy hy2)]; exact hy2)) zg.1 ?_
  have q4 : lk ((y, c) :: L) y4 = some (.int .i32 (i : Int)) := by rw [lk_ne (lk_fr hfy hy4)]; exact hy4
  refine ln_pv (pv_move (v := .int .i32 (i : Int)) (by rw [ev_t, lk_ne (lk_fr (L := (y, c) :: L) k1 q4)]; exact q4)) zg.2.1 ?_
  refine ln_pv (pv_move (v := c) (by rw [ev_t, lk_ne (lk_fr (L := (y, c) :: L) k2 lk_eq), lk_ne (lk_fr (L := (y, c) :: L) k1 lk_eq), lk_eq])) zg.2.2.1 ?_
  refine ln_pv (pv_ixN (b := gb) (o := 0) (i := i) hST hes (by simp [ev_t, lk_eq, lk_ne, ng] <;> rfl) (by simp [ev_t, lk_eq, lk_ne, ng] <;> rfl) hi) zg.2.2.2 ?_
  have hT := (Tgt.row gb cap m 1 et).mid xs rp 1 (0 + i * 1) (by rw [hxl, hrl]; omega) (by rw [hxl])
  refine ln_storeG1 (mk := fun w => .row (.slice (some ⟨gb, 0, none⟩) m cap) et 1 m (xs ++ (w ++ rp))) (win := [z]) (off := 0) (i := 1) (v := c) hT rfl rfl (by rw [Nat.add_zero]; exact lk_eq) (by simp [ev_t, lk_eq, lk_ne, ng]) h1 hes (by decide) ?_
  refine ln_nil (at_sub (.skip (by simpa [fr] using (by have := k4; simp only [fr, Bool.and_eq_true] at this; exact this.2)) (.skip (by have := k3; simp only [fr, Bool.and_eq_true] at this; exact this.2) (.skip (by have := k2; simp only [fr, Bool.and_eq_true] at this; exact this.2) (.skip (by have := k1; simp only [fr, Bool.and_eq_true] at this; exact this.2) (.skip hfy .rfl'))))) ?_)
  exact kk
end
end K
end Go.Proofs.YtjjfpdofkdolnaaDoor
namespace Go.Proofs.YtjjfpdofkdolnaaDoor
namespace K
open Go Go.Lib
theorem list_fits {m i ez : Nat} {xs z : List Value} (hi : i < m) (hxl : xs.length = i * ez) (hz : z.length = ez) : xs.length + (ez + (List.replicate (m - (i + 1)) z).flatten.length) = m * ez := by
  obtain ⟨d, rfl⟩ : ∃ d, m = i + 1 + d := ⟨m - (i + 1), by omega⟩
  rw [show i + 1 + d - (i + 1) = d by omega, List.length_flatten, List.map_replicate, List.sum_replicate_nat, hz, hxl]
  simp only [Nat.add_mul]
  omega
/-- the cells behind a message's version -/
theorem Tgt.behind (b : Nat) (T : TypeId) (c : Value) (len : Nat) : Tgt (fun w => MsgBox b T (c :: w)) b 1 len := by
  have h := (Tgt.obj b T (len + 1)).mid [c] [] len 1 (by simp; omega) rfl
  have e : (fun win : List Value => (Ent.obj b (.cells ([c] ++ (win ++ [])).toArray T))) = fun w => MsgBox b T (c :: w) := by
    funext w
    simp [MsgBox]
  rwa [e] at h
section
variable {P : Program} {n : Nat} {L : Env} {H E : Hp} {C : Cx} {s : Vw} {S : World → Prop} {d : Option Nat} {g : Option (Nat × Bool)} {t u ty : TypeId} {pos : String} {af : Array Edge} {x y : Operand}
theorem in_eqI {ms : Array (String × TypeId)} (q : Nat) (w : World) (hu : P.underlying t = some (.interface ms)) : (Op.equalIn (q + 1) t .nilIface .nilIface).run P w = .ok true w := by
  simp [Op.equalIn, run_underlying hu]
theorem run_eqI {ms : Array (String × TypeId)} (w : World) (hu : P.underlying t = some (.interface ms)) : (Op.equal t .nilIface .nilIface).run P w = .ok true w := in_eqI 9999 w hu
/-- err != nil, and it is nil -/
theorem pv_neqI {ms : Array (String × TypeId)} (hu : P.underlying t = some (.interface ms)) (hx : ev L x = some .nilIface) :
    PV P S ⟨d, .binOp .neq t x (.const .nilIface) u, ty, pos, af, g⟩ n L (.bool false) := fun a w hF _ => by
  have hy : ev L (.const .nilIface) = some .nilIface := rfl
  simp [execOp, hF.ev hx, hF.ev hy, eqGuard, binOp, run_eqI w hu]
end
end K
end Go.Proofs.YtjjfpdofkdolnaaDoor
