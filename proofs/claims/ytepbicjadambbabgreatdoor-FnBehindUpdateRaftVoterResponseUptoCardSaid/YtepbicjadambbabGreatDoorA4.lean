import Derived.Test.YtepbicjadambbabGreatDoorA3
set_option linter.unusedVariables false
set_option linter.unusedSimpArgs false
namespace Go.Proofs.YtepbicjadambbabGreatDoor
namespace K
open Go Go.Lib
section neq
variable {P : Program} {S : World → Prop} {d : Option Nat} {g : Option (Nat × Bool)} {t u ty : TypeId} {pos : String} {af : Array Edge} {n : Nat} {L : Env} {x y : Operand}
theorem pv_neqP {e : TypeId} {b : Option Addr} (hu : P.underlying t = some (.pointer e)) (hx : ev L x = some (.pointer b)) (hy : ev L y = some (.pointer none)) :
    PV P S ⟨d, .binOp .neq t x y u, ty, pos, af, g⟩ n L (.bool b.isSome) := fun a w hF _ => by
  cases b <;> simp [execOp, hF.ev hx, hF.ev hy, eqGuard, binOp, run_eqP w hu]
end neq
section
variable {n : Nat} {L : Env} {H0 : Hp} {C : Cx} {s : Vw} {N R : Act → World → Prop} {X : List (Nat × (Act → World → Prop))}
variable {id id' id1 id2 id3 : Nat} {td x y p d0 d1 d2 d3 d4 d5 d6 : Nat} {vd val : Value} {Lc bs rest Full : List UInt8}
variable {ty0 ty1 ty2 ty3 ty4 ty5 ty6 : TypeId} {p0 p1 p2 p3 p4 p5 p6 : String} {a0 a1 a2 a3 a4 a5 a6 : Array Edge}
variable {uy1 uy2 : TypeId} {q : Bool} {T ft e : TypeId} {v : Int} {yy : Tre}
theorem fieldB_sv {k a b nul tag d o : Int} {sub : List Fld} (h11 : k ≠ 11) (h10 : k ≠ 10) (hv : ¬ v ≥ nul) : fieldB (.mk k a b nul tag d o sub) v q yy = scalarB k false q yy := by
  rw [fieldB_sc h11 h10, decide_eq_false hv]
  simp
/-- if the version is below -/
theorem ap_lss {v c : Int} {A B : Code} (hx : lk L x = some (.int .i16 v)) (hf : frs n L [td, d1, d2] = true) (hyes : v < c → Cd Tryz.prog A ⟨N, R, X⟩ n ((td, vd) :: L) (OctRow vd Lc :: H0) C s) (hno : ¬ v < c → Cd Tryz.prog B ⟨N, R, X⟩ n ((td, vd) :: L) (OctRow vd Lc :: H0) C s) :
    Cd Tryz.prog (.seq (.region id [⟨some d1, .move (.tmp x), ty1, p1, a1, none⟩, ⟨some d2, .binOp .lss uy1 (.tmp d1) (.const (.int .i16 c)) uy2, ty2, p2, a2, none⟩].toArray false) (.cond (.tmp d2) A B)) ⟨N, R, X⟩ n ((td, vd) :: L) (OctRow vd Lc :: H0) C s := by
  obtain ⟨hb, hfr, hne⟩ := frs_get hf
  simp only [List.pairwise_cons, List.mem_cons, List.not_mem_nil, or_false, forall_eq_or_imp, forall_eq, List.Pairwise.nil, and_true, false_imp_iff, implies_true] at hb hfr hne
  obtain ⟨f0, f1, f2⟩ := hfr
  obtain ⟨b0, b1, b2⟩ := hb
  have hs : ∀ u1 u2, sub ((td, vd) :: L) ((d2, u2) :: (d1, u1) :: (td, vd) :: L) := fun u1 u2 => .put (by simp [lk_eq, lk_ne, hne]) (.skip f2 (.skip f1 (.skip f0 .rfl')))
  refine cd_sq ?_
  refine cd_region ?_
  refine ln_pv (pv_move (by rw [ev_t, lk_ne (lk_fr f0 hx)]; exact hx)) b1 ?_
  refine ln_pv (pv_lss lk_eq ev_c) b2 ?_
  refine ln_nil (at_cd ?_)
  exact cd_if lk_eq (fun h => cd_sub_ (hs _ _) (hyes h)) (fun h => cd_sub_ (hs _ _) (hno h))
/-- the same, with what follows at hand -/
theorem ap_lssK {v c : Int} {A B : Code} (hx : lk L x = some (.int .i16 v)) (hf : frs n L [td, d1, d2] = true) (hE : Lc ++ (bs ++ rest) = Full)
    (kk : ∀ u v' Lc', Tr s u → Lc' ++ rest = Full → At N n ((td, v') :: L) (OctRow v' Lc' :: H0) C u)
    (hyes : v < c → (∀ u v' Lc', Tr s u → Lc' ++ rest = Full → At N n ((td, v') :: L) (OctRow v' Lc' :: H0) C u) → Cd Tryz.prog A ⟨N, R, X⟩ n ((td, vd) :: L) (OctRow vd Lc :: H0) C s)
    (hno : ¬ v < c → (∀ u v' Lc', Tr s u → Lc' ++ rest = Full → At N n ((td, v') :: L) (OctRow v' Lc' :: H0) C u) → Cd Tryz.prog B ⟨N, R, X⟩ n ((td, vd) :: L) (OctRow vd Lc :: H0) C s) :
    Cd Tryz.prog (.seq (.region id [⟨some d1, .move (.tmp x), ty1, p1, a1, none⟩, ⟨some d2, .binOp .lss uy1 (.tmp d1) (.const (.int .i16 c)) uy2, ty2, p2, a2, none⟩].toArray false) (.cond (.tmp d2) A B)) ⟨N, R, X⟩ n ((td, vd) :: L) (OctRow vd Lc :: H0) C s :=
  ap_lss hx hf (fun h => hyes h kk) (fun h => hno h kk)
/-- an id of sixteen octets -/
theorem ap_uuid {f : FuncId} {fs : Array Field} {k off sz b o by_ : Nat} {fl : Field} {dd : TypeDesc} {cells vs zl : List Value} {z : Value} {d7 : Nat} {tys : Array TypeId} {ty7 ty8 ty9 : TypeId} {p7 p8 p9 : String} {a7 a8 a9 : Array Edge}
    (hx : lk L p = some (.pointer (some ⟨b, o, none⟩))) (hu : Tryz.prog.underlying T = some (.struct fs)) (hk : fs[k]? = some fl) (hsz : (Tryz.prog.info? fl.type).map (·.size) = some (sz + 1)) (ho : fl.offset = off)
    (hd : Tryz.prog.underlying ft = some dd) (hna : aggD dd = true) (hti : TI Tryz.prog ft z 16 by_) (hzl : z.cells = zl.toArray) (hzn : zl.length = 16) (hrc : RC s b o cells) (hvs : (cells.drop off).take 16 = vs) (hvl : vs.length = 16) (h1 : ∀ u ∈ vs, u.oneCell' = true) (hent : Enters Tryz.prog f)
    (hf : frs n L [td, y, d1, d2, d3, d4, d5, d6, d7] = true) (hc : ∀ u, Tr s u → AppC f [.agg vs.toArray] bs u) (hE : Lc ++ (bs ++ rest) = Full) (hB : Full.length ≤ 4398046511104)
    (kk : ∀ u v' Lc', Tr s u → Lc' ++ rest = Full → At N n ((td, v') :: L) (OctRow v' Lc' :: H0) C u) :
    Cd Tryz.prog (.seq (.region id [⟨some d1, .move (.tmp p), ty1, p1, a1, none⟩, ⟨some d2, .nilCheck (.tmp d1), ty2, p2, a2, none⟩, ⟨some d3, .fieldAddr T (.tmp d2) k, ty3, p3, a3, none⟩, ⟨some d4, .load ft (.tmp d3), ty4, p4, a4, none⟩, ⟨some y, .alloc ft, ty5, p5, a5, none⟩, ⟨none, .store ft (.tmp y) (.tmp d4), ty6, p6, a6, none⟩].toArray false)
      (.region id1 [⟨some d5, .move (.tmp td), ty7, p7, a7, none⟩, ⟨some d6, .load ft (.tmp y), ty8, p8, a8, none⟩, ⟨some d7, .call ⟨.value (.func f), [.tmp d5, .tmp d6].toArray, tys⟩, ty9, p9, a9, none⟩, ⟨some td, .assign (.tmp d7), ty0, p0, a0, none⟩].toArray false)) ⟨N, R, X⟩ n ((td, vd) :: L) (OctRow vd Lc :: H0) C s := by
  obtain ⟨hb, hfr, hne⟩ := frs_get hf
  simp only [List.pairwise_cons, List.mem_cons, List.not_mem_nil, or_false, forall_eq_or_imp, forall_eq, List.Pairwise.nil, and_true, false_imp_iff, implies_true] at hb hfr hne
  obtain ⟨f0, fy, g1, g2, g3, g4, g5, g6, g7⟩ := hfr
  obtain ⟨b0, by_', h1', h2, h3, h4, h5, h6, h7⟩ := hb
  refine cd_sq ?_
  refine cd_region ?_
  refine ln_pv (pv_move (by rw [ev_t, lk_ne (lk_fr f0 hx)]; exact hx)) h1' ?_
  refine ln_pv (pv_nilCheck lk_eq) h2 ?_
  refine ln_pv (pv_fieldAddr (off := off) hu hk hsz ho lk_eq rfl) h3 ?_
  refine ln_pv (pv_loadA (cs := vs) hd (by cases dd <;> first | rfl | (simp [aggD] at hna)) hti.size hvl lk_eq fun w hw j v hv => by
    rw [Nat.add_assoc]
    refine hw.rc hrc ?_
    rw [← hvs] at hv
    have hj : j < 16 := by
      have := (List.getElem?_eq_some_iff.1 hv).1
      simp at this
      omega
    rwa [List.getElem?_take_of_lt hj, List.getElem?_drop] at hv) h4 ?_
  refine ln_alloc hti hzl by_' (fun b1 => ?_)
  refine ln_storeW (i := 0) (vs := vs) (v := .agg vs.toArray) rfl lk_eq (by simp [ev_t, lk_eq, lk_ne, hne]) rfl (by rw [hzn]; exact hti.size) (by rw [hvl, hzn]) h1 ?_
  refine ln_nil (at_cd ?_)
  refine cd_region ?_
  refine ln_pv (pv_move (v := vd) (by simp [ev_t, lk_eq, lk_ne, hne])) h5 ?_
  refine ln_pv (pv_ldO (i := 0) (l := vs) rfl hd (by cases dd <;> first | rfl | (simp [aggD] at hna)) hti.size (by simp [ev_t, lk_eq, lk_ne, hne]) hvl) h6 ?_
  refine ln_callT (i := 1) (vals := [vd, .agg vs.toArray]) hent (by simp [evs, ev_t, lk_eq, lk_ne, hne]) rfl (fun u hu hok hav => hc u hu _ _ (app_len hE hB) hok hav) h7 ?_
  rintro u v' _ ht ⟨_, ⟨rfl, _⟩, _⟩
  refine ln_pv (pv_assign (v := v') lk_eq) b0 ?_
  refine ln_nil (at_sub (sub.cons (.skip g7 (.skip g6 (.skip g5 (.skip fy (.skip g4 (.skip g3 (.skip g2 (.skip g1 (.skip f0 .rfl')))))))))) ?_)
  exact fun a w hF hS => kk u v' _ ht (app_step hE) a w hF (hS.sub (List.Sublist.cons _ (List.Sublist.refl _)))
/-- if the text is at hand, it is taken -/
theorem ap_deref {c : Value} (hx : lk L x = some c) (hT : Txt s c yy) (hz : yy.z = false) (hu : Tryz.prog.underlying T = some (.pointer e)) (hft : Tryz.prog.underlying ft = some .string) (hf : frs n L [td, y, d0, d1, d2, d3, d4] = true)
    (kk : At N n ((td, vd) :: (y, .string ⟨yy.s.toArray⟩) :: L) (OctRow vd Lc :: H0) C s) :
    Cd Tryz.prog (.seq (.region id [⟨some d0, .move (.tmp x), ty0, p0, a0, none⟩, ⟨some d1, .binOp .neq T (.tmp d0) (.const (.pointer none)) uy2, ty1, p1, a1, none⟩].toArray false)
      (.cond (.tmp d1) (.region id1 [⟨some d2, .move (.tmp x), ty2, p2, a2, none⟩, ⟨some d3, .nilCheck (.tmp d2), ty3, p3, a3, none⟩, ⟨some d4, .load ft (.tmp d3), ty4, p4, a4, none⟩, ⟨some y, .assign (.tmp d4), ty5, p5, a5, none⟩].toArray false) .skip)) ⟨N, R, X⟩ n ((td, vd) :: L) (OctRow vd Lc :: H0) C s := by
  obtain ⟨hb, hfr, hne⟩ := frs_get hf
  simp only [List.pairwise_cons, List.mem_cons, List.not_mem_nil, or_false, forall_eq_or_imp, forall_eq, List.Pairwise.nil, and_true, false_imp_iff, implies_true] at hb hfr hne
  obtain ⟨f0, fy, g0, g1, g2, g3, g4⟩ := hfr
  obtain ⟨b0, by_, h0, h1, h2, h3, h4⟩ := hb
  rcases hT with ⟨hzt, _⟩ | ⟨_, gg, z, rfl, hrc, hzs⟩
  · rw [hz] at hzt; cases hzt
  have hzz : (⟨yy.s.toArray⟩ : ByteArray) = z := by
    rw [← hzs]
    unfold strB
    cases z
    simp
  rw [hzz] at kk
  refine cd_sq ?_
  refine cd_region ?_
  refine ln_pv (pv_move (by rw [ev_t, lk_ne (lk_fr f0 hx)]; exact hx)) h0 ?_
  refine ln_pv (pv_neqP hu lk_eq ev_c) h1 ?_
  refine ln_nil (at_cd ?_)
  have hs : ∀ u1 u2, sub ((td, vd) :: L) ((d1, u2) :: (d0, u1) :: (td, vd) :: L) := fun u1 u2 => .put (by simp [lk_eq, lk_ne, hne]) (.skip g1 (.skip g0 (.skip f0 .rfl')))
  refine cd_cond lk_eq (fun h => cd_sub_ (hs _ _) ?_) (fun h => by simp at h)
  refine cd_region ?_
  refine ln_pv (pv_move (by rw [ev_t, lk_ne (lk_fr f0 hx)]; exact hx)) h2 ?_
  refine ln_pv (pv_nilCheck lk_eq) h3 ?_
  refine ln_pv (pv_ldr (j := 0) hrc hft rfl lk_eq rfl) h4 ?_
  refine ln_pv (pv_assign lk_eq) by_ ?_
  exact ln_nil (at_sub (.put (by simp [lk_eq, lk_ne, hne]) (.cons (.skip g4 (.skip g3 (.skip g2 (.skip f0 .rfl')))))) kk)
end
end K
end Go.Proofs.YtepbicjadambbabGreatDoor
