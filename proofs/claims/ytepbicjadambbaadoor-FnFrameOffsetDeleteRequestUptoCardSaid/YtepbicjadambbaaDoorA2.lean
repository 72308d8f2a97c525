import Derived.Test.YtepbicjadambbaaDoorA1
set_option linter.unusedVariables false
set_option linter.unusedSimpArgs false
namespace Go.Proofs.YtepbicjadambbaaDoor
namespace K
open Go Go.Lib
section
variable {n : Nat} {L : Env} {H0 : Hp} {C : Cx} {s : Vw} {N R : Act → World → Prop} {X : List (Nat × (Act → World → Prop))}
variable {id id' id1 id2 id3 : Nat} {td x y p d0 d1 d2 d3 d4 d5 d6 d7 d8 d9 e1 e2 e3 e4 e5 e6 : Nat} {f g : FuncId} {vd val : Value} {Lc bs rest Full : List UInt8} {ts ts' : Array TypeId}
variable {ty0 ty1 ty2 ty3 ty4 ty5 ty6 ty7 ty8 ty9 : TypeId} {p0 p1 p2 p3 p4 p5 p6 p7 p8 p9 : String} {a0 a1 a2 a3 a4 a5 a6 a7 a8 a9 : Array Edge}
variable {uy1 uy2 uy3 uy4 uy5 uy6 : TypeId} {q1 q2 q3 q4 q5 q6 : String} {c1 c2 c3 c4 c5 c6 : Array Edge}
variable {T ft vy1 vy2 : TypeId} {fs : Array Field} {k off sz b o : Nat} {fl : Field} {dd : TypeDesc} {cells : List Value} {ts2 : Array TypeId}
/-- x = a constant; the frame without td -/
theorem ap_const {H : Hp} {c : Value} (hf : frs n L [y] = true) (kk : At N n ((y, c) :: L) H C s) :
    Cd Tryd.prog (.region id [⟨some y, .assign (.const c), ty1, p1, a1, none⟩].toArray false) ⟨N, R, X⟩ n L H C s := by
  obtain ⟨hb, hfr, hne⟩ := frs_get hf
  exact cd_region (ln_pv (pv_assign ev_c) (hb y (by simp)) (ln_nil kk))
/-- _ = x -/
theorem ap_blank {H : Hp} {v : Value} (hx : lk L x = some v) (hf : frs n L [d1] = true) (kk : At N n L H C s) :
    Cd Tryd.prog (.region id [⟨some d1, .move (.tmp x), ty1, p1, a1, none⟩].toArray false) ⟨N, R, X⟩ n L H C s := by
  obtain ⟨hb, hfr, hne⟩ := frs_get hf
  exact cd_region (ln_pv (pv_move hx) (hb d1 (by simp)) (ln_nil (at_sub (.skip (hfr d1 (by simp)) .rfl') kk)))
/-- the same, by another name -/
theorem ap_geqF {H : Hp} {v c : Int} {q : Bool} (hx : lk L x = some (.int .i16 v)) (hq : decide (v ≥ c) = q) (hf : frs n L [y, d1, d2] = true) (kk : At N n ((y, .bool q) :: L) H C s) :
    Cd Tryd.prog (.region id [⟨some d1, .move (.tmp x), ty1, p1, a1, none⟩, ⟨some d2, .binOp .geq uy1 (.tmp d1) (.const (.int .i16 c)) uy2, ty2, p2, a2, none⟩, ⟨some y, .assign (.tmp d2), ty3, p3, a3, none⟩].toArray false) ⟨N, R, X⟩ n L H C s := by
  subst hq
  obtain ⟨hb, hfr, hne⟩ := frs_get hf
  simp only [List.pairwise_cons, List.mem_cons, List.not_mem_nil, or_false, forall_eq_or_imp, forall_eq, List.Pairwise.nil, and_true, false_imp_iff, implies_true] at hb hfr hne
  refine cd_region ?_
  refine ln_pv (pv_move hx) hb.2.1 ?_
  refine ln_pv (pv_geq lk_eq ev_c) hb.2.2 ?_
  refine ln_pv (pv_assign lk_eq) hb.1 ?_
  exact ln_nil (at_sub (.cons (.skip hfr.2.2 (.skip hfr.2.1 .rfl'))) kk)
/-- y = v >= c -/
theorem ap_geq {v c : Int} (hx : lk L x = some (.int .i16 v)) (hf : frs n L [y, d1, d2] = true) (kk : At N n ((y, .bool (decide (v ≥ c))) :: L) (OctRow vd Lc :: H0) C s) :
    Cd Tryd.prog (.region id [⟨some d1, .move (.tmp x), ty1, p1, a1, none⟩, ⟨some d2, .binOp .geq uy1 (.tmp d1) (.const (.int .i16 c)) uy2, ty2, p2, a2, none⟩, ⟨some y, .assign (.tmp d2), ty3, p3, a3, none⟩].toArray false) ⟨N, R, X⟩ n L (OctRow vd Lc :: H0) C s := by
  obtain ⟨hb, hfr, hne⟩ := frs_get hf
  simp only [List.pairwise_cons, List.mem_cons, List.not_mem_nil, or_false, forall_eq_or_imp, forall_eq, List.Pairwise.nil, and_true, false_imp_iff, implies_true] at hb hfr hne
  refine cd_region ?_
  refine ln_pv (pv_move hx) hb.2.1 ?_
  refine ln_pv (pv_geq lk_eq ev_c) hb.2.2 ?_
  refine ln_pv (pv_assign lk_eq) hb.1 ?_
  exact ln_nil (at_sub (.cons (.skip hfr.2.2 (.skip hfr.2.1 .rfl'))) kk)
/-- y = p.F, the frame without td -/
theorem ap_load0 {H : Hp} (hx : lk L p = some (.pointer (some ⟨b, o, none⟩))) (hu : Tryd.prog.underlying T = some (.struct fs)) (hk : fs[k]? = some fl) (hsz : (Tryd.prog.info? fl.type).map (·.size) = some (sz + 1)) (ho : fl.offset = off)
    (hd : Tryd.prog.underlying ft = some dd) (hna : aggD dd = false) (hrc : RC s b o cells) (hc : cells[off]? = some val) (hf : frs n L [y, d1, d2, d3, d4] = true) (kk : At N n ((y, val) :: L) H C s) :
    Cd Tryd.prog (.region id [⟨some d1, .move (.tmp p), ty1, p1, a1, none⟩, ⟨some d2, .nilCheck (.tmp d1), ty2, p2, a2, none⟩, ⟨some d3, .fieldAddr T (.tmp d2) k, ty3, p3, a3, none⟩, ⟨some d4, .load ft (.tmp d3), ty4, p4, a4, none⟩, ⟨some y, .assign (.tmp d4), ty5, p5, a5, none⟩].toArray false)
      ⟨N, R, X⟩ n L H C s := by
  obtain ⟨hb, hfr, hne⟩ := frs_get hf
  simp only [List.pairwise_cons, List.mem_cons, List.not_mem_nil, or_false, forall_eq_or_imp, forall_eq, List.Pairwise.nil, and_true, false_imp_iff, implies_true] at hb hfr hne
  obtain ⟨fy, f1, f2, f3, f4⟩ := hfr
  obtain ⟨by_, b1, b2, b3, b4⟩ := hb
  refine cd_region ?_
  refine ln_pv (pv_move hx) b1 ?_
  refine ln_pv (pv_nilCheck lk_eq) b2 ?_
  refine ln_pv (pv_fieldAddr hu hk hsz ho lk_eq rfl) b3 ?_
  refine ln_pv (pv_ldr hrc hd (by cases dd <;> first | rfl | (simp [aggD] at hna)) lk_eq hc) b4 ?_
  refine ln_pv (pv_assign lk_eq) by_ ?_
  exact ln_nil (at_sub (sub.cons (.skip f4 (.skip f3 (.skip f2 (.skip f1 .rfl'))))) kk)
/-- if version >= c -/
theorem ap_if {v c : Int} {A : Code} (hx : lk L x = some (.int .i16 v)) (hf : frs n L [td, d1, d2] = true) (hE : Lc ++ ((if v ≥ c then bs else []) ++ rest) = Full)
    (kk : ∀ u v' Lc', Tr s u → Lc' ++ rest = Full → At N n ((td, v') :: L) (OctRow v' Lc' :: H0) C u)
    (hyes : v ≥ c → Lc ++ (bs ++ rest) = Full → (∀ u v' Lc', Tr s u → Lc' ++ rest = Full → At N n ((td, v') :: L) (OctRow v' Lc' :: H0) C u) → Cd Tryd.prog A ⟨N, R, X⟩ n ((td, vd) :: L) (OctRow vd Lc :: H0) C s) :
    Cd Tryd.prog (.seq (.region id [⟨some d1, .move (.tmp x), ty1, p1, a1, none⟩, ⟨some d2, .binOp .geq uy1 (.tmp d1) (.const (.int .i16 c)) uy2, ty2, p2, a2, none⟩].toArray false) (.cond (.tmp d2) A .skip)) ⟨N, R, X⟩ n ((td, vd) :: L) (OctRow vd Lc :: H0) C s := by
  obtain ⟨hb, hfr, hne⟩ := frs_get hf
  simp only [List.pairwise_cons, List.mem_cons, List.not_mem_nil, or_false, forall_eq_or_imp, forall_eq, List.Pairwise.nil, and_true, false_imp_iff, implies_true] at hb hfr hne
  obtain ⟨f0, f1, f2⟩ := hfr
  obtain ⟨b0, b1, b2⟩ := hb
  have hs : ∀ u1 u2, sub ((td, vd) :: L) ((d2, u2) :: (d1, u1) :: (td, vd) :: L) := fun u1 u2 => .put (by simp [lk_eq, lk_ne, hne]) (.skip f2 (.skip f1 (.skip f0 .rfl')))
  refine cd_sq ?_
  refine cd_region ?_
  refine ln_pv (pv_move (by rw [ev_t, lk_ne (lk_fr f0 hx)]; exact hx)) b1 ?_
  refine ln_pv (pv_geq lk_eq ev_c) b2 ?_
  refine ln_nil (at_cd ?_)
  refine cd_if lk_eq (fun h => cd_sub_ (hs _ _) ?_) (fun h => cd_sub_ (hs _ _) ?_)
  · rw [if_pos h] at hE
    exact hyes h hE kk
  · rw [if_neg h] at hE
    exact cd_skip (at_base fun u hu => kk u vd Lc hu (by simpa using hE))
/-- if a <= version <= b -/
theorem ap_if2 {v c e : Int} {A : Code} (hx : lk L x = some (.int .i16 v)) (hf : frs n L [td, d1, d2, d3, d4, d5, d6] = true) (hE : Lc ++ ((if v ≥ c ∧ v ≤ e then bs else []) ++ rest) = Full)
    (kk : ∀ u v' Lc', Tr s u → Lc' ++ rest = Full → At N n ((td, v') :: L) (OctRow v' Lc' :: H0) C u)
    (hyes : v ≥ c → v ≤ e → Lc ++ (bs ++ rest) = Full → (∀ u v' Lc', Tr s u → Lc' ++ rest = Full → At N n ((td, v') :: L) (OctRow v' Lc' :: H0) C u) → Cd Tryd.prog A ⟨N, R, X⟩ n ((td, vd) :: L) (OctRow vd Lc :: H0) C s) :
    Cd Tryd.prog (.seq (.region id [⟨some d1, .move (.tmp x), ty1, p1, a1, none⟩, ⟨some d2, .binOp .geq uy1 (.tmp d1) (.const (.int .i16 c)) uy2, ty2, p2, a2, none⟩, ⟨some d3, .move (.tmp d2), ty3, p3, a3, none⟩,
      ⟨some d4, .move (.tmp x), ty4, p4, a4, some (2, true)⟩, ⟨some d5, .binOp .leq uy3 (.tmp d4) (.const (.int .i16 e)) uy4, ty5, p5, a5, some (2, true)⟩, ⟨some d6, .pick (.tmp d3) (.tmp d5) (.const (.bool false)), ty6, p6, a6, none⟩].toArray false) (.cond (.tmp d6) A .skip)) ⟨N, R, X⟩ n ((td, vd) :: L) (OctRow vd Lc :: H0) C s := by
  obtain ⟨hb, hfr, hne⟩ := frs_get hf
  simp only [List.pairwise_cons, List.mem_cons, List.not_mem_nil, or_false, forall_eq_or_imp, forall_eq, List.Pairwise.nil, and_true, false_imp_iff, implies_true] at hb hfr hne
  obtain ⟨f0, f1, f2, f3, f4, f5, f6⟩ := hfr
  obtain ⟨b0, b1, b2, b3, b4, b5, b6⟩ := hb
  have hs : ∀ u1 u2 u3 u4 u5 u6, sub ((td, vd) :: L) ((d6, u6) :: (d5, u5) :: (d4, u4) :: (d3, u3) :: (d2, u2) :: (d1, u1) :: (td, vd) :: L) := fun u1 u2 u3 u4 u5 u6 => .put (by simp [lk_eq, lk_ne, hne]) (.skip f6 (.skip f5 (.skip f4 (.skip f3 (.skip f2 (.skip f1 (.skip f0 .rfl')))))))
  have hx' : lk ((td, vd) :: L) x = some (.int .i16 v) := by rw [lk_ne (lk_fr f0 hx)]; exact hx
  refine cd_sq ?_
  refine cd_region ?_
  refine ln_pv (pv_move hx') b1 ?_
  by_cases h : v ≥ c
  · refine ln_pv (pv_tt (pv_geq lk_eq ev_c) h) b2 ?_
    refine ln_pv (pv_move lk_eq) b3 ?_
    refine ln_gt rfl rfl lk_eq (pv_move (by rw [ev_t, lk_ne (lk_fr f3 hx), lk_ne (lk_fr f2 hx), lk_ne (lk_fr f1 hx)]; exact hx')) b4 ?_
    refine ln_gt rfl rfl (by rw [lk_ne (by simp [hne]), lk_eq]) (pv_leq lk_eq ev_c) b5 ?_
    refine ln_pv (pv_pick (by rw [ev_t, lk_ne (by simp [hne]), lk_ne (by simp [hne]), lk_eq]) (fun _ => lk_eq) (fun _ => ev_c)) b6 ?_
    refine ln_nil (at_cd ?_)
    refine cd_if lk_eq (fun h2 => cd_sub_ (hs _ _ _ _ _ _) ?_) (fun h2 => cd_sub_ (hs _ _ _ _ _ _) ?_)
    · rw [if_pos ⟨h, h2⟩] at hE
      exact hyes h h2 hE kk
    · rw [if_neg (fun q => h2 q.2)] at hE
      exact cd_skip (at_base fun u hu => kk u vd Lc hu (by simpa using hE))
  · refine ln_pv (pv_ff (pv_geq lk_eq ev_c) h) b2 ?_
    refine ln_pv (pv_move lk_eq) b3 ?_
    refine ln_gf rfl rfl lk_eq rfl b4 ?_
    refine ln_gf rfl rfl (by rw [lk_ne (by simp [hne]), lk_eq]) rfl b5 ?_
    refine ln_pv (pv_pick (u := .bool false) (by rw [ev_t, lk_ne (by simp [hne]), lk_ne (by simp [hne]), lk_eq]) (fun h => by cases h) (fun _ => ev_c)) b6 ?_
    refine ln_nil (at_cd ?_)
    refine cd_ff lk_eq (cd_sub_ (hs _ _ _ _ _ _) ?_)
    rw [if_neg (fun q => h q.1)] at hE
    exact cd_skip (at_base fun u hu => kk u vd Lc hu (by simpa using hE))
/-- y = x -/
theorem ap_copy (hx : lk L x = some val) (hf : frs n L [td, y, d1] = true) (kk : At N n ((td, vd) :: (y, val) :: L) (OctRow vd Lc :: H0) C s) :
    Cd Tryd.prog (.region id [⟨some d1, .move (.tmp x), ty1, p1, a1, none⟩, ⟨some y, .assign (.tmp d1), ty2, p2, a2, none⟩].toArray false) ⟨N, R, X⟩ n ((td, vd) :: L) (OctRow vd Lc :: H0) C s := by
  obtain ⟨hb, hfr, hne⟩ := frs_get hf
  simp only [List.pairwise_cons, List.mem_cons, List.not_mem_nil, or_false, forall_eq_or_imp, forall_eq, List.Pairwise.nil, and_true, false_imp_iff, implies_true] at hb hfr hne
  refine cd_region ?_
  refine ln_pv (pv_move (by rw [ev_t, lk_ne (lk_fr hfr.1 hx)]; exact hx)) hb.2.2 ?_
  refine ln_pv (pv_assign lk_eq) hb.2.1 ?_
  exact ln_nil (at_sub (.put (by simp [lk_eq, lk_ne, hne]) (.cons (.skip hfr.2.2 (.skip hfr.1 .rfl')))) kk)
/-- p = &x[i]: a part in a list -/
theorem ap_idx {i : Nat} {e : TypeId} {g0 o0 m c ez ti : Nat} (hx : lk L x = some (.slice (some ⟨g0, o0, none⟩) m c)) (hu : Tryd.prog.underlying T = some (.slice e)) (hsz : (Tryd.prog.info? e).map (·.size) = some ez) (hi : i < m) (hti : lk L ti = some (.int .i64 (i : Int))) (hf : frs n L [td, p, d2, d3, d4] = true)
    (kk : At N n ((td, vd) :: (p, .pointer (some ⟨g0, o0 + i * ez, none⟩)) :: L) (OctRow vd Lc :: H0) C s) :
    Cd Tryd.prog (.region id1 [⟨some d2, .move (.tmp x), ty3, p3, a3, none⟩, ⟨some d3, .move (.tmp ti), ty4, p4, a4, none⟩, ⟨some d4, .indexAddr T (.tmp d2) (.tmp d3), ty5, p5, a5, none⟩, ⟨some p, .assign (.tmp d4), ty6, p6, a6, none⟩].toArray false) ⟨N, R, X⟩ n ((td, vd) :: L) (OctRow vd Lc :: H0) C s := by
  obtain ⟨hb, hfr, hne⟩ := frs_get hf
  simp only [List.pairwise_cons, List.mem_cons, List.not_mem_nil, or_false, forall_eq_or_imp, forall_eq, List.Pairwise.nil, and_true, false_imp_iff, implies_true] at hb hfr hne
  obtain ⟨f0, fp, f2, f3, f4⟩ := hfr
  obtain ⟨b0, bp, b2, b3, b4⟩ := hb
  refine cd_region ?_
  refine ln_pv (pv_move (by rw [ev_t, lk_ne (lk_fr f0 hx)]; exact hx)) b2 ?_
  refine ln_pv (pv_move (by rw [ev_t, lk_ne (lk_fr f2 hti), lk_ne (lk_fr f0 hti)]; exact hti)) b3 ?_
  refine ln_pv (pv_ixN hu hsz (by rw [ev_t, lk_ne (by simp [hne]), lk_eq]) lk_eq hi) b4 ?_
  refine ln_pv (pv_assign lk_eq) bp ?_
  exact ln_nil (at_sub (.put (by simp [lk_eq, lk_ne, hne]) (.cons (.skip f4 (.skip f3 (.skip f2 (.skip f0 .rfl')))))) kk)
/-- y = x[i], of one cell -/
theorem ap_idxS {i : Nat} {e : TypeId} {g0 o0 m c ti : Nat} (hx : lk L x = some (.slice (some ⟨g0, o0, none⟩) m c)) (hu : Tryd.prog.underlying T = some (.slice e)) (hsz : (Tryd.prog.info? e).map (·.size) = some 1) (hi : i < m) (hti : lk L ti = some (.int .i64 (i : Int)))
    (hd : Tryd.prog.underlying ft = some dd) (hna : aggD dd = false) (hrc : RC s g0 (o0 + i * 1) [val]) (hf : frs n L [td, y, d2, d3, d4, d5] = true)
    (kk : At N n ((td, vd) :: (y, val) :: L) (OctRow vd Lc :: H0) C s) :
    Cd Tryd.prog (.region id1 [⟨some d2, .move (.tmp x), ty3, p3, a3, none⟩, ⟨some d3, .move (.tmp ti), ty4, p4, a4, none⟩, ⟨some d4, .indexAddr T (.tmp d2) (.tmp d3), ty5, p5, a5, none⟩, ⟨some d5, .load ft (.tmp d4), ty6, p6, a6, none⟩, ⟨some y, .assign (.tmp d5), ty7, p7, a7, none⟩].toArray false) ⟨N, R, X⟩ n ((td, vd) :: L) (OctRow vd Lc :: H0) C s := by
  obtain ⟨hb, hfr, hne⟩ := frs_get hf
  simp only [List.pairwise_cons, List.mem_cons, List.not_mem_nil, or_false, forall_eq_or_imp, forall_eq, List.Pairwise.nil, and_true, false_imp_iff, implies_true] at hb hfr hne
  obtain ⟨f0, fp, f2, f3, f4, f5⟩ := hfr
  obtain ⟨b0, bp, b2, b3, b4, b5⟩ := hb
  refine cd_region ?_
  refine ln_pv (pv_move (by rw [ev_t, lk_ne (lk_fr f0 hx)]; exact hx)) b2 ?_
  refine ln_pv (pv_move (by rw [ev_t, lk_ne (lk_fr f2 hti), lk_ne (lk_fr f0 hti)]; exact hti)) b3 ?_
  refine ln_pv (pv_ixN hu hsz (by rw [ev_t, lk_ne (by simp [hne]), lk_eq]) lk_eq hi) b4 ?_
  refine ln_pv (pv_ldr (j := 0) hrc hd (by cases dd <;> first | rfl | (simp [aggD] at hna)) lk_eq rfl) b5 ?_
  refine ln_pv (pv_assign lk_eq) bp ?_
  exact ln_nil (at_sub (.put (by simp [lk_eq, lk_ne, hne]) (.cons (.skip f5 (.skip f4 (.skip f3 (.skip f2 (.skip f0 .rfl'))))))) kk)
end
end K
end Go.Proofs.YtepbicjadambbaaDoor
