import Derived.Test.YtepbicjadambbabGreatDoorA1
set_option linter.unusedVariables false
set_option linter.unusedSimpArgs false
namespace Go.Proofs.YtepbicjadambbabGreatDoor
namespace K
open Go Go.Lib
section
variable {n : Nat} {L : Env} {H0 : Hp} {C : Cx} {s : Vw} {N R : Act → World → Prop} {X : List (Nat × (Act → World → Prop))}
variable {id id' id1 id2 id3 : Nat} {td x y p d0 d1 d2 d3 d4 d5 d6 d7 d8 d9 e1 e2 e3 e4 e5 e6 : Nat} {f g : FuncId} {vd val : Value} {Lc bs rest Full : List UInt8} {ts ts' : Array TypeId}
variable {ty0 ty1 ty2 ty3 ty4 ty5 ty6 ty7 ty8 ty9 : TypeId} {p0 p1 p2 p3 p4 p5 p6 p7 p8 p9 : String} {a0 a1 a2 a3 a4 a5 a6 a7 a8 a9 : Array Edge}
variable {uy1 uy2 uy3 uy4 uy5 uy6 : TypeId} {q1 q2 q3 q4 q5 q6 : String} {c1 c2 c3 c4 c5 c6 : Array Edge}
variable {T ft vy1 vy2 : TypeId} {fs : Array Field} {k off sz b o : Nat} {fl : Field} {dd : TypeDesc} {cells : List Value} {ts2 : Array TypeId}
/-- x = a constant; the frame without td -/
theorem ap_const {H : Hp} {c : Value} (hf : frs n L [y] = true) (kk : At N n ((y, c) :: L) H C s) :
    Cd Tryz.prog (.region id [⟨some y, .assign (.const c), ty1, p1, a1, none⟩].toArray false) ⟨N, R, X⟩ n L H C s := by
  obtain ⟨hb, hfr, hne⟩ := frs_get hf
  exact cd_region (ln_pv (pv_assign ev_c) (hb y (by simp)) (ln_nil kk))
/-- _ = x -/
theorem ap_blank {H : Hp} {v : Value} (hx : lk L x = some v) (hf : frs n L [d1] = true) (kk : At N n L H C s) :
    Cd Tryz.prog (.region id [⟨some d1, .move (.tmp x), ty1, p1, a1, none⟩].toArray false) ⟨N, R, X⟩ n L H C s := by
  obtain ⟨hb, hfr, hne⟩ := frs_get hf
  exact cd_region (ln_pv (pv_move hx) (hb d1 (by simp)) (ln_nil (at_sub (.skip (hfr d1 (by simp)) .rfl') kk)))
/-- the same, by another name -/
theorem ap_geqF {H : Hp} {v c : Int} {q : Bool} (hx : lk L x = some (.int .i16 v)) (hq : decide (v ≥ c) = q) (hf : frs n L [y, d1, d2] = true) (kk : At N n ((y, .bool q) :: L) H C s) :
    Cd Tryz.prog (.region id [⟨some d1, .move (.tmp x), ty1, p1, a1, none⟩, ⟨some d2, .binOp .geq uy1 (.tmp d1) (.const (.int .i16 c)) uy2, ty2, p2, a2, none⟩, ⟨some y, .assign (.tmp d2), ty3, p3, a3, none⟩].toArray false) ⟨N, R, X⟩ n L H C s := by
  subst hq
  obtain ⟨hb, hfr, hne⟩ := frs_get hf
  simp only [List.pairwise_cons, List.mem_cons, List.not_mem_nil, or_false, forall_eq_or_imp, forall_eq, List.Pairwise.nil, and_true, false_imp_iff, implies_true] at hb hfr hne
  refine cd_region ?_
  refine ln_pv (pv_move hx) hb.2.1 ?_
  refine ln_pv (pv_geq lk_eq ev_c) hb.2.2 ?_
  refine ln_pv (pv_assign lk_eq) hb.1 ?_
  exact ln_nil (at_sub (.cons (.skip hfr.2.2 (.skip hfr.2.1 .rfl'))) kk)
/-- y = v >= c -/
theorem ap_geq {v c : Int} (hx : lk L x = some (.int .i16 v)) (hf : frs n L [y, d1, d2] = true) (kk : At N n ((y, .bool (decide (v ≥ c))) :: L) (OctRow vd Lc :: H0) C s) :
    Cd Tryz.prog (.region id [⟨some d1, .move (.tmp x), ty1, p1, a1, none⟩, ⟨some d2, .binOp .geq uy1 (.tmp d1) (.const (.int .i16 c)) uy2, ty2, p2, a2, none⟩, ⟨some y, .assign (.tmp d2), ty3, p3, a3, none⟩].toArray false) ⟨N, R, X⟩ n L (OctRow vd Lc :: H0) C s := by
  obtain ⟨hb, hfr, hne⟩ := frs_get hf
  simp only [List.pairwise_cons, List.mem_cons, List.not_mem_nil, or_false, forall_eq_or_imp, forall_eq, List.Pairwise.nil, and_true, false_imp_iff, implies_true] at hb hfr hne
  refine cd_region ?_
  refine ln_pv (pv_move hx) hb.2.1 ?_
  refine ln_pv (pv_geq lk_eq ev_c) hb.2.2 ?_
  refine ln_pv (pv_assign lk_eq) hb.1 ?_
  exact ln_nil (at_sub (.cons (.skip hfr.2.2 (.skip hfr.2.1 .rfl'))) kk)
/-- y = p.F, the frame without td -/
theorem ap_load0 {H : Hp} (hx : lk L p = some (.pointer (some ⟨b, o, none⟩))) (hu : Tryz.prog.underlying T = some (.struct fs)) (hk : fs[k]? = some fl) (hsz : (Tryz.prog.info? fl.type).map (·.size) = some (sz + 1)) (ho : fl.offset = off)
    (hd : Tryz.prog.underlying ft = some dd) (hna : aggD dd = false) (hrc : RC s b o cells) (hc : cells[off]? = some val) (hf : frs n L [y, d1, d2, d3, d4] = true) (kk : At N n ((y, val) :: L) H C s) :
    Cd Tryz.prog (.region id [⟨some d1, .move (.tmp p), ty1, p1, a1, none⟩, ⟨some d2, .nilCheck (.tmp d1), ty2, p2, a2, none⟩, ⟨some d3, .fieldAddr T (.tmp d2) k, ty3, p3, a3, none⟩, ⟨some d4, .load ft (.tmp d3), ty4, p4, a4, none⟩, ⟨some y, .assign (.tmp d4), ty5, p5, a5, none⟩].toArray false)
      ⟨N, R, X⟩ n L H C s := by
  obtain ⟨hb, hfr, hne⟩ := frs_get hf
  simp only [List.pairwise_cons, List.mem_cons, List.not_mem_nil, or_false, forall_eq_or_imp, forall_eq, List.Pairwise.nil, and_true, false_imp_iff, implies_true] at hb hfr hne
  obtain ⟨fy, f1, f2, f3, f4⟩ := hfr
  obtain ⟨by_, b1, b2, b3, b4⟩ := hb
  refine cd_region ?_
  refine ln_pv (pv_move hx) b1 ?_
  refine ln_pv (pv_nilCheck lk_eq) b2 ?_
  refine ln_pv (pv_fieldAddr hu hk hsz ho lk_eq rfl) b3 ?_
  refine ln_pv (pv_ldr hrc hd (by cases dd <;> first | rfl | (simp [aggD] at hna)) lk_eq hc) b4 ?_
  refine ln_pv (pv_assign lk_eq) by_ ?_
  exact ln_nil (at_sub (sub.cons (.skip f4 (.skip f3 (.skip f2 (.skip f1 .rfl'))))) kk)
/-- if version >= c -/
theorem ap_if {v c : Int} {A : Code} (hx : lk L x = some (.int .i16 v)) (hf : frs n L [td, d1, d2] = true) (hE : Lc ++ ((if v ≥ c then bs else []) ++ rest) = Full)
    (kk : ∀ u v' Lc', Tr s u → Lc' ++ rest = Full → At N n ((td, v') :: L) (OctRow v' Lc' :: H0) C u)
    (hyes : v ≥ c → Lc ++ (bs ++ rest) = Full → (∀ u v' Lc', Tr s u → Lc' ++ rest = Full → At N n ((td, v') :: L) (OctRow v' Lc' :: H0) C u) → Cd Tryz.prog A ⟨N, R, X⟩ n ((td, vd) :: L) (OctRow vd Lc :: H0) C s) :
    Cd Tryz.prog (.seq (.region id [⟨some d1, .move (.tmp x), ty1, p1, a1, none⟩, ⟨some d2, .binOp .geq uy1 (.tmp d1) (.const (.int .i16 c)) uy2, ty2, p2, a2, none⟩].toArray false) (.cond (.tmp d2) A .skip)) ⟨N, R, X⟩ n ((td, vd) :: L) (OctRow vd Lc :: H0) C s := by
  obtain ⟨hb, hfr, hne⟩ := frs_get hf
  simp only [List.pairwise_cons, List.mem_cons, List.not_mem_nil, or_false, forall_eq_or_imp, forall_eq, List.Pairwise.nil, and_true, false_imp_iff, implies_true] at hb hfr hne
  obtain ⟨f0, f1, f2⟩ := hfr
  obtain ⟨b0, b1, b2⟩ := hb
  have hs : ∀ u1 u2, sub ((td, vd) :: L) ((d2, u2) :: (d1, u1) :: (td, vd) :: L) := fun u1 u2 => .put (by simp [lk_eq, lk_ne, hne]) (.skip f2 (.skip f1 (.skip f0 .rfl')))
  refine cd_sq ?_
  refine cd_region ?_
  refine ln_pv (pv_move (by rw [ev_t, lk_ne (lk_fr f0 hx)]; exact hx)) b1 ?_
  refine ln_pv (pv_geq lk_eq ev_c) b2 ?_
  refine ln_nil (at_cd ?_)
  refine cd_if lk_eq (fun h => cd_sub_ (hs _ _) ?_) (fun h => cd_sub_ (hs _ _) ?_)
  · rw [if_pos h] at hE
    exact hyes h hE kk
  · rw [if_neg h] at hE
    exact cd_skip (at_base fun u hu => kk u vd Lc hu (by simpa using hE))
/-- if a <= version <= b -/
theorem ap_if2 {v c e : Int} {A : Code} (hx : lk L x = some (.int .i16 v)) (hf : frs n L [td, d1, d2, d3, d4, d5, d6] = true) (hE : Lc ++ ((if v ≥ c ∧ v ≤ e then bs else []) ++ rest) = Full)
    (kk : ∀ u v' Lc', Tr s u → Lc' ++ rest = Full → At N n ((td, v') :: L) (OctRow v' Lc' :: H0) C u)
    (hyes : v ≥ c → v ≤ e → Lc ++ (bs ++ rest) = Full → (∀ u v' Lc', Tr s u → Lc' ++ rest = Full → At N n ((td, v') :: L) (OctRow v' Lc' :: H0) C u) → Cd Tryz.prog A ⟨N, R, X⟩ n ((td, vd) :: L) (OctRow vd Lc :: H0) C s) :
    Cd Tryz.prog (.seq (.region id [⟨some d1, .move (.tmp x), ty1, p1, a1, none⟩, ⟨some d2, .binOp .geq uy1 (.tmp d1) (.const (.int .i16 c)) uy2, ty2, p2, a2, none⟩, ⟨some d3, .move (.tmp d2), ty3, p3, a3, none⟩,
      ⟨some d4, .move (.tmp x), ty4, p4, a4, some (2, true)⟩, ⟨some d5, .binOp .leq uy3 (.tmp d4) (.const (.int .i16 e)) uy4, ty5, p5, a5, some (2, true)⟩, ⟨some d6, .pick (.tmp d3) (.tmp d5) (.const (.bool false)), ty6, p6, a6, none⟩].toArray false) (.cond (.tmp d6) A .skip)) ⟨N, R, X⟩ n ((td, vd) :: L) (OctRow vd Lc :: H0) C s := by
  obtain ⟨hb, hfr, hne⟩ := frs_get hf
  simp only [List.pairwise_cons, List.mem_cons, List.not_mem_nil, or_false, forall_eq_or_imp, forall_eq, List.Pairwise.nil, and_true, false_imp_iff, implies_true] at hb hfr hne
  obtain ⟨f0, f1, f2, f3, f4, f5, f6⟩ := hfr
  obtain ⟨b0, b1, b2, b3, b4, b5, b6⟩ := hb
  have hs : ∀ u1 u2 u3 u4 u5 u6, sub ((td, vd) :: L) ((d6, u6) :: (d5, u5) :: (d4, u4) :: (d3, u3) :: (d2, u2) :: (d1, u1) :: (td, vd) :: L) := fun u1 u2 u3 u4 u5 u6 => .put (by simp [lk_eq, lk_ne, hne]) (.skip f6 (.skip f5 (.skip f4 (.skip f3 (.skip f2 (.skip f1 (.skip f0 .rfl')))))))
  have hx' : lk ((td, vd) :: L) x = some (.int .i16 v) := by rw [lk_ne (lk_fr f0 hx)]; exact hx
  refine cd_sq ?_
  refine cd_region ?_
  refine ln_pv (pv_move hx') b1 ?_
  by_cases h : v ≥ c
  · refine ln_pv (pv_tt (pv_geq lk_eq ev_c) h) b2 ?_
    refine ln_pv (pv_move lk_eq) b3 ?_
    refine ln_gt rfl rfl lk_eq (pv_move (by rw [ev_t, lk_ne (lk_fr f3 hx), lk_ne (lk_fr f2 hx), lk_ne (lk_fr f1 hx)]; exact hx')) b4 ?_
    refine ln_gt rfl rfl (by rw [lk_ne (by simp [hne]), lk_eq]) (pv_leq lk_eq ev_c) b5 ?_
    refine ln_pv (pv_pick (by rw [ev_t, lk_ne (by simp [hne]), lk_ne (by simp [hne]), lk_eq]) (fun _ => lk_eq) (fun _ => ev_c)) b6 ?_
    refine ln_nil (at_cd ?_)
    refine cd_if lk_eq (fun h2 => cd_sub_ (hs _ _ _ _ _ _) ?_) (fun h2 => cd_sub_ (hs _ _ _ _ _ _) ?_)
    · rw [if_pos ⟨h, h2⟩] at hE
      exact hyes h h2 hE kk
    · rw [if_neg (fun q => h2 q.2)] at hE
      exact cd_skip (at_base fun u hu => kk u vd Lc hu (by simpa using hE))
  · refine ln_pv (pv_ff (pv_geq lk_eq ev_c) h) b2 ?_
    refine ln_pv (pv_move lk_eq) b3 ?_
    refine ln_gf rfl rfl lk_eq rfl b4 ?_
    refine ln_gf rfl rfl (by rw [lk_ne (by simp [hne]), lk_eq]) rfl b5 ?_
    refine ln_pv (pv_pick (u := .bool false) (by rw [ev_t, lk_ne (by simp [hne]), lk_ne (by simp [hne]), lk_eq]) (fun h => by cases h) (fun _ => ev_c)) b6 ?_
    refine ln_nil (at_cd ?_)
    refine cd_ff lk_eq (cd_sub_ (hs _ _ _ _ _ _) ?_)
    rw [if_neg (fun q => h q.1)] at hE
    exact cd_skip (at_base fun u hu => kk u vd Lc hu (by simpa using hE))
/-- how many unknown tags, and each -/
theorem ap_tags {q : Bool} {fx : Nat} {yy : Tre} {mv : Value} (hq : lk L fx = some (.bool q)) (hp : lk L p = some (.pointer (some ⟨b, o, none⟩))) (hu : Tryz.prog.underlying T = some (.struct fs)) (hk : fs[k]? = some fl) (hsz : (Tryz.prog.info? fl.type).map (·.size) = some (sz + 1)) (ho : fl.offset = off)
    (hrc : RC s b o cells) (hc : cells[off]? = some mv) (hT : RTg s yy mv) (hok : q = true → yy.u.Pairwise (fun x y => x.1 < y.1) ∧ (∀ y ∈ yy.u, y.1 < 4294967296 ∧ y.2.length ≤ 32767) ∧ yy.u.length ≤ 32767)
    (hf : frs n L [td, d0] = true) (hf1 : frs n L [td, d1, d2, d3, d4, d5, d6, d7, d8] = true) (hf2 : frs n L [td, e1, e2, e3, e4, e5] = true)
    (hE : Lc ++ ((if q then uvar yy.u.length ++ yy.u.flatMap tagB else []) ++ rest) = Full) (hB : Full.length ≤ 4398046511104)
    (kk : ∀ u v' Lc', Tr s u → Lc' ++ rest = Full → At N n ((td, v') :: L) (OctRow v' Lc' :: H0) C u) :
    Cd Tryz.prog (.seq (.region id [⟨some d0, .move (.tmp fx), ty0, p0, a0, none⟩].toArray false) (.cond (.tmp d0)
      (.seq (.region id1 [⟨some d1, .move (.tmp td), ty1, p1, a1, none⟩, ⟨some d2, .move (.tmp p), ty2, p2, a2, none⟩, ⟨some d3, .nilCheck (.tmp d2), ty3, p3, a3, none⟩, ⟨some d4, .fieldAddr T (.tmp d3) k, ty4, p4, a4, none⟩,
          ⟨some d5, .call ⟨.value (.func 36), [.tmp d4].toArray, ts⟩, ty5, p5, a5, none⟩, ⟨some d6, .convert 3 53 (.tmp d5), ty6, p6, a6, none⟩, ⟨some d7, .binOp .add uy1 (.const (.int .u32 0)) (.tmp d6) uy2, ty7, p7, a7, none⟩,
          ⟨some d8, .call ⟨.value (.func 35), [.tmp d1, .tmp d7].toArray, ts'⟩, ty8, p8, a8, none⟩, ⟨some td, .assign (.tmp d8), ty9, p9, a9, none⟩].toArray false)
        (.region id2 [⟨some e1, .move (.tmp p), uy3, q1, c1, none⟩, ⟨some e2, .nilCheck (.tmp e1), uy4, q2, c2, none⟩, ⟨some e3, .fieldAddr T (.tmp e2) k, uy5, q3, c3, none⟩, ⟨some e4, .move (.tmp td), uy6, q4, c4, none⟩,
          ⟨some e5, .call ⟨.value (.func 39), [.tmp e3, .tmp e4].toArray, ts2⟩, vy1, q5, c5, none⟩, ⟨some td, .assign (.tmp e5), vy2, q6, c6, none⟩].toArray false)) .skip))
      ⟨N, R, X⟩ n ((td, vd) :: L) (OctRow vd Lc :: H0) C s := by
  refine ap_test hq hf (fun h => ?_) (fun h => ?_)
  · subst h
    obtain ⟨o1, o2, o3⟩ := hok rfl
    rw [if_pos rfl, List.append_assoc] at hE
    obtain ⟨l, hMK, hRK⟩ := hT
    have hlen := hRK.len
    have hrc1 : RC s b (o + off) [mv] := ⟨hrc.1, fun j w hj => by
      cases j with
      | zero =>
        simp only [List.getElem?_cons_zero, Option.some.injEq] at hj
        subst hj
        exact hrc.2 off mv hc
      | succ j => simp at hj⟩
    refine cd_sq ?_
    · obtain ⟨hb, hfr, hne⟩ := frs_get hf1
      simp only [List.pairwise_cons, List.mem_cons, List.not_mem_nil, or_false, forall_eq_or_imp, forall_eq, List.Pairwise.nil, and_true, false_imp_iff, implies_true] at hb hfr hne
      obtain ⟨f0, f1, f2, f3, f4, f5, f6, f7, f8⟩ := hfr
      obtain ⟨b0, b1, b2, b3, b4, b5, b6, b7, b8⟩ := hb
      refine cd_region ?_
      refine ln_pv (pv_move (v := vd) lk_eq) b1 ?_
      refine ln_pv (pv_move (by rw [ev_t, lk_ne (lk_fr f1 hp), lk_ne (lk_fr f0 hp)]; exact hp)) b2 ?_
      refine ln_pv (pv_nilCheck lk_eq) b3 ?_
      refine ln_pv (pv_fieldAddr hu hk hsz ho lk_eq rfl) b4 ?_
      refine ln_callS (vals := [.pointer (some ⟨b, o + off, none⟩)]) en_36 (by simp [evs, ev_t, lk_eq]) (fun u hu => tags_Len u b (o + off) mv l (hrc1.mv hu (by simp)) (hMK.mv hu)) b5 ?_
      refine ln_pv (pv_conv' Tryz.underlying3 Tryz.underlying53 lk_eq (r := ((yy.u.length : Nat) : Int)) (by rw [hlen]; exact wrap_u32_in (by omega) (by omega))) b6 ?_
      refine ln_pv (pv_add' ev_c lk_eq (r := ((yy.u.length : Nat) : Int)) (by rw [Int.zero_add]; exact wrap_u32_in (by omega) (by omega))) b7 ?_
      refine ln_callT (i := 0) (vals := [vd, .int .u32 ((yy.u.length : Nat) : Int)]) en_35 (by simp [evs, ev_t, lk_eq, lk_ne, hne]) rfl (fun u hu hok hav => kbin_AppendUvarint u yy.u.length (by omega) _ _ (app_len hE hB) hok hav) b8 ?_
      rintro u v' _ ht ⟨_, ⟨rfl, h1⟩, _⟩
      refine ln_pv (pv_assign (v := v') lk_eq) b0 ?_
      refine ln_nil (at_sub (.cons (.skip f8 (.skip f7 (.skip f6 (.skip f5 (.skip f4 (.skip f3 (.skip f2 (.skip f1 (.skip f0 .rfl')))))))))) ?_)
      have hE := app_step hE
      have hrc1 := hrc1.mv ht (by simp)
      have hMK := hMK.mv ht
      have hRK := RK.mv ht hRK
      dsimp only [List.set]
      generalize Lc ++ uvar yy.u.length = Lc2 at *
      refine at_cd ?_
      obtain ⟨hb, hfr, hne⟩ := frs_get hf2
      simp only [List.pairwise_cons, List.mem_cons, List.not_mem_nil, or_false, forall_eq_or_imp, forall_eq, List.Pairwise.nil, and_true, false_imp_iff, implies_true] at hb hfr hne
      obtain ⟨f0, f1, f2, f3, f4, f5⟩ := hfr
      obtain ⟨b0, b1, b2, b3, b4, b5⟩ := hb
      refine cd_region ?_
      refine ln_pv (pv_move (by rw [ev_t, lk_ne (lk_fr f0 hp)]; exact hp)) b1 ?_
      refine ln_pv (pv_nilCheck lk_eq) b2 ?_
      refine ln_pv (pv_fieldAddr hu hk hsz ho lk_eq rfl) b3 ?_
      refine ln_pv (pv_move (v := v') (by simp [ev_t, lk_eq, lk_ne, hne])) b4 ?_
      refine ln_callT (i := 0) (vals := [.pointer (some ⟨b, o + off, none⟩), v']) en_39 (by simp [evs, ev_t, lk_eq, lk_ne, hne]) rfl (fun u hu hok hav => tags_AppendEach u b (o + off) mv l yy.u _ _ (hrc1.mv hu (by simp)) (hMK.mv hu) (RK.mv hu hRK) o1 o2 (app_len hE hB) hok hav) b5 ?_
      rintro u2 v2 _ ht2 ⟨_, ⟨rfl, h2⟩, _⟩
      refine ln_pv (pv_assign (v := v2) lk_eq) b0 ?_
      refine ln_nil (at_sub (.cons (.skip f5 (.skip f4 (.skip f3 (.skip f2 (.skip f1 (.skip f0 .rfl')))))))  ?_)
      exact kk u2 v2 _ (ht.trans ht2) (app_step hE)
  · subst h
    exact cd_skip (at_base fun u hu => kk u vd Lc hu (by simpa using hE))
/-- y = x -/
theorem ap_copy (hx : lk L x = some val) (hf : frs n L [td, y, d1] = true) (kk : At N n ((td, vd) :: (y, val) :: L) (OctRow vd Lc :: H0) C s) :
    Cd Tryz.prog (.region id [⟨some d1, .move (.tmp x), ty1, p1, a1, none⟩, ⟨some y, .assign (.tmp d1), ty2, p2, a2, none⟩].toArray false) ⟨N, R, X⟩ n ((td, vd) :: L) (OctRow vd Lc :: H0) C s := by
  obtain ⟨hb, hfr, hne⟩ := frs_get hf
  simp only [List.pairwise_cons, List.mem_cons, List.not_mem_nil, or_false, forall_eq_or_imp, forall_eq, List.Pairwise.nil, and_true, false_imp_iff, implies_true] at hb hfr hne
  refine cd_region ?_
  refine ln_pv (pv_move (by rw [ev_t, lk_ne (lk_fr hfr.1 hx)]; exact hx)) hb.2.2 ?_
  refine ln_pv (pv_assign lk_eq) hb.2.1 ?_
  exact ln_nil (at_sub (.put (by simp [lk_eq, lk_ne, hne]) (.cons (.skip hfr.2.2 (.skip hfr.1 .rfl')))) kk)
/-- p = &x[i]: a part in a list -/
theorem ap_idx {i : Nat} {e : TypeId} {g0 o0 m c ez ti : Nat} (hx : lk L x = some (.slice (some ⟨g0, o0, none⟩) m c)) (hu : Tryz.prog.underlying T = some (.slice e)) (hsz : (Tryz.prog.info? e).map (·.size) = some ez) (hi : i < m) (hti : lk L ti = some (.int .i64 (i : Int))) (hf : frs n L [td, p, d2, d3, d4] = true)
    (kk : At N n ((td, vd) :: (p, .pointer (some ⟨g0, o0 + i * ez, none⟩)) :: L) (OctRow vd Lc :: H0) C s) :
    Cd Tryz.prog (.region id1 [⟨some d2, .move (.tmp x), ty3, p3, a3, none⟩, ⟨some d3, .move (.tmp ti), ty4, p4, a4, none⟩, ⟨some d4, .indexAddr T (.tmp d2) (.tmp d3), ty5, p5, a5, none⟩, ⟨some p, .assign (.tmp d4), ty6, p6, a6, none⟩].toArray false) ⟨N, R, X⟩ n ((td, vd) :: L) (OctRow vd Lc :: H0) C s := by
  obtain ⟨hb, hfr, hne⟩ := frs_get hf
  simp only [List.pairwise_cons, List.mem_cons, List.not_mem_nil, or_false, forall_eq_or_imp, forall_eq, List.Pairwise.nil, and_true, false_imp_iff, implies_true] at hb hfr hne
  obtain ⟨f0, fp, f2, f3, f4⟩ := hfr
  obtain ⟨b0, bp, b2, b3, b4⟩ := hb
  refine cd_region ?_
  refine ln_pv (pv_move (by rw [ev_t, lk_ne (lk_fr f0 hx)]; exact hx)) b2 ?_
  refine ln_pv (pv_move (by rw [ev_t, lk_ne (lk_fr f2 hti), lk_ne (lk_fr f0 hti)]; exact hti)) b3 ?_
  refine ln_pv (pv_ixN hu hsz (by rw [ev_t, lk_ne (by simp [hne]), lk_eq]) lk_eq hi) b4 ?_
  refine ln_pv (pv_assign lk_eq) bp ?_
  exact ln_nil (at_sub (.put (by simp [lk_eq, lk_ne, hne]) (.cons (.skip f4 (.skip f3 (.skip f2 (.skip f0 .rfl')))))) kk)
/-- y = x[i], of one cell -/
theorem ap_idxS {i : Nat} {e : TypeId} {g0 o0 m c ti : Nat} (hx : lk L x = some (.slice (some ⟨g0, o0, none⟩) m c)) (hu : Tryz.prog.underlying T = some (.slice e)) (hsz : (Tryz.prog.info? e).map (·.size) = some 1) (hi : i < m) (hti : lk L ti = some (.int .i64 (i : Int)))
    (hd : Tryz.prog.underlying ft = some dd) (hna : aggD dd = false) (hrc : RC s g0 (o0 + i * 1) [val]) (hf : frs n L [td, y, d2, d3, d4, d5] = true)
    (kk : At N n ((td, vd) :: (y, val) :: L) (OctRow vd Lc :: H0) C s) :
    Cd Tryz.prog (.region id1 [⟨some d2, .move (.tmp x), ty3, p3, a3, none⟩, ⟨some d3, .move (.tmp ti), ty4, p4, a4, none⟩, ⟨some d4, .indexAddr T (.tmp d2) (.tmp d3), ty5, p5, a5, none⟩, ⟨some d5, .load ft (.tmp d4), ty6, p6, a6, none⟩, ⟨some y, .assign (.tmp d5), ty7, p7, a7, none⟩].toArray false) ⟨N, R, X⟩ n ((td, vd) :: L) (OctRow vd Lc :: H0) C s := by
  obtain ⟨hb, hfr, hne⟩ := frs_get hf
  simp only [List.pairwise_cons, List.mem_cons, List.not_mem_nil, or_false, forall_eq_or_imp, forall_eq, List.Pairwise.nil, and_true, false_imp_iff, implies_true] at hb hfr hne
  obtain ⟨f0, fp, f2, f3, f4, f5⟩ := hfr
  obtain ⟨b0, bp, b2, b3, b4, b5⟩ := hb
  refine cd_region ?_
  refine ln_pv (pv_move (by rw [ev_t, lk_ne (lk_fr f0 hx)]; exact hx)) b2 ?_
  refine ln_pv (pv_move (by rw [ev_t, lk_ne (lk_fr f2 hti), lk_ne (lk_fr f0 hti)]; exact hti)) b3 ?_
  refine ln_pv (pv_ixN hu hsz (by rw [ev_t, lk_ne (by simp [hne]), lk_eq]) lk_eq hi) b4 ?_
  refine ln_pv (pv_ldr (j := 0) hrc hd (by cases dd <;> first | rfl | (simp [aggD] at hna)) lk_eq rfl) b5 ?_
  refine ln_pv (pv_assign lk_eq) bp ?_
  exact ln_nil (at_sub (.put (by simp [lk_eq, lk_ne, hne]) (.cons (.skip f5 (.skip f4 (.skip f3 (.skip f2 (.skip f0 .rfl'))))))) kk)
end
end K
end Go.Proofs.YtepbicjadambbabGreatDoor
