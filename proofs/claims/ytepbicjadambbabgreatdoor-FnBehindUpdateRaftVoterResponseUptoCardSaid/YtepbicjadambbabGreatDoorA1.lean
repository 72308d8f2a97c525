import Derived.Test.YtepbicjadambbabGreatDoorR1
set_option linter.unusedVariables false
set_option linter.unusedSimpArgs false
namespace Go.Proofs.YtepbicjadambbabGreatDoor
namespace K
open Go Go.Lib
/-! ### Code that appends -/
abbrev OctRow (v : Value) (L0 : List UInt8) : Ent := .row v 5 1 L0.length (u8s L0)
section
variable {n : Nat} {L : Env} {H0 : Hp} {C : Cx} {s : Vw} {N R : Act → World → Prop} {X : List (Nat × (Act → World → Prop))}
variable {id id' id1 id2 id3 : Nat} {td x y p d0 d1 d2 d3 d4 d5 d6 d7 d8 d9 e1 e2 e3 e4 : Nat} {f g : FuncId} {vd val : Value} {Lc bs rest Full : List UInt8} {ts ts' : Array TypeId}
variable {ty0 ty1 ty2 ty3 ty4 ty5 ty6 ty7 ty8 ty9 : TypeId} {p0 p1 p2 p3 p4 p5 p6 p7 p8 p9 : String} {a0 a1 a2 a3 a4 a5 a6 a7 a8 a9 : Array Edge}
variable {uy1 uy2 uy3 uy4 uy5 uy6 : TypeId} {q1 q2 q3 q4 q5 q6 : String} {c1 c2 c3 c4 c5 c6 : Array Edge}
variable {T ft : TypeId} {fs : Array Field} {k off sz b o : Nat} {fl : Field} {dd : TypeDesc} {cells : List Value}
theorem app_step (hE : Lc ++ (bs ++ rest) = Full) : (Lc ++ bs) ++ rest = Full := by rw [List.append_assoc]; exact hE
theorem app_len (hE : Lc ++ (bs ++ rest) = Full) (hB : Full.length ≤ 4398046511104) : Lc.length + bs.length ≤ 4398046511104 := by
  subst hE
  simp only [List.length_append] at hB ⊢
  omega
/-- y = p.F -/
theorem ap_load (hx : lk L p = some (.pointer (some ⟨b, o, none⟩))) (hu : Tryz.prog.underlying T = some (.struct fs)) (hk : fs[k]? = some fl) (hsz : (Tryz.prog.info? fl.type).map (·.size) = some (sz + 1)) (ho : fl.offset = off)
    (hd : Tryz.prog.underlying ft = some dd) (hna : aggD dd = false) (hrc : RC s b o cells) (hc : cells[off]? = some val) (hf : frs n L [td, y, d1, d2, d3, d4] = true)
    (kk : At N n ((td, vd) :: (y, val) :: L) (OctRow vd Lc :: H0) C s) :
    Cd Tryz.prog (.region id [⟨some d1, .move (.tmp p), ty1, p1, a1, none⟩, ⟨some d2, .nilCheck (.tmp d1), ty2, p2, a2, none⟩, ⟨some d3, .fieldAddr T (.tmp d2) k, ty3, p3, a3, none⟩, ⟨some d4, .load ft (.tmp d3), ty4, p4, a4, none⟩, ⟨some y, .assign (.tmp d4), ty5, p5, a5, none⟩].toArray false)
      ⟨N, R, X⟩ n ((td, vd) :: L) (OctRow vd Lc :: H0) C s := by
  obtain ⟨hb, hfr, hne⟩ := frs_get hf
  simp only [List.pairwise_cons, List.mem_cons, List.not_mem_nil, or_false, forall_eq_or_imp, forall_eq, List.Pairwise.nil, and_true, false_imp_iff, implies_true] at hb hfr hne
  obtain ⟨f0, fy, f1, f2, f3, f4⟩ := hfr
  obtain ⟨b0, by_, b1, b2, b3, b4⟩ := hb
  refine cd_region ?_
  refine ln_pv (pv_move (by rw [ev_t, lk_ne (lk_fr f0 hx)]; exact hx)) b1 ?_
  refine ln_pv (pv_nilCheck lk_eq) b2 ?_
  refine ln_pv (pv_fieldAddr hu hk hsz ho lk_eq rfl) b3 ?_
  refine ln_pv (pv_ldr hrc hd (by cases dd <;> first | rfl | (simp [aggD] at hna)) lk_eq hc) b4 ?_
  refine ln_pv (pv_assign lk_eq) by_ ?_
  exact ln_nil (at_sub (sub.put (by simp [lk_eq, lk_ne, hne]) (sub.cons (.skip f4 (.skip f3 (.skip f2 (.skip f1 (.skip f0 .rfl'))))))) kk)
/-- td = f(td, x) -/
theorem ap_call (hent : Enters Tryz.prog f) (hx : lk L x = some val) (hf : frs n L [td, d1, d2, d3] = true) (hc : ∀ u, Tr s u → AppC f [val] bs u) (hE : Lc ++ (bs ++ rest) = Full) (hB : Full.length ≤ 4398046511104)
    (kk : ∀ u v' Lc', Tr s u → Lc' ++ rest = Full → At N n ((td, v') :: L) (OctRow v' Lc' :: H0) C u) :
    Cd Tryz.prog (.region id [⟨some d1, .move (.tmp td), ty1, p1, a1, none⟩, ⟨some d2, .move (.tmp x), ty2, p2, a2, none⟩, ⟨some d3, .call ⟨.value (.func f), [.tmp d1, .tmp d2].toArray, ts⟩, ty3, p3, a3, none⟩, ⟨some td, .assign (.tmp d3), ty4, p4, a4, none⟩].toArray false) ⟨N, R, X⟩ n ((td, vd) :: L) (OctRow vd Lc :: H0) C s := by
  obtain ⟨hb, hfr, hne⟩ := frs_get hf
  simp only [List.pairwise_cons, List.mem_cons, List.not_mem_nil, or_false, forall_eq_or_imp, forall_eq, List.Pairwise.nil, and_true, false_imp_iff, implies_true] at hb hfr hne
  obtain ⟨f0, f1, f2, f3⟩ := hfr
  obtain ⟨b0, b1, b2, b3⟩ := hb
  refine cd_region ?_
  refine ln_pv (pv_move (v := vd) lk_eq) b1 ?_
  refine ln_pv (pv_move (v := val) (by rw [ev_t, lk_ne (lk_fr f1 hx), lk_ne (lk_fr f0 hx)]; exact hx)) b2 ?_
  refine ln_callT (i := 0) (vals := [vd, val]) hent (by simp [evs, ev_t, lk_eq, lk_ne, hne]) rfl (fun u hu hok hav => hc u hu _ _ (app_len hE hB) hok hav) b3 ?_
  rintro u v' _ ht ⟨_, ⟨rfl, h1⟩, _⟩
  refine ln_pv (pv_assign (v := v') lk_eq) b0 ?_
  exact ln_nil (at_sub (sub.cons (.skip f3 (.skip f2 (.skip f1 (.skip f0 .rfl'))))) (kk u v' _ ht (app_step hE)))
/-- td = f(td, len(x)) -/
theorem ap_callL {e : TypeId} {ad : Option Addr} {m c : Nat} (hent : Enters Tryz.prog f) (hu : Tryz.prog.underlying T = some (.slice e)) (hx : lk L x = some (.slice ad m c)) (hf : frs n L [td, d1, d2, d3, d4] = true) (hc : ∀ u, Tr s u → AppC f [.int .i64 (m : Int)] bs u) (hE : Lc ++ (bs ++ rest) = Full) (hB : Full.length ≤ 4398046511104)
    (kk : ∀ u v' Lc', Tr s u → Lc' ++ rest = Full → At N n ((td, v') :: L) (OctRow v' Lc' :: H0) C u) :
    Cd Tryz.prog (.region id [⟨some d1, .move (.tmp td), ty1, p1, a1, none⟩, ⟨some d2, .move (.tmp x), ty2, p2, a2, none⟩, ⟨some d3, .call ⟨.builtin .len, #[.tmp d2], #[T]⟩, ty3, p3, a3, none⟩, ⟨some d4, .call ⟨.value (.func f), [.tmp d1, .tmp d3].toArray, ts⟩, ty4, p4, a4, none⟩, ⟨some td, .assign (.tmp d4), ty5, p5, a5, none⟩].toArray false) ⟨N, R, X⟩ n ((td, vd) :: L) (OctRow vd Lc :: H0) C s := by
  obtain ⟨hb, hfr, hne⟩ := frs_get hf
  simp only [List.pairwise_cons, List.mem_cons, List.not_mem_nil, or_false, forall_eq_or_imp, forall_eq, List.Pairwise.nil, and_true, false_imp_iff, implies_true] at hb hfr hne
  obtain ⟨f0, f1, f2, f3, f4⟩ := hfr
  obtain ⟨b0, b1, b2, b3, b4⟩ := hb
  refine cd_region ?_
  refine ln_pv (pv_move (v := vd) lk_eq) b1 ?_
  refine ln_pv (pv_move (by rw [ev_t, lk_ne (lk_fr f1 hx), lk_ne (lk_fr f0 hx)]; exact hx)) b2 ?_
  refine ln_pv (pv_len_slice hu lk_eq) b3 ?_
  refine ln_callT (i := 0) (vals := [vd, .int .i64 (m : Int)]) hent (by simp [evs, ev_t, lk_eq, lk_ne, hne]) rfl (fun u hu hok hav => hc u hu _ _ (app_len hE hB) hok hav) b4 ?_
  rintro u v' _ ht ⟨_, ⟨rfl, h1⟩, _⟩
  refine ln_pv (pv_assign (v := v') lk_eq) b0 ?_
  exact ln_nil (at_sub (sub.cons (.skip f4 (.skip f3 (.skip f2 (.skip f1 (.skip f0 .rfl')))))) (kk u v' _ ht (app_step hE)))
/-- a Bool that is at hand -/
theorem ap_test {A B : Code} {q : Bool} (hx : lk L x = some (.bool q)) (hf : frs n L [td, d0] = true) (hy : q = true → Cd Tryz.prog A ⟨N, R, X⟩ n ((td, vd) :: L) (OctRow vd Lc :: H0) C s) (hn : q = false → Cd Tryz.prog B ⟨N, R, X⟩ n ((td, vd) :: L) (OctRow vd Lc :: H0) C s) :
    Cd Tryz.prog (.seq (.region id [⟨some d0, .move (.tmp x), ty0, p0, a0, none⟩].toArray false) (.cond (.tmp d0) A B)) ⟨N, R, X⟩ n ((td, vd) :: L) (OctRow vd Lc :: H0) C s := by
  obtain ⟨hb, hfr, hne⟩ := frs_get hf
  simp only [List.pairwise_cons, List.mem_cons, List.not_mem_nil, or_false, forall_eq_or_imp, forall_eq, List.Pairwise.nil, and_true, false_imp_iff, implies_true] at hb hfr hne
  refine cd_sq ?_
  refine cd_region ?_
  refine ln_pv (pv_move (by rw [ev_t, lk_ne (lk_fr hfr.1 hx)]; exact hx)) hb.2 ?_
  refine ln_nil (at_cd ?_)
  have hs : sub ((td, vd) :: L) ((d0, .bool q) :: (td, vd) :: L) := .put (by simp [lk_eq, lk_ne, hne]) (.skip hfr.2 (.skip hfr.1 .rfl'))
  exact cd_cond lk_eq (fun h => cd_sub_ hs (hy h)) (fun h => cd_sub_ hs (hn h))
/-- if flexible, one call, else the other -/
theorem ap_flex {q : Bool} {fx : Nat} (hq : lk L fx = some (.bool q)) (hent : Enters Tryz.prog f) (heng : Enters Tryz.prog g) (hx : lk L x = some val) (hf : frs n L [td, d0] = true) (hf1 : frs n L [td, d1, d2, d3] = true) (hf2 : frs n L [td, e1, e2, e3] = true)
    (hc : q = true → ∀ u, Tr s u → AppC f [val] bs u) (hc' : q = false → ∀ u, Tr s u → AppC g [val] bs u) (hE : Lc ++ (bs ++ rest) = Full) (hB : Full.length ≤ 4398046511104)
    (kk : ∀ u v' Lc', Tr s u → Lc' ++ rest = Full → At N n ((td, v') :: L) (OctRow v' Lc' :: H0) C u) :
    Cd Tryz.prog (.seq (.region id [⟨some d0, .move (.tmp fx), ty0, p0, a0, none⟩].toArray false) (.cond (.tmp d0)
      (.region id1 [⟨some d1, .move (.tmp td), ty1, p1, a1, none⟩, ⟨some d2, .move (.tmp x), ty2, p2, a2, none⟩, ⟨some d3, .call ⟨.value (.func f), [.tmp d1, .tmp d2].toArray, ts⟩, ty3, p3, a3, none⟩, ⟨some td, .assign (.tmp d3), ty4, p4, a4, none⟩].toArray false)
      (.region id2 [⟨some e1, .move (.tmp td), uy1, q1, c1, none⟩, ⟨some e2, .move (.tmp x), uy2, q2, c2, none⟩, ⟨some e3, .call ⟨.value (.func g), [.tmp e1, .tmp e2].toArray, ts'⟩, uy3, q3, c3, none⟩, ⟨some td, .assign (.tmp e3), uy4, q4, c4, none⟩].toArray false))) ⟨N, R, X⟩ n ((td, vd) :: L) (OctRow vd Lc :: H0) C s :=
  ap_test hq hf (fun h => ap_call hent hx hf1 (hc h) hE hB kk) (fun h => ap_call heng hx hf2 (hc' h) hE hB kk)
theorem ap_flexL {q : Bool} {fx : Nat} {e : TypeId} {ad : Option Addr} {m c : Nat} {T' : TypeId} (hq : lk L fx = some (.bool q)) (hent : Enters Tryz.prog f) (heng : Enters Tryz.prog g) (hu : Tryz.prog.underlying T = some (.slice e)) (hx : lk L x = some (.slice ad m c)) (hf : frs n L [td, d0] = true) (hf1 : frs n L [td, d1, d2, d3, d4] = true) (hf2 : frs n L [td, e1, e2, e3, e4] = true)
    (hc : q = true → ∀ u, Tr s u → AppC f [.int .i64 (m : Int)] bs u) (hc' : q = false → ∀ u, Tr s u → AppC g [.int .i64 (m : Int)] bs u) (hE : Lc ++ (bs ++ rest) = Full) (hB : Full.length ≤ 4398046511104)
    (kk : ∀ u v' Lc', Tr s u → Lc' ++ rest = Full → At N n ((td, v') :: L) (OctRow v' Lc' :: H0) C u) :
    Cd Tryz.prog (.seq (.region id [⟨some d0, .move (.tmp fx), ty0, p0, a0, none⟩].toArray false) (.cond (.tmp d0)
      (.region id1 [⟨some d1, .move (.tmp td), ty1, p1, a1, none⟩, ⟨some d2, .move (.tmp x), ty2, p2, a2, none⟩, ⟨some d3, .call ⟨.builtin .len, #[.tmp d2], #[T]⟩, ty3, p3, a3, none⟩, ⟨some d4, .call ⟨.value (.func f), [.tmp d1, .tmp d3].toArray, ts⟩, ty4, p4, a4, none⟩, ⟨some td, .assign (.tmp d4), ty5, p5, a5, none⟩].toArray false)
      (.region id2 [⟨some e1, .move (.tmp td), uy1, q1, c1, none⟩, ⟨some e2, .move (.tmp x), uy2, q2, c2, none⟩, ⟨some e3, .call ⟨.builtin .len, #[.tmp e2], #[T]⟩, uy3, q3, c3, none⟩, ⟨some e4, .call ⟨.value (.func g), [.tmp e1, .tmp e3].toArray, ts'⟩, uy4, q4, c4, none⟩, ⟨some td, .assign (.tmp e4), uy5, q5, c5, none⟩].toArray false))) ⟨N, R, X⟩ n ((td, vd) :: L) (OctRow vd Lc :: H0) C s :=
  ap_test hq hf (fun h => ap_callL hent hu hx hf1 (hc h) hE hB kk) (fun h => ap_callL heng hu hx hf2 (hc' h) hE hB kk)
/-- what is written of each thing of a list, one behind the other -/
theorem ap_range {e : TypeId} {ad : Option Addr} {m c : Nat} {ti tl tc te : Nat} {body : Code} {Tl : Nat → List UInt8} (hu : Tryz.prog.underlying T = some (.slice e)) (hx : lk L x = some (.slice ad m c)) (hm : m ≤ 4398046511104) (hf : frs n L [td, d1, tl, ti, tc, te] = true) (hE : Lc ++ (Tl 0 ++ rest) = Full)
    (hbody : ∀ (i : Nat) (u : Vw) (vd : Value) (Lc : List UInt8) (N' : Act → World → Prop) (X' : List (Nat × (Act → World → Prop))), i < m → Tr s u → Lc ++ (Tl i ++ rest) = Full →
      (∀ u' v' Lc', Tr u u' → Lc' ++ (Tl (i + 1) ++ rest) = Full → At N' n ((td, v') :: (ti, .int .i64 (i : Int)) :: (tl, .int .i64 (m : Int)) :: L) (OctRow v' Lc' :: H0) C u') →
      Cd Tryz.prog body ⟨N', R, X'⟩ n ((td, vd) :: (ti, .int .i64 (i : Int)) :: (tl, .int .i64 (m : Int)) :: L) (OctRow vd Lc :: H0) C u)
    (kk : ∀ u v' Lc', Tr s u → Lc' ++ (Tl m ++ rest) = Full → At N n ((td, v') :: L) (OctRow v' Lc' :: H0) C u) :
    Cd Tryz.prog (.seq (.region id [⟨some d1, .move (.tmp x), ty1, p1, a1, none⟩, ⟨some tl, .call ⟨.builtin .len, #[.tmp d1], #[T]⟩, ty2, p2, a2, none⟩, ⟨some ti, .move (.const (.int .i64 0)), ty3, p3, a3, none⟩].toArray false)
      (.block id1 (.loop (.seq (.region id2 [⟨some tc, .binOp .lss uy1 (.tmp ti) (.tmp tl) uy2, ty4, p4, a4, none⟩].toArray false) (.seq (.cond (.tmp tc) .skip (.exit id1)) (.seq (.block id3 body) (.region id' [⟨some te, .binOp .add uy3 (.tmp ti) (.const (.int .i64 1)) uy4, ty5, p5, a5, none⟩, ⟨some ti, .move (.tmp te), ty6, p6, a6, none⟩].toArray false)))))))
      ⟨N, R, X⟩ n ((td, vd) :: L) (OctRow vd Lc :: H0) C s := by
  obtain ⟨hb, hfr, hne⟩ := frs_get hf
  simp only [List.pairwise_cons, List.mem_cons, List.not_mem_nil, or_false, forall_eq_or_imp, forall_eq, List.Pairwise.nil, and_true, false_imp_iff, implies_true] at hb hfr hne
  obtain ⟨f0, f1, fl, fi, fc, fe⟩ := hfr
  obtain ⟨b0, b1, bl, bi, bc, be⟩ := hb
  have hs : ∀ (v u1 : Value) (i : Nat), sub ((td, v) :: (ti, .int .i64 (i : Int)) :: (tl, .int .i64 (m : Int)) :: L) ((tc, u1) :: (td, v) :: (ti, .int .i64 (i : Int)) :: (tl, .int .i64 (m : Int)) :: L) := fun v u1 i =>
    .put (by simp [lk_eq, lk_ne, hne]) (.put (by simp [lk_eq, lk_ne, hne]) (.put (by simp [lk_eq, lk_ne, hne]) (.skip fc (.skip f0 (.skip fi (.skip fl .rfl'))))))
  refine cd_sq ?_
  refine cd_region ?_
  refine ln_pv (pv_move (by rw [ev_t, lk_ne (lk_fr f0 hx)]; exact hx)) b1 ?_
  refine ln_pv (pv_len_slice hu lk_eq) bl ?_
  refine ln_pv (pv_move ev_c) bi ?_
  refine ln_nil (at_cd ?_)
  refine cd_block ?_
  refine cd_loop' (S := Nat × Value × List UInt8) ⟨fun z => (td, z.2.1) :: (ti, .int .i64 (z.1 : Int)) :: (tl, .int .i64 (m : Int)) :: L, fun z => (OctRow z.2.1 z.2.2 :: H0), fun z _ => z.1 ≤ m ∧ z.2.2 ++ (Tl z.1 ++ rest) = Full, fun z => m - z.1⟩ (0, vd, Lc)
    (fun u hu => ⟨Nat.zero_le _, hE⟩) ?_ (List.Sublist.refl _) ?_
  · exact .put (by simp [lk_eq, lk_ne, hne]) (.cons (.cons (.skip f1 (.skip f0 .rfl'))))
  · rintro ⟨i, v, Lz⟩ u hu ⟨hi, hEz⟩
    dsimp only at hi hEz ⊢
    refine cd_sq ?_
    refine cd_region ?_
    refine ln_pv (pv_lss (k := .i64) (i := (i : Int)) (j := (m : Int)) (by simp [ev_t, lk_eq, lk_ne, hne]) (by simp [ev_t, lk_eq, lk_ne, hne])) bc ?_
    refine ln_nil (at_cd ?_)
    refine cd_sq ?_
    refine cd_if lk_eq (fun hlt => ?_) (fun hge => ?_)
    · refine cd_skip ?_
      refine at_cd (cd_sub_ (hs v _ i) ?_)
      refine cd_sq ?_
      refine cd_block ?_
      refine hbody i u v Lz _ _ (by omega) hu hEz (fun u' v' Lc' hu' hE' => ?_)
      refine at_cd ?_
      refine cd_region ?_
      refine ln_pv (pv_add' (k := .i64) (i := (i : Int)) (j := 1) (r := ((i + 1 : Nat) : Int)) (by simp [ev_t, lk_eq, lk_ne, hne]) ev_c (wrap_succ (by omega))) be ?_
      refine ln_pv (pv_move lk_eq) bi ?_
      refine ln_nil ?_
      exact at_rnd' (i + 1, v', Lc') (hu.trans hu') (fun _ _ => ⟨by dsimp only; omega, hE'⟩) (by dsimp only; omega)
        (.put (by simp [lk_eq, lk_ne, hne]) (.put lk_eq (.put (by simp [lk_eq, lk_ne, hne]) (.skip fi (.skip fe (.skip f0 (.skip fi (.skip fl .rfl')))))))) (List.Sublist.refl _)
    · have him : i = m := by omega
      subst him
      refine cd_exit (K := N) (by simp [lkx]) ?_
      exact at_sub (.put (by simp [lk_eq, lk_ne, hne]) (.skip fc (.skip f0 (.skip fi (.skip fl .rfl'))))) (kk u v Lz hu hEz)
end
end K
end Go.Proofs.YtepbicjadambbabGreatDoor
