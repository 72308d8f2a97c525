import Derived.Test.YtjjfpdofkdolnaaDoorR1
import Derived.Test.YtjjfpdofkdolnaaDoorK3
import Derived.Test.YtjjfpdofkdolnaaDoorP4
import Derived.Laws.StructEq
import Derived.ScopeJumps
set_option linter.unusedVariables false
set_option linter.unusedSimpArgs false
namespace Go.Proofs.YtjjfpdofkdolnaaDoor
namespace K
open Go Go.Lib
/-! ### Code that appends -/
abbrev OctRow (v : Value) (L0 : List UInt8) : Ent := .row v 5 1 L0.length (u8s L0)
section
variable {n : Nat} {L : Env} {H0 : Hp} {C : Cx} {s : Vw} {N R : Act → World → Prop} {X : List (Nat × (Act → World → Prop))}
variable {id id' id1 id2 id3 : Nat} {td x y p d0 d1 d2 d3 d4 d5 d6 d7 d8 d9 e1 e2 e3 e4 : Nat} {f g : FuncId} {vd val : Value} {Lc bs rest Full : List UInt8} {ts ts' : Array TypeId}
variable {ty0 ty1 ty2 ty3 ty4 ty5 ty6 ty7 ty8 ty9 : TypeId} {p0 p1 p2 p3 p4 p5 p6 p7 p8 p9 : String} {a0 a1 a2 a3 a4 a5 a6 a7 a8 a9 : Array Edge}
variable {uy1 uy2 uy3 uy4 uy5 uy6 : TypeId} {q1 q2 q3 q4 q5 q6 : String} {c1 c2 c3 c4 c5 c6 : Array Edge}
variable {T ft : TypeId} {fs : Array Field} {k off sz b o : Nat} {fl : Field} {dd : TypeDesc} {cells : List Value}
theorem app_step (hE : Lc ++ (bs ++ rest) = Full) : (Lc ++ bs) ++ rest = Full := by rw [List.append_assoc]; exact hE
theorem app_len (hE : Lc ++ (bs ++ rest) = Full) (hB : Full.length ≤ 4398046511104) : Lc.length + bs.length ≤ 4398046511104 := by
  subst hE
  simp only [List.length_append] at hB ⊢
  omega
/-- y = p.F -/
theorem ap_load (hx : lk L p = some (.pointer (some ⟨b, o, none⟩))) (hu : Tryd.prog.underlying T = some (.struct fs)) (hk : fs[k]? = some fl) (hsz : (Tryd.prog.info? fl.type).map (·.size) = some (sz + 1)) (ho : fl.offset = off)
    (hd : Tryd.prog.underlying ft = some dd) (hna : aggD dd = false) (hrc : RC s b o cells) (hc : cells[off]? = some val) (hf : frs n L [td, y, d1, d2, d3, d4] = true)
    (kk : At N n ((td, vd) :: (y, val) :: L) (OctRow vd Lc :: H0) C s) :
    Cd Tryd.prog (.region id [⟨some d1, .move (.tmp p), ty1, p1, a1, none⟩, ⟨some d2, .nilCheck (.tmp d1), ty2, p2, a2, none⟩, ⟨some d3, .fieldAddr T (.tmp d2) k, ty3, p3, a3, none⟩, ⟨some d4, .load ft (.tmp d3), ty4, p4, a4, none⟩, ⟨some y, .assign (.tmp d4), ty5, p5, a5, none⟩].toArray false)
      ⟨N, R, X⟩ n ((td, vd) :: L) (OctRow vd Lc :: H0) C s := by
  obtain ⟨hb, hfr, hne⟩ := frs_get hf
  simp only [List.pairwise_cons, List.mem_cons, List.not_mem_nil, or_false, forall_eq_or_imp, forall_eq, List.Pairwise.nil, and_true, false_imp_iff, implies_true] at hb hfr hne
  obtain ⟨f0, fy, f1, f2, f3, f4⟩ := hfr
  obtain ⟨b0, by_, b1, b2, b3, b4⟩ := hb
  refine cd_region ?_
  refine ln_pv (pv_move (by rw [ev_t, lk_ne (lk_fr f0 hx)]; exact hx)) b1 ?_
  refine ln_pv (pv_nilCheck lk_eq) b2 ?_
  refine ln_pv (pv_fieldAddr hu hk hsz ho lk_eq rfl) b3 ?_
  refine ln_pv (pv_ldr hrc hd (by cases dd <;> first | rfl | (simp [aggD] at hna)) lk_eq hc) b4 ?_
  refine ln_pv (pv_assign lk_eq) by_ ?_
  exact ln_nil (at_sub (sub.put (by simp [lk_eq, lk_ne, hne]) (sub.cons (.skip f4 (.skip f3 (.skip f2 (.skip f1 (.skip f0 .rfl'))))))) kk)
/-- td = f(td, x) -/
theorem ap_call (hent : Enters Tryd.prog f) (hx : lk L x = some val) (hf : frs n L [td, d1, d2, d3] = true) (hc : ∀ u, Tr s u → AppC f [val] bs u) (hE : Lc ++ (bs ++ rest) = Full) (hB : Full.length ≤ 4398046511104)
    (kk : ∀ u v' Lc', Tr s u → Lc' ++ rest = Full → At N n ((td, v') :: L) (OctRow v' Lc' :: H0) C u) :
    Cd Tryd.prog (.region id [⟨some d1, .move (.tmp td), ty1, p1, a1, none⟩, ⟨some d2, .move (.tmp x), ty2, p2, a2, none⟩, ⟨some d3, .call ⟨.value (.func f), [.tmp d1, .tmp d2].toArray, ts⟩, ty3, p3, a3, none⟩, ⟨some td, .assign (.tmp d3), ty4, p4, a4, none⟩].toArray false) ⟨N, R, X⟩ n ((td, vd) :: L) (OctRow vd Lc :: H0) C s := by
  obtain ⟨hb, hfr, hne⟩ := frs_get hf
  simp only [List.pairwise_cons, List.mem_cons, List.not_mem_nil, or_false, forall_eq_or_imp, forall_eq, List.Pairwise.nil, and_true, false_imp_iff, implies_true] at hb hfr hne
  obtain ⟨f0, f1, f2, f3⟩ := hfr
  obtain ⟨b0, b1, b2, b3⟩ := hb
  refine cd_region ?_
  refine ln_pv (pv_move (v := vd) lk_eq) b1 ?_
  refine ln_pv (pv_move (v := val) (by rw [ev_t, lk_ne (lk_fr f1 hx), lk_ne (lk_fr f0 hx)]; exact hx)) b2 ?_
  refine ln_callT (i := 0) (vals := [vd, val]) hent (by simp [evs, ev_t, lk_eq, lk_ne, hne]) rfl (fun u hu hok hav => hc u hu _ _ (app_len hE hB) hok hav) b3 ?_
  rintro u v' _ ht ⟨_, ⟨rfl, h1⟩, _⟩
  refine ln_pv (pv_assign (v := v') lk_eq) b0 ?_
  exact ln_nil (at_sub (sub.cons (.skip f3 (.skip f2 (.skip f1 (.skip f0 .rfl'))))) (kk u v' _ ht (app_step hE)))
/-- td = f(td, len(x)) -/
theorem ap_callL {e : TypeId} {ad : Option Addr} {m c : Nat} (hent : Enters Tryd.prog f) (hu : Tryd.prog.underlying T = some (.slice e)) (hx : lk L x = some (.slice ad m c)) (hf : frs n L [td, d1, d2, d3, d4] = true) (hc : ∀ u, Tr s u → AppC f [.int .i64 (m : Int)] bs u) (hE : Lc ++ (bs ++ rest) = Full) (hB : Full.length ≤ 4398046511104)
    (kk : ∀ u v' Lc', Tr s u → Lc' ++ rest = Full → At N n ((td, v') :: L) (OctRow v' Lc' :: H0) C u) :
    Cd Tryd.prog (.region id [⟨some d1, .move (.tmp td), ty1, p1, a1, none⟩, ⟨some d2, .move (.tmp x), ty2, p2, a2, none⟩, ⟨some d3, .call ⟨.builtin .len, #[.tmp d2], #[T]⟩, ty3, p3, a3, none⟩, ⟨some d4, .call ⟨.value (.func f), [.tmp d1, .tmp d3].toArray, ts⟩, ty4, p4, a4, none⟩, ⟨some td, .assign (.tmp d4), ty5, p5, a5, none⟩].toArray false) ⟨N, R, X⟩ n ((td, vd) :: L) (OctRow vd Lc :: H0) C s := by
  obtain ⟨hb, hfr, hne⟩ := frs_get hf
  simp only [List.pairwise_cons, List.mem_cons, List.not_mem_nil, or_false, forall_eq_or_imp, forall_eq, List.Pairwise.nil, and_true, false_imp_iff, implies_true] at hb hfr hne
  obtain ⟨f0, f1, f2, f3, f4⟩ := hfr
  obtain ⟨b0, b1, b2, b3, b4⟩ := hb
  refine cd_region ?_
  refine ln_pv (pv_move (v := vd) lk_eq) b1 ?_
  refine ln_pv (pv_move (by rw [ev_t, lk_ne (lk_fr f1 hx), lk_ne (lk_fr f0 hx)]; exact hx)) b2 ?_
  refine ln_pv (pv_len_slice hu lk_eq) b3 ?_
  refine ln_callT (i := 0) (vals := [vd, .int .i64 (m : Int)]) hent (by simp [evs, ev_t, lk_eq, lk_ne, hne]) rfl (fun u hu hok hav => hc u hu _ _ (app_len hE hB) hok hav) b4 ?_
  rintro u v' _ ht ⟨_, ⟨rfl, h1⟩, _⟩
  refine ln_pv (pv_assign (v := v') lk_eq) b0 ?_
  exact ln_nil (at_sub (sub.cons (.skip f4 (.skip f3 (.skip f2 (.skip f1 (.skip f0 .rfl')))))) (kk u v' _ ht (app_step hE)))
/-- a Bool that is at hand -/
theorem ap_test {A B : Code} {q : Bool} (hx : lk L x = some (.bool q)) (hf : frs n L [td, d0] = true) (hy : q = true → Cd Tryd.prog A ⟨N, R, X⟩ n ((td, vd) :: L) (OctRow vd Lc :: H0) C s) (hn : q = false → Cd Tryd.prog B ⟨N, R, X⟩ n ((td, vd) :: L) (OctRow vd Lc :: H0) C s) :
    Cd Tryd.prog (.seq (.region id [⟨some d0, .move (.tmp x), ty0, p0, a0, none⟩].toArray false) (.cond (.tmp d0) A B)) ⟨N, R, X⟩ n ((td, vd) :: L) (OctRow vd Lc :: H0) C s := by
  obtain ⟨hb, hfr, hne⟩ := frs_get hf
  simp only [List.pairwise_cons, List.mem_cons, List.not_mem_nil, or_false, forall_eq_or_imp, forall_eq, List.Pairwise.nil, and_true, false_imp_iff, implies_true] at hb hfr hne
  refine cd_sq ?_
  refine cd_region ?_
  refine ln_pv (pv_move (by rw [ev_t, lk_ne (lk_fr hfr.1 hx)]; exact hx)) hb.2 ?_
  refine ln_nil (at_cd ?_)
  have hs : sub ((td, vd) :: L) ((d0, .bool q) :: (td, vd) :: L) := .put (by simp [lk_eq, lk_ne, hne]) (.skip hfr.2 (.skip hfr.1 .rfl'))
  exact cd_cond lk_eq (fun h => cd_sub_ hs (hy h)) (fun h => cd_sub_ hs (hn h))
/-- if flexible, one call, else the other -/
theorem ap_flex {q : Bool} {fx : Nat} (hq : lk L fx = some (.bool q)) (hent : Enters Tryd.prog f) (heng : Enters Tryd.prog g) (hx : lk L x = some val) (hf : frs n L [td, d0] = true) (hf1 : frs n L [td, d1, d2, d3] = true) (hf2 : frs n L [td, e1, e2, e3] = true)
    (hc : q = true → ∀ u, Tr s u → AppC f [val] bs u) (hc' : q = false → ∀ u, Tr s u → AppC g [val] bs u) (hE : Lc ++ (bs ++ rest) = Full) (hB : Full.length ≤ 4398046511104)
    (kk : ∀ u v' Lc', Tr s u → Lc' ++ rest = Full → At N n ((td, v') :: L) (OctRow v' Lc' :: H0) C u) :
    Cd Tryd.prog (.seq (.region id [⟨some d0, .move (.tmp fx), ty0, p0, a0, none⟩].toArray false) (.cond (.tmp d0)
      (.region id1 [⟨some d1, .move (.tmp td), ty1, p1, a1, none⟩, ⟨some d2, .move (.tmp x), ty2, p2, a2, none⟩, ⟨some d3, .call ⟨.value (.func f), [.tmp d1, .tmp d2].toArray, ts⟩, ty3, p3, a3, none⟩, ⟨some td, .assign (.tmp d3), ty4, p4, a4, none⟩].toArray false)
      (.region id2 [⟨some e1, .move (.tmp td), uy1, q1, c1, none⟩, ⟨some e2, .move (.tmp x), uy2, q2, c2, none⟩, ⟨some e3, .call ⟨.value (.func g), [.tmp e1, .tmp e2].toArray, ts'⟩, uy3, q3, c3, none⟩, ⟨some td, .assign (.tmp e3), uy4, q4, c4, none⟩].toArray false))) ⟨N, R, X⟩ n ((td, vd) :: L) (OctRow vd Lc :: H0) C s :=
  ap_test hq hf (fun h => ap_call hent hx hf1 (hc h) hE hB kk) (fun h => ap_call heng hx hf2 (hc' h) hE hB kk)
theorem ap_flexL {q : Bool} {fx : Nat} {e : TypeId} {ad : Option Addr} {m c : Nat} {T' : TypeId} (hq : lk L fx = some (.bool q)) (hent : Enters Tryd.prog f) (heng : Enters Tryd.prog g) (hu : Tryd.prog.underlying T = some (.slice e)) (hx : lk L x = some (.slice ad m c)) (hf : frs n L [td, d0] = true) (hf1 : frs n L [td, d1, d2, d3, d4] = true) (hf2 : frs n L [td, e1, e2, e3, e4] = true)
    (hc : q = true → ∀ u, Tr s u → AppC f [.int .i64 (m : Int)] bs u) (hc' : q = false → ∀ u, Tr s u → AppC g [.int .i64 (m : Int)] bs u) (hE : Lc ++ (bs ++ rest) = Full) (hB : Full.length ≤ 4398046511104)
    (kk : ∀ u v' Lc', Tr s u → Lc' ++ rest = Full → At N n ((td, v') :: L) (OctRow v' Lc' :: H0) C u) :
    Cd Tryd.prog (.seq (.region id [⟨some d0, .move (.tmp fx), ty0, p0, a0, none⟩].toArray false) (.cond (.tmp d0)
      (.region id1 [⟨some d1, .move (.tmp td), ty1, p1, a1, none⟩, ⟨some d2, .move (.tmp x), ty2, p2, a2, none⟩, ⟨some d3, .call ⟨.builtin .len, #[.tmp d2], #[T]⟩, ty3, p3, a3, none⟩, ⟨some d4, .call ⟨.value (.func f), [.tmp d1, .tmp d3].toArray, ts⟩, ty4, p4, a4, none⟩, ⟨some td, .assign (.tmp d4), ty5, p5, a5, none⟩].toArray false)
      (.region id2 [⟨some e1, .move (.tmp td), uy1, q1, c1, none⟩, ⟨some e2, .move (.tmp x), uy2, q2, c2, none⟩, ⟨some e3, .call ⟨.builtin .len, #[.tmp e2], #[T]⟩, uy3, q3, c3, none⟩, ⟨some e4, .call ⟨.value (.func g), [.tmp e1, .tmp e3].toArray, ts'⟩, uy4, q4, c4, none⟩, ⟨some td, .assign (.tmp e4), uy5, q5, c5, none⟩].toArray false))) ⟨N, R, X⟩ n ((td, vd) :: L) (OctRow vd Lc :: H0) C s :=
  ap_test hq hf (fun h => ap_callL hent hu hx hf1 (hc h) hE hB kk) (fun h => ap_callL heng hu hx hf2 (hc' h) hE hB kk)
/-- what is written of each thing of a list, one behind the other -/
theorem ap_range {e : TypeId} {ad : Option Addr} {m c : Nat} {ti tl tc te : Nat} {body : Code} {Tl : Nat → List UInt8} (hu : Tryd.prog.underlying T = some (.slice e)) (hx : lk L x = some (.slice ad m c)) (hm : m ≤ 4398046511104) (hf : frs n L [td, d1, tl, ti, tc, te] = true) (hE : Lc ++ (Tl 0 ++ rest) = Full)
    (hbody : ∀ (i : Nat) (u : Vw) (vd : Value) (Lc : List UInt8) (N' : Act → World → Prop) (X' : List (Nat × (Act → World → Prop))), i < m → Tr s u → Lc ++ (Tl i ++ rest) = Full →
      (∀ u' v' Lc', Tr u u' → Lc' ++ (Tl (i + 1) ++ rest) = Full → At N' n ((td, v') :: (ti, .int .i64 (i : Int)) :: (tl, .int .i64 (m : Int)) :: L) (OctRow v' Lc' :: H0) C u') →
      Cd Tryd.prog body ⟨N', R, X'⟩ n ((td, vd) :: (ti, .int .i64 (i : Int)) :: (tl, .int .i64 (m : Int)) :: L) (OctRow vd Lc :: H0) C u)
    (kk : ∀ u v' Lc', Tr s u → Lc' ++ (Tl m ++ rest) = Full → At N n ((td, v') :: L) (OctRow v' Lc' :: H0) C u) :
    Cd Tryd.prog (.seq (.region id [⟨some d1, .move (.tmp x), ty1, p1, a1, none⟩, ⟨some tl, .call ⟨.builtin .len, #[.tmp d1], #[T]⟩, ty2, p2, a2, none⟩, ⟨some ti, .move (.const (.int .i64 0)), ty3, p3, a3, none⟩].toArray false)
      (.block id1 (.loop (.seq (.region id2 [⟨some tc, .binOp .lss uy1 (.tmp ti) (.tmp tl) uy2, ty4, p4, a4, none⟩].toArray false) (.seq (.cond (.tmp tc) .skip (.exit id1)) (.seq (.block id3 body) (.region id' [⟨some te, .binOp .add uy3 (.tmp ti) (.const (.int .i64 1)) uy4, ty5, p5, a5, none⟩, ⟨some ti, .move (.tmp te), ty6, p6, a6, none⟩].toArray false)))))))
      ⟨N, R, X⟩ n ((td, vd) :: L) (OctRow vd Lc :: H0) C s := by
  obtain ⟨hb, hfr, hne⟩ := frs_get hf
  simp only [List.pairwise_cons, List.mem_cons, List.not_mem_nil, or_false, forall_eq_or_imp, forall_eq, List.Pairwise.nil, and_true, false_imp_iff, implies_true] at hb hfr hne
  obtain ⟨f0, f1, fl, fi, fc, fe⟩ := hfr
  obtain ⟨b0, b1, bl, bi, bc, be⟩ := hb
  have hs : ∀ (v u1 : Value) (i : Nat), sub ((td, v) :: (ti, .int .i64 (i : Int)) :: (tl, .int .i64 (m : Int)) :: L) ((tc, u1) :: (td, v) :: (ti, .int .i64 (i : Int)) :: (tl, .int .i64 (m : Int)) :: L) := fun v u1 i =>
    .put (by simp [lk_eq, lk_ne, hne]) (.put (by simp [lk_eq, lk_ne, hne]) (.put (by simp [lk_eq, lk_ne, hne]) (.skip fc (.skip f0 (.skip fi (.skip fl .rfl'))))))
  refine cd_sq ?_
  refine cd_region ?_
  refine ln_pv (pv_move (by rw [ev_t, lk_ne (lk_fr f0 hx)]; exact hx)) b1 ?_
  refine ln_pv (pv_len_slice hu lk_eq) bl ?_
  refine ln_pv (pv_move ev_c) bi ?_
  refine ln_nil (at_cd ?_)
  refine cd_block ?_
  refine cd_loop' (S := Nat × Value × List UInt8) ⟨fun z => (td, z.2.1) :: (ti, .int .i64 (z.1 : Int)) :: (tl, .int .i64 (m : Int)) :: L, fun z => (OctRow z.2.1 z.2.2 :: H0), fun z _ => z.1 ≤ m ∧ z.2.2 ++ (Tl z.1 ++ rest) = Full, fun z => m - z.1⟩ (0, vd, Lc)
    (fun u hu => ⟨Nat.zero_le _, hE⟩) ?_ (List.Sublist.refl _) ?_
  · exact .put (by simp [lk_eq, lk_ne, hne]) (.cons (.cons (.skip f1 (.skip f0 .rfl'))))
  · rintro ⟨i, v, Lz⟩ u hu ⟨hi, hEz⟩
    dsimp only at hi hEz ⊢
    refine cd_sq ?_
    refine cd_region ?_
    refine ln_pv (pv_lss (k := .i64) (i := (i : Int)) (j := (m : Int)) (by simp [ev_t, lk_eq, lk_ne, hne]) (by simp [ev_t, lk_eq, lk_ne, hne])) bc ?_
    refine ln_nil (at_cd ?_)
    refine cd_sq ?_
    refine cd_if lk_eq (fun hlt => ?_) (fun hge => ?_)
    · refine cd_skip ?_
      refine at_cd (cd_sub_ (hs v _ i) ?_)
      refine cd_sq ?_
      refine cd_block ?_
      refine hbody i u v Lz _ _ (by omega) hu hEz (fun u' v' Lc' hu' hE' => ?_)
      refine at_cd ?_
      refine cd_region ?_
      refine ln_pv (pv_add' (k := .i64) (i := (i : Int)) (j := 1) (r := ((i + 1 : Nat) : Int)) (by simp [ev_t, lk_eq, lk_ne, hne]) ev_c (wrap_succ (by omega))) be ?_
      refine ln_pv (pv_move lk_eq) bi ?_
      refine ln_nil ?_
      exact at_rnd' (i + 1, v', Lc') (hu.trans hu') (fun _ _ => ⟨by dsimp only; omega, hE'⟩) (by dsimp only; omega)
        (.put (by simp [lk_eq, lk_ne, hne]) (.put lk_eq (.put (by simp [lk_eq, lk_ne, hne]) (.skip fi (.skip fe (.skip f0 (.skip fi (.skip fl .rfl')))))))) (List.Sublist.refl _)
    · have him : i = m := by omega
      subst him
      refine cd_exit (K := N) (by simp [lkx]) ?_
      exact at_sub (.put (by simp [lk_eq, lk_ne, hne]) (.skip fc (.skip f0 (.skip fi (.skip fl .rfl'))))) (kk u v Lz hu hEz)
end
end K
end Go.Proofs.YtjjfpdofkdolnaaDoor
namespace Go.Proofs.YtjjfpdofkdolnaaDoor
namespace K
open Go Go.Lib
section
variable {n : Nat} {L : Env} {H0 : Hp} {C : Cx} {s : Vw} {N R : Act → World → Prop} {X : List (Nat × (Act → World → Prop))}
variable {id id' id1 id2 id3 : Nat} {td x y p d0 d1 d2 d3 d4 d5 d6 d7 d8 d9 e1 e2 e3 e4 e5 e6 : Nat} {f g : FuncId} {vd val : Value} {Lc bs rest Full : List UInt8} {ts ts' : Array TypeId}
variable {ty0 ty1 ty2 ty3 ty4 ty5 ty6 ty7 ty8 ty9 : TypeId} {p0 p1 p2 p3 p4 p5 p6 p7 p8 p9 : String} {a0 a1 a2 a3 a4 a5 a6 a7 a8 a9 : Array Edge}
variable {uy1 uy2 uy3 uy4 uy5 uy6 : TypeId} {q1 q2 q3 q4 q5 q6 : String} {c1 c2 c3 c4 c5 c6 : Array Edge}
variable {T ft vy1 vy2 : TypeId} {fs : Array Field} {k off sz b o : Nat} {fl : Field} {dd : TypeDesc} {cells : List Value} {ts2 : Array TypeId}
/-- x = a constant; the frame without td -/
theorem ap_const {H : Hp} {c : Value} (hf : frs n L [y] = true) (kk : At N n ((y, c) :: L) H C s) :
    Cd Tryd.prog (.region id [⟨some y, .assign (.const c), ty1, p1, a1, none⟩].toArray false) ⟨N, R, X⟩ n L H C s := by
  obtain ⟨hb, hfr, hne⟩ := frs_get hf
  exact cd_region (ln_pv (pv_assign ev_c) (hb y (by simp)) (ln_nil kk))
/-- _ = x -/
theorem ap_blank {H : Hp} {v : Value} (hx : lk L x = some v) (hf : frs n L [d1] = true) (kk : At N n L H C s) :
    Cd Tryd.prog (.region id [⟨some d1, .move (.tmp x), ty1, p1, a1, none⟩].toArray false) ⟨N, R, X⟩ n L H C s := by
  obtain ⟨hb, hfr, hne⟩ := frs_get hf
  exact cd_region (ln_pv (pv_move hx) (hb d1 (by simp)) (ln_nil (at_sub (.skip (hfr d1 (by simp)) .rfl') kk)))
/-- the same, by another name -/
theorem ap_geqF {H : Hp} {v c : Int} {q : Bool} (hx : lk L x = some (.int .i16 v)) (hq : decide (v ≥ c) = q) (hf : frs n L [y, d1, d2] = true) (kk : At N n ((y, .bool q) :: L) H C s) :
    Cd Tryd.prog (.region id [⟨some d1, .move (.tmp x), ty1, p1, a1, none⟩, ⟨some d2, .binOp .geq uy1 (.tmp d1) (.const (.int .i16 c)) uy2, ty2, p2, a2, none⟩, ⟨some y, .assign (.tmp d2), ty3, p3, a3, none⟩].toArray false) ⟨N, R, X⟩ n L H C s := by
  subst hq
  obtain ⟨hb, hfr, hne⟩ := frs_get hf
  simp only [List.pairwise_cons, List.mem_cons, List.not_mem_nil, or_false, forall_eq_or_imp, forall_eq, List.Pairwise.nil, and_true, false_imp_iff, implies_true] at hb hfr hne
  refine cd_region ?_
  refine ln_pv (pv_move hx) hb.2.1 ?_
  refine ln_pv (pv_geq lk_eq ev_c) hb.2.2 ?_
  refine ln_pv (pv_assign lk_eq) hb.1 ?_
  exact ln_nil (at_sub (.cons (.skip hfr.2.2 (.skip hfr.2.1 .rfl'))) kk)
/-- y = v >= c -/
theorem ap_geq {v c : Int} (hx : lk L x = some (.int .i16 v)) (hf : frs n L [y, d1, d2] = true) (kk : At N n ((y, .bool (decide (v ≥ c))) :: L) (OctRow vd Lc :: H0) C s) :
    Cd Tryd.prog (.region id [⟨some d1, .move (.tmp x), ty1, p1, a1, none⟩, ⟨some d2, .binOp .geq uy1 (.tmp d1) (.const (.int .i16 c)) uy2, ty2, p2, a2, none⟩, ⟨some y, .assign (.tmp d2), ty3, p3, a3, none⟩].toArray false) ⟨N, R, X⟩ n L (OctRow vd Lc :: H0) C s := by
  obtain ⟨hb, hfr, hne⟩ := frs_get hf
  simp only [List.pairwise_cons, List.mem_cons, List.not_mem_nil, or_false, forall_eq_or_imp, forall_eq, List.Pairwise.nil, and_true, false_imp_iff, implies_true] at hb hfr hne
  refine cd_region ?_
  refine ln_pv (pv_move hx) hb.2.1 ?_
  refine ln_pv (pv_geq lk_eq ev_c) hb.2.2 ?_
  refine ln_pv (pv_assign lk_eq) hb.1 ?_
  exact ln_nil (at_sub (.cons (.skip hfr.2.2 (.skip hfr.2.1 .rfl'))) kk)
/-- y = p.F, the frame without td -/
theorem ap_load0 {H : Hp} (hx : lk L p = some (.pointer (some ⟨b, o, none⟩))) (hu : Tryd.prog.underlying T = some (.struct fs)) (hk : fs[k]? = some fl) (hsz : (Tryd.prog.info? fl.type).map (·.size) = some (sz + 1)) (ho : fl.offset = off)
    (hd : Tryd.prog.underlying ft = some dd) (hna : aggD dd = false) (hrc : RC s b o cells) (hc : cells[off]? = some val) (hf : frs n L [y, d1, d2, d3, d4] = true) (kk : At N n ((y, val) :: L) H C s) :
    Cd Tryd.prog (.region id [⟨some d1, .move (.tmp p), ty1, p1, a1, none⟩, ⟨some d2, .nilCheck (.tmp d1), ty2, p2, a2, none⟩, ⟨some d3, .fieldAddr T (.tmp d2) k, ty3, p3, a3, none⟩, ⟨some d4, .load ft (.tmp d3), ty4, p4, a4, none⟩, ⟨some y, .assign (.tmp d4), ty5, p5, a5, none⟩].toArray false)
      ⟨N, R, X⟩ n L H C s := by
  obtain ⟨hb, hfr, hne⟩ := frs_get hf
  simp only [List.pairwise_cons, List.mem_cons, List.not_mem_nil, or_false, forall_eq_or_imp, forall_eq, List.Pairwise.nil, and_true, false_imp_iff, implies_true] at hb hfr hne
  obtain ⟨fy, f1, f2, f3, f4⟩ := hfr
  obtain ⟨by_, b1, b2, b3, b4⟩ := hb
  refine cd_region ?_
  refine ln_pv (pv_move hx) b1 ?_
  refine ln_pv (pv_nilCheck lk_eq) b2 ?_
  refine ln_pv (pv_fieldAddr hu hk hsz ho lk_eq rfl) b3 ?_
  refine ln_pv (pv_ldr hrc hd (by cases dd <;> first | rfl | (simp [aggD] at hna)) lk_eq hc) b4 ?_
  refine ln_pv (pv_assign lk_eq) by_ ?_
  exact ln_nil (at_sub (sub.cons (.skip f4 (.skip f3 (.skip f2 (.skip f1 .rfl'))))) kk)
/-- if version >= c -/
theorem ap_if {v c : Int} {A : Code} (hx : lk L x = some (.int .i16 v)) (hf : frs n L [td, d1, d2] = true) (hE : Lc ++ ((if v ≥ c then bs else []) ++ rest) = Full)
    (kk : ∀ u v' Lc', Tr s u → Lc' ++ rest = Full → At N n ((td, v') :: L) (OctRow v' Lc' :: H0) C u)
    (hyes : v ≥ c → Lc ++ (bs ++ rest) = Full → (∀ u v' Lc', Tr s u → Lc' ++ rest = Full → At N n ((td, v') :: L) (OctRow v' Lc' :: H0) C u) → Cd Tryd.prog A ⟨N, R, X⟩ n ((td, vd) :: L) (OctRow vd Lc :: H0) C s) :
    Cd Tryd.prog (.seq (.region id [⟨some d1, .move (.tmp x), ty1, p1, a1, none⟩, ⟨some d2, .binOp .geq uy1 (.tmp d1) (.const (.int .i16 c)) uy2, ty2, p2, a2, none⟩].toArray false) (.cond (.tmp d2) A .skip)) ⟨N, R, X⟩ n ((td, vd) :: L) (OctRow vd Lc :: H0) C s := by
  obtain ⟨hb, hfr, hne⟩ := frs_get hf
  simp only [List.pairwise_cons, List.mem_cons, List.not_mem_nil, or_false, forall_eq_or_imp, forall_eq, List.Pairwise.nil, and_true, false_imp_iff, implies_true] at hb hfr hne
  obtain ⟨f0, f1, f2⟩ := hfr
  obtain ⟨b0, b1, b2⟩ := hb
  have hs : ∀ u1 u2, sub ((td, vd) :: L) ((d2, u2) :: (d1, u1) :: (td, vd) :: L) := fun u1 u2 => .put (by simp [lk_eq, lk_ne, hne]) (.skip f2 (.skip f1 (.skip f0 .rfl')))
  refine cd_sq ?_
  refine cd_region ?_
  refine ln_pv (pv_move (by rw [ev_t, lk_ne (lk_fr f0 hx)]; exact hx)) b1 ?_
  refine ln_pv (pv_geq lk_eq ev_c) b2 ?_
  refine ln_nil (at_cd ?_)
  refine cd_if lk_eq (fun h => cd_sub_ (hs _ _) ?_) (fun h => cd_sub_ (hs _ _) ?_)
  · rw [if_pos h] at hE
    exact hyes h hE kk
  · rw [if_neg h] at hE
    exact cd_skip (at_base fun u hu => kk u vd Lc hu (by simpa using hE))
/-- if a <= version <= b -/
theorem ap_if2 {v c e : Int} {A : Code} (hx : lk L x = some (.int .i16 v)) (hf : frs n L [td, d1, d2, d3, d4, d5, d6] = true) (hE : Lc ++ ((if v ≥ c ∧ v ≤ e then bs else []) ++ rest) = Full)
    (kk : ∀ u v' Lc', Tr s u → Lc' ++ rest = Full → At N n ((td, v') :: L) (OctRow v' Lc' :: H0) C u)
    (hyes : v ≥ c → v ≤ e → Lc ++ (bs ++ rest) = Full → (∀ u v' Lc', Tr s u → Lc' ++ rest = Full → At N n ((td, v') :: L) (OctRow v' Lc' :: H0) C u) → Cd Tryd.prog A ⟨N, R, X⟩ n ((td, vd) :: L) (OctRow vd Lc :: H0) C s) :
    Cd Tryd.prog (.seq (.region id [⟨some d1, .move (.tmp x), ty1, p1, a1, none⟩, ⟨some d2, .binOp .geq uy1 (.tmp d1) (.const (.int .i16 c)) uy2, ty2, p2, a2, none⟩, ⟨some d3, .move (.tmp d2), ty3, p3, a3, none⟩,
      ⟨some d4, .move (.tmp x), ty4, p4, a4, some (2, true)⟩, ⟨some d5, .binOp .leq uy3 (.tmp d4) (.const (.int .i16 e)) uy4, ty5, p5, a5, some (2, true)⟩, ⟨some d6, .pick (.tmp d3) (.tmp d5) (.const (.bool false)), ty6, p6, a6, none⟩].toArray false) (.cond (.tmp d6) A .skip)) ⟨N, R, X⟩ n ((td, vd) :: L) (OctRow vd Lc :: H0) C s := by
  obtain ⟨hb, hfr, hne⟩ := frs_get hf
  simp only [List.pairwise_cons, List.mem_cons, List.not_mem_nil, or_false, forall_eq_or_imp, forall_eq, List.Pairwise.nil, and_true, false_imp_iff, implies_true] at hb hfr hne
  obtain ⟨f0, f1, f2, f3, f4, f5, f6⟩ := hfr
  obtain ⟨b0, b1, b2, b3, b4, b5, b6⟩ := hb
  have hs : ∀ u1 u2 u3 u4 u5 u6, sub ((td, vd) :: L) ((d6, u6) :: (d5, u5) :: (d4, u4) :: (d3, u3) :: (d2, u2) :: (d1, u1) :: (td, vd) :: L) := fun u1 u2 u3 u4 u5 u6 => .put (by simp [lk_eq, lk_ne, hne]) (.skip f6 (.skip f5 (.skip f4 (.skip f3 (.skip f2 (.skip f1 (.skip f0 .rfl')))))))
  have hx' : lk ((td, vd) :: L) x = some (.int .i16 v) := by rw [lk_ne (lk_fr f0 hx)]; exact hx
  refine cd_sq ?_
  refine cd_region ?_
  refine ln_pv (pv_move hx') b1 ?_
  by_cases h : v ≥ c
  · refine ln_pv (pv_tt (pv_geq lk_eq ev_c) h) b2 ?_
    refine ln_pv (pv_move lk_eq) b3 ?_
    refine ln_gt rfl rfl lk_eq (pv_move (by rw [ev_t, lk_ne (lk_fr f3 hx), lk_ne (lk_fr f2 hx), lk_ne (lk_fr f1 hx)]; exact hx')) b4 ?_
    refine ln_gt rfl rfl (by rw [lk_ne (by simp [hne]), lk_eq]) (pv_leq lk_eq ev_c) b5 ?_
    refine ln_pv (pv_pick (by rw [ev_t, lk_ne (by simp [hne]), lk_ne (by simp [hne]), lk_eq]) (fun _ => lk_eq) (fun _ => ev_c)) b6 ?_
    refine ln_nil (at_cd ?_)
    refine cd_if lk_eq (fun h2 => cd_sub_ (hs _ _ _ _ _ _) ?_) (fun h2 => cd_sub_ (hs _ _ _ _ _ _) ?_)
    · rw [if_pos ⟨h, h2⟩] at hE
      exact hyes h h2 hE kk
    · rw [if_neg (fun q => h2 q.2)] at hE
      exact cd_skip (at_base fun u hu => kk u vd Lc hu (by simpa using hE))
  · refine ln_pv (pv_ff (pv_geq lk_eq ev_c) h) b2 ?_
    refine ln_pv (pv_move lk_eq) b3 ?_
    refine ln_gf rfl rfl lk_eq rfl b4 ?_
    refine ln_gf rfl rfl (by rw [lk_ne (by simp [hne]), lk_eq]) rfl b5 ?_
    refine ln_pv (pv_pick (u := .bool false) (by rw [ev_t, lk_ne (by simp [hne]), lk_ne (by simp [hne]), lk_eq]) (fun h => by cases h) (fun _ => ev_c)) b6 ?_
    refine ln_nil (at_cd ?_)
    refine cd_ff lk_eq (cd_sub_ (hs _ _ _ _ _ _) ?_)
    rw [if_neg (fun q => h q.1)] at hE
    exact cd_skip (at_base fun u hu => kk u vd Lc hu (by simpa using hE))
/-- y = x -/
theorem ap_copy (hx : lk L x = some val) (hf : frs n L [td, y, d1] = true) (kk : At N n ((td, vd) :: (y, val) :: L) (OctRow vd Lc :: H0) C s) :
    Cd Tryd.prog (.region id [⟨some d1, .move (.tmp x), ty1, p1, a1, none⟩, ⟨some y, .assign (.tmp d1), ty2, p2, a2, none⟩].toArray false) ⟨N, R, X⟩ n ((td, vd) :: L) (OctRow vd Lc :: H0) C s := by
  obtain ⟨hb, hfr, hne⟩ := frs_get hf
  simp only [List.pairwise_cons, List.mem_cons, List.not_mem_nil, or_false, forall_eq_or_imp, forall_eq, List.Pairwise.nil, and_true, false_imp_iff, implies_true] at hb hfr hne
  refine cd_region ?_
  refine ln_pv (pv_move (by rw [ev_t, lk_ne (lk_fr hfr.1 hx)]; exact hx)) hb.2.2 ?_
  refine ln_pv (pv_assign lk_eq) hb.2.1 ?_
  exact ln_nil (at_sub (.put (by simp [lk_eq, lk_ne, hne]) (.cons (.skip hfr.2.2 (.skip hfr.1 .rfl')))) kk)
/-- p = &x[i]: a part in a list -/
theorem ap_idx {i : Nat} {e : TypeId} {g0 o0 m c ez ti : Nat} (hx : lk L x = some (.slice (some ⟨g0, o0, none⟩) m c)) (hu : Tryd.prog.underlying T = some (.slice e)) (hsz : (Tryd.prog.info? e).map (·.size) = some ez) (hi : i < m) (hti : lk L ti = some (.int .i64 (i : Int))) (hf : frs n L [td, p, d2, d3, d4] = true)
    (kk : At N n ((td, vd) :: (p, .pointer (some ⟨g0, o0 + i * ez, none⟩)) :: L) (OctRow vd Lc :: H0) C s) :
    Cd Tryd.prog (.region id1 [⟨some d2, .move (.tmp x), ty3, p3, a3, none⟩, ⟨some d3, .move (.tmp ti), ty4, p4, a4, none⟩, ⟨some d4, .indexAddr T (.tmp d2) (.tmp d3), ty5, p5, a5, none⟩, ⟨some p, .assign (.tmp d4), ty6, p6, a6, none⟩].toArray false) ⟨N, R, X⟩ n ((td, vd) :: L) (OctRow vd Lc :: H0) C s := by
  obtain ⟨hb, hfr, hne⟩ := frs_get hf
  simp only [List.pairwise_cons, List.mem_cons, List.not_mem_nil, or_false, forall_eq_or_imp, forall_eq, List.Pairwise.nil, and_true, false_imp_iff, implies_true] at hb hfr hne
  obtain ⟨f0, fp, f2, f3, f4⟩ := hfr
  obtain ⟨b0, bp, b2, b3, b4⟩ := hb
  refine cd_region ?_
  refine ln_pv (pv_move (by rw [ev_t, lk_ne (lk_fr f0 hx)]; exact hx)) b2 ?_
  refine ln_pv (pv_move (by rw [ev_t, lk_ne (lk_fr f2 hti), lk_ne (lk_fr f0 hti)]; exact hti)) b3 ?_
  refine ln_pv (pv_ixN hu hsz (by rw [ev_t, lk_ne (by simp [hne]), lk_eq]) lk_eq hi) b4 ?_
  refine ln_pv (pv_assign lk_eq) bp ?_
  exact ln_nil (at_sub (.put (by simp [lk_eq, lk_ne, hne]) (.cons (.skip f4 (.skip f3 (.skip f2 (.skip f0 .rfl')))))) kk)
/-- y = x[i], of one cell -/
theorem ap_idxS {i : Nat} {e : TypeId} {g0 o0 m c ti : Nat} (hx : lk L x = some (.slice (some ⟨g0, o0, none⟩) m c)) (hu : Tryd.prog.underlying T = some (.slice e)) (hsz : (Tryd.prog.info? e).map (·.size) = some 1) (hi : i < m) (hti : lk L ti = some (.int .i64 (i : Int)))
    (hd : Tryd.prog.underlying ft = some dd) (hna : aggD dd = false) (hrc : RC s g0 (o0 + i * 1) [val]) (hf : frs n L [td, y, d2, d3, d4, d5] = true)
    (kk : At N n ((td, vd) :: (y, val) :: L) (OctRow vd Lc :: H0) C s) :
    Cd Tryd.prog (.region id1 [⟨some d2, .move (.tmp x), ty3, p3, a3, none⟩, ⟨some d3, .move (.tmp ti), ty4, p4, a4, none⟩, ⟨some d4, .indexAddr T (.tmp d2) (.tmp d3), ty5, p5, a5, none⟩, ⟨some d5, .load ft (.tmp d4), ty6, p6, a6, none⟩, ⟨some y, .assign (.tmp d5), ty7, p7, a7, none⟩].toArray false) ⟨N, R, X⟩ n ((td, vd) :: L) (OctRow vd Lc :: H0) C s := by
  obtain ⟨hb, hfr, hne⟩ := frs_get hf
  simp only [List.pairwise_cons, List.mem_cons, List.not_mem_nil, or_false, forall_eq_or_imp, forall_eq, List.Pairwise.nil, and_true, false_imp_iff, implies_true] at hb hfr hne
  obtain ⟨f0, fp, f2, f3, f4, f5⟩ := hfr
  obtain ⟨b0, bp, b2, b3, b4, b5⟩ := hb
  refine cd_region ?_
  refine ln_pv (pv_move (by rw [ev_t, lk_ne (lk_fr f0 hx)]; exact hx)) b2 ?_
  refine ln_pv (pv_move (by rw [ev_t, lk_ne (lk_fr f2 hti), lk_ne (lk_fr f0 hti)]; exact hti)) b3 ?_
  refine ln_pv (pv_ixN hu hsz (by rw [ev_t, lk_ne (by simp [hne]), lk_eq]) lk_eq hi) b4 ?_
  refine ln_pv (pv_ldr (j := 0) hrc hd (by cases dd <;> first | rfl | (simp [aggD] at hna)) lk_eq rfl) b5 ?_
  refine ln_pv (pv_assign lk_eq) bp ?_
  exact ln_nil (at_sub (.put (by simp [lk_eq, lk_ne, hne]) (.cons (.skip f5 (.skip f4 (.skip f3 (.skip f2 (.skip f0 .rfl'))))))) kk)
end
end K
end Go.Proofs.YtjjfpdofkdolnaaDoor
namespace Go.Proofs.YtjjfpdofkdolnaaDoor
namespace K
open Go Go.Lib
/-! ### What is appended of a field, in the reference's words -/
theorem fixw8 (y : Tre) : fixed (IntKind.i8.wrap y.n) 1 = fixed y.n 1 := fixw .i8 1 y.n rfl
theorem sc8_t {y : Tre} (hl : y.s.length ≤ 32767) : scalarB 8 false true y = uvar (y.s.length + 1) ++ y.s := by simp [scalarB, counted, List.take_of_length_le hl]
theorem sc8_f {y : Tre} (hl : y.s.length ≤ 32767) : scalarB 8 false false y = fixed y.s.length 2 ++ y.s := by simp [scalarB, counted, List.take_of_length_le hl]
theorem sc9_t {y : Tre} (hl : y.s.length ≤ 32767) : scalarB 9 false true y = uvar (y.s.length + 1) ++ y.s := by simp [scalarB, counted, List.take_of_length_le hl]
theorem sc9_f {y : Tre} (hl : y.s.length ≤ 32767) : scalarB 9 false false y = fixed y.s.length 4 ++ y.s := by simp [scalarB, counted, List.take_of_length_le hl]
theorem sc8_tn {y : Tre} (hl : y.s.length ≤ 32767) : scalarB 8 y.z true y = if y.z then uvar 0 else uvar (y.s.length + 1) ++ y.s := by
  cases h : y.z
  · rw [sc8_t hl]; rfl
  · simp [scalarB, counted, uvar_zero]
theorem sc8_fn {y : Tre} (hl : y.s.length ≤ 32767) : scalarB 8 y.z false y = if y.z then fixed (-1) 2 else fixed y.s.length 2 ++ y.s := by
  cases h : y.z
  · rw [sc8_f hl]; rfl
  · simp [scalarB, counted]
theorem sc9_tn {y : Tre} (hl : y.s.length ≤ 32767) : scalarB 9 y.z true y = if y.z then uvar 0 else uvar (y.s.length + 1) ++ y.s := by
  cases h : y.z
  · rw [sc9_t hl]; rfl
  · simp [scalarB, counted, uvar_zero]
theorem sc9_fn {y : Tre} (hl : y.s.length ≤ 32767) : scalarB 9 y.z false y = if y.z then fixed (-1) 4 else fixed y.s.length 4 ++ y.s := by
  cases h : y.z
  · rw [sc9_f hl]; rfl
  · simp [scalarB, counted]
section
variable {Lc T Full : List UInt8} {f : Fld} {r : List Fld} {v : Int} {q : Bool} {y : Tre} {i : Nat}
theorem pl_all (ht : f.tag < 0) (hh : hasB f v = true) (hE : Lc ++ (plainB (f :: r) v q y i ++ T) = Full) : Lc ++ (fieldB f v q (y.at_ i) ++ (plainB r v q y (i + 1) ++ T)) = Full := by
  rw [plainB, hh, decide_eq_true ht] at hE
  simpa [List.append_assoc] using hE
theorem pl_if {p : Prop} [Decidable p] (ht : f.tag < 0) (hh : hasB f v = decide p) (hE : Lc ++ (plainB (f :: r) v q y i ++ T) = Full) : Lc ++ ((if p then fieldB f v q (y.at_ i) else []) ++ (plainB r v q y (i + 1) ++ T)) = Full := by
  rw [plainB, hh, decide_eq_true ht] at hE
  simpa [List.append_assoc] using hE
theorem pl_tag (ht : ¬ f.tag < 0) (hE : Lc ++ (plainB (f :: r) v q y i ++ T) = Full) : Lc ++ (plainB r v q y (i + 1) ++ T) = Full := by
  rw [plainB, decide_eq_false ht] at hE
  simpa using hE
theorem pl_nil (hE : Lc ++ (plainB [] v q y i ++ T) = Full) : Lc ++ T = Full := by simpa [plainB] using hE
theorem pt_open {fs : List Fld} (hk : known fs = 0) (ho : okU (known fs) q y.u) (hE : Lc ++ (partB fs v q y ++ T) = Full) : Lc ++ (plainB fs v q y 0 ++ ((if q then uvar y.u.length ++ y.u.flatMap tagB else []) ++ T)) = Full := by
  have e : partB fs v q y = plainB fs v q y 0 ++ (if q then uvar y.u.length ++ y.u.flatMap tagB else []) := by
    cases q with
    | false => rw [partB_false]; simp
    | true =>
      have h := (ho rfl).1
      rw [partB_true, h, hk]
      simp [TGs]
  rw [e, List.append_assoc] at hE
  exact hE
theorem fieldB_sc {k a b nul tag d o : Int} {sub : List Fld} (h11 : k ≠ 11) (h10 : k ≠ 10) : fieldB (.mk k a b nul tag d o sub) v q y = scalarB k (y.z && decide (nul ≥ 0) && decide (v ≥ nul)) q y := by
  simp only [fieldB, if_neg h11, if_neg h10]
theorem fieldB_s0 {k a b nul tag d o : Int} {sub : List Fld} (h11 : k ≠ 11) (h10 : k ≠ 10) (hn : ¬ nul ≥ 0) : fieldB (.mk k a b nul tag d o sub) v q y = scalarB k false q y := by
  rw [fieldB_sc h11 h10, decide_eq_false hn]
  simp
theorem fieldB_sz {k a b nul tag d o : Int} {sub : List Fld} (h11 : k ≠ 11) (h10 : k ≠ 10) (hn : nul ≥ 0) (hv : v ≥ nul) : fieldB (.mk k a b nul tag d o sub) v q y = scalarB k y.z q y := by
  rw [fieldB_sc h11 h10, decide_eq_true hn, decide_eq_true hv]
  simp
def els (y : Tre) : List Tre := if y.z then [] else y.l
theorem fieldB_l0 {a b nul tag d o : Int} {sub : List Fld} (hn : ¬ nul ≥ 0) (hl : y.l.length ≤ 32767) (hz : y.z = true → (nul ≥ 0 ∧ v ≥ nul) ∨ y.l = []) : fieldB (.mk 11 a b nul tag d o sub) v q y = counted q false (els y).length 4 ++ (els y).flatMap (valueB o sub false v q) := by
  have e : els y = y.l := by
    unfold els
    cases h : y.z
    · rfl
    · rcases hz h with h1 | h1
      · exact absurd h1.1 hn
      · rw [h1]; rfl
  rw [fieldB_mk, if_pos rfl, nullB_mk, decide_eq_false hn, e]
  simp [List.take_of_length_le hl]
theorem fieldB_lz {a b nul tag d o : Int} {sub : List Fld} (hn : nul ≥ 0) (hv : v ≥ nul) (hl : y.l.length ≤ 32767) : fieldB (.mk 11 a b nul tag d o sub) v q y = counted q y.z (els y).length 4 ++ (els y).flatMap (valueB o sub false v q) := by
  rw [fieldB_mk, if_pos rfl, nullB_mk, decide_eq_true hn, decide_eq_true hv]
  unfold els
  cases h : y.z
  · simp [List.take_of_length_le hl]
  · simp
theorem els_len (hl : y.l.length ≤ 32767) : (els y).length ≤ 32767 := by
  unfold els
  split
  · simp
  · exact hl
end
/-- a list that is read: its things, each where it lies -/
theorem RLs.els {s : Vw} {o : Int} {sub : List Fld} {y : Tre} {c : Value} (h : RLs s o sub y c) : ∃ ad cap, c = .slice ad (els y).length cap ∧ (ad.isNone = y.z) ∧ ((els y).length = 0 ∨ ∃ g off lc, ad = some ⟨g, off, none⟩ ∧ RC s g off lc ∧ lc.length = (els y).length * (if o = 7 then 16 else if o = 10 then fszs sub + 1 else 1) ∧
    ∀ i, (hi : i < (els y).length) → REl s o sub (els y)[i] (seg lc i (if o = 7 then 16 else if o = 10 then fszs sub + 1 else 1))) := by
  rcases h with ⟨hz, rfl⟩ | ⟨hz, g, off, cap, lc, rfl, hR, hE⟩
  · have e : K.els y = [] := by simp [K.els, hz]
    exact ⟨none, 0, by rw [e]; rfl, by simp [hz], .inl (by rw [e]; rfl)⟩
  · have e : K.els y = y.l := by simp [K.els, hz]
    refine ⟨some ⟨g, off, none⟩, cap, by rw [e], by simp [hz], ?_⟩
    rw [e]
    by_cases hm : y.l.length = 0
    · exact .inl hm
    · refine .inr ⟨g, off, lc, rfl, ?_, hR.1, hE⟩
      have hpos : 0 < (if o = 7 then 16 else if o = 10 then fszs sub + 1 else 1) := by
        split
        · omega
        · split <;> omega
      obtain ⟨b, o', he, hrc⟩ := hR.pos (by omega) hpos
      simp only [Option.some.injEq, Addr.mk.injEq] at he
      obtain ⟨rfl, rfl, _⟩ := he
      exact hrc
theorem okFl_cons {f : Fld} {r : List Fld} {v : Int} {q : Bool} {y : Tre} {i : Nat} (h : okFl (f :: r) v q y i) : ((if f.tag < 0 then hasB f v = true else q = true) → okV f v q (y.at_ i)) ∧ okFl r v q y (i + 1) := by simpa only [okFl] using h
theorem okV_s {k a b nul tag d o : Int} {sub : List Fld} {v : Int} {q : Bool} {y : Tre} (h11 : k ≠ 11) (h10 : k ≠ 10) (h : okV (.mk k a b nul tag d o sub) v q y) : okS k nul v y := by simpa only [okV, if_neg h11, if_neg h10] using h
theorem okV_l {a b nul tag d o : Int} {sub : List Fld} {v : Int} {q : Bool} {y : Tre} (h : okV (.mk 11 a b nul tag d o sub) v q y) : y.l.length ≤ 32767 ∧ (y.z = true → (nul ≥ 0 ∧ v ≥ nul) ∨ y.l = []) ∧ ∀ i, (hi : i < (els y).length) → if o = 10 then okP sub v q (els y)[i] else okS o (-1) v (els y)[i] := by
  simp only [okV, if_true] at h
  refine ⟨h.1, h.2.1, ?_⟩
  unfold els
  cases hz : y.z
  · exact fun i hi => h.2.2 i hi
  · exact fun i hi => by simp at hi
theorem drop_enc {l : List Tre} {f : Tre → List UInt8} {i : Nat} (hi : i < l.length) {T : List UInt8} : (l.drop i).flatMap f ++ T = f l[i] ++ ((l.drop (i + 1)).flatMap f ++ T) := by
  rw [List.drop_eq_getElem_cons hi, List.flatMap_cons, List.append_assoc]
theorem hasB_all {k nul tag d o v : Int} {sub : List Fld} (h0 : 0 ≤ v) : hasB (.mk k 0 (-1) nul tag d o sub) v = true := by simp [hasB, Fld.frm, Fld.to, h0]
theorem hasB_from {k a nul tag d o v : Int} {sub : List Fld} : hasB (.mk k a (-1) nul tag d o sub) v = decide (v ≥ a) := by
  have e : hasB (.mk k a (-1) nul tag d o sub) v = (decide (a ≤ v) && (decide ((-1 : Int) < 0) || decide (v ≤ -1))) := rfl
  rw [e]
  simp
theorem hasB_to {k a b nul tag d o v : Int} {sub : List Fld} (hb : ¬ b < 0) : hasB (.mk k a b nul tag d o sub) v = decide (v ≥ a ∧ v ≤ b) := by
  have e : hasB (.mk k a b nul tag d o sub) v = (decide (a ≤ v) && (decide (b < 0) || decide (v ≤ b))) := rfl
  rw [e, decide_eq_false hb, Bool.eq_iff_iff]
  simp
theorem okV_get {f : Fld} {v : Int} {q : Bool} {y : Tre} (k : (if f.tag < 0 then hasB f v = true else q = true) → okV f v q y) (ht : f.tag < 0) (hh : hasB f v = true) : okV f v q y := k (by rw [if_pos ht]; exact hh)
section
variable {Lc T Full : List UInt8} {v : Int} {q : Bool} {y : Tre}
theorem vt_open {fs : List Fld} {nl : Bool} (hk : known fs = 0) (ho : okU (known fs) q y.u) (hE : Lc ++ (valueB 10 fs nl v q y ++ T) = Full) : Lc ++ (plainB fs v q y 0 ++ ((if q then uvar y.u.length ++ y.u.flatMap tagB else []) ++ T)) = Full := pt_open hk ho (by simpa only [valueB, if_true] using hE)
theorem ls_open {a b nul tag d o : Int} {sub : List Fld} (hn : ¬ nul ≥ 0) (hl : y.l.length ≤ 32767) (hz : y.z = true → (nul ≥ 0 ∧ v ≥ nul) ∨ y.l = []) (hE : Lc ++ (fieldB (.mk 11 a b nul tag d o sub) v q y ++ T) = Full) : Lc ++ (counted q false (els y).length 4 ++ (((els y).drop 0).flatMap (valueB o sub false v q) ++ T)) = Full := by
  rw [fieldB_l0 hn hl hz, List.append_assoc] at hE
  exact hE
theorem lz_open {a b nul tag d o : Int} {sub : List Fld} (hn : nul ≥ 0) (hv : v ≥ nul) (hl : y.l.length ≤ 32767) (hE : Lc ++ (fieldB (.mk 11 a b nul tag d o sub) v q y ++ T) = Full) : Lc ++ (counted q y.z (els y).length 4 ++ (((els y).drop 0).flatMap (valueB o sub false v q) ++ T)) = Full := by
  rw [fieldB_lz hn hv hl, List.append_assoc] at hE
  exact hE
theorem ls_step {l : List Tre} {f : Tre → List UInt8} {i : Nat} (hi : i < l.length) (hE : Lc ++ ((l.drop i).flatMap f ++ T) = Full) : Lc ++ (f l[i] ++ ((l.drop (i + 1)).flatMap f ++ T)) = Full := by rwa [drop_enc hi] at hE
theorem ls_end {l : List Tre} {f : Tre → List UInt8} (hE : Lc ++ ((l.drop l.length).flatMap f ++ T) = Full) : Lc ++ T = Full := by simpa using hE
end
section
variable {s : Vw} {sub : List Fld} {y : Tre} {cs : List Value}
theorem RE_part (h : REl s 10 sub y cs) : RMp s sub y cs := by simpa [REl] using h
theorem RE_i8 (h : REl s 1 sub y cs) : cs = [.int .i8 (IntKind.i8.wrap y.n)] := by simpa [REl, RS1] using h
theorem RE_i16 (h : REl s 2 sub y cs) : cs = [.int .i16 (IntKind.i16.wrap y.n)] := by simpa [REl, RS1] using h
theorem RE_i32 (h : REl s 3 sub y cs) : cs = [.int .i32 (IntKind.i32.wrap y.n)] := by simpa [REl, RS1] using h
theorem RE_i64 (h : REl s 4 sub y cs) : cs = [.int .i64 y.n] ∧ I64 y.n := by simpa [REl, RS1] using h
theorem RE_uuid (h : REl s 7 sub y cs) : cs = u8s (uuid y.s) := by simpa [REl, RS1] using h
theorem RE_str (h : REl s 8 sub y cs) : cs = [.string ⟨y.s.toArray⟩] := by simpa [REl, RS1] using h
end
theorem val_sc {k v : Int} {sub : List Fld} {q : Bool} {y : Tre} (h : k ≠ 10) : valueB k sub false v q y = scalarB k false q y := by simp only [valueB, if_neg h]
theorem sub.nil {L : Env} : sub [] L := fun t v h => by simp [lk] at h
theorem uuid16 (l : List UInt8) : ∃ a b c d e f g h i j k m n o p q : Value, u8s (uuid l) = [a, b, c, d, e, f, g, h, i, j, k, m, n, o, p, q] := by
  have h1 : (u8s (uuid l)).length = 16 := by rw [u8s_length, uuid_length]
  match u8s (uuid l), h1 with
  | [a, b, c, d, e, f, g, h, i, j, k, m, n, o, p, q], _ => exact ⟨a, b, c, d, e, f, g, h, i, j, k, m, n, o, p, q, rfl⟩
end K
end Go.Proofs.YtjjfpdofkdolnaaDoor
namespace Go.Proofs.YtjjfpdofkdolnaaDoor
namespace K
open Go Go.Lib
section neq
variable {P : Program} {S : World → Prop} {d : Option Nat} {g : Option (Nat × Bool)} {t u ty : TypeId} {pos : String} {af : Array Edge} {n : Nat} {L : Env} {x y : Operand}
theorem pv_neqP {e : TypeId} {b : Option Addr} (hu : P.underlying t = some (.pointer e)) (hx : ev L x = some (.pointer b)) (hy : ev L y = some (.pointer none)) :
    PV P S ⟨d, .binOp .neq t x y u, ty, pos, af, g⟩ n L (.bool b.isSome) := fun a w hF _ => by
  cases b <;> simp [execOp, hF.ev hx, hF.ev hy, eqGuard, binOp, run_eqP w hu]
end neq
section
variable {n : Nat} {L : Env} {H0 : Hp} {C : Cx} {s : Vw} {N R : Act → World → Prop} {X : List (Nat × (Act → World → Prop))}
variable {id id' id1 id2 id3 : Nat} {td x y p d0 d1 d2 d3 d4 d5 d6 : Nat} {vd val : Value} {Lc bs rest Full : List UInt8}
variable {ty0 ty1 ty2 ty3 ty4 ty5 ty6 : TypeId} {p0 p1 p2 p3 p4 p5 p6 : String} {a0 a1 a2 a3 a4 a5 a6 : Array Edge}
variable {uy1 uy2 : TypeId} {q : Bool} {T ft e : TypeId} {v : Int} {yy : Tre}
theorem fieldB_sv {k a b nul tag d o : Int} {sub : List Fld} (h11 : k ≠ 11) (h10 : k ≠ 10) (hv : ¬ v ≥ nul) : fieldB (.mk k a b nul tag d o sub) v q yy = scalarB k false q yy := by
  rw [fieldB_sc h11 h10, decide_eq_false hv]
  simp
/-- if the version is below -/
theorem ap_lss {v c : Int} {A B : Code} (hx : lk L x = some (.int .i16 v)) (hf : frs n L [td, d1, d2] = true) (hyes : v < c → Cd Tryd.prog A ⟨N, R, X⟩ n ((td, vd) :: L) (OctRow vd Lc :: H0) C s) (hno : ¬ v < c → Cd Tryd.prog B ⟨N, R, X⟩ n ((td, vd) :: L) (OctRow vd Lc :: H0) C s) :
    Cd Tryd.prog (.seq (.region id [⟨some d1, .move (.tmp x), ty1, p1, a1, none⟩, ⟨some d2, .binOp .lss uy1 (.tmp d1) (.const (.int .i16 c)) uy2, ty2, p2, a2, none⟩].toArray false) (.cond (.tmp d2) A B)) ⟨N, R, X⟩ n ((td, vd) :: L) (OctRow vd Lc :: H0) C s := by
  obtain ⟨hb, hfr, hne⟩ := frs_get hf
  simp only [List.pairwise_cons, List.mem_cons, List.not_mem_nil, or_false, forall_eq_or_imp, forall_eq, List.Pairwise.nil, and_true, false_imp_iff, implies_true] at hb hfr hne
  obtain ⟨f0, f1, f2⟩ := hfr
  obtain ⟨b0, b1, b2⟩ := hb
  have hs : ∀ u1 u2, sub ((td, vd) :: L) ((d2, u2) :: (d1, u1) :: (td, vd) :: L) := fun u1 u2 => .put (by simp [lk_eq, lk_ne, hne]) (.skip f2 (.skip f1 (.skip f0 .rfl')))
  refine cd_sq ?_
  refine cd_region ?_
  refine ln_pv (pv_move (by rw [ev_t, lk_ne (lk_fr f0 hx)]; exact hx)) b1 ?_
  refine ln_pv (pv_lss lk_eq ev_c) b2 ?_
  refine ln_nil (at_cd ?_)
  exact cd_if lk_eq (fun h => cd_sub_ (hs _ _) (hyes h)) (fun h => cd_sub_ (hs _ _) (hno h))
/-- the same, with what follows at hand -/
theorem ap_lssK {v c : Int} {A B : Code} (hx : lk L x = some (.int .i16 v)) (hf : frs n L [td, d1, d2] = true) (hE : Lc ++ (bs ++ rest) = Full)
    (kk : ∀ u v' Lc', Tr s u → Lc' ++ rest = Full → At N n ((td, v') :: L) (OctRow v' Lc' :: H0) C u)
    (hyes : v < c → (∀ u v' Lc', Tr s u → Lc' ++ rest = Full → At N n ((td, v') :: L) (OctRow v' Lc' :: H0) C u) → Cd Tryd.prog A ⟨N, R, X⟩ n ((td, vd) :: L) (OctRow vd Lc :: H0) C s)
    (hno : ¬ v < c → (∀ u v' Lc', Tr s u → Lc' ++ rest = Full → At N n ((td, v') :: L) (OctRow v' Lc' :: H0) C u) → Cd Tryd.prog B ⟨N, R, X⟩ n ((td, vd) :: L) (OctRow vd Lc :: H0) C s) :
    Cd Tryd.prog (.seq (.region id [⟨some d1, .move (.tmp x), ty1, p1, a1, none⟩, ⟨some d2, .binOp .lss uy1 (.tmp d1) (.const (.int .i16 c)) uy2, ty2, p2, a2, none⟩].toArray false) (.cond (.tmp d2) A B)) ⟨N, R, X⟩ n ((td, vd) :: L) (OctRow vd Lc :: H0) C s :=
  ap_lss hx hf (fun h => hyes h kk) (fun h => hno h kk)
/-- an id of sixteen octets -/
theorem ap_uuid {f : FuncId} {fs : Array Field} {k off sz b o by_ : Nat} {fl : Field} {dd : TypeDesc} {cells vs zl : List Value} {z : Value} {d7 : Nat} {tys : Array TypeId} {ty7 ty8 ty9 : TypeId} {p7 p8 p9 : String} {a7 a8 a9 : Array Edge}
    (hx : lk L p = some (.pointer (some ⟨b, o, none⟩))) (hu : Tryd.prog.underlying T = some (.struct fs)) (hk : fs[k]? = some fl) (hsz : (Tryd.prog.info? fl.type).map (·.size) = some (sz + 1)) (ho : fl.offset = off)
    (hd : Tryd.prog.underlying ft = some dd) (hna : aggD dd = true) (hti : TI Tryd.prog ft z 16 by_) (hzl : z.cells = zl.toArray) (hzn : zl.length = 16) (hrc : RC s b o cells) (hvs : (cells.drop off).take 16 = vs) (hvl : vs.length = 16) (h1 : ∀ u ∈ vs, u.oneCell' = true) (hent : Enters Tryd.prog f)
    (hf : frs n L [td, y, d1, d2, d3, d4, d5, d6, d7] = true) (hc : ∀ u, Tr s u → AppC f [.agg vs.toArray] bs u) (hE : Lc ++ (bs ++ rest) = Full) (hB : Full.length ≤ 4398046511104)
    (kk : ∀ u v' Lc', Tr s u → Lc' ++ rest = Full → At N n ((td, v') :: L) (OctRow v' Lc' :: H0) C u) :
    Cd Tryd.prog (.seq (.region id [⟨some d1, .move (.tmp p), ty1, p1, a1, none⟩, ⟨some d2, .nilCheck (.tmp d1), ty2, p2, a2, none⟩, ⟨some d3, .fieldAddr T (.tmp d2) k, ty3, p3, a3, none⟩, ⟨some d4, .load ft (.tmp d3), ty4, p4, a4, none⟩, ⟨some y, .alloc ft, ty5, p5, a5, none⟩, ⟨none, .store ft (.tmp y) (.tmp d4), ty6, p6, a6, none⟩].toArray false)
      (.region id1 [⟨some d5, .move (.tmp td), ty7, p7, a7, none⟩, ⟨some d6, .load ft (.tmp y), ty8, p8, a8, none⟩, ⟨some d7, .call ⟨.value (.func f), [.tmp d5, .tmp d6].toArray, tys⟩, ty9, p9, a9, none⟩, ⟨some td, .assign (.tmp d7), ty0, p0, a0, none⟩].toArray false)) ⟨N, R, X⟩ n ((td, vd) :: L) (OctRow vd Lc :: H0) C s := by
  obtain ⟨hb, hfr, hne⟩ := frs_get hf
  simp only [List.pairwise_cons, List.mem_cons, List.not_mem_nil, or_false, forall_eq_or_imp, forall_eq, List.Pairwise.nil, and_true, false_imp_iff, implies_true] at hb hfr hne
  obtain ⟨f0, fy, g1, g2, g3, g4, g5, g6, g7⟩ := hfr
  obtain ⟨b0, by_', h1', h2, h3, h4, h5, h6, h7⟩ := hb
  refine cd_sq ?_
  refine cd_region ?_
  refine ln_pv (pv_move (by rw [ev_t, lk_ne (lk_fr f0 hx)]; exact hx)) h1' ?_
  refine ln_pv (pv_nilCheck lk_eq) h2 ?_
  refine ln_pv (pv_fieldAddr (off := off) hu hk hsz ho lk_eq rfl) h3 ?_
  refine ln_pv (pv_loadA (cs := vs) hd (by cases dd <;> first | rfl | (simp [aggD] at hna)) hti.size hvl lk_eq fun w hw j v hv => by
    rw [Nat.add_assoc]
    refine hw.rc hrc ?_
    rw [← hvs] at hv
    have hj : j < 16 := by
      have := (List.getElem?_eq_some_iff.1 hv).1
      simp at this
      omega
    rwa [List.getElem?_take_of_lt hj, List.getElem?_drop] at hv) h4 ?_
  refine ln_alloc hti hzl by_' (fun b1 => ?_)
  refine ln_storeW (i := 0) (vs := vs) (v := .agg vs.toArray) rfl lk_eq (by simp [ev_t, lk_eq, lk_ne, hne]) rfl (by rw [hzn]; exact hti.size) (by rw [hvl, hzn]) h1 ?_
  refine ln_nil (at_cd ?_)
  refine cd_region ?_
  refine ln_pv (pv_move (v := vd) (by simp [ev_t, lk_eq, lk_ne, hne])) h5 ?_
  refine ln_pv (pv_ldO (i := 0) (l := vs) rfl hd (by cases dd <;> first | rfl | (simp [aggD] at hna)) hti.size (by simp [ev_t, lk_eq, lk_ne, hne]) hvl) h6 ?_
  refine ln_callT (i := 1) (vals := [vd, .agg vs.toArray]) hent (by simp [evs, ev_t, lk_eq, lk_ne, hne]) rfl (fun u hu hok hav => hc u hu _ _ (app_len hE hB) hok hav) h7 ?_
  rintro u v' _ ht ⟨_, ⟨rfl, _⟩, _⟩
  refine ln_pv (pv_assign (v := v') lk_eq) b0 ?_
  refine ln_nil (at_sub (sub.cons (.skip g7 (.skip g6 (.skip g5 (.skip fy (.skip g4 (.skip g3 (.skip g2 (.skip g1 (.skip f0 .rfl')))))))))) ?_)
  exact fun a w hF hS => kk u v' _ ht (app_step hE) a w hF (hS.sub (List.Sublist.cons _ (List.Sublist.refl _)))
/-- if the text is at hand, it is taken -/
theorem ap_deref {c : Value} (hx : lk L x = some c) (hT : Txt s c yy) (hz : yy.z = false) (hu : Tryd.prog.underlying T = some (.pointer e)) (hft : Tryd.prog.underlying ft = some .string) (hf : frs n L [td, y, d0, d1, d2, d3, d4] = true)
    (kk : At N n ((td, vd) :: (y, .string ⟨yy.s.toArray⟩) :: L) (OctRow vd Lc :: H0) C s) :
    Cd Tryd.prog (.seq (.region id [⟨some d0, .move (.tmp x), ty0, p0, a0, none⟩, ⟨some d1, .binOp .neq T (.tmp d0) (.const (.pointer none)) uy2, ty1, p1, a1, none⟩].toArray false)
      (.cond (.tmp d1) (.region id1 [⟨some d2, .move (.tmp x), ty2, p2, a2, none⟩, ⟨some d3, .nilCheck (.tmp d2), ty3, p3, a3, none⟩, ⟨some d4, .load ft (.tmp d3), ty4, p4, a4, none⟩, ⟨some y, .assign (.tmp d4), ty5, p5, a5, none⟩].toArray false) .skip)) ⟨N, R, X⟩ n ((td, vd) :: L) (OctRow vd Lc :: H0) C s := by
  obtain ⟨hb, hfr, hne⟩ := frs_get hf
  simp only [List.pairwise_cons, List.mem_cons, List.not_mem_nil, or_false, forall_eq_or_imp, forall_eq, List.Pairwise.nil, and_true, false_imp_iff, implies_true] at hb hfr hne
  obtain ⟨f0, fy, g0, g1, g2, g3, g4⟩ := hfr
  obtain ⟨b0, by_, h0, h1, h2, h3, h4⟩ := hb
  rcases hT with ⟨hzt, _⟩ | ⟨_, gg, z, rfl, hrc, hzs⟩
  · rw [hz] at hzt; cases hzt
  have hzz : (⟨yy.s.toArray⟩ : ByteArray) = z := by
    rw [← hzs]
    unfold strB
    cases z
    simp
  rw [hzz] at kk
  refine cd_sq ?_
  refine cd_region ?_
  refine ln_pv (pv_move (by rw [ev_t, lk_ne (lk_fr f0 hx)]; exact hx)) h0 ?_
  refine ln_pv (pv_neqP hu lk_eq ev_c) h1 ?_
  refine ln_nil (at_cd ?_)
  have hs : ∀ u1 u2, sub ((td, vd) :: L) ((d1, u2) :: (d0, u1) :: (td, vd) :: L) := fun u1 u2 => .put (by simp [lk_eq, lk_ne, hne]) (.skip g1 (.skip g0 (.skip f0 .rfl')))
  refine cd_cond lk_eq (fun h => cd_sub_ (hs _ _) ?_) (fun h => by simp at h)
  refine cd_region ?_
  refine ln_pv (pv_move (by rw [ev_t, lk_ne (lk_fr f0 hx)]; exact hx)) h2 ?_
  refine ln_pv (pv_nilCheck lk_eq) h3 ?_
  refine ln_pv (pv_ldr (j := 0) hrc hft rfl lk_eq rfl) h4 ?_
  refine ln_pv (pv_assign lk_eq) by_ ?_
  exact ln_nil (at_sub (.put (by simp [lk_eq, lk_ne, hne]) (.cons (.skip g4 (.skip g3 (.skip g2 (.skip f0 .rfl')))))) kk)
end
end K
end Go.Proofs.YtjjfpdofkdolnaaDoor
namespace Go.Proofs.YtjjfpdofkdolnaaDoor
namespace K
open Go Go.Lib
theorem RC.dropk {s : Vw} {b o : Nat} {cs : List Value} (h : RC s b o cs) (k : Nat) (hk : k ≤ cs.length) : RC s b (o + k) (cs.drop k) := by
  refine h.sub k (c1 := cs.take k) (c3 := []) ?_ (by simp; omega)
  rw [List.append_nil, List.take_append_drop]
section
variable {n : Nat} {L : Env} {H0 : Hp} {C : Cx} {s : Vw} {N R : Act → World → Prop} {X : List (Nat × (Act → World → Prop))}
variable {id id' id1 id2 id3 : Nat} {td x y p d0 d1 d2 d3 d4 d5 d6 e1 e2 e3 e4 e5 e6 fx : Nat} {vd val : Value} {Lc bs rest Full : List UInt8} {ts ts' : Array TypeId} {f g : FuncId}
variable {ty0 ty1 ty2 ty3 ty4 ty5 ty6 ty7 : TypeId} {p0 p1 p2 p3 p4 p5 p6 p7 : String} {a0 a1 a2 a3 a4 a5 a6 a7 : Array Edge}
variable {uy1 uy2 uy3 uy4 uy5 uy6 uy7 wy wz : TypeId} {q1 q2 q3 q4 q5 q6 q7 : String} {c1 c2 c3 c4 c5 c6 c7 : Array Edge}
variable {q z : Bool} {T ft e : TypeId} {v : Int} {yy : Tre}
/-- d = &p.F -/
theorem ap_addr {fs : Array Field} {k off sz b o : Nat} {fl : Field} (hx : lk L p = some (.pointer (some ⟨b, o, none⟩))) (hu : Tryd.prog.underlying T = some (.struct fs)) (hk : fs[k]? = some fl) (hsz : (Tryd.prog.info? fl.type).map (·.size) = some (sz + 1)) (ho : fl.offset = off)
    (hf : frs n L [td, y, d1, d2, d3] = true) (kk : At N n ((td, vd) :: (y, .pointer (some ⟨b, o + off, none⟩)) :: L) (OctRow vd Lc :: H0) C s) :
    Cd Tryd.prog (.region id [⟨some d1, .move (.tmp p), ty1, p1, a1, none⟩, ⟨some d2, .nilCheck (.tmp d1), ty2, p2, a2, none⟩, ⟨some d3, .fieldAddr T (.tmp d2) k, ty3, p3, a3, none⟩, ⟨some y, .assign (.tmp d3), ty4, p4, a4, none⟩].toArray false) ⟨N, R, X⟩ n ((td, vd) :: L) (OctRow vd Lc :: H0) C s := by
  obtain ⟨hb, hfr, hne⟩ := frs_get hf
  simp only [List.pairwise_cons, List.mem_cons, List.not_mem_nil, or_false, forall_eq_or_imp, forall_eq, List.Pairwise.nil, and_true, false_imp_iff, implies_true] at hb hfr hne
  obtain ⟨f0, fy, f1, f2, f3⟩ := hfr
  obtain ⟨b0, by_, b1, b2, b3⟩ := hb
  refine cd_region ?_
  refine ln_pv (pv_move (by rw [ev_t, lk_ne (lk_fr f0 hx)]; exact hx)) b1 ?_
  refine ln_pv (pv_nilCheck lk_eq) b2 ?_
  refine ln_pv (pv_fieldAddr hu hk hsz ho lk_eq rfl) b3 ?_
  refine ln_pv (pv_assign lk_eq) by_ ?_
  exact ln_nil (at_sub (.put (by simp [lk_eq, lk_ne, hne]) (.cons (.skip f3 (.skip f2 (.skip f1 (.skip f0 .rfl')))))) kk)
theorem fieldB_p {a b nul tag d o : Int} {sub : List Fld} (hn : ¬ nul ≥ 0) : fieldB (.mk 10 a b nul tag d o sub) v q yy = partB sub v q yy := by
  simp [fieldB, partB, hn]
theorem fp_open {a b nul tag d o : Int} {sub : List Fld} {T' : List UInt8} (hn : ¬ nul ≥ 0) (hk : known sub = 0) (ho : okU (known sub) q yy.u) (hE : Lc ++ (fieldB (.mk 10 a b nul tag d o sub) v q yy ++ T') = Full) : Lc ++ (plainB sub v q yy 0 ++ ((if q then uvar yy.u.length ++ yy.u.flatMap tagB else []) ++ T')) = Full :=
  pt_open hk ho (by rwa [fieldB_p hn] at hE)
theorem okV_p {a b nul tag d o : Int} {sub : List Fld} (hn : nul < 0) (h : okV (.mk 10 a b nul tag d o sub) v q yy) : okFl sub v q yy 0 ∧ okU (known sub) q yy.u := by
  simp only [okV] at h
  exact h.2 (.inl hn)
/-- td = f(td, len(x), x == nil) -/
theorem ap_callLN {e : TypeId} {ad : Option Addr} {m c : Nat} (hent : Enters Tryd.prog f) (hu : Tryd.prog.underlying T = some (.slice e)) (hx : lk L x = some (.slice ad m c)) (hz : ad.isNone = z) (hf : frs n L [td, d1, d2, d3, d4, d5, d6] = true) (hc : ∀ u, Tr s u → AppC f [.int .i64 (m : Int), .bool z] bs u) (hE : Lc ++ (bs ++ rest) = Full) (hB : Full.length ≤ 4398046511104)
    (kk : ∀ u v' Lc', Tr s u → Lc' ++ rest = Full → At N n ((td, v') :: L) (OctRow v' Lc' :: H0) C u) :
    Cd Tryd.prog (.region id [⟨some d1, .move (.tmp td), ty1, p1, a1, none⟩, ⟨some d2, .move (.tmp x), ty2, p2, a2, none⟩, ⟨some d3, .call ⟨.builtin .len, #[.tmp d2], #[T]⟩, ty3, p3, a3, none⟩, ⟨some d4, .move (.tmp x), ty4, p4, a4, none⟩, ⟨some d5, .binOp .eql T (.tmp d4) (.const (.slice none 0 0)) wy, ty5, p5, a5, none⟩, ⟨some d6, .call ⟨.value (.func f), [.tmp d1, .tmp d3, .tmp d5].toArray, ts⟩, ty6, p6, a6, none⟩, ⟨some td, .assign (.tmp d6), ty7, p7, a7, none⟩].toArray false) ⟨N, R, X⟩ n ((td, vd) :: L) (OctRow vd Lc :: H0) C s := by
  subst hz
  obtain ⟨hb, hfr, hne⟩ := frs_get hf
  simp only [List.pairwise_cons, List.mem_cons, List.not_mem_nil, or_false, forall_eq_or_imp, forall_eq, List.Pairwise.nil, and_true, false_imp_iff, implies_true] at hb hfr hne
  obtain ⟨f0, f1, f2, f3, f4, f5, f6⟩ := hfr
  obtain ⟨b0, b1, b2, b3, b4, b5, b6⟩ := hb
  refine cd_region ?_
  refine ln_pv (pv_move (v := vd) lk_eq) b1 ?_
  refine ln_pv (pv_move (by rw [ev_t, lk_ne (lk_fr f1 hx), lk_ne (lk_fr f0 hx)]; exact hx)) b2 ?_
  refine ln_pv (pv_len_slice hu lk_eq) b3 ?_
  refine ln_pv (pv_move (by rw [ev_t, lk_ne (lk_fr f3 hx), lk_ne (lk_fr f2 hx), lk_ne (lk_fr f1 hx), lk_ne (lk_fr f0 hx)]; exact hx)) b4 ?_
  refine ln_pv (pv_eqS hu lk_eq ev_c) b5 ?_
  refine ln_callT (i := 0) (vals := [vd, .int .i64 (m : Int), .bool ad.isNone]) hent (by simp [evs, ev_t, lk_eq, lk_ne, hne]) rfl (fun u hu hok hav => hc u hu _ _ (app_len hE hB) hok hav) b6 ?_
  rintro u v' _ ht ⟨_, ⟨rfl, h1⟩, _⟩
  refine ln_pv (pv_assign (v := v') lk_eq) b0 ?_
  exact ln_nil (at_sub (sub.cons (.skip f6 (.skip f5 (.skip f4 (.skip f3 (.skip f2 (.skip f1 (.skip f0 .rfl')))))))) (kk u v' _ ht (app_step hE)))
theorem ap_flexLN {e : TypeId} {ad : Option Addr} {m c : Nat} {T' : TypeId} (hq : lk L fx = some (.bool q)) (hent : Enters Tryd.prog f) (heng : Enters Tryd.prog g) (hu : Tryd.prog.underlying T = some (.slice e)) (hx : lk L x = some (.slice ad m c)) (hz : ad.isNone = z) (hf : frs n L [td, d0] = true) (hf1 : frs n L [td, d1, d2, d3, d4, d5, d6] = true) (hf2 : frs n L [td, e1, e2, e3, e4, e5, e6] = true)
    (hc : q = true → ∀ u, Tr s u → AppC f [.int .i64 (m : Int), .bool z] bs u) (hc' : q = false → ∀ u, Tr s u → AppC g [.int .i64 (m : Int), .bool z] bs u) (hE : Lc ++ (bs ++ rest) = Full) (hB : Full.length ≤ 4398046511104)
    (kk : ∀ u v' Lc', Tr s u → Lc' ++ rest = Full → At N n ((td, v') :: L) (OctRow v' Lc' :: H0) C u) :
    Cd Tryd.prog (.seq (.region id [⟨some d0, .move (.tmp fx), ty0, p0, a0, none⟩].toArray false) (.cond (.tmp d0)
      (.region id1 [⟨some d1, .move (.tmp td), ty1, p1, a1, none⟩, ⟨some d2, .move (.tmp x), ty2, p2, a2, none⟩, ⟨some d3, .call ⟨.builtin .len, #[.tmp d2], #[T]⟩, ty3, p3, a3, none⟩, ⟨some d4, .move (.tmp x), ty4, p4, a4, none⟩, ⟨some d5, .binOp .eql T (.tmp d4) (.const (.slice none 0 0)) wy, ty5, p5, a5, none⟩, ⟨some d6, .call ⟨.value (.func f), [.tmp d1, .tmp d3, .tmp d5].toArray, ts⟩, ty6, p6, a6, none⟩, ⟨some td, .assign (.tmp d6), ty7, p7, a7, none⟩].toArray false)
      (.region id2 [⟨some e1, .move (.tmp td), uy1, q1, c1, none⟩, ⟨some e2, .move (.tmp x), uy2, q2, c2, none⟩, ⟨some e3, .call ⟨.builtin .len, #[.tmp e2], #[T]⟩, uy3, q3, c3, none⟩, ⟨some e4, .move (.tmp x), uy4, q4, c4, none⟩, ⟨some e5, .binOp .eql T (.tmp e4) (.const (.slice none 0 0)) wz, uy5, q5, c5, none⟩, ⟨some e6, .call ⟨.value (.func g), [.tmp e1, .tmp e3, .tmp e5].toArray, ts'⟩, uy6, q6, c6, none⟩, ⟨some td, .assign (.tmp e6), uy7, q7, c7, none⟩].toArray false))) ⟨N, R, X⟩ n ((td, vd) :: L) (OctRow vd Lc :: H0) C s :=
  ap_test hq hf (fun h => ap_callLN hent hu hx hz hf1 (hc h) hE hB kk) (fun h => ap_callLN heng hu hx hz hf2 (hc' h) hE hB kk)
end
end K
end Go.Proofs.YtjjfpdofkdolnaaDoor
namespace Go.Proofs.YtjjfpdofkdolnaaDoor
namespace K
open Go Go.Lib
/-! ### Arrays of octets held against one another -/
def eqElems (d : Nat) (e : TypeId) (n : Nat) (xs ys : Array Value) : List Nat → Sem Bool
  | [] => pure true
  | i :: r => do
    let a ← part e xs (i * n)
    let b ← part e ys (i * n)
    let q ← Op.equalIn d e a b
    if (!q) = true then pure false else eqElems d e n xs ys r
theorem ar_run_equalIn_arr {P : Program} (w : World) (d : Nat) (t e : TypeId) (m : Nat) (xs ys : Array Value) (ht : P.underlying t = some (.array m e)) {ii : TypeInfo} (hi : P.info? e = some ii) :
    (Op.equalIn (d + 1) t (.agg xs) (.agg ys)).run P w = (eqElems d e ii.size xs ys (List.range' 0 m)).run P w := by
  have hs : ∀ w, (sizeOf e).run P w = .ok ii.size w := fun w => by simp [sizeOf, typeInfo, hi, Result.andThen]
  simp only [Op.equalIn, Sem.run_bind, run_underlying ht, Result.andThen_ok, hs]
  simp only [Std.Legacy.Range.forIn_eq_forIn_range', Std.Legacy.Range.size, Nat.sub_zero, Nat.add_sub_cancel, Nat.div_one]
  generalize List.range' 0 m = l
  clear ht
  induction l generalizing w with
  | nil => simp [eqElems]
  | cons f fs ih =>
    simp only [List.forIn_cons, eqElems, Sem.run_bind]
    generalize (part e xs (f * ii.size)).run P w = r1
    cases r1 with
    | ok a w1 =>
      simp only [Result.andThen_ok]
      generalize (part e ys (f * ii.size)).run P w1 = r2
      cases r2 with
      | ok b w2 =>
        simp only [Result.andThen_ok]
        generalize (Op.equalIn d e a b).run P w2 = r3
        cases r3 with
        | ok r w3 =>
          cases r
          · simp [Result.andThen_ok]
          · simp only [Result.andThen_ok, Bool.not_true, Bool.false_eq_true, if_false, Sem.run_pure, Sem.run_ite]
            exact ih w3
        | halt x w3 => simp [Result.andThen]
      | halt x w2 => simp [Result.andThen]
    | halt x w1 => simp [Result.andThen]
theorem ar_run_part_u8 {P : Program} (w : World) (e : TypeId) (cs : Array Value) (i : Nat) {v : Value} (he : P.underlying e = some (.int .u8)) (hv : cs[i]? = some v) : (part e cs i).run P w = .ok v w := by
  simp [part, isAgg, run_underlying he, Result.andThen, hv]
theorem ar_run_eqElems_u8 {P : Program} (w : World) (d : Nat) (e : TypeId) (he : P.underlying e = some (.int .u8)) (a b : List UInt8) (hl : a.length = b.length) : ∀ (m k : Nat), k + m = a.length →
    (eqElems (d + 1) e 1 (a.map fun x => Value.int .u8 (x.toNat : Int)).toArray (b.map fun x => Value.int .u8 (x.toNat : Int)).toArray (List.range' k m)).run P w = .ok (decide (a.drop k = b.drop k)) w
  | 0, k, h => by
    have h1 : a.drop k = [] := List.drop_eq_nil_of_le (by omega)
    have h2 : b.drop k = [] := List.drop_eq_nil_of_le (by omega)
    simp [eqElems, h1, h2]
  | m + 1, k, h => by
    have hka : k < a.length := by omega
    have hkb : k < b.length := by omega
    have h1 : ((a.map fun x => Value.int .u8 (x.toNat : Int)).toArray)[k * 1]? = some (.int .u8 (a[k].toNat : Int)) := by simp [hka]
    have h2 : ((b.map fun x => Value.int .u8 (x.toNat : Int)).toArray)[k * 1]? = some (.int .u8 (b[k].toNat : Int)) := by simp [hkb]
    have ih := ar_run_eqElems_u8 w d e he a b hl m (k + 1) (by omega)
    simp only [List.range'_succ, eqElems, Sem.run_bind, ar_run_part_u8 w e _ _ he h1, ar_run_part_u8 w e _ _ he h2, Result.andThen_ok, run_equalIn_int w d e .u8 .u8 _ _ he]
    rw [List.drop_eq_getElem_cons hka, List.drop_eq_getElem_cons hkb]
    by_cases hq : a[k] = b[k]
    · simp only [hq, beq_self_eq_true, Bool.not_true, Bool.false_eq_true, if_false, List.cons.injEq, true_and]
      exact ih
    · have h3 : ¬ ((a[k].toNat : Int) = (b[k].toNat : Int)) := fun h => hq (UInt8.toNat_inj.1 (by omega))
      have h4 : ¬ (a[k] :: a.drop (k + 1) = b[k] :: b.drop (k + 1)) := fun h => hq (List.cons.inj h).1
      rw [decide_eq_false h4]
      simp [h3]

section
variable {P : Program} {S : World → Prop} {d : Option Nat} {g : Option (Nat × Bool)} {t u e ty : TypeId} {pos : String} {af : Array Edge} {n : Nat} {L : Env} {x y : Operand}
theorem pv_neqA {m : Nat} {ii : TypeInfo} {a b : List UInt8} (hu : P.underlying t = some (.array m e)) (he : P.underlying e = some (.int .u8)) (hi : P.info? e = some ii) (h1 : ii.size = 1) (hm : P.eqGuardType P.depth t = false) (hx : ev L x = some (.agg (u8s a).toArray)) (hy : ev L y = some (.agg (u8s b).toArray)) (ha : a.length = m) (hb : b.length = m) :
    PV P S ⟨d, .binOp .neq t x y u, ty, pos, af, g⟩ n L (.bool (!decide (a = b))) := fun ac w hF _ => by
  have h2 := ar_run_equalIn_arr (P := P) w 9999 t e m (u8s a).toArray (u8s b).toArray hu hi
  rw [h1] at h2
  have h3 := ar_run_eqElems_u8 (P := P) w 9998 e he a b (by omega) m 0 (by omega)
  simp only [List.drop_zero] at h3
  have h4 : (Op.equalIn 10000 t (.agg (u8s a).toArray) (.agg (u8s b).toArray)).run P w = .ok (decide (a = b)) w := h2.trans h3
  simp only [execOp, hF.ev hx, hF.ev hy, Sem.run_bind, run_eqGuard_agg w .neq t x y _ _ hm, Result.andThen_ok, run_neq_struct, h4]
  rfl
theorem pv_neqA' {m : Nat} {a b : List UInt8} (hu : P.underlying t = some (.array m e)) (he : P.underlying e = some (.int .u8)) (hsz : (P.info? e).map (·.size) = some 1) (hm : P.eqGuardType P.depth t = false) (hx : ev L x = some (.agg (u8s a).toArray)) (hy : ev L y = some (.agg (u8s b).toArray)) (ha : a.length = m) (hb : b.length = m) :
    PV P S ⟨d, .binOp .neq t x y u, ty, pos, af, g⟩ n L (.bool (!decide (a = b))) := by
  obtain ⟨ii, hi, h1⟩ := Option.map_eq_some_iff.1 hsz
  exact pv_neqA hu he hi h1 hm hx hy ha hb
theorem pv_ldSub {H : Hp} {s : Vw} {b o off m : Nat} {cells vs : List Value} {dd : TypeDesc} (hrc : RC s b o cells) (hd : P.underlying t = some dd) (hna : aggD dd = true) (hsz : (P.info? t).map (·.size) = some m) (hvs : (cells.drop off).take m = vs) (hvl : vs.length = m) (hx : ev L x = some (.pointer (some ⟨b, o + off, none⟩))) :
    PV P (Sk s H) ⟨d, .load t x, ty, pos, af, g⟩ n L (.agg vs.toArray) :=
  pv_loadA (cs := vs) hd (by cases dd <;> first | rfl | (simp [aggD] at hna)) hsz hvl hx fun w hw j v hv => by
    rw [Nat.add_assoc]
    refine hw.rc hrc ?_
    rw [← hvs] at hv
    have hj : j < m := by
      have := (List.getElem?_eq_some_iff.1 hv).1
      simp at this
      omega
    rwa [List.getElem?_take_of_lt hj, List.getElem?_drop] at hv
theorem pv_build0 {m sz by_ : Nat} {z : Value} {cs : List Value} (hu : P.underlying t = some (.array m e)) (hti : TI P t z sz by_) (hz : z.cells = cs.toArray) (hsz : (P.info? e).isSome = true) : PV P S ⟨d, .build t [].toArray, ty, pos, af, g⟩ n L (.agg cs.toArray) := fun ac w hF _ => by
  obtain ⟨ii, hi, h1, h2, h3⟩ := info_parts hti
  obtain ⟨jj, hj⟩ := Option.isSome_iff_exists.1 hsz
  simp [execOp, Instr.build, zeroValue, typeInfo, hi, h1, run_underlying hu, sizeOf, hj, Result.andThen, Instr.fill, hz]
end
end K
end Go.Proofs.YtjjfpdofkdolnaaDoor
namespace Go.Proofs.YtjjfpdofkdolnaaDoor
namespace K
open Go Go.Lib
/-! ### Jumps back to one label -/
section jumps
variable {P : Program} {n : Nat} {L L' : Env} {H H' : Hp} {C : Cx} {s : Vw} {N R J : Act → World → Prop} {X : List (Nat × (Act → World → Prop))} {p : Post} {c x y : Code} {l : Nat}
def CdG (P : Program) (c : Code) (l : Nat) (J : Act → World → Prop) (p : Post) (n : Nat) (L : Env) (H : Hp) (C : Cx) (s : Vw) : Prop :=
  ∀ a w, Fr n L a → St C s H w → c.wp P (Exit.jump l J p.q) a w
theorem cdG_of (h : Cd P c p n L H C s) : CdG P c l J p n L H C s := fun a w hF hS => Code.wp_mono (fun e a w hq => by
  cases e <;> first | exact hq | exact (hq : False).elim) (h a w hF hS)
theorem cdG_sq (h : Cd P x ⟨y.wp P (Exit.jump l J (Post.q ⟨N, R, X⟩)), R, X⟩ n L H C s) : CdG P (.seq x y) l J ⟨N, R, X⟩ n L H C s := fun a w hF hS => by
  refine wp_seq (Code.wp_mono (fun e a w hq => ?_) (h a w hF hS))
  cases e <;> first | exact hq | exact (hq : False).elim
theorem at_cdG (h : CdG P y l J p n L H C s) : At (y.wp P (Exit.jump l J p.q)) n L H C s := h
theorem cdG_label {k : Nat} (h : CdG P y l J p n L H C s) : CdG P (.seq (.label k) y) l J p n L H C s := fun a w hF hS => wp_seq (wp_label (h a w hF hS))
theorem cdG_goto (h : At J n L H C s) : CdG P (.goto l) l J p n L H C s := fun a w hF hS => wp_goto ⟨rfl, h a w hF hS⟩
theorem cdG_tt {o : Operand} (hc : ev L o = some (.bool true)) (h : CdG P x l J p n L H C s) : CdG P (.cond o x y) l J p n L H C s := fun a w hF hS => wp_cond_true (hF.ev hc) (h a w hF hS)
theorem cdG_sub (h : sub L' L) (k : CdG P c l J p n L' H C s) : CdG P c l J p n L H C s := fun a w hF hS => k a w (hF.drop h) hS
theorem cd_label {k : Nat} (h : Cd P y p n L H C s) : Cd P (.seq (.label k) y) p n L H C s := fun a w hF hS => wp_seq (wp_label (h a w hF hS))
/-- a scope with one jump back: what holds at the jump is told by z -/
theorem cd_scopeJ {S : Type} {rest : Code} (l : Nat) (Lj : S → Env) (Hj : S → Hp) (I : S → Vw → Prop) (hf : findLabel c l = some rest)
    (first : CdG P c l (fun a w => ∃ z u, Tr s u ∧ I z u ∧ Fr n (Lj z) a ∧ St C u (Hj z) w) ⟨N, R, X⟩ n L H C s)
    (pass : ∀ z u, Tr s u → I z u → Cd P rest ⟨N, R, X⟩ n (Lj z) (Hj z) C u) : Cd P (.scope c) ⟨N, R, X⟩ n L H C s := fun a w hF hS =>
  wp_scope_jumps l _ (fun _ _ => 0) hf (first a w hF hS) (by
    rintro a w ⟨z, u, h1, h2, h3, h4⟩
    exact Code.wp_mono (fun e a w hq => by cases e <;> first | exact hq | exact (hq : False).elim) (pass z u h1 h2 a w h3 h4))
theorem at_jump {S : Type} {Lj : S → Env} {Hj : S → Hp} {I : S → Vw → Prop} {s0 : Vw} (z : S) (ht : Tr s0 s) (hI : ∀ u, Tr s u → I z u) (hL : sub (Lj z) L) (hH : (Hj z).Sublist H) :
    At (fun a w => ∃ z u, Tr s0 u ∧ I z u ∧ Fr n (Lj z) a ∧ St C u (Hj z) w) n L H C s := fun a w hF hS => by
  have hS0 := hS.sub hH
  exact ⟨z, hS0.vw, ht.trans hS0.tr, hI _ hS0.tr, hF.drop hL, hS0.rebase⟩
/-- a scope without a jump -/
theorem cd_scope0 (h : Cd P c ⟨N, R, X⟩ n L H C s) : Cd P (.scope c) ⟨N, R, X⟩ n L H C s := fun a w hF hS =>
  wp_scope_straight (Code.wp_mono (fun e a w hq => by cases e <;> first | exact hq | exact (hq : False).elim) (h a w hF hS))
end jumps
/-! ### A row that is cut -/
theorem owns_cut {w : World} {base : Nat} {e : TypeId} {sz k m : Nat} {ad : Option Addr} {cap : Nat} {xs : List Value} (h : w.ownsRow base e sz (.slice ad m cap) m xs) (hk : k ≤ m) (h0 : 0 < m) : w.ownsRow base e sz (.slice ad k cap) k (xs.take (k * sz)) := by
  obtain ⟨hl, h1 | ⟨g, cp, cur, hv, h2, h3, h4, h5, h6, h7⟩⟩ := h
  · omega
  · simp only [Value.slice.injEq] at hv
    obtain ⟨rfl, _, rfl⟩ := hv
    have hm : k * sz ≤ m * sz := Nat.mul_le_mul_right _ hk
    refine ⟨by rw [List.length_take]; omega, .inr ⟨g, cap, cur, rfl, h2, h3, by omega, h5, h6, ?_⟩⟩
    rw [← h7, List.take_take, Nat.min_eq_left hm]
section
variable {n : Nat} {L : Env} {H0 : Hp} {C : Cx} {s : Vw} {N R : Act → World → Prop} {X : List (Nat × (Act → World → Prop))}
variable {id id' id1 id2 id3 : Nat} {td x y p sz la d0 d1 d2 d3 d4 d5 d6 d7 d8 d9 d10 : Nat} {vd val : Value} {Lc bs rest Full : List UInt8} {ts : Array TypeId} {f : FuncId}
variable {ty0 ty1 ty2 ty3 ty4 ty5 ty6 ty7 ty8 ty9 ty10 : TypeId} {p0 p1 p2 p3 p4 p5 p6 p7 p8 p9 p10 : String} {a0 a1 a2 a3 a4 a5 a6 a7 a8 a9 a10 : Array Edge} {uy1 uy2 uy3 : TypeId}
variable {q z : Bool} {T ft e : TypeId} {v : Int} {yy : Tre}
theorem ln_rowsh {P : Program} {H : Hp} {ops : Array Oper} {K : Act → World → Prop} {l : List Oper} {i : Nat} {v : Value} {e : TypeId} {sz m : Nat} {xs : List Value} (hi : H[i]? = some (.row v e sz m xs)) (h : ∀ ad cp, v = .slice ad m cp → m ≤ cp → (0 < m → ∃ g, ad = some ⟨g, 0, none⟩) → Ln P ops l K n L H C s) : Ln P ops l K n L H C s := fun a w hF hS => by
  obtain ⟨ad, cp, h1, h2, h3⟩ := ownsRow_shape (hS.hf _ (List.mem_of_getElem? hi))
  exact h ad cp h1 h2 h3 a w hF hS
/-- a row is cut -/
theorem ln_cut {P : Program} {ops : Array Oper} {K : Act → World → Prop} {l : List Oper} {ad : Option Addr} {cp k : Nat} (hk : k ≤ Lc.length) (h0 : 0 < Lc.length) (h : Ln P ops l K n L (OctRow (.slice ad k cp) (Lc.take k) :: H0) C s) : Ln P ops l K n L (OctRow (.slice ad Lc.length cp) Lc :: H0) C s := fun a w hF hS => by
  have h1 := owns_cut (hS.hf _ (List.mem_of_getElem? (i := 0) rfl)) hk h0
  have e1 : (u8s Lc).take (k * 1) = u8s (Lc.take k) := by simp [u8s, List.map_take]
  have e2 : k = (Lc.take k).length := by rw [List.length_take]; omega
  rw [e1] at h1
  refine h a w hF (hS.turn (i := 0) (e' := OctRow (.slice ad k cp) (Lc.take k)) rfl (Mod.refl _ _) ?_ ?_ ?_)
  · show World.ownsRow w 0 _ 1 _ (Lc.take k).length _
    rw [← e2]
    exact h1
  · intro b hb
    refine .inl ?_
    cases ad with
    | none => simp [Ent.blk, Value.ownBlock] at hb
    | some x => simpa [Ent.blk, Value.ownBlock] using hb
  · simp only [Ent.blk, Value.ownBlock]
    cases ad <;> simp
theorem pv_slice_lo {P : Program} {S : World → Prop} {d : Option Nat} {g : Option (Nat × Bool)} {t e ty : TypeId} {pos : String} {af : Array Edge} {o y' : Operand} {k : IntKind} {i : Int} {b : Option Addr} {m c : Nat} (hu : P.underlying t = some (.slice e)) (hsz : (P.info? e).isSome = true) (hx : ev L o = some (.slice b m c)) (hy : ev L y' = some (.int k i)) (h0 : 0 ≤ i) (h1 : i ≤ m) :
    ∃ b', PV P S ⟨d, .slice t o (some y') none none, ty, pos, af, g⟩ n L (.slice b' (m - i.toNat) (c - i.toNat)) := by
  obtain ⟨ii, hi⟩ := Option.isSome_iff_exists.1 hsz
  refine ⟨if c = i.toNat then b else b.map (·.add (i.toNat * ii.size)), fun a w hF _ => ?_⟩
  simp only [execOp, hF.ev hx, hF.ev hy, Instr.sliceAt, Option.map_some, Option.map_none]
  simp [run_underlying hu, Instr.slice, Instr.sliceBounds, sliceBound_run h0 h1, sizeOf, typeInfo, hi, Result.andThen]
/-- td = f(td, c) -/
theorem ap_callK {c : Value} (hent : Enters Tryd.prog f) (hf : frs n L [td, d1, d2] = true) (hc : ∀ u, Tr s u → AppC f [c] bs u) (hE : Lc ++ (bs ++ rest) = Full) (hB : Full.length ≤ 4398046511104)
    (kk : ∀ u v' Lc', Tr s u → Lc' = Lc ++ bs → At N n ((td, v') :: L) (OctRow v' Lc' :: H0) C u) :
    Cd Tryd.prog (.region id [⟨some d1, .move (.tmp td), ty1, p1, a1, none⟩, ⟨some d2, .call ⟨.value (.func f), [.tmp d1, .const c].toArray, ts⟩, ty2, p2, a2, none⟩, ⟨some td, .assign (.tmp d2), ty3, p3, a3, none⟩].toArray false) ⟨N, R, X⟩ n ((td, vd) :: L) (OctRow vd Lc :: H0) C s := by
  obtain ⟨hb, hfr, hne⟩ := frs_get hf
  simp only [List.pairwise_cons, List.mem_cons, List.not_mem_nil, or_false, forall_eq_or_imp, forall_eq, List.Pairwise.nil, and_true, false_imp_iff, implies_true] at hb hfr hne
  obtain ⟨f0, f1, f2⟩ := hfr
  obtain ⟨b0, b1, b2⟩ := hb
  refine cd_region ?_
  refine ln_pv (pv_move (v := vd) lk_eq) b1 ?_
  refine ln_callT (i := 0) (vals := [vd, c]) hent (by simp [evs, ev_t, ev_c, lk_eq, lk_ne, hne]) rfl (fun u hu hok hav => hc u hu _ _ (app_len hE hB) hok hav) b2 ?_
  rintro u v' _ ht ⟨_, ⟨rfl, h1⟩, _⟩
  refine ln_pv (pv_assign (v := v') lk_eq) b0 ?_
  exact ln_nil (at_sub (sub.cons (.skip f2 (.skip f1 (.skip f0 .rfl')))) (kk u v' _ ht rfl))
/-- la = len(td) -/
theorem ap_lenD (hf : frs n L [td, y, d1, d2] = true) (kk : At N n ((td, vd) :: (y, .int .i64 (Lc.length : Int)) :: L) (OctRow vd Lc :: H0) C s) :
    Cd Tryd.prog (.region id [⟨some d1, .move (.tmp td), ty1, p1, a1, none⟩, ⟨some d2, .call ⟨.builtin .len, #[.tmp d1], #[22]⟩, ty2, p2, a2, none⟩, ⟨some y, .assign (.tmp d2), ty3, p3, a3, none⟩].toArray false) ⟨N, R, X⟩ n ((td, vd) :: L) (OctRow vd Lc :: H0) C s := by
  obtain ⟨hb, hfr, hne⟩ := frs_get hf
  simp only [List.pairwise_cons, List.mem_cons, List.not_mem_nil, or_false, forall_eq_or_imp, forall_eq, List.Pairwise.nil, and_true, false_imp_iff, implies_true] at hb hfr hne
  obtain ⟨f0, fy, f1, f2⟩ := hfr
  obtain ⟨b0, by_, b1, b2⟩ := hb
  refine cd_region ?_
  refine ln_pv (pv_move (v := vd) lk_eq) b1 ?_
  refine ln_rowsh (i := 0) rfl (fun ad cp h1 _ _ => ?_)
  subst h1
  refine ln_pv (pv_len_slice Tryd.underlying22 lk_eq) b2 ?_
  refine ln_pv (pv_assign lk_eq) by_ ?_
  exact ln_nil (at_sub (.put (by simp [lk_eq, lk_ne, hne]) (.cons (.skip f2 (.skip f1 (.skip f0 .rfl'))))) kk)
/-- if not yet sized -/
theorem pv_notb {P : Program} {S : World → Prop} {b : Bool} (hx : lk L x = some (.bool b)) : PV P S ⟨some d1, .unOp .not uy1 (.tmp x), ty1, p1, a1, none⟩ n L (.bool !b) := pv_not hx
theorem ap_sized {b : Bool} (hx : lk L sz = some (.bool b)) (hf : frs n L [td, d1, d2] = true) (kk : At N n ((d2, .bool !b) :: (td, vd) :: L) (OctRow vd Lc :: H0) C s) :
    Cd Tryd.prog (.region id [⟨some d1, .move (.tmp sz), ty1, p1, a1, none⟩, ⟨some d2, .unOp .not uy1 (.tmp d1), ty2, p2, a2, none⟩].toArray false) ⟨N, R, X⟩ n ((td, vd) :: L) (OctRow vd Lc :: H0) C s := by
  obtain ⟨hb, hfr, hne⟩ := frs_get hf
  simp only [List.pairwise_cons, List.mem_cons, List.not_mem_nil, or_false, forall_eq_or_imp, forall_eq, List.Pairwise.nil, and_true, false_imp_iff, implies_true] at hb hfr hne
  obtain ⟨f0, f1, f2⟩ := hfr
  obtain ⟨b0, b1, b2⟩ := hb
  refine cd_region ?_
  refine ln_pv (pv_move (by rw [ev_t, lk_ne (lk_fr f0 hx)]; exact hx)) b1 ?_
  refine ln_pv (pv_not lk_eq) b2 ?_
  exact ln_nil (at_sub (.cons (.put (by simp [lk_eq, lk_ne, hne]) (.skip f1 (.skip f0 .rfl')))) kk)
/-- the size is written where the value stood -/
theorem ap_resize {k : Nat} (hla : lk L la = some (.int .i64 (k : Int))) (hent : Enters Tryd.prog f) (hk : k ≤ Lc.length) (hk0 : 0 < Lc.length) (hLm : Lc.length - k ≤ 4294967295) (hf : frs n L [td, d1, d2, d3, d4, d5, d6, d7, d8, d9] = true) (hc : ∀ u, Tr s u → AppC f [.int .u32 ((Lc.length - k : Nat) : Int)] bs u) (hB : k + bs.length ≤ 4398046511104)
    (hok : (seqOk [⟨some d1, .move (.tmp td), ty1, p1, a1, none⟩, ⟨some d2, .move (.tmp la), ty2, p2, a2, none⟩, ⟨some d3, .slice 22 (.tmp d1) none (some (.tmp d2)) none, ty3, p3, a3, none⟩, ⟨some d4, .move (.tmp td), ty4, p4, a4, none⟩, ⟨some d5, .move (.tmp la), ty5, p5, a5, none⟩, ⟨some d6, .slice 22 (.tmp d4) (some (.tmp d5)) none none, ty6, p6, a6, none⟩, ⟨some d7, .call ⟨.builtin .len, #[.tmp d6], #[22]⟩, ty7, p7, a7, none⟩, ⟨some d8, .convert 3 55 (.tmp d7), ty8, p8, a8, none⟩, ⟨some d9, .call ⟨.value (.func f), [.tmp d3, .tmp d8].toArray, ts⟩, ty9, p9, a9, none⟩, ⟨some td, .assign (.tmp d9), ty10, p10, a10, none⟩].toArray [0, 1, 2, 3, 4, 5, 6, 7] [0, 1, 2, 3, 4, 5, 6, 7, 8, 9] (Array.replicate 10 false) && Region.noSelect [⟨some d1, .move (.tmp td), ty1, p1, a1, none⟩, ⟨some d2, .move (.tmp la), ty2, p2, a2, none⟩, ⟨some d3, .slice 22 (.tmp d1) none (some (.tmp d2)) none, ty3, p3, a3, none⟩, ⟨some d4, .move (.tmp td), ty4, p4, a4, none⟩, ⟨some d5, .move (.tmp la), ty5, p5, a5, none⟩, ⟨some d6, .slice 22 (.tmp d4) (some (.tmp d5)) none none, ty6, p6, a6, none⟩, ⟨some d7, .call ⟨.builtin .len, #[.tmp d6], #[22]⟩, ty7, p7, a7, none⟩, ⟨some d8, .convert 3 55 (.tmp d7), ty8, p8, a8, none⟩, ⟨some d9, .call ⟨.value (.func f), [.tmp d3, .tmp d8].toArray, ts⟩, ty9, p9, a9, none⟩, ⟨some td, .assign (.tmp d9), ty10, p10, a10, none⟩].toArray && Nat.beq 10 10) = true)
    (kk : ∀ u v', Tr s u → At N n ((td, v') :: L) (OctRow v' (Lc.take k ++ bs) :: H0) C u) :
    Cd Tryd.prog (.region id [⟨some d1, .move (.tmp td), ty1, p1, a1, none⟩, ⟨some d2, .move (.tmp la), ty2, p2, a2, none⟩, ⟨some d3, .slice 22 (.tmp d1) none (some (.tmp d2)) none, ty3, p3, a3, none⟩, ⟨some d4, .move (.tmp td), ty4, p4, a4, none⟩, ⟨some d5, .move (.tmp la), ty5, p5, a5, none⟩, ⟨some d6, .slice 22 (.tmp d4) (some (.tmp d5)) none none, ty6, p6, a6, none⟩, ⟨some d7, .call ⟨.builtin .len, #[.tmp d6], #[22]⟩, ty7, p7, a7, none⟩, ⟨some d8, .convert 3 55 (.tmp d7), ty8, p8, a8, none⟩, ⟨some d9, .call ⟨.value (.func f), [.tmp d3, .tmp d8].toArray, ts⟩, ty9, p9, a9, none⟩, ⟨some td, .assign (.tmp d9), ty10, p10, a10, none⟩].toArray true) ⟨N, R, X⟩ n ((td, vd) :: L) (OctRow vd Lc :: H0) C s := by
  obtain ⟨hb, hfr, hne⟩ := frs_get hf
  simp only [List.pairwise_cons, List.mem_cons, List.not_mem_nil, or_false, forall_eq_or_imp, forall_eq, List.Pairwise.nil, and_true, false_imp_iff, implies_true] at hb hfr hne
  obtain ⟨f0, f1, f2, f3, f4, f5, f6, f7, f8, f9⟩ := hfr
  obtain ⟨b0, b1, b2, b3, b4, b5, b6, b7, b8, b9⟩ := hb
  have hu8 : (Tryd.prog.info? 5).isSome = true := by
    obtain ⟨ii, h, _⟩ := Option.map_eq_some_iff.1 (tiuint8 : TI Tryd.prog _ _ _ _).size
    exact Option.isSome_iff_exists.2 ⟨ii, h⟩
  refine fun a w hF hS => ?_
  obtain ⟨ad, cp, rfl, hcp, _⟩ := ownsRow_shape (hS.hf _ (List.mem_of_getElem? (i := 0) rfl))
  revert a w
  refine cd_draw' [] [0, 1, 2, 3, 4, 5, 6, 7] [0, 1, 2, 3, 4, 5, 6, 7, 8, 9] mixed hok ?_
  refine lo_pv rfl rfl (sk_js (Tr.refl _) [] rfl) (pv_move (v := .slice ad Lc.length cp) lk_eq) b1 ?_
  refine lo_pv rfl rfl (sk_js (Tr.refl _) [] rfl) (pv_move (by rw [ev_t, lk_ne (lk_fr f1 hla), lk_ne (lk_fr f0 hla)]; exact hla)) b2 ?_
  refine lo_pv rfl rfl (sk_js (Tr.refl _) [] rfl) (pv_slice_hi' (k' := k) Tryd.underlying22 hu8 (by rw [ev_t, lk_ne (by simp [hne]), lk_eq]) lk_eq (by omega) (by omega) (by omega)) b3 ?_
  refine lo_pv rfl rfl (sk_js (Tr.refl _) [] rfl) (pv_move (v := .slice ad Lc.length cp) (by simp [ev_t, lk_eq, lk_ne, hne])) b4 ?_
  refine lo_pv rfl rfl (sk_js (Tr.refl _) [] rfl) (pv_move (by rw [ev_t, lk_ne (lk_fr f4 hla), lk_ne (lk_fr f3 hla), lk_ne (lk_fr f2 hla), lk_ne (lk_fr f1 hla), lk_ne (lk_fr f0 hla)]; exact hla)) b5 ?_
  obtain ⟨b', hsl⟩ := pv_slice_lo (P := Tryd.prog) (S := Sk s (pick [] (OctRow (.slice ad Lc.length cp) Lc :: H0))) (d := some d6) (g := none) (ty := ty6) (pos := p6) (af := a6) (n := n)
    (L := (d5, .int .i64 (k : Int)) :: (d4, .slice ad Lc.length cp) :: (d3, .slice ad k cp) :: (d2, .int .i64 (k : Int)) :: (d1, .slice ad Lc.length cp) :: (td, .slice ad Lc.length cp) :: L) (o := .tmp d4) (y' := .tmp d5) (k := .i64) (i := (k : Int)) (b := ad) (m := Lc.length) (c := cp)
    Tryd.underlying22 hu8 (by rw [ev_t, lk_ne (by simp [hne]), lk_eq]) lk_eq (by omega) (by omega)
  rw [Int.toNat_natCast] at hsl
  refine lo_pv rfl rfl (sk_js (Tr.refl _) [] rfl) hsl b6 ?_
  refine lo_pv rfl rfl (sk_js (Tr.refl _) [] rfl) (pv_len_slice Tryd.underlying22 lk_eq) b7 ?_
  refine lo_pv rfl rfl (sk_js (Tr.refl _) [] rfl) (pv_conv' (k := .i64) (i := ((Lc.length - k : Nat) : Int)) (r := ((Lc.length - k : Nat) : Int)) Tryd.underlying3 Tryd.underlying55 lk_eq (by rw [IntKind.wrap_u32]; omega)) b8 ?_
  refine lo_eff rfl rfl ?_
  refine ln_cut hk hk0 ?_
  refine ln_callT (i := 0) (vals := [.slice ad k cp, .int .u32 ((Lc.length - k : Nat) : Int)]) hent (by simp [evs, ev_t, lk_eq, lk_ne, hne]) rfl (fun u hu hok hav => hc u hu _ _ (by rw [List.length_take]; omega) hok hav) b9 ?_
  rintro u v' _ ht ⟨_, ⟨rfl, h1⟩, _⟩
  refine lo_back (sk_js ht [] rfl) ?_
  refine lo_eff rfl rfl ?_
  refine ln_pv (pv_assign (v := v') lk_eq) b0 ?_
  refine lo_back (sk_js ht [] rfl) ?_
  exact lo_nil (at_sub (sub.cons (.skip f9 (.skip f8 (.skip f7 (.skip f6 (.skip f5 (.skip f4 (.skip f3 (.skip f2 (.skip f1 (.skip f0 .rfl'))))))))))) (kk u v' ht))
end
end K
end Go.Proofs.YtjjfpdofkdolnaaDoor
namespace Go.Proofs.YtjjfpdofkdolnaaDoor
namespace K
open Go Go.Lib
/-! ### A part with one tagged field -/
section plain
variable {fs r : List Fld} {f : Fld} {v : Int} {q : Bool} {y : Tre} {i : Nat} {T Lc Full fb : List UInt8} {us : Bool}
def tg0 (l : List (Int × List UInt8)) : List (Int × List UInt8) := l.filter fun e => decide (e.1 = ((0 : Nat) : Int))
theorem tgf_nil : tg0 (tgB [] v q y i) = [] := rfl
theorem tgf_skip (ht : f.tag ≠ 0) : tg0 (tgB (f :: r) v q y i) = tg0 (tgB r v q y (i + 1)) := by
  have h : ¬ f.tag = ((0 : Nat) : Int) := ht
  simp only [tgB, tg0, List.filter_append]
  by_cases hu : usualB f (y.at_ i) = true
  · simp [hu]
  · simp [hu, ht]
theorem tgf_here (ht : f.tag = 0) (hr : tg0 (tgB r v q y (i + 1)) = []) : tg0 (tgB (f :: r) v q y i) = if usualB f (y.at_ i) then [] else [(0, fieldB f v q (y.at_ i))] := by
  simp only [tgB, tg0, List.filter_append] at hr ⊢
  rw [hr]
  by_cases hu : usualB f (y.at_ i) = true
  · simp [hu]
  · simp [hu, ht]
theorem partB_tag (hk : known fs = 1) (ho : okU (known fs) q y.u) (htg : tg0 (tgB fs v q y 0) = if us then [] else [(0, fb)]) :
    partB fs v q y = plainB fs v q y 0 ++ (if q then uvar ((if us then 0 else 1) + y.u.length) ++ ((if us then [] else tagB (0, fb)) ++ y.u.flatMap tagB) else []) := by
  have e1 : (known fs).toNat = 1 := by rw [hk]; rfl
  cases q with
  | false => simp [partB, partOf]
  | true =>
    have h := (ho rfl).1
    have e2 : (tgB fs v true y 0).filter (fun e => decide (e.1 = ((0 : Nat) : Int))) = if us then [] else [(0, fb)] := htg
    simp only [partB, partOf, e1, h, if_true, List.range_succ, List.range_zero, List.nil_append, List.flatMap_cons, List.flatMap_nil, List.append_nil, e2]
    cases us <;> simp [Nat.add_comm]
theorem pt_open1 (hk : known fs = 1) (ho : okU (known fs) q y.u) (htg : tg0 (tgB fs v q y 0) = if us then [] else [(0, fb)]) (hE : Lc ++ (partB fs v q y ++ T) = Full) :
    Lc ++ (plainB fs v q y 0 ++ ((if q then uvar ((if us then 0 else 1) + y.u.length) ++ ((if us then [] else tagB (0, fb)) ++ y.u.flatMap tagB) else []) ++ T)) = Full := by
  rw [partB_tag hk ho htg, List.append_assoc] at hE
  exact hE
theorem vt_open1 {nl : Bool} (hk : known fs = 1) (ho : okU (known fs) q y.u) (htg : tg0 (tgB fs v q y 0) = if us then [] else [(0, fb)]) (hE : Lc ++ (valueB 10 fs nl v q y ++ T) = Full) :
    Lc ++ (plainB fs v q y 0 ++ ((if q then uvar ((if us then 0 else 1) + y.u.length) ++ ((if us then [] else tagB (0, fb)) ++ y.u.flatMap tagB) else []) ++ T)) = Full :=
  pt_open1 hk ho htg (by simpa only [valueB, if_true] using hE)
theorem okV_tag {P : Prop} (h : (if f.tag < 0 then hasB f v = true else q = true) → P) (ht : ¬ f.tag < 0) (hq : q = true) : P := h (by rw [if_neg ht]; exact hq)
end plain
section
variable {n : Nat} {L : Env} {H0 : Hp} {C : Cx} {s : Vw} {N R : Act → World → Prop} {X : List (Nat × (Act → World → Prop))}
variable {id id' id1 id2 id3 bid : Nat} {td x p te tl ti tc ta tg d0 d1 d2 d3 d4 d5 d6 d7 d8 d9 d10 : Nat} {vd mv : Value} {Lc bs rest Full : List UInt8} {ts ts' : Array TypeId} {ad : Option Addr} {m c : Nat}
variable {ty0 ty1 ty2 ty3 ty4 ty5 ty6 ty7 ty8 ty9 ty10 : TypeId} {p0 p1 p2 p3 p4 p5 p6 p7 p8 p9 p10 : String} {a0 a1 a2 a3 a4 a5 a6 a7 a8 a9 a10 : Array Edge} {uy1 uy2 uy3 uy4 : TypeId}
variable {T TS eU : TypeId} {fs : Array Field} {k off sz b o : Nat} {fl : Field} {cells : List Value} {yy : Tre} {body SC : Code}
theorem pv_ldRow {P : Program} {H : Hp} {d : Option Nat} {g : Option (Nat × Bool)} {t e ty : TypeId} {pos : String} {af : Array Edge} {i gb cp j mm szz : Nat} {xx : Operand} {xs : List Value} {dd : TypeDesc} {vv : Value} (hi : H[i]? = some (.row (.slice (some ⟨gb, 0, none⟩) mm cp) e szz mm xs)) (hd : P.underlying t = some dd) (hna : aggD dd = false)
    (hx : ev L xx = some (.pointer (some ⟨gb, j, none⟩))) (hv : xs[j]? = some vv) : PV P (Sk s H) ⟨d, .load t xx, ty, pos, af, g⟩ n L vv :=
  pv_load1 hd (by cases dd <;> first | rfl | (simp [aggD] at hna)) hx fun w hw => by
    obtain ⟨hl, h1 | ⟨g', cp', cur, hv', h2, h3, h4, h5, h6, h7⟩⟩ := hw.2 _ (List.mem_of_getElem? hi)
    · obtain ⟨h1, _⟩ := h1
      cases h1
    · simp only [Value.slice.injEq, Option.some.injEq, Addr.mk.injEq] at hv'
      obtain ⟨⟨rfl, _⟩, _, rfl⟩ := hv'
      refine cell_of_list (l := cur.toList) (by simpa using h3) j ?_
      rw [← h7] at hv
      exact (List.getElem?_take_of_lt (by
        have := (List.getElem?_eq_some_iff.1 hv).1
        rw [List.length_take] at this
        omega)).symm.trans hv
/-- what is to be written is noted -/
theorem ap_tapp {z : Value} (hTS : Tryd.prog.underlying TS = some (.slice eU)) (hti : TI Tryd.prog eU z 1 4) (hzs : z.cells.size = 1) (hf : frs n L [td, te, d1, d2, d3] = true)
    (kk : ∀ g cp, At N n ((te, .slice (some ⟨g, 0, none⟩) 1 cp) :: (td, vd) :: L) (OctRow vd Lc :: .row (.slice (some ⟨g, 0, none⟩) 1 cp) eU 1 1 [.int .u32 0] :: H0) C s) :
    Cd Tryd.prog (.region id [⟨some d1, .move (.tmp te), ty1, p1, a1, none⟩, ⟨some d2, .buildSlice TS 1 [(0, .const (.int .u32 0))].toArray, ty2, p2, a2, none⟩, ⟨some d3, .call ⟨.builtin .append, #[.tmp d1, .tmp d2], #[TS, TS]⟩, ty3, p3, a3, none⟩, ⟨some te, .assign (.tmp d3), ty4, p4, a4, none⟩].toArray false)
      ⟨N, R, X⟩ n ((te, .slice none 0 0) :: (td, vd) :: L) (OctRow vd Lc :: H0) C s := by
  obtain ⟨hb, hfr, hne⟩ := frs_get hf
  simp only [List.pairwise_cons, List.mem_cons, List.not_mem_nil, or_false, forall_eq_or_imp, forall_eq, List.Pairwise.nil, and_true, false_imp_iff, implies_true] at hb hfr hne
  obtain ⟨f0, fe, f1, f2, f3⟩ := hfr
  obtain ⟨b0, be, b1, b2, b3⟩ := hb
  refine cd_region ?_
  refine ln_nilrow eU 1 ?_
  refine ln_pv (pv_move (v := .slice none 0 0) lk_eq) b1 ?_
  refine ln_lit (vs := [.int .u32 0]) (l := [.int .u32 0]) hTS hti hzs (by decide) (by simp [evPs, numbered, ev_c]) rfl (by decide) rfl rfl b2 (fun b8 => ?_)
  refine ln_append (i := 1) (v := .slice none 0 0) (u := .slice (some ⟨b8, 0, none⟩) 1 1) (m := 1) (news := [.int .u32 0]) rfl hTS hti hzs (by decide) (by simp [ev_t, lk_eq, lk_ne, hne]) lk_eq (src_obj (j := 0) rfl rfl rfl) (by decide) (by decide) b3 rfl rfl (fun v' hv' => ?_)
  refine ln_rowsh (i := 1) rfl (fun ad cp h1 _ h3 => ?_)
  obtain ⟨g, rfl⟩ := h3 (by decide)
  subst h1
  refine ln_pv (pv_assign lk_eq) be ?_
  have hf' : ∀ d, fr d L = true → ¬ td = d → fr d ((td, vd) :: L) = true := fun d h1 h2 => by simp [fr, h1, nbeq h2]
  refine ln_nil (at_sub (.cons (.skip (hf' _ f3 (by simp [hne])) (.skip (hf' _ f2 (by simp [hne])) (.skip (hf' _ f1 (by simp [hne])) (.skip (hf' _ fe (by simp [hne])) .rfl'))))) ?_)
  intro a w hF hS
  refine kk g cp a w ?_ ((hS.sub (List.Sublist.cons _ (List.Sublist.refl _))).perm (List.Perm.swap _ _ _))
  exact hF
/-- over what is noted, its slice at hand -/
theorem ap_rangeV {e : TypeId} {x : Nat} {Tl : Nat → List UInt8} (hu : Tryd.prog.underlying TS = some (.slice e)) (hx : lk L x = some (.slice ad m c)) (hm : m ≤ 4398046511104) (hf : frs n L [td, d1, tl, ti, tc, d2] = true) (hE : Lc ++ (Tl 0 ++ rest) = Full)
    (hbody : ∀ (i : Nat) (u : Vw) (vd : Value) (Lc : List UInt8) (N' : Act → World → Prop) (X' : List (Nat × (Act → World → Prop))), i < m → Tr s u → Lc ++ (Tl i ++ rest) = Full →
      (∀ u' v' Lc', Tr u u' → Lc' ++ (Tl (i + 1) ++ rest) = Full → At N' n ((td, v') :: (ti, .int .i64 (i : Int)) :: (tl, .int .i64 (m : Int)) :: (d1, .slice ad m c) :: L) (OctRow v' Lc' :: H0) C u') →
      Cd Tryd.prog body ⟨N', R, X'⟩ n ((td, vd) :: (ti, .int .i64 (i : Int)) :: (tl, .int .i64 (m : Int)) :: (d1, .slice ad m c) :: L) (OctRow vd Lc :: H0) C u)
    (kk : ∀ u v' Lc', Tr s u → Lc' ++ (Tl m ++ rest) = Full → At N n ((td, v') :: L) (OctRow v' Lc' :: H0) C u) :
    Cd Tryd.prog (.seq (.region id [⟨some d1, .move (.tmp x), ty1, p1, a1, none⟩, ⟨some tl, .call ⟨.builtin .len, #[.tmp d1], #[TS]⟩, ty2, p2, a2, none⟩, ⟨some ti, .move (.const (.int .i64 0)), ty3, p3, a3, none⟩].toArray false)
      (.block id1 (.loop (.seq (.region id2 [⟨some tc, .binOp .lss uy1 (.tmp ti) (.tmp tl) uy2, ty4, p4, a4, none⟩].toArray false) (.seq (.cond (.tmp tc) .skip (.exit id1)) (.seq (.block id3 body) (.region id' [⟨some d2, .binOp .add uy3 (.tmp ti) (.const (.int .i64 1)) uy4, ty5, p5, a5, none⟩, ⟨some ti, .move (.tmp d2), ty6, p6, a6, none⟩].toArray false)))))))
      ⟨N, R, X⟩ n ((td, vd) :: L) (OctRow vd Lc :: H0) C s := by
  obtain ⟨hb, hfr, hne⟩ := frs_get hf
  simp only [List.pairwise_cons, List.mem_cons, List.not_mem_nil, or_false, forall_eq_or_imp, forall_eq, List.Pairwise.nil, and_true, false_imp_iff, implies_true] at hb hfr hne
  obtain ⟨f0, f1, fl, fi, fc, fe⟩ := hfr
  obtain ⟨b0, b1, bl, bi, bc, be⟩ := hb
  have hf' : ∀ d, fr d L = true → ¬ d1 = d → fr d ((d1, .slice ad m c) :: L) = true := fun d h1 h2 => by simp [fr, h1, nbeq h2]
  have fc' := hf' _ fc (by simp [hne])
  have f0' := hf' _ f0 (by simp [hne])
  have fi' := hf' _ fi (by simp [hne])
  have fl' := hf' _ fl (by simp [hne])
  have fe' := hf' _ fe (by simp [hne])
  have hs : ∀ (v u1 : Value) (i : Nat), sub ((td, v) :: (ti, .int .i64 (i : Int)) :: (tl, .int .i64 (m : Int)) :: (d1, .slice ad m c) :: L) ((tc, u1) :: (td, v) :: (ti, .int .i64 (i : Int)) :: (tl, .int .i64 (m : Int)) :: (d1, .slice ad m c) :: L) := fun v u1 i =>
    .put (by simp [lk_eq, lk_ne, hne]) (.put (by simp [lk_eq, lk_ne, hne]) (.put (by simp [lk_eq, lk_ne, hne]) (.skip fc' (.skip f0' (.skip fi' (.skip fl' .rfl'))))))
  refine cd_sq ?_
  refine cd_region ?_
  refine ln_pv (pv_move (by rw [ev_t, lk_ne (lk_fr f0 hx)]; exact hx)) b1 ?_
  refine ln_pv (pv_len_slice hu lk_eq) bl ?_
  refine ln_pv (pv_move ev_c) bi ?_
  refine ln_nil (at_cd ?_)
  refine cd_block ?_
  refine cd_loop' (S := Nat × Value × List UInt8) ⟨fun z => (td, z.2.1) :: (ti, .int .i64 (z.1 : Int)) :: (tl, .int .i64 (m : Int)) :: (d1, .slice ad m c) :: L, fun z => (OctRow z.2.1 z.2.2 :: H0), fun z _ => z.1 ≤ m ∧ z.2.2 ++ (Tl z.1 ++ rest) = Full, fun z => m - z.1⟩ (0, vd, Lc)
    (fun u hu => ⟨Nat.zero_le _, hE⟩) ?_ (List.Sublist.refl _) ?_
  · exact .put (by simp [lk_eq, lk_ne, hne]) (.cons (.cons (.cons (.skip f0 .rfl'))))
  · rintro ⟨i, v, Lz⟩ u hu ⟨hi, hEz⟩
    dsimp only at hi hEz ⊢
    refine cd_sq ?_
    refine cd_region ?_
    refine ln_pv (pv_lss (k := .i64) (i := (i : Int)) (j := (m : Int)) (by simp [ev_t, lk_eq, lk_ne, hne]) (by simp [ev_t, lk_eq, lk_ne, hne])) bc ?_
    refine ln_nil (at_cd ?_)
    refine cd_sq ?_
    refine cd_if lk_eq (fun hlt => ?_) (fun hge => ?_)
    · refine cd_skip ?_
      refine at_cd (cd_sub_ (hs v _ i) ?_)
      refine cd_sq ?_
      refine cd_block ?_
      refine hbody i u v Lz _ _ (by omega) hu hEz (fun u' v' Lc' hu' hE' => ?_)
      refine at_cd ?_
      refine cd_region ?_
      refine ln_pv (pv_add' (k := .i64) (i := (i : Int)) (j := 1) (r := ((i + 1 : Nat) : Int)) (by simp [ev_t, lk_eq, lk_ne, hne]) ev_c (wrap_succ (by omega))) be ?_
      refine ln_pv (pv_move lk_eq) bi ?_
      refine ln_nil ?_
      exact at_rnd' (i + 1, v', Lc') (hu.trans hu') (fun _ _ => ⟨by dsimp only; omega, hE'⟩) (by dsimp only; omega)
        (.put (by simp [lk_eq, lk_ne, hne]) (.put lk_eq (.put (by simp [lk_eq, lk_ne, hne]) (.skip fi' (.skip fe' (.skip f0' (.skip fi' (.skip fl' .rfl')))))))) (List.Sublist.refl _)
    · have him : i = m := by omega
      subst him
      refine cd_exit (K := N) (by simp [lkx]) ?_
      exact at_sub (.put (by simp [lk_eq, lk_ne, hne]) (.skip fc (.skip f0 (.skip fi (.skip fl (.skip f1 .rfl')))))) (kk u v Lz hu hEz)
/-- the tag that is noted is the nought: the switch's case -/
theorem ap_case {g0 cp : Nat} {e ft eT : TypeId} {dd : TypeDesc} {H1 : Hp} (hx : lk L x = some (.slice (some ⟨g0, 0, none⟩) 1 cp)) (hti : lk L ti = some (.int .i64 ((0 : Nat) : Int))) (hu : Tryd.prog.underlying TS = some (.slice e)) (hsz : (Tryd.prog.info? e).map (·.size) = some 1) (hd : Tryd.prog.underlying ft = some dd) (hna : aggD dd = false)
    (hf : frs n L [td, ta, tg, d1, d2, d3, d4] = true) (hH : H0 = .row (.slice (some ⟨g0, 0, none⟩) 1 cp) eT 1 1 [.int .u32 0] :: H1)
    (hSC : Cd Tryd.prog SC ⟨N, R, (bid, N) :: X⟩ n ((td, vd) :: L) (OctRow vd Lc :: H0) C s) :
    Cd Tryd.prog (.seq (.region id [⟨some d1, .indexAddr TS (.tmp x) (.tmp ti), ty1, p1, a1, none⟩, ⟨some d2, .load ft (.tmp d1), ty2, p2, a2, none⟩, ⟨some ta, .assign (.tmp d2), ty3, p3, a3, none⟩].toArray false)
      (.seq (.region id1 [⟨some d3, .move (.tmp ta), ty4, p4, a4, none⟩].toArray false) (.block bid (.seq (.region id2 [⟨some d4, .binOp .eql uy1 (.tmp d3) (.const (.int .u32 0)) uy2, ty5, p5, a5, none⟩, ⟨some tg, .assign (.tmp d4), ty6, p6, a6, none⟩].toArray false) (.cond (.tmp tg) SC .skip))))) ⟨N, R, X⟩ n ((td, vd) :: L) (OctRow vd Lc :: H0) C s := by
  obtain ⟨hb, hfr, hne⟩ := frs_get hf
  simp only [List.pairwise_cons, List.mem_cons, List.not_mem_nil, or_false, forall_eq_or_imp, forall_eq, List.Pairwise.nil, and_true, false_imp_iff, implies_true] at hb hfr hne
  obtain ⟨f0, fa, fg, f1, f2, f3, f4⟩ := hfr
  obtain ⟨b0, ba, bg, b1, b2, b3, b4⟩ := hb
  refine cd_sq ?_
  refine cd_region ?_
  refine ln_pv (pv_ixN (i := 0) hu hsz (by rw [ev_t, lk_ne (lk_fr f0 hx)]; exact hx) (by rw [ev_t, lk_ne (lk_fr f0 hti)]; exact hti) (by omega)) b1 ?_
  refine ln_pv (pv_ldRow (i := 1) (j := 0) (by rw [hH]; rfl) hd hna (by simp [ev_t, lk_eq]) rfl) b2 ?_
  refine ln_pv (pv_assign lk_eq) ba ?_
  refine ln_nil (at_cd ?_)
  refine cd_sq ?_
  refine cd_region ?_
  refine ln_pv (pv_move lk_eq) b3 ?_
  refine ln_nil (at_cd ?_)
  refine cd_block ?_
  refine cd_sq ?_
  refine cd_region ?_
  refine ln_pv (pv_eql (k := .u32) (i := 0) (j := 0) lk_eq ev_c) b4 ?_
  refine ln_pv (pv_assign lk_eq) bg ?_
  refine ln_nil (at_cd ?_)
  refine cd_if lk_eq (fun _ => cd_sub_ ?_ hSC) (fun h => absurd rfl h)
  have hf' : ∀ d, fr d L = true → ¬ td = d → fr d ((td, vd) :: L) = true := fun d h1 h2 => by simp [fr, h1, nbeq h2]
  exact .skip (hf' _ fg (by simp [hne])) (.skip (hf' _ f4 (by simp [hne])) (.skip (hf' _ f3 (by simp [hne])) (.skip (hf' _ fa (by simp [hne])) (.skip (hf' _ f2 (by simp [hne])) (.skip (hf' _ f1 (by simp [hne])) .rfl')))))
end
end K
end Go.Proofs.YtjjfpdofkdolnaaDoor
namespace Go.Proofs.YtjjfpdofkdolnaaDoor
namespace K
open Go Go.Lib
section
variable {n : Nat} {L : Env} {H0 : Hp} {C : Cx} {s : Vw} {N R : Act → World → Prop} {X : List (Nat × (Act → World → Prop))}
variable {id id' id1 id2 id3 bid : Nat} {td x p sz la d0 d1 d2 d3 d4 d5 d6 e1 e2 e3 e4 lb : Nat} {vd val : Value} {Lc bs rest Full fb : List UInt8} {ts ts' : Array TypeId} {f : FuncId}
variable {ty0 ty1 ty2 ty3 ty4 ty5 ty6 : TypeId} {p0 p1 p2 p3 p4 p5 p6 : String} {a0 a1 a2 a3 a4 a5 a6 : Array Edge} {uy1 uy2 uy3 uy4 uy5 uy6 uy7 : TypeId} {q1 q2 q3 q4 q5 q6 q7 : String} {c1 c2 c3 c4 c5 c6 c7 : Array Edge}
variable {T ft : TypeId} {fs : Array Field} {k off szz b o : Nat} {fl : Field} {dd : TypeDesc} {cells : List Value} {W : Code}
theorem at_H0 {K : Act → World → Prop} {e : Ent} (k : At K n L [e] C s) : At K n L (e :: H0) C s := fun a w hF hS => k a w hF (hS.sub (List.Sublist.cons_cons _ (List.nil_sublist _)))
theorem at_Hs {K : Act → World → Prop} {e e' : Ent} (k : At K n L (e :: H0) C s) : At K n L (e :: e' :: H0) C s := fun a w hF hS => k a w hF (hS.sub (List.Sublist.cons_cons _ (List.Sublist.cons _ (List.Sublist.refl _))))
theorem tg_open {T : List UInt8} (hE : Lc ++ (tagB (0, fb) ++ T) = Full) : Lc ++ (uvar 0 ++ (uvar fb.length ++ (fb ++ T))) = Full := by simpa only [tagB, List.append_assoc] using hE
theorem tg_open2 {T m : List UInt8} (hE : Lc ++ (uvar 0 ++ (m ++ (fb ++ T))) = Full) : ((Lc ++ uvar 0) ++ m) ++ (fb ++ T) = Full := by simpa only [List.append_assoc] using hE
end
/-! ### what is as by default -/
section usual
variable {a b nul tag d o v : Int} {sub : List Fld} {y : Tre}
theorem us_list1 (h : 0 < (els y).length) : usualB (.mk 11 a b nul tag d o sub) y = false := by
  have e : usualB (.mk 11 a b nul tag d o sub) y = decide (y.l.length = 0) := by simp [usualB]
  rw [e]
  refine decide_eq_false fun hl => ?_
  unfold els at h
  cases hz : y.z <;> simp [hz, hl] at h
theorem us_list0 (hz : y.z = true → (nul ≥ 0 ∧ v ≥ nul) ∨ y.l = []) (hn : ¬ nul ≥ 0) (h : ¬ 0 < (els y).length) : usualB (.mk 11 a b nul tag d o sub) y = true := by
  have e : usualB (.mk 11 a b nul tag d o sub) y = decide (y.l.length = 0) := by simp [usualB]
  rw [e]
  refine decide_eq_true ?_
  unfold els at h
  cases hzz : y.z with
  | true =>
    rcases hz hzz with h1 | h1
    · exact absurd h1.1 hn
    · simp [h1]
  | false =>
    simp only [hzz, Bool.false_eq_true, if_false] at h
    omega
theorem b8n (x : Int) : ((b8 x).toNat : Int) = x % 256 := by
  rw [← wrap_u8]
  simp [IntKind.wrap, IntKind.bits, IntKind.signed]
theorem fixed2_zero (n : Int) : fixed n 2 = fixed 0 2 ↔ n % 65536 = 0 := by
  have e : ∀ x : Int, fixed x 2 = [b8 (x / 256), b8 x] := fun x => by simp [fixed]
  rw [e, e]
  simp only [List.cons.injEq, and_true]
  constructor
  · rintro ⟨h1, h2⟩
    have h3 := congrArg (fun u : UInt8 => (u.toNat : Int)) h1
    have h4 := congrArg (fun u : UInt8 => (u.toNat : Int)) h2
    simp only [b8n] at h3 h4
    omega
  · intro h
    exact ⟨b8_congr (by omega), b8_congr (by omega)⟩
theorem wrap16_zero (n : Int) : IntKind.i16.wrap n = 0 ↔ n % 65536 = 0 := by
  have e : IntKind.i16.wrap n = if (true && decide (n % 65536 ≥ 32768)) = true then n % 65536 - 65536 else n % 65536 := rfl
  rw [e]
  by_cases h : n % 65536 ≥ 32768
  · rw [if_pos (by simpa using h)]; omega
  · rw [if_neg (by simpa using h)]
theorem us_i16e : usualB (.mk 2 a b nul tag 0 o sub) y = decide (IntKind.i16.wrap y.n = 0) := by
  have e : usualB (.mk 2 a b nul tag 0 o sub) y = decide (fixed y.n 2 = fixed 0 2) := by simp [usualB, widthN]
  rw [e]
  exact decide_eq_decide.2 ((fixed2_zero _).trans (wrap16_zero _).symm)
theorem us_i16_1 (h : IntKind.i16.wrap y.n ≠ 0) : usualB (.mk 2 a b nul tag 0 o sub) y = false := us_i16e.trans (decide_eq_false h)
theorem us_i16_0 (h : ¬ IntKind.i16.wrap y.n ≠ 0) : usualB (.mk 2 a b nul tag 0 o sub) y = true := us_i16e.trans (decide_eq_true (Decidable.not_not.1 h))
theorem fb_len2 {q : Bool} : (fieldB (.mk 2 a b nul tag d o sub) v q y).length = 2 := by
  rw [fieldB_sc (by decide) (by decide)]
  simp [scalarB, widthN]
theorem us_uuid : usualB (.mk 7 a b nul tag d o sub) y = decide (uuid y.s = List.replicate 16 0) := by
  have e : usualB (.mk 7 a b nul tag d o sub) y = (y.s.take 16).all fun c => decide (c = 0) := by simp [usualB]
  rw [e, Bool.eq_iff_iff, decide_eq_true_eq, List.all_eq_true]
  unfold uuid
  constructor
  · intro h
    refine List.eq_replicate_iff.2 ⟨by simp; omega, fun c hc => ?_⟩
    rcases List.mem_append.1 hc with h1 | h1
    · exact of_decide_eq_true (h c h1)
    · exact (List.mem_replicate.1 h1).2
  · intro h c hc
    exact decide_eq_true ((List.eq_replicate_iff.1 h).2 c (List.mem_append.2 (.inl hc)))
theorem fb_len16 {q : Bool} : (fieldB (.mk 7 a b nul tag d o sub) v q y).length = 16 := by
  rw [fieldB_sc (by decide) (by decide)]
  have e : scalarB 7 (y.z && decide (nul ≥ 0) && decide (v ≥ nul)) q y = uuid y.s := by simp [scalarB, uuid]
  rw [e, uuid_length]
theorem Txt.ptr {s : Vw} {c : Value} {y : Tre} (h : Txt s c y) : ∃ p : Option Addr, c = .pointer p ∧ p.isNone = y.z := by
  rcases h with ⟨hz, rfl⟩ | ⟨hz, g, z, rfl, _⟩
  · exact ⟨none, rfl, by rw [hz]; rfl⟩
  · exact ⟨_, rfl, by rw [hz]; rfl⟩
theorem tx_le {q : Bool} (hl : y.s.length ≤ 32767) : (fieldB (.mk 8 a b nul tag d o sub) v q y).length ≤ 4294967295 := by
  rw [fieldB_sc (by decide) (by decide)]
  have := scalarB_le 8 (y.z && decide (nul ≥ 0) && decide (v ≥ nul)) q y
  omega
theorem us_text (hn : nul ≥ 0) : usualB (.mk 8 a b nul tag d o sub) y = y.z := by simp [usualB, hn]
end usual
end K
end Go.Proofs.YtjjfpdofkdolnaaDoor
