import Derived.Test.YtepbicjadambbabGreatDoorA4
set_option linter.unusedVariables false
set_option linter.unusedSimpArgs false
namespace Go.Proofs.YtepbicjadambbabGreatDoor
namespace K
open Go Go.Lib
theorem RC.dropk {s : Vw} {b o : Nat} {cs : List Value} (h : RC s b o cs) (k : Nat) (hk : k ≤ cs.length) : RC s b (o + k) (cs.drop k) := by
  refine h.sub k (c1 := cs.take k) (c3 := []) ?_ (by simp; omega)
  rw [List.append_nil, List.take_append_drop]
section
variable {n : Nat} {L : Env} {H0 : Hp} {C : Cx} {s : Vw} {N R : Act → World → Prop} {X : List (Nat × (Act → World → Prop))}
variable {id id' id1 id2 id3 : Nat} {td x y p d0 d1 d2 d3 d4 d5 d6 e1 e2 e3 e4 e5 e6 fx : Nat} {vd val : Value} {Lc bs rest Full : List UInt8} {ts ts' : Array TypeId} {f g : FuncId}
variable {ty0 ty1 ty2 ty3 ty4 ty5 ty6 ty7 : TypeId} {p0 p1 p2 p3 p4 p5 p6 p7 : String} {a0 a1 a2 a3 a4 a5 a6 a7 : Array Edge}
variable {uy1 uy2 uy3 uy4 uy5 uy6 uy7 wy wz : TypeId} {q1 q2 q3 q4 q5 q6 q7 : String} {c1 c2 c3 c4 c5 c6 c7 : Array Edge}
variable {q z : Bool} {T ft e : TypeId} {v : Int} {yy : Tre}
/-- d = &p.F -/
theorem ap_addr {fs : Array Field} {k off sz b o : Nat} {fl : Field} (hx : lk L p = some (.pointer (some ⟨b, o, none⟩))) (hu : Tryz.prog.underlying T = some (.struct fs)) (hk : fs[k]? = some fl) (hsz : (Tryz.prog.info? fl.type).map (·.size) = some (sz + 1)) (ho : fl.offset = off)
    (hf : frs n L [td, y, d1, d2, d3] = true) (kk : At N n ((td, vd) :: (y, .pointer (some ⟨b, o + off, none⟩)) :: L) (OctRow vd Lc :: H0) C s) :
    Cd Tryz.prog (.region id [⟨some d1, .move (.tmp p), ty1, p1, a1, none⟩, ⟨some d2, .nilCheck (.tmp d1), ty2, p2, a2, none⟩, ⟨some d3, .fieldAddr T (.tmp d2) k, ty3, p3, a3, none⟩, ⟨some y, .assign (.tmp d3), ty4, p4, a4, none⟩].toArray false) ⟨N, R, X⟩ n ((td, vd) :: L) (OctRow vd Lc :: H0) C s := by
  obtain ⟨hb, hfr, hne⟩ := frs_get hf
  simp only [List.pairwise_cons, List.mem_cons, List.not_mem_nil, or_false, forall_eq_or_imp, forall_eq, List.Pairwise.nil, and_true, false_imp_iff, implies_true] at hb hfr hne
  obtain ⟨f0, fy, f1, f2, f3⟩ := hfr
  obtain ⟨b0, by_, b1, b2, b3⟩ := hb
  refine cd_region ?_
  refine ln_pv (pv_move (by rw [ev_t, lk_ne (lk_fr f0 hx)]; exact hx)) b1 ?_
  refine ln_pv (pv_nilCheck lk_eq) b2 ?_
  refine ln_pv (pv_fieldAddr hu hk hsz ho lk_eq rfl) b3 ?_
  refine ln_pv (pv_assign lk_eq) by_ ?_
  exact ln_nil (at_sub (.put (by simp [lk_eq, lk_ne, hne]) (.cons (.skip f3 (.skip f2 (.skip f1 (.skip f0 .rfl')))))) kk)
theorem fieldB_p {a b nul tag d o : Int} {sub : List Fld} (hn : ¬ nul ≥ 0) : fieldB (.mk 10 a b nul tag d o sub) v q yy = partB sub v q yy := by
  simp [fieldB, partB, hn]
theorem fp_open {a b nul tag d o : Int} {sub : List Fld} {T' : List UInt8} (hn : ¬ nul ≥ 0) (hk : known sub = 0) (ho : okU (known sub) q yy.u) (hE : Lc ++ (fieldB (.mk 10 a b nul tag d o sub) v q yy ++ T') = Full) : Lc ++ (plainB sub v q yy 0 ++ ((if q then uvar yy.u.length ++ yy.u.flatMap tagB else []) ++ T')) = Full :=
  pt_open hk ho (by rwa [fieldB_p hn] at hE)
theorem okV_p {a b nul tag d o : Int} {sub : List Fld} (hn : nul < 0) (h : okV (.mk 10 a b nul tag d o sub) v q yy) : okFl sub v q yy 0 ∧ okU (known sub) q yy.u := by
  simp only [okV] at h
  exact h.2 (.inl hn)
/-- td = f(td, len(x), x == nil) -/
theorem ap_callLN {e : TypeId} {ad : Option Addr} {m c : Nat} (hent : Enters Tryz.prog f) (hu : Tryz.prog.underlying T = some (.slice e)) (hx : lk L x = some (.slice ad m c)) (hz : ad.isNone = z) (hf : frs n L [td, d1, d2, d3, d4, d5, d6] = true) (hc : ∀ u, Tr s u → AppC f [.int .i64 (m : Int), .bool z] bs u) (hE : Lc ++ (bs ++ rest) = Full) (hB : Full.length ≤ 4398046511104)
    (kk : ∀ u v' Lc', Tr s u → Lc' ++ rest = Full → At N n ((td, v') :: L) (OctRow v' Lc' :: H0) C u) :
    Cd Tryz.prog (.region id [⟨some d1, .move (.tmp td), ty1, p1, a1, none⟩, ⟨some d2, .move (.tmp x), ty2, p2, a2, none⟩, ⟨some d3, .call ⟨.builtin .len, #[.tmp d2], #[T]⟩, ty3, p3, a3, none⟩, ⟨some d4, .move (.tmp x), ty4, p4, a4, none⟩, ⟨some d5, .binOp .eql T (.tmp d4) (.const (.slice none 0 0)) wy, ty5, p5, a5, none⟩, ⟨some d6, .call ⟨.value (.func f), [.tmp d1, .tmp d3, .tmp d5].toArray, ts⟩, ty6, p6, a6, none⟩, ⟨some td, .assign (.tmp d6), ty7, p7, a7, none⟩].toArray false) ⟨N, R, X⟩ n ((td, vd) :: L) (OctRow vd Lc :: H0) C s := by
  subst hz
  obtain ⟨hb, hfr, hne⟩ := frs_get hf
  simp only [List.pairwise_cons, List.mem_cons, List.not_mem_nil, or_false, forall_eq_or_imp, forall_eq, List.Pairwise.nil, and_true, false_imp_iff, implies_true] at hb hfr hne
  obtain ⟨f0, f1, f2, f3, f4, f5, f6⟩ := hfr
  obtain ⟨b0, b1, b2, b3, b4, b5, b6⟩ := hb
  refine cd_region ?_
  refine ln_pv (pv_move (v := vd) lk_eq) b1 ?_
  refine ln_pv (pv_move (by rw [ev_t, lk_ne (lk_fr f1 hx), lk_ne (lk_fr f0 hx)]; exact hx)) b2 ?_
  refine ln_pv (pv_len_slice hu lk_eq) b3 ?_
  refine ln_pv (pv_move (by rw [ev_t, lk_ne (lk_fr f3 hx), lk_ne (lk_fr f2 hx), lk_ne (lk_fr f1 hx), lk_ne (lk_fr f0 hx)]; exact hx)) b4 ?_
  refine ln_pv (pv_eqS hu lk_eq ev_c) b5 ?_
  refine ln_callT (i := 0) (vals := [vd, .int .i64 (m : Int), .bool ad.isNone]) hent (by simp [evs, ev_t, lk_eq, lk_ne, hne]) rfl (fun u hu hok hav => hc u hu _ _ (app_len hE hB) hok hav) b6 ?_
  rintro u v' _ ht ⟨_, ⟨rfl, h1⟩, _⟩
  refine ln_pv (pv_assign (v := v') lk_eq) b0 ?_
  exact ln_nil (at_sub (sub.cons (.skip f6 (.skip f5 (.skip f4 (.skip f3 (.skip f2 (.skip f1 (.skip f0 .rfl')))))))) (kk u v' _ ht (app_step hE)))
theorem ap_flexLN {e : TypeId} {ad : Option Addr} {m c : Nat} {T' : TypeId} (hq : lk L fx = some (.bool q)) (hent : Enters Tryz.prog f) (heng : Enters Tryz.prog g) (hu : Tryz.prog.underlying T = some (.slice e)) (hx : lk L x = some (.slice ad m c)) (hz : ad.isNone = z) (hf : frs n L [td, d0] = true) (hf1 : frs n L [td, d1, d2, d3, d4, d5, d6] = true) (hf2 : frs n L [td, e1, e2, e3, e4, e5, e6] = true)
    (hc : q = true → ∀ u, Tr s u → AppC f [.int .i64 (m : Int), .bool z] bs u) (hc' : q = false → ∀ u, Tr s u → AppC g [.int .i64 (m : Int), .bool z] bs u) (hE : Lc ++ (bs ++ rest) = Full) (hB : Full.length ≤ 4398046511104)
    (kk : ∀ u v' Lc', Tr s u → Lc' ++ rest = Full → At N n ((td, v') :: L) (OctRow v' Lc' :: H0) C u) :
    Cd Tryz.prog (.seq (.region id [⟨some d0, .move (.tmp fx), ty0, p0, a0, none⟩].toArray false) (.cond (.tmp d0)
      (.region id1 [⟨some d1, .move (.tmp td), ty1, p1, a1, none⟩, ⟨some d2, .move (.tmp x), ty2, p2, a2, none⟩, ⟨some d3, .call ⟨.builtin .len, #[.tmp d2], #[T]⟩, ty3, p3, a3, none⟩, ⟨some d4, .move (.tmp x), ty4, p4, a4, none⟩, ⟨some d5, .binOp .eql T (.tmp d4) (.const (.slice none 0 0)) wy, ty5, p5, a5, none⟩, ⟨some d6, .call ⟨.value (.func f), [.tmp d1, .tmp d3, .tmp d5].toArray, ts⟩, ty6, p6, a6, none⟩, ⟨some td, .assign (.tmp d6), ty7, p7, a7, none⟩].toArray false)
      (.region id2 [⟨some e1, .move (.tmp td), uy1, q1, c1, none⟩, ⟨some e2, .move (.tmp x), uy2, q2, c2, none⟩, ⟨some e3, .call ⟨.builtin .len, #[.tmp e2], #[T]⟩, uy3, q3, c3, none⟩, ⟨some e4, .move (.tmp x), uy4, q4, c4, none⟩, ⟨some e5, .binOp .eql T (.tmp e4) (.const (.slice none 0 0)) wz, uy5, q5, c5, none⟩, ⟨some e6, .call ⟨.value (.func g), [.tmp e1, .tmp e3, .tmp e5].toArray, ts'⟩, uy6, q6, c6, none⟩, ⟨some td, .assign (.tmp e6), uy7, q7, c7, none⟩].toArray false))) ⟨N, R, X⟩ n ((td, vd) :: L) (OctRow vd Lc :: H0) C s :=
  ap_test hq hf (fun h => ap_callLN hent hu hx hz hf1 (hc h) hE hB kk) (fun h => ap_callLN heng hu hx hz hf2 (hc' h) hE hB kk)
end
end K
end Go.Proofs.YtepbicjadambbabGreatDoor
