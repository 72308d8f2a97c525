import Derived.Test.YtepbicjadambbabGreatDoorW4
import Derived.Test.YtepbicjadambbabGreatDoorA8
import Derived.Laws.IdiomRangeMap
import Derived.Test.YtepbicjadambbabGreatDoorVa
set_option linter.unusedVariables false
set_option linter.unusedSimpArgs false
namespace Go.Proofs.YtepbicjadambbabGreatDoor
namespace K
open Go Go.Lib
/-! ### A message of two numbers and a tagged part of two numbers, a text and a number: what is written of its image -/
section
variable {fs : List Fld} {v : Int} {q : Bool} {y : Tre} {us : Bool} {fb : List UInt8}
theorem partB_raw1 (hk : known fs = 1) (htg : tg0 (tgB fs v true y 0) = if us then [] else [(0, fb)]) :
    partB fs v true y = plainB fs v true y 0 ++ (uvar ((if us then 0 else 1) + ((unkn 1 y.u).map cut).length) ++ ((if us then [] else tagB (0, fb)) ++ ((unkn 1 y.u).map cut).flatMap tagB)) := by
  have e1 : (known fs).toNat = 1 := by rw [hk]; rfl
  have e2 : (tgB fs v true y 0).filter (fun e => decide (e.1 = ((0 : Nat) : Int))) = if us then [] else [(0, fb)] := htg
  simp only [partB, partOf, e1, if_true, List.range_succ, List.range_zero, List.nil_append, List.flatMap_cons, List.flatMap_nil, List.append_nil, e2]
  rw [hk]
  cases us <;> simp [Nat.add_comm]
end
abbrev uSub : List Fld := [.mk 3 0 (-1) (-1) (-1) (-1) 0 [], .mk 3 0 (-1) (-1) (-1) (-1) 0 [], .mk 8 0 (-1) (-1) (-1) 0 0 [], .mk 3 0 (-1) (-1) (-1) 0 0 []]
abbrev uF : Fld := .mk 10 0 (-1) (-1) 0 0 0 uSub
abbrev uPl : List Fld := [.mk 3 0 (-1) (-1) (-1) 0 0 [], .mk 2 0 (-1) (-1) (-1) 0 0 []]
abbrev uFs : List Fld := [.mk 3 0 (-1) (-1) (-1) 0 0 [], .mk 2 0 (-1) (-1) (-1) 0 0 [], uF]
theorem uFs_known : known uFs = 1 := by kernel_rfl
theorem uSub_known : known uSub = 0 := by kernel_rfl
section
variable {v : Int} {q : Bool} {x y : Tre}
theorem tg_uFs : tg0 (tgB uFs v q y 0) = if usualB uF (y.at_ 2) then [] else [(0, fieldB uF v q (y.at_ 2))] := (tgf_skip (by decide)).trans ((tgf_skip (by decide)).trans (tgf_here rfl tgf_nil))
theorem uY0 (h0 : 0 ≤ v) : (imT uFs v true x).at_ 0 = imF (.mk 3 0 (-1) (-1) (-1) 0 0 []) v true (x.at_ 0) := by simp [imT, imL, Tre.at_, tl, Fld.tag, hasB_all h0]
theorem uY1 (h0 : 0 ≤ v) : (imT uFs v true x).at_ 1 = imF (.mk 2 0 (-1) (-1) (-1) 0 0 []) v true (x.at_ 1) := by simp [imT, imL, Tre.at_, tl, Fld.tag, hasB_all h0]
theorem uY2 : (imT uFs v true x).at_ 2 = if usualB uF (x.at_ 2) then dfF uF else imF uF v true (x.at_ 2) := by
  have e : (imT uFs v true x).at_ 2 = if (true && !usualB uF (x.at_ 2)) then imF uF v true (x.at_ 2) else dfF uF := by
    simp only [imT, Tre.at_, tl]
    rw [imL_at uFs v true x 0 2 (by decide)]
    rfl
  rw [e]
  by_cases h : usualB uF (x.at_ 2) = true
  · rw [h]; rfl
  · rw [Bool.not_eq_true] at h; rw [h]; rfl
theorem us_uF : usualB uF y = (decide (fixed (y.at_ 0).n 4 = fixed (-1) 4) && (decide (fixed (y.at_ 1).n 4 = fixed (-1) 4) && (decide ((y.at_ 2).s.length = 0) && decide (fixed (y.at_ 3).n 4 = fixed 0 4))) && decide ((unkn 0 y.u).length = 0)) := by
  simp [usualB, usualL, widthN, uSub_known]
theorem us_df : usualB uF (dfF uF) = true := by kernel_rfl
theorem us_imF (h0 : 0 ≤ v) : usualB uF (imF uF v true y) = usualB uF y := by
  rw [us_uF, us_uF]
  have e0 : (imF uF v true y).at_ 0 = imF (.mk 3 0 (-1) (-1) (-1) (-1) 0 []) v true (y.at_ 0) := by simp [imF, imL, Tre.at_, tl, Fld.tag, hasB_all h0]
  have e1 : (imF uF v true y).at_ 1 = imF (.mk 3 0 (-1) (-1) (-1) (-1) 0 []) v true (y.at_ 1) := by simp [imF, imL, Tre.at_, tl, Fld.tag, hasB_all h0]
  have e2 : (imF uF v true y).at_ 2 = imF (.mk 8 0 (-1) (-1) (-1) 0 0 []) v true (y.at_ 2) := by simp [imF, imL, Tre.at_, tl, Fld.tag, hasB_all h0]
  have e3 : (imF uF v true y).at_ 3 = imF (.mk 3 0 (-1) (-1) (-1) 0 0 []) v true (y.at_ 3) := by simp [imF, imL, Tre.at_, tl, Fld.tag, hasB_all h0]
  have e4 : (imF uF v true y).u = imU uSub true y.u := by simp [imF, tu]
  have e5 := congrArg List.length (imU_len (fs := uSub) (by kernel_rfl) y.u)
  rw [List.length_map, List.length_map] at e5
  have n3 : ∀ (a b nul tag d o : Int) (sb : List Fld) (t : Tre), fixed (imF (.mk 3 a b nul tag d o sb) v true t).n 4 = fixed t.n 4 := fun a b nul tag d o sb t => by
    rw [iF_sc (by decide) (by decide)]
    simp only [imS]
    exact fixed_wrap32 t.n
  have n8 : decide ((imF (.mk 8 0 (-1) (-1) (-1) 0 0 []) v true (y.at_ 2)).s.length = 0) = decide ((y.at_ 2).s.length = 0) := by
    rw [iF_sc (by decide) (by decide)]
    simp [imS, ts, List.length_take]
  rw [e0, e1, e2, e3, e4, e5, n3, n3, n3, n8]
theorem uPart_im : fieldB uF v true (imF uF v true y) = fieldB uF v true y := by
  have h := partB_im (fs := uSub) (by kernel_rfl) (by kernel_rfl) v true y
  have e : ∀ t, fieldB uF v true t = partB uSub v true t := fun t => by rw [fieldB_mk]; rfl
  have e2 : imF uF v true y = imT uSub v true y := by simp [imF, imT]
  rw [e, e, e2, h]
theorem uFs_im (h0 : 0 ≤ v) : partB uFs v true (imT uFs v true x) = partB uFs v true x := by
  rw [partB_raw1 uFs_known tg_uFs, partB_raw1 uFs_known tg_uFs]
  have e1 : plainB uFs v true (imT uFs v true x) 0 = plainB uFs v true x 0 := by
    simp only [plainB, Nat.zero_add]
    rw [uY0 h0, uY1 h0]
    rw [fieldB_im _ v true (x.at_ 0) (by kernel_rfl) (by kernel_rfl), fieldB_im _ v true (x.at_ 1) (by kernel_rfl) (by kernel_rfl)]
    rfl
  have e2 : (unkn 1 (imT uFs v true x).u).map cut = (unkn 1 x.u).map cut := by
    show (unkn 1 (imU uFs true x.u)).map cut = _
    rw [imU, if_pos rfl, uFs_known]
    exact unkn_fit 1 x.u
  rw [e1, e2, uY2]
  cases h : usualB uF (x.at_ 2) with
  | true => rw [if_pos rfl, us_df]; rfl
  | false =>
    simp only [Bool.false_eq_true, if_false]
    rw [us_imF h0, h, uPart_im]
    rfl
theorem uFs_okim (h0 : 0 ≤ v) (hk : keysT x) : okP uFs v true (imT uFs v true x) := by
  refine ⟨?_, by
    show okU (known uFs) true (imU uFs true x.u)
    rw [imU, if_pos rfl]
    exact okU_fit _ _ _ hk.open.1⟩
  simp only [okFl, Nat.zero_add]
  rw [show (1 : Nat) + 1 = 2 from rfl, uY0 h0, uY1 h0, uY2]
  refine ⟨fun _ => okV_im _ v true _ (by kernel_rfl) (by kernel_rfl) (hk.at_ 0), fun _ => okV_im _ v true _ (by kernel_rfl) (by kernel_rfl) (hk.at_ 1), fun _ => ?_, trivial⟩
  cases h : usualB uF (x.at_ 2) with
  | true =>
    rw [if_pos rfl]
    refine (by simp only [okV]; simp [dfF, dfL, okFl, okV, okS, okU, Tre.at_, tl, ts, tu, tz, unkn, Srt] : okV uF v true (dfF uF))
  | false =>
    rw [if_neg (by decide)]
    have h1 := okP_im (fs := uSub) (by kernel_rfl) (by kernel_rfl) v true (x.at_ 2) (hk.at_ 2)
    have e2 : imF uF v true (x.at_ 2) = imT uSub v true (x.at_ 2) := by simp [imF, imT]
    simp only [okV]
    refine ⟨fun h => absurd h (by decide), fun _ => by rw [e2]; exact h1⟩
end
end K
end Go.Proofs.YtepbicjadambbabGreatDoor
namespace Go.Proofs.YtepbicjadambbabGreatDoor
namespace K
open Go Go.Lib
/-! ### A map that is nil is ranged over; a box that is made, let go at once -/
section
variable {P : Program} {n : Nat} {L : Env} {H : Hp} {C : Cx} {s : Vw} {ops : Array Oper} {rest : List Oper} {K : Act → World → Prop} {ty : TypeId} {pos : String} {af : Array Edge}
theorem ln_range0 {d : Nat} {t kt et : TypeId} {x : Operand} (hu : P.underlying t = some (.map kt et)) (hx : ev L x = some (.map none)) (hd : Nat.blt d n = true)
    (k : ∀ b, Ln P ops rest K n ((d, .pointer (some ⟨b, 0, none⟩)) :: L) (.obj b (.mapIter none 0 #[] 0) :: H) C s) : Ln P ops (⟨some d, .range t x, ty, pos, af, none⟩ :: rest) K n L H C s := fun a w hF hS =>
  wpl_val (w' := w.alloc (.mapIter none 0 #[] 0)) rfl (by simp [execOp, hF.ev hx, run_range_nilMap w t kt et hu]) (k w.heap.size _ _ (hF.put d _ hd) (hS.new _))
theorem ln_next0 {i d b : Nat} {x : Operand} (hi : H[i]? = some (.obj b (.mapIter none 0 #[] 0))) (hx : ev L x = some (.pointer (some ⟨b, 0, none⟩))) (hd : Nat.blt d n = true)
    (k : Ln P ops rest K n ((d, .tuple #[.bool false]) :: L) H C s) : Ln P ops (⟨some d, .next x false, ty, pos, af, none⟩ :: rest) K n L H C s := fun a w hF hS => by
  have hr : w.heap[b]? = some (.mapIter none 0 #[] 0) := hS.hf _ (List.mem_of_getElem? hi)
  have h1 : (Instr.next (.pointer (some ⟨b, 0, none⟩)) false ty).run P w = .ok (.tuple #[.bool false]) w := by
    simp only [Instr.next, getObj, Sem.run_bind, Sem.run, hr, Result.andThen]
    rfl
  exact wpl_val (w' := w) rfl (by simp [execOp, hF.ev hx, h1]) (k _ _ (hF.put d _ hd) hS)
/-- what is owned, and was made in this call, is let go -/
theorem st_freeF {e : Ent} {w : World} (hb : ∀ b ∈ e.blk, ¬ C.t.av b) (hS : St C s (e :: H) w) : ∃ t : Vw, Tr s t ∧ Known t e ∧ St C t H w := by
  have hnd := hS.nd
  rw [blks_cons] at hnd
  obtain ⟨n1, n2, n3⟩ := List.nodup_append.1 hnd
  refine ⟨⟨w, fun b => (b ∈ blks H ∨ s.av b) ∧ b ∉ e.blk, fun b hb => hb.1.elim (fun h => hS.hf.lt (by rw [blks_cons]; exact List.mem_append.2 (.inr h))) (fun h => Nat.lt_of_lt_of_le (s.lt b h) hS.mod.size)⟩,
    ⟨hS.mod.mono fun _ _ h => h.1, fun b hb => hb.1.elim (fun h => (hS.own b (by rw [blks_cons]; exact List.mem_append.2 (.inr h))).1) .inl⟩, ?_, ?_⟩
  · cases e with
    | obj b o => exact ⟨fun h => h.2 (by simp [Ent.blk]), hS.hf (.obj b o) (by simp)⟩
    | row v e sz m xs => exact ⟨hS.hf (.row v e sz m xs) (by simp), fun b hb h => h.2 (by simp [Ent.blk, hb])⟩
  · exact ⟨hS.whole, Mod.refl _ _, fun x hx => hS.hf x (List.mem_cons_of_mem _ hx), fun b hb => ⟨.inl ⟨.inl hb, fun h => n3 b h b hb rfl⟩, (hS.own b (by rw [blks_cons]; exact List.mem_append.2 (.inr hb))).2⟩, n2,
      fun b hq => ⟨.inr (hS.up b hq), fun h => hb b h hq⟩⟩
theorem ln_freeF {e : Ent} {l : List Oper} (hb : ∀ b ∈ e.blk, ¬ C.t.av b) (k : ∀ t, Tr s t → Known t e → Ln P ops l K n L H C t) : Ln P ops l K n L (e :: H) C s := fun a w hF hS => by
  obtain ⟨t, h1, h2, h3⟩ := st_freeF hb hS
  exact k t h1 h2 a w hF h3
theorem ln_allocF {d : Nat} {t : TypeId} {z : Value} {sz by_ : Nat} {l : List Value} (hz : TI P t z sz by_) (hl : z.cells = l.toArray) (hd : Nat.blt d n = true)
    (k : ∀ b, ¬ C.t.av b → Ln P ops rest K n ((d, .pointer (some ⟨b, 0, none⟩)) :: L) (.obj b (.cells l.toArray t) :: H) C s) : Ln P ops (⟨some d, .alloc t, ty, pos, af, none⟩ :: rest) K n L H C s := fun a w hF hS => by
  obtain ⟨i, hi, h1, h2, h3⟩ := info_parts hz
  refine wpl_val (w' := w.alloc (.cells l.toArray t)) rfl (by simp [execOp, Instr.alloc, zeroValue, typeInfo, hi, h1, newVar, newRow, hl]) (k w.heap.size (fun hav => ?_) _ _ (hF.put d _ hd) (hS.new _))
  have h4 := C.t.lt _ hav
  have h5 := hS.whole.size
  exact absurd h4 (by show ¬ w.heap.size < C.we.heap.size; omega)
end
section
variable {P : Program} {S : World → Prop} {n : Nat} {L : Env} {d : Option Nat} {g : Option (Nat × Bool)} {ty : TypeId} {pos : String} {af : Array Edge} {t u : TypeId} {x y : Operand}
theorem in_eqB0 {a b : Bool} (q : Nat) (w : World) (hu : P.underlying t = some .bool) : (Op.equalIn (q + 1) t (.bool a) (.bool b)).run P w = .ok (a == b) w := by simp [Op.equalIn, run_underlying hu]
theorem run_eqB0 {a b : Bool} (w : World) (hu : P.underlying t = some .bool) : (Op.equal t (.bool a) (.bool b)).run P w = .ok (a == b) w := in_eqB0 9999 w hu
theorem pv_neqBo {a b : Bool} (hu : P.underlying t = some .bool) (hx : ev L x = some (.bool a)) (hy : ev L y = some (.bool b)) : PV P S ⟨d, .binOp .neq t x y u, ty, pos, af, g⟩ n L (.bool (!(a == b))) := fun ac w hF _ => by
  simp [execOp, hF.ev hx, hF.ev hy, eqGuard, binOp, run_eqB0 w hu]
theorem in_eqS0 {a b : ByteArray} (q : Nat) (w : World) (hu : P.underlying t = some .string) : (Op.equalIn (q + 1) t (.string a) (.string b)).run P w = .ok (a == b) w := by simp [Op.equalIn, run_underlying hu]
theorem pv_eqSt {a b : ByteArray} (hu : P.underlying t = some .string) (hx : ev L x = some (.string a)) (hy : ev L y = some (.string b)) : PV P S ⟨d, .binOp .eql t x y u, ty, pos, af, g⟩ n L (.bool (a.toList == b.toList)) := fun ac w hF _ => by
  simp [execOp, hF.ev hx, hF.ev hy, eqGuard, binOp, Op.stringOp, Result.andThen]
theorem pv_ldOff {H : Hp} {s : Vw} {i b off sz : Nat} {l vs : List Value} {e : TypeId} {fz : Nat × Nat} {dd : TypeDesc} (hi : H[i]? = some (.obj b (.cells l.toArray e fz))) (hd : P.underlying t = some dd) (hna : (match dd with | .struct _ | .array _ _ => true | _ => false) = true) (hsz : (P.info? t).map (·.size) = some sz) (hvs : (l.drop off).take sz = vs) (hvl : vs.length = sz)
    (hx : ev L x = some (.pointer (some ⟨b, 0 + off, none⟩))) : PV P (Sk s H) ⟨d, .load t x, ty, pos, af, g⟩ n L (.agg vs.toArray) :=
  pv_loadA hd hna hsz hvl hx fun w hw j v hv => cell_of_list (hw.obj hi) (0 + off + j) (by
    rw [← hvs] at hv
    have hj : j < sz := by
      have := (List.getElem?_eq_some_iff.1 hv).1
      simp at this
      omega
    rw [List.getElem?_take_of_lt hj, List.getElem?_drop] at hv
    rw [Nat.zero_add]
    exact hv)
end
/-! ### The test whether a part is as by default -/
theorem tags_zzSame (t : Vw) (mo : Option Nat) : CS Tryz.prog 59 [.agg [.map mo].toArray, .agg [.map none].toArray] t (.bool mo.isNone) := by
  refine CA.cs ?_
  refine ca_enter Tryz.func59 rfl Tryz.ntmps59 rfl ?_
  cases mo with
  | none =>
    refine cd_sr ?_
    refine ln_box (l := [.map none]) rfl rfl rfl (fun b1 => ?_)
    refine ln_box (l := [.map none]) rfl rfl rfl (fun b2 => ?_)
    refine ln_pv (pv_assign rfl) rfl ?_
    refine ln_cd ?_
    refine cd_seq ?_
    refine cd_sr ?_
    refine ln_pv (pv_fieldAddr (off := 0) (r := 0) Tryz.underlying59 rfl timap_uint32_Sl_uint8.size rfl rfl rfl) rfl ?_
    refine ln_pv (pv_ldo (i := 1) (v := .map none) rfl Tryz.underlying57 rfl rfl rfl) rfl ?_
    refine ln_pv (pv_eqM Tryz.underlying57 rfl rfl) rfl ?_
    refine ln_pv (pv_fieldAddr (off := 0) (r := 0) Tryz.underlying59 rfl timap_uint32_Sl_uint8.size rfl rfl rfl) rfl ?_
    refine ln_pv (pv_ldo (i := 0) (v := .map none) rfl Tryz.underlying57 rfl rfl rfl) rfl ?_
    refine ln_pv (pv_eqM Tryz.underlying57 rfl rfl) rfl ?_
    refine ln_pv (pv_neqBo Tryz.underlying4 rfl rfl) rfl ?_
    refine ln_pv (pv_move rfl) rfl ?_
    refine ln_gE rfl rfl rfl ?_
    refine ln_pv (pv_fieldAddr (off := 0) (r := 0) Tryz.underlying59 rfl timap_uint32_Sl_uint8.size rfl rfl rfl) rfl ?_
    refine ln_gE rfl rfl rfl ?_
    refine ln_pv (pv_ldo (i := 1) (v := .map none) rfl Tryz.underlying57 rfl rfl rfl) rfl ?_
    refine ln_gE rfl rfl rfl ?_
    refine ln_pv (pv_mapLen0 Tryz.underlying57 rfl) rfl ?_
    refine ln_gE rfl rfl rfl ?_
    refine ln_pv (pv_fieldAddr (off := 0) (r := 0) Tryz.underlying59 rfl timap_uint32_Sl_uint8.size rfl rfl rfl) rfl ?_
    refine ln_gE rfl rfl rfl ?_
    refine ln_pv (pv_ldo (i := 0) (v := .map none) rfl Tryz.underlying57 rfl rfl rfl) rfl ?_
    refine ln_gE rfl rfl rfl ?_
    refine ln_pv (pv_mapLen0 Tryz.underlying57 rfl) rfl ?_
    refine ln_gE rfl rfl rfl ?_
    refine ln_pv (pv_ff (pv_neq rfl rfl) (fun h => h rfl)) rfl ?_
    refine ln_pv (pv_pick rfl (fun _ => rfl) (fun _ => rfl)) rfl ?_
    refine ln_cd ?_
    refine cd_ff rfl ?_
    refine cd_skip ?_
    refine at_cd ?_
    refine cd_seq ?_
    refine cd_sr ?_
    refine ln_pv (pv_fieldAddr (off := 0) (r := 0) Tryz.underlying59 rfl timap_uint32_Sl_uint8.size rfl rfl rfl) rfl ?_
    refine ln_pv (pv_ldo (i := 1) (v := .map none) rfl Tryz.underlying57 rfl rfl rfl) rfl ?_
    refine ln_range0 Tryz.underlying57 rfl rfl (fun it => ?_)
    refine ln_cd ?_
    refine cd_block ?_
    refine cd_loop' (S := Unit) ⟨fun _ => [(27, .pointer (some ⟨it, 0, none⟩))], fun _ => [.obj it (.mapIter none 0 #[] 0)], fun _ _ => True, fun _ => 0⟩ () (fun u hu => trivial) (.put rfl .nil) (.cons_cons _ (.cons _ (.cons _ .slnil))) ?_
    rintro z u hu _
    refine cd_sr ?_
    refine ln_next0 (i := 0) rfl rfl rfl ?_
    refine ln_pv (pv_extract rfl rfl) rfl ?_
    refine ln_cd ?_
    refine cd_seq ?_
    refine cd_ff rfl ?_
    refine cd_exit rfl ?_
    refine at_cd ?_
    refine cd_sr ?_
    refine ln_pv (pv_assign rfl) rfl ?_
    refine ln_cd ?_
    refine cd_ret ?_
    exact at_retA rfl rfl (fun w hS => rfl)
  | some m =>
    refine cd_sr ?_
    refine ln_box (l := [.map (some m)]) rfl rfl rfl (fun b1 => ?_)
    refine ln_box (l := [.map none]) rfl rfl rfl (fun b2 => ?_)
    refine ln_pv (pv_assign rfl) rfl ?_
    refine ln_cd ?_
    refine cd_seq ?_
    refine cd_sr ?_
    refine ln_pv (pv_fieldAddr (off := 0) (r := 0) Tryz.underlying59 rfl timap_uint32_Sl_uint8.size rfl rfl rfl) rfl ?_
    refine ln_pv (pv_ldo (i := 1) (v := .map (some m)) rfl Tryz.underlying57 rfl rfl rfl) rfl ?_
    refine ln_pv (pv_eqM Tryz.underlying57 rfl rfl) rfl ?_
    refine ln_pv (pv_fieldAddr (off := 0) (r := 0) Tryz.underlying59 rfl timap_uint32_Sl_uint8.size rfl rfl rfl) rfl ?_
    refine ln_pv (pv_ldo (i := 0) (v := .map none) rfl Tryz.underlying57 rfl rfl rfl) rfl ?_
    refine ln_pv (pv_eqM Tryz.underlying57 rfl rfl) rfl ?_
    refine ln_pv (pv_neqBo Tryz.underlying4 rfl rfl) rfl ?_
    refine ln_pv (pv_move rfl) rfl ?_
    refine ln_gf rfl rfl rfl rfl rfl ?_
    refine ln_gf rfl rfl rfl rfl rfl ?_
    refine ln_gf rfl rfl rfl rfl rfl ?_
    refine ln_gf rfl rfl rfl rfl rfl ?_
    refine ln_gf rfl rfl rfl rfl rfl ?_
    refine ln_gf rfl rfl rfl rfl rfl ?_
    refine ln_gf rfl rfl rfl rfl rfl ?_
    refine ln_pv (pv_pick (v := .bool false) rfl (fun _ => rfl) (fun h => by cases h)) rfl ?_
    refine ln_cd ?_
    refine cd_tt rfl ?_
    refine cd_sr ?_
    refine ln_pv (pv_assign rfl) rfl ?_
    refine ln_cd ?_
    refine cd_ret ?_
    exact at_retA rfl rfl (fun w hS => rfl)
theorem pv_bv {P : Program} {S : World → Prop} {o : Oper} {n : Nat} {L : Env} {c b : Bool} (h : PV P S o n L (.bool c)) (e : c = b) : PV P S o n L (.bool b) := e ▸ h
theorem pv_vv {P : Program} {S : World → Prop} {o : Oper} {n : Nat} {L : Env} {u v : Value} (h : PV P S o n L u) (e : u = v) : PV P S o n L v := e ▸ h
set_option maxRecDepth 8000 in
theorem part_zzSame (t : Vw) (a b p : Int) (h : ByteArray) (mo : Option Nat) : CS Tryz.prog 32 [.agg [.int .i32 a, .int .i32 b, .string h, .int .i32 p, .map mo].toArray, .agg [.int .i32 (-1), .int .i32 (-1), .string .empty, .int .i32 0, .map none].toArray] t (.bool (decide (a = -1) && decide (b = -1) && (h.toList == ByteArray.empty.toList) && decide (p = 0) && mo.isNone)) := by
  refine CA.cs ?_
  refine ca_enter Tryz.func32 rfl Tryz.ntmps32 rfl ?_
  obtain ⟨e, he⟩ : ∃ e, e = (h.toList == ByteArray.empty.toList) := ⟨_, rfl⟩
  rw [← he]
  by_cases h0 : a = -1
  rotate_left
  · skip
    refine cd_sr ?_
    refine ln_box (l := [_, _, _, _, _]) rfl rfl rfl (fun b1 => ?_)
    refine ln_box (l := [_, _, _, _, _]) rfl rfl rfl (fun b2 => ?_)
    refine ln_pv (pv_assign rfl) rfl ?_
    refine ln_cd ?_
    refine cd_sr ?_
    refine ln_pv (pv_fieldAddr (off := 0) (r := 0 + 0) Tryz.underlying61 rfl tiint32.size rfl rfl rfl) rfl ?_
    refine ln_pv (pv_ldo (i := 1) (v := .int .i32 a) rfl Tryz.underlying21 rfl rfl rfl) rfl ?_
    refine ln_pv (pv_fieldAddr (off := 0) (r := 0 + 0) Tryz.underlying61 rfl tiint32.size rfl rfl rfl) rfl ?_
    refine ln_pv (pv_ldo (i := 0) (v := .int .i32 (-1)) rfl Tryz.underlying21 rfl rfl rfl) rfl ?_
    refine ln_pv (pv_bv (b := false) (pv_eql rfl rfl) (by simp [h0])) rfl ?_
    refine ln_pv (pv_move rfl) rfl ?_
    refine ln_gf rfl rfl rfl rfl rfl ?_
    refine ln_gf rfl rfl rfl rfl rfl ?_
    refine ln_gf rfl rfl rfl rfl rfl ?_
    refine ln_gf rfl rfl rfl rfl rfl ?_
    refine ln_gf rfl rfl rfl rfl rfl ?_
    refine ln_pv (pv_vv (v := .bool false) (pv_pick (u := .bool false) (v := .bool false) rfl (fun h => by cases h) (fun _ => rfl)) rfl) rfl ?_
    refine ln_pv (pv_move rfl) rfl ?_
    refine ln_gf rfl rfl rfl rfl rfl ?_
    refine ln_gf rfl rfl rfl rfl rfl ?_
    refine ln_gf rfl rfl rfl rfl rfl ?_
    refine ln_gf rfl rfl rfl rfl rfl ?_
    refine ln_gf rfl rfl rfl rfl rfl ?_
    refine ln_pv (pv_vv (v := .bool false) (pv_pick (u := .bool false) (v := .bool false) rfl (fun h => by cases h) (fun _ => rfl)) rfl) rfl ?_
    refine ln_pv (pv_move rfl) rfl ?_
    refine ln_gf rfl rfl rfl rfl rfl ?_
    refine ln_gf rfl rfl rfl rfl rfl ?_
    refine ln_gf rfl rfl rfl rfl rfl ?_
    refine ln_gf rfl rfl rfl rfl rfl ?_
    refine ln_gf rfl rfl rfl rfl rfl ?_
    refine ln_pv (pv_vv (v := .bool false) (pv_pick (u := .bool false) (v := .bool false) rfl (fun h => by cases h) (fun _ => rfl)) rfl) rfl ?_
    refine ln_pv (pv_move rfl) rfl ?_
    refine ln_gf rfl rfl rfl rfl rfl ?_
    refine ln_gf rfl rfl rfl rfl rfl ?_
    refine ln_gf rfl rfl rfl rfl rfl ?_
    refine ln_gf rfl rfl rfl rfl rfl ?_
    refine ln_gf rfl rfl rfl rfl rfl ?_
    refine ln_pv (pv_vv (v := .bool false) (pv_pick (u := .bool false) (v := .bool false) rfl (fun h => by cases h) (fun _ => rfl)) rfl) rfl ?_
    refine ln_pv (pv_assign rfl) rfl ?_
    refine ln_cd ?_
    refine cd_ret ?_
    exact at_retA rfl rfl (fun w hS => by simp [h0])
  by_cases h1 : b = -1
  rotate_left
  · skip
    refine cd_sr ?_
    refine ln_box (l := [_, _, _, _, _]) rfl rfl rfl (fun b1 => ?_)
    refine ln_box (l := [_, _, _, _, _]) rfl rfl rfl (fun b2 => ?_)
    refine ln_pv (pv_assign rfl) rfl ?_
    refine ln_cd ?_
    refine cd_sr ?_
    refine ln_pv (pv_fieldAddr (off := 0) (r := 0 + 0) Tryz.underlying61 rfl tiint32.size rfl rfl rfl) rfl ?_
    refine ln_pv (pv_ldo (i := 1) (v := .int .i32 a) rfl Tryz.underlying21 rfl rfl rfl) rfl ?_
    refine ln_pv (pv_fieldAddr (off := 0) (r := 0 + 0) Tryz.underlying61 rfl tiint32.size rfl rfl rfl) rfl ?_
    refine ln_pv (pv_ldo (i := 0) (v := .int .i32 (-1)) rfl Tryz.underlying21 rfl rfl rfl) rfl ?_
    refine ln_pv (pv_bv (b := true) (pv_eql rfl rfl) (by simp [h0])) rfl ?_
    refine ln_pv (pv_move rfl) rfl ?_
    refine ln_gE rfl rfl rfl ?_
    refine ln_pv (pv_fieldAddr (off := 1) (r := 0 + 1) Tryz.underlying61 rfl tiint32.size rfl rfl rfl) rfl ?_
    refine ln_gE rfl rfl rfl ?_
    refine ln_pv (pv_ldo (i := 1) (v := .int .i32 b) rfl Tryz.underlying21 rfl rfl rfl) rfl ?_
    refine ln_gE rfl rfl rfl ?_
    refine ln_pv (pv_fieldAddr (off := 1) (r := 0 + 1) Tryz.underlying61 rfl tiint32.size rfl rfl rfl) rfl ?_
    refine ln_gE rfl rfl rfl ?_
    refine ln_pv (pv_ldo (i := 0) (v := .int .i32 (-1)) rfl Tryz.underlying21 rfl rfl rfl) rfl ?_
    refine ln_gE rfl rfl rfl ?_
    refine ln_pv (pv_bv (b := false) (pv_eql rfl rfl) (by simp [h1])) rfl ?_
    refine ln_pv (pv_vv (v := .bool false) (pv_pick (v := .bool false) (u := .bool false) rfl (fun _ => rfl) (fun h => by cases h)) rfl) rfl ?_
    refine ln_pv (pv_move rfl) rfl ?_
    refine ln_gf rfl rfl rfl rfl rfl ?_
    refine ln_gf rfl rfl rfl rfl rfl ?_
    refine ln_gf rfl rfl rfl rfl rfl ?_
    refine ln_gf rfl rfl rfl rfl rfl ?_
    refine ln_gf rfl rfl rfl rfl rfl ?_
    refine ln_pv (pv_vv (v := .bool false) (pv_pick (u := .bool false) (v := .bool false) rfl (fun h => by cases h) (fun _ => rfl)) rfl) rfl ?_
    refine ln_pv (pv_move rfl) rfl ?_
    refine ln_gf rfl rfl rfl rfl rfl ?_
    refine ln_gf rfl rfl rfl rfl rfl ?_
    refine ln_gf rfl rfl rfl rfl rfl ?_
    refine ln_gf rfl rfl rfl rfl rfl ?_
    refine ln_gf rfl rfl rfl rfl rfl ?_
    refine ln_pv (pv_vv (v := .bool false) (pv_pick (u := .bool false) (v := .bool false) rfl (fun h => by cases h) (fun _ => rfl)) rfl) rfl ?_
    refine ln_pv (pv_move rfl) rfl ?_
    refine ln_gf rfl rfl rfl rfl rfl ?_
    refine ln_gf rfl rfl rfl rfl rfl ?_
    refine ln_gf rfl rfl rfl rfl rfl ?_
    refine ln_gf rfl rfl rfl rfl rfl ?_
    refine ln_gf rfl rfl rfl rfl rfl ?_
    refine ln_pv (pv_vv (v := .bool false) (pv_pick (u := .bool false) (v := .bool false) rfl (fun h => by cases h) (fun _ => rfl)) rfl) rfl ?_
    refine ln_pv (pv_assign rfl) rfl ?_
    refine ln_cd ?_
    refine cd_ret ?_
    exact at_retA rfl rfl (fun w hS => by simp [h0, h1])
  by_cases h2 : e = true
  rotate_left
  · skip
    refine cd_sr ?_
    refine ln_box (l := [_, _, _, _, _]) rfl rfl rfl (fun b1 => ?_)
    refine ln_box (l := [_, _, _, _, _]) rfl rfl rfl (fun b2 => ?_)
    refine ln_pv (pv_assign rfl) rfl ?_
    refine ln_cd ?_
    refine cd_sr ?_
    refine ln_pv (pv_fieldAddr (off := 0) (r := 0 + 0) Tryz.underlying61 rfl tiint32.size rfl rfl rfl) rfl ?_
    refine ln_pv (pv_ldo (i := 1) (v := .int .i32 a) rfl Tryz.underlying21 rfl rfl rfl) rfl ?_
    refine ln_pv (pv_fieldAddr (off := 0) (r := 0 + 0) Tryz.underlying61 rfl tiint32.size rfl rfl rfl) rfl ?_
    refine ln_pv (pv_ldo (i := 0) (v := .int .i32 (-1)) rfl Tryz.underlying21 rfl rfl rfl) rfl ?_
    refine ln_pv (pv_bv (b := true) (pv_eql rfl rfl) (by simp [h0])) rfl ?_
    refine ln_pv (pv_move rfl) rfl ?_
    refine ln_gE rfl rfl rfl ?_
    refine ln_pv (pv_fieldAddr (off := 1) (r := 0 + 1) Tryz.underlying61 rfl tiint32.size rfl rfl rfl) rfl ?_
    refine ln_gE rfl rfl rfl ?_
    refine ln_pv (pv_ldo (i := 1) (v := .int .i32 b) rfl Tryz.underlying21 rfl rfl rfl) rfl ?_
    refine ln_gE rfl rfl rfl ?_
    refine ln_pv (pv_fieldAddr (off := 1) (r := 0 + 1) Tryz.underlying61 rfl tiint32.size rfl rfl rfl) rfl ?_
    refine ln_gE rfl rfl rfl ?_
    refine ln_pv (pv_ldo (i := 0) (v := .int .i32 (-1)) rfl Tryz.underlying21 rfl rfl rfl) rfl ?_
    refine ln_gE rfl rfl rfl ?_
    refine ln_pv (pv_bv (b := true) (pv_eql rfl rfl) (by simp [h1])) rfl ?_
    refine ln_pv (pv_vv (v := .bool true) (pv_pick (v := .bool false) (u := .bool true) rfl (fun _ => rfl) (fun h => by cases h)) rfl) rfl ?_
    refine ln_pv (pv_move rfl) rfl ?_
    refine ln_gE rfl rfl rfl ?_
    refine ln_pv (pv_fieldAddr (off := 2) (r := 0 + 2) Tryz.underlying61 rfl tistring.size rfl rfl rfl) rfl ?_
    refine ln_gE rfl rfl rfl ?_
    refine ln_pv (pv_ldo (i := 1) (v := .string h) rfl Tryz.underlying9 rfl rfl rfl) rfl ?_
    refine ln_gE rfl rfl rfl ?_
    refine ln_pv (pv_fieldAddr (off := 2) (r := 0 + 2) Tryz.underlying61 rfl tistring.size rfl rfl rfl) rfl ?_
    refine ln_gE rfl rfl rfl ?_
    refine ln_pv (pv_ldo (i := 0) (v := .string .empty) rfl Tryz.underlying9 rfl rfl rfl) rfl ?_
    refine ln_gE rfl rfl rfl ?_
    refine ln_pv (pv_bv (b := false) (pv_eqSt Tryz.underlying9 rfl rfl) (by rw [← he]; simp [h2])) rfl ?_
    refine ln_pv (pv_vv (v := .bool false) (pv_pick (v := .bool false) (u := .bool false) rfl (fun _ => rfl) (fun h => by cases h)) rfl) rfl ?_
    refine ln_pv (pv_move rfl) rfl ?_
    refine ln_gf rfl rfl rfl rfl rfl ?_
    refine ln_gf rfl rfl rfl rfl rfl ?_
    refine ln_gf rfl rfl rfl rfl rfl ?_
    refine ln_gf rfl rfl rfl rfl rfl ?_
    refine ln_gf rfl rfl rfl rfl rfl ?_
    refine ln_pv (pv_vv (v := .bool false) (pv_pick (u := .bool false) (v := .bool false) rfl (fun h => by cases h) (fun _ => rfl)) rfl) rfl ?_
    refine ln_pv (pv_move rfl) rfl ?_
    refine ln_gf rfl rfl rfl rfl rfl ?_
    refine ln_gf rfl rfl rfl rfl rfl ?_
    refine ln_gf rfl rfl rfl rfl rfl ?_
    refine ln_gf rfl rfl rfl rfl rfl ?_
    refine ln_gf rfl rfl rfl rfl rfl ?_
    refine ln_pv (pv_vv (v := .bool false) (pv_pick (u := .bool false) (v := .bool false) rfl (fun h => by cases h) (fun _ => rfl)) rfl) rfl ?_
    refine ln_pv (pv_assign rfl) rfl ?_
    refine ln_cd ?_
    refine cd_ret ?_
    exact at_retA rfl rfl (fun w hS => by simp [h0, h1, h2])
  by_cases h3 : p = 0
  rotate_left
  · skip
    refine cd_sr ?_
    refine ln_box (l := [_, _, _, _, _]) rfl rfl rfl (fun b1 => ?_)
    refine ln_box (l := [_, _, _, _, _]) rfl rfl rfl (fun b2 => ?_)
    refine ln_pv (pv_assign rfl) rfl ?_
    refine ln_cd ?_
    refine cd_sr ?_
    refine ln_pv (pv_fieldAddr (off := 0) (r := 0 + 0) Tryz.underlying61 rfl tiint32.size rfl rfl rfl) rfl ?_
    refine ln_pv (pv_ldo (i := 1) (v := .int .i32 a) rfl Tryz.underlying21 rfl rfl rfl) rfl ?_
    refine ln_pv (pv_fieldAddr (off := 0) (r := 0 + 0) Tryz.underlying61 rfl tiint32.size rfl rfl rfl) rfl ?_
    refine ln_pv (pv_ldo (i := 0) (v := .int .i32 (-1)) rfl Tryz.underlying21 rfl rfl rfl) rfl ?_
    refine ln_pv (pv_bv (b := true) (pv_eql rfl rfl) (by simp [h0])) rfl ?_
    refine ln_pv (pv_move rfl) rfl ?_
    refine ln_gE rfl rfl rfl ?_
    refine ln_pv (pv_fieldAddr (off := 1) (r := 0 + 1) Tryz.underlying61 rfl tiint32.size rfl rfl rfl) rfl ?_
    refine ln_gE rfl rfl rfl ?_
    refine ln_pv (pv_ldo (i := 1) (v := .int .i32 b) rfl Tryz.underlying21 rfl rfl rfl) rfl ?_
    refine ln_gE rfl rfl rfl ?_
    refine ln_pv (pv_fieldAddr (off := 1) (r := 0 + 1) Tryz.underlying61 rfl tiint32.size rfl rfl rfl) rfl ?_
    refine ln_gE rfl rfl rfl ?_
    refine ln_pv (pv_ldo (i := 0) (v := .int .i32 (-1)) rfl Tryz.underlying21 rfl rfl rfl) rfl ?_
    refine ln_gE rfl rfl rfl ?_
    refine ln_pv (pv_bv (b := true) (pv_eql rfl rfl) (by simp [h1])) rfl ?_
    refine ln_pv (pv_vv (v := .bool true) (pv_pick (v := .bool false) (u := .bool true) rfl (fun _ => rfl) (fun h => by cases h)) rfl) rfl ?_
    refine ln_pv (pv_move rfl) rfl ?_
    refine ln_gE rfl rfl rfl ?_
    refine ln_pv (pv_fieldAddr (off := 2) (r := 0 + 2) Tryz.underlying61 rfl tistring.size rfl rfl rfl) rfl ?_
    refine ln_gE rfl rfl rfl ?_
    refine ln_pv (pv_ldo (i := 1) (v := .string h) rfl Tryz.underlying9 rfl rfl rfl) rfl ?_
    refine ln_gE rfl rfl rfl ?_
    refine ln_pv (pv_fieldAddr (off := 2) (r := 0 + 2) Tryz.underlying61 rfl tistring.size rfl rfl rfl) rfl ?_
    refine ln_gE rfl rfl rfl ?_
    refine ln_pv (pv_ldo (i := 0) (v := .string .empty) rfl Tryz.underlying9 rfl rfl rfl) rfl ?_
    refine ln_gE rfl rfl rfl ?_
    refine ln_pv (pv_bv (b := true) (pv_eqSt Tryz.underlying9 rfl rfl) (by rw [← he]; simp [h2])) rfl ?_
    refine ln_pv (pv_vv (v := .bool true) (pv_pick (v := .bool false) (u := .bool true) rfl (fun _ => rfl) (fun h => by cases h)) rfl) rfl ?_
    refine ln_pv (pv_move rfl) rfl ?_
    refine ln_gE rfl rfl rfl ?_
    refine ln_pv (pv_fieldAddr (off := 3) (r := 0 + 3) Tryz.underlying61 rfl tiint32.size rfl rfl rfl) rfl ?_
    refine ln_gE rfl rfl rfl ?_
    refine ln_pv (pv_ldo (i := 1) (v := .int .i32 p) rfl Tryz.underlying21 rfl rfl rfl) rfl ?_
    refine ln_gE rfl rfl rfl ?_
    refine ln_pv (pv_fieldAddr (off := 3) (r := 0 + 3) Tryz.underlying61 rfl tiint32.size rfl rfl rfl) rfl ?_
    refine ln_gE rfl rfl rfl ?_
    refine ln_pv (pv_ldo (i := 0) (v := .int .i32 0) rfl Tryz.underlying21 rfl rfl rfl) rfl ?_
    refine ln_gE rfl rfl rfl ?_
    refine ln_pv (pv_bv (b := false) (pv_eql rfl rfl) (by simp [h3])) rfl ?_
    refine ln_pv (pv_vv (v := .bool false) (pv_pick (v := .bool false) (u := .bool false) rfl (fun _ => rfl) (fun h => by cases h)) rfl) rfl ?_
    refine ln_pv (pv_move rfl) rfl ?_
    refine ln_gf rfl rfl rfl rfl rfl ?_
    refine ln_gf rfl rfl rfl rfl rfl ?_
    refine ln_gf rfl rfl rfl rfl rfl ?_
    refine ln_gf rfl rfl rfl rfl rfl ?_
    refine ln_gf rfl rfl rfl rfl rfl ?_
    refine ln_pv (pv_vv (v := .bool false) (pv_pick (u := .bool false) (v := .bool false) rfl (fun h => by cases h) (fun _ => rfl)) rfl) rfl ?_
    refine ln_pv (pv_assign rfl) rfl ?_
    refine ln_cd ?_
    refine cd_ret ?_
    exact at_retA rfl rfl (fun w hS => by simp [h0, h1, h2, h3])
  · skip
    refine cd_sr ?_
    refine ln_box (l := [_, _, _, _, _]) rfl rfl rfl (fun b1 => ?_)
    refine ln_box (l := [_, _, _, _, _]) rfl rfl rfl (fun b2 => ?_)
    refine ln_pv (pv_assign rfl) rfl ?_
    refine ln_cd ?_
    refine cd_sr ?_
    refine ln_pv (pv_fieldAddr (off := 0) (r := 0 + 0) Tryz.underlying61 rfl tiint32.size rfl rfl rfl) rfl ?_
    refine ln_pv (pv_ldo (i := 1) (v := .int .i32 a) rfl Tryz.underlying21 rfl rfl rfl) rfl ?_
    refine ln_pv (pv_fieldAddr (off := 0) (r := 0 + 0) Tryz.underlying61 rfl tiint32.size rfl rfl rfl) rfl ?_
    refine ln_pv (pv_ldo (i := 0) (v := .int .i32 (-1)) rfl Tryz.underlying21 rfl rfl rfl) rfl ?_
    refine ln_pv (pv_bv (b := true) (pv_eql rfl rfl) (by simp [h0])) rfl ?_
    refine ln_pv (pv_move rfl) rfl ?_
    refine ln_gE rfl rfl rfl ?_
    refine ln_pv (pv_fieldAddr (off := 1) (r := 0 + 1) Tryz.underlying61 rfl tiint32.size rfl rfl rfl) rfl ?_
    refine ln_gE rfl rfl rfl ?_
    refine ln_pv (pv_ldo (i := 1) (v := .int .i32 b) rfl Tryz.underlying21 rfl rfl rfl) rfl ?_
    refine ln_gE rfl rfl rfl ?_
    refine ln_pv (pv_fieldAddr (off := 1) (r := 0 + 1) Tryz.underlying61 rfl tiint32.size rfl rfl rfl) rfl ?_
    refine ln_gE rfl rfl rfl ?_
    refine ln_pv (pv_ldo (i := 0) (v := .int .i32 (-1)) rfl Tryz.underlying21 rfl rfl rfl) rfl ?_
    refine ln_gE rfl rfl rfl ?_
    refine ln_pv (pv_bv (b := true) (pv_eql rfl rfl) (by simp [h1])) rfl ?_
    refine ln_pv (pv_vv (v := .bool true) (pv_pick (v := .bool false) (u := .bool true) rfl (fun _ => rfl) (fun h => by cases h)) rfl) rfl ?_
    refine ln_pv (pv_move rfl) rfl ?_
    refine ln_gE rfl rfl rfl ?_
    refine ln_pv (pv_fieldAddr (off := 2) (r := 0 + 2) Tryz.underlying61 rfl tistring.size rfl rfl rfl) rfl ?_
    refine ln_gE rfl rfl rfl ?_
    refine ln_pv (pv_ldo (i := 1) (v := .string h) rfl Tryz.underlying9 rfl rfl rfl) rfl ?_
    refine ln_gE rfl rfl rfl ?_
    refine ln_pv (pv_fieldAddr (off := 2) (r := 0 + 2) Tryz.underlying61 rfl tistring.size rfl rfl rfl) rfl ?_
    refine ln_gE rfl rfl rfl ?_
    refine ln_pv (pv_ldo (i := 0) (v := .string .empty) rfl Tryz.underlying9 rfl rfl rfl) rfl ?_
    refine ln_gE rfl rfl rfl ?_
    refine ln_pv (pv_bv (b := true) (pv_eqSt Tryz.underlying9 rfl rfl) (by rw [← he]; simp [h2])) rfl ?_
    refine ln_pv (pv_vv (v := .bool true) (pv_pick (v := .bool false) (u := .bool true) rfl (fun _ => rfl) (fun h => by cases h)) rfl) rfl ?_
    refine ln_pv (pv_move rfl) rfl ?_
    refine ln_gE rfl rfl rfl ?_
    refine ln_pv (pv_fieldAddr (off := 3) (r := 0 + 3) Tryz.underlying61 rfl tiint32.size rfl rfl rfl) rfl ?_
    refine ln_gE rfl rfl rfl ?_
    refine ln_pv (pv_ldo (i := 1) (v := .int .i32 p) rfl Tryz.underlying21 rfl rfl rfl) rfl ?_
    refine ln_gE rfl rfl rfl ?_
    refine ln_pv (pv_fieldAddr (off := 3) (r := 0 + 3) Tryz.underlying61 rfl tiint32.size rfl rfl rfl) rfl ?_
    refine ln_gE rfl rfl rfl ?_
    refine ln_pv (pv_ldo (i := 0) (v := .int .i32 0) rfl Tryz.underlying21 rfl rfl rfl) rfl ?_
    refine ln_gE rfl rfl rfl ?_
    refine ln_pv (pv_bv (b := true) (pv_eql rfl rfl) (by simp [h3])) rfl ?_
    refine ln_pv (pv_vv (v := .bool true) (pv_pick (v := .bool false) (u := .bool true) rfl (fun _ => rfl) (fun h => by cases h)) rfl) rfl ?_
    refine ln_pv (pv_move rfl) rfl ?_
    refine ln_gE rfl rfl rfl ?_
    refine ln_pv (pv_fieldAddr (off := 4) (r := 0 + 4) Tryz.underlying61 rfl tipub_kmsg_Tags.size rfl rfl rfl) rfl ?_
    refine ln_gE rfl rfl rfl ?_
    refine ln_pv (pv_ldOff (i := 1) (off := 4) (l := [_, _, _, _, _]) (vs := [.map mo]) rfl Tryz.underlying59 rfl tipub_kmsg_Tags.size rfl rfl rfl) rfl ?_
    refine ln_gE rfl rfl rfl ?_
    refine ln_pv (pv_fieldAddr (off := 4) (r := 0 + 4) Tryz.underlying61 rfl tipub_kmsg_Tags.size rfl rfl rfl) rfl ?_
    refine ln_gE rfl rfl rfl ?_
    refine ln_pv (pv_ldOff (i := 0) (off := 4) (l := [_, _, _, _, _]) (vs := [.map none]) rfl Tryz.underlying59 rfl tipub_kmsg_Tags.size rfl rfl rfl) rfl ?_
    refine ln_gE rfl rfl rfl ?_
    have hz : ∀ u, Tr t u → CS Tryz.prog 59 [.agg [.map mo].toArray, .agg [.map none].toArray] u (.bool mo.isNone) := fun u _ => tags_zzSame u mo
    refine ln_callS (v := .bool mo.isNone) (vals := [.agg [.map mo].toArray, .agg [.map none].toArray]) (hent := ?hent) (hargs := ?hargs) (hc := ?hc) ?hb ?_
    case hc => exact hz
    case hent => exact en_59
    case hargs => rfl
    case hb => rfl
    refine ln_pv (pv_vv (v := .bool mo.isNone) (pv_pick (v := .bool false) (u := .bool mo.isNone) rfl (fun _ => rfl) (fun h => by cases h)) rfl) rfl ?_
    refine ln_pv (pv_assign rfl) rfl ?_
    refine ln_cd ?_
    refine cd_ret ?_
    exact at_retA rfl rfl (fun w hS => by simp [h0, h1, h2, h3])
end K
end Go.Proofs.YtepbicjadambbabGreatDoor
namespace Go.Proofs.YtepbicjadambbabGreatDoor
namespace K
open Go Go.Lib
/-! ### The part that is tagged: what is asked, and what is written -/
section
variable {n : Nat} {L : Env} {H0 : Hp} {C : Cx} {s : Vw} {N R : Act → World → Prop} {X : List (Nat × (Act → World → Prop))}
variable {id id' id1 id2 id3 : Nat} {td x y p d0 d1 d2 d3 d4 d5 d6 d7 d8 d9 e1 e2 e3 e4 : Nat} {f g : FuncId} {vd val : Value} {Lc bs rest Full : List UInt8} {ts ts' : Array TypeId}
variable {ty0 ty1 ty2 ty3 ty4 ty5 ty6 ty7 ty8 ty9 : TypeId} {p0 p1 p2 p3 p4 p5 p6 p7 p8 p9 : String} {a0 a1 a2 a3 a4 a5 a6 a7 a8 a9 : Array Edge}
variable {uy1 uy2 uy3 uy4 uy5 uy6 : TypeId} {q1 q2 q3 q4 q5 q6 : String} {c1 c2 c3 c4 c5 c6 : Array Edge}
variable {T ft : TypeId} {fs : Array Field} {k off sz b o : Nat} {fl : Field} {dd : TypeDesc} {cells : List Value}
/-- y = x.F, x a box -/
theorem ap_loadB (hx : lk L p = some (.pointer (some ⟨b, o, none⟩))) (hu : Tryz.prog.underlying T = some (.struct fs)) (hk : fs[k]? = some fl) (hsz : (Tryz.prog.info? fl.type).map (·.size) = some (sz + 1)) (ho : fl.offset = off)
    (hd : Tryz.prog.underlying ft = some dd) (hna : aggD dd = false) (hrc : RC s b o cells) (hc : cells[off]? = some val) (hf : frs n L [td, y, d3, d4] = true)
    (kk : At N n ((td, vd) :: (y, val) :: L) (OctRow vd Lc :: H0) C s) :
    Cd Tryz.prog (.region id [⟨some d3, .fieldAddr T (.tmp p) k, ty3, p3, a3, none⟩, ⟨some d4, .load ft (.tmp d3), ty4, p4, a4, none⟩, ⟨some y, .assign (.tmp d4), ty5, p5, a5, none⟩].toArray false)
      ⟨N, R, X⟩ n ((td, vd) :: L) (OctRow vd Lc :: H0) C s := by
  obtain ⟨hb, hfr, hne⟩ := frs_get hf
  simp only [List.pairwise_cons, List.mem_cons, List.not_mem_nil, or_false, forall_eq_or_imp, forall_eq, List.Pairwise.nil, and_true, false_imp_iff, implies_true] at hb hfr hne
  obtain ⟨f0, fy, f3, f4⟩ := hfr
  obtain ⟨b0, by_, b3, b4⟩ := hb
  refine cd_region ?_
  refine ln_pv (pv_fieldAddr hu hk hsz ho (by rw [ev_t, lk_ne (lk_fr f0 hx)]; exact hx) rfl) b3 ?_
  refine ln_pv (pv_ldr hrc hd (by cases dd <;> first | rfl | (simp [aggD] at hna)) lk_eq hc) b4 ?_
  refine ln_pv (pv_assign lk_eq) by_ ?_
  exact ln_nil (at_sub (sub.put (by simp [lk_eq, lk_ne, hne]) (sub.cons (.skip f4 (.skip f3 (.skip f0 .rfl'))))) kk)
end
section
variable {n : Nat} {L : Env} {H0 : Hp} {C : Cx} {s : Vw} {N R : Act → World → Prop} {X : List (Nat × (Act → World → Prop))}
variable {id id' id1 id2 id3 : Nat} {td x y p d0 d1 d2 d3 d4 d5 d6 d7 d8 d9 e1 e2 e3 e4 e5 e6 : Nat} {f g : FuncId} {vd val : Value} {Lc bs rest Full : List UInt8} {ts ts' : Array TypeId}
variable {ty0 ty1 ty2 ty3 ty4 ty5 ty6 ty7 ty8 ty9 : TypeId} {p0 p1 p2 p3 p4 p5 p6 p7 p8 p9 : String} {a0 a1 a2 a3 a4 a5 a6 a7 a8 a9 : Array Edge}
variable {uy1 uy2 uy3 uy4 uy5 uy6 : TypeId} {q1 q2 q3 q4 q5 q6 : String} {c1 c2 c3 c4 c5 c6 : Array Edge}
variable {T ft vy1 vy2 : TypeId} {fs : Array Field} {k off sz b o : Nat} {fl : Field} {dd : TypeDesc} {cells : List Value} {ts2 : Array TypeId}
/-- the unknown tags of a box -/
theorem ap_tagsB {q : Bool} {fx : Nat} {yy : Tre} {mv : Value} (hq : lk L fx = some (.bool q)) (hp : lk L p = some (.pointer (some ⟨b, o, none⟩))) (hu : Tryz.prog.underlying T = some (.struct fs)) (hk : fs[k]? = some fl) (hsz : (Tryz.prog.info? fl.type).map (·.size) = some (sz + 1)) (ho : fl.offset = off)
    (hrc : RC s b o cells) (hc : cells[off]? = some mv) (hT : RTg s yy mv) (hok : q = true → yy.u.Pairwise (fun x y => x.1 < y.1) ∧ (∀ y ∈ yy.u, y.1 < 4294967296 ∧ y.2.length ≤ 32767) ∧ yy.u.length ≤ 32767)
    (hf : frs n L [td, d0] = true) (hf1 : frs n L [td, d1, d4, d5, d6, d7, d8] = true) (hf2 : frs n L [td, e3, e4, e5] = true)
    (hE : Lc ++ ((if q then uvar yy.u.length ++ yy.u.flatMap tagB else []) ++ rest) = Full) (hB : Full.length ≤ 4398046511104)
    (kk : ∀ u v' Lc', Tr s u → Lc' ++ rest = Full → At N n ((td, v') :: L) (OctRow v' Lc' :: H0) C u) :
    Cd Tryz.prog (.seq (.region id [⟨some d0, .move (.tmp fx), ty0, p0, a0, none⟩].toArray false) (.cond (.tmp d0)
      (.seq (.region id1 [⟨some d1, .move (.tmp td), ty1, p1, a1, none⟩, ⟨some d4, .fieldAddr T (.tmp p) k, ty4, p4, a4, none⟩,
          ⟨some d5, .call ⟨.value (.func 36), [.tmp d4].toArray, ts⟩, ty5, p5, a5, none⟩, ⟨some d6, .convert 3 53 (.tmp d5), ty6, p6, a6, none⟩, ⟨some d7, .binOp .add uy1 (.const (.int .u32 0)) (.tmp d6) uy2, ty7, p7, a7, none⟩,
          ⟨some d8, .call ⟨.value (.func 35), [.tmp d1, .tmp d7].toArray, ts'⟩, ty8, p8, a8, none⟩, ⟨some td, .assign (.tmp d8), ty9, p9, a9, none⟩].toArray false)
        (.region id2 [⟨some e3, .fieldAddr T (.tmp p) k, uy5, q3, c3, none⟩, ⟨some e4, .move (.tmp td), uy6, q4, c4, none⟩,
          ⟨some e5, .call ⟨.value (.func 39), [.tmp e3, .tmp e4].toArray, ts2⟩, vy1, q5, c5, none⟩, ⟨some td, .assign (.tmp e5), vy2, q6, c6, none⟩].toArray false)) .skip))
      ⟨N, R, X⟩ n ((td, vd) :: L) (OctRow vd Lc :: H0) C s := by
  refine ap_test hq hf (fun h => ?_) (fun h => ?_)
  · subst h
    obtain ⟨o1, o2, o3⟩ := hok rfl
    rw [if_pos rfl, List.append_assoc] at hE
    obtain ⟨l, hMK, hRK⟩ := hT
    have hlen := hRK.len
    have hrc1 : RC s b (o + off) [mv] := ⟨hrc.1, fun j w hj => by
      cases j with
      | zero =>
        simp only [List.getElem?_cons_zero, Option.some.injEq] at hj
        subst hj
        exact hrc.2 off mv hc
      | succ j => simp at hj⟩
    refine cd_sq ?_
    · obtain ⟨hb, hfr, hne⟩ := frs_get hf1
      simp only [List.pairwise_cons, List.mem_cons, List.not_mem_nil, or_false, forall_eq_or_imp, forall_eq, List.Pairwise.nil, and_true, false_imp_iff, implies_true] at hb hfr hne
      obtain ⟨f0, f1, f4, f5, f6, f7, f8⟩ := hfr
      obtain ⟨b0, b1, b4, b5, b6, b7, b8⟩ := hb
      refine cd_region ?_
      refine ln_pv (pv_move (v := vd) lk_eq) b1 ?_
      refine ln_pv (pv_fieldAddr hu hk hsz ho (by rw [ev_t, lk_ne (lk_fr f1 hp), lk_ne (lk_fr f0 hp)]; exact hp) rfl) b4 ?_
      refine ln_callS (vals := [.pointer (some ⟨b, o + off, none⟩)]) en_36 (by simp [evs, ev_t, lk_eq]) (fun u hu => tags_Len u b (o + off) mv l (hrc1.mv hu (by simp)) (hMK.mv hu)) b5 ?_
      refine ln_pv (pv_conv' Tryz.underlying3 Tryz.underlying53 lk_eq (r := ((yy.u.length : Nat) : Int)) (by rw [hlen]; exact wrap_u32_in (by omega) (by omega))) b6 ?_
      refine ln_pv (pv_add' ev_c lk_eq (r := ((yy.u.length : Nat) : Int)) (by rw [Int.zero_add]; exact wrap_u32_in (by omega) (by omega))) b7 ?_
      refine ln_callT (i := 0) (vals := [vd, .int .u32 ((yy.u.length : Nat) : Int)]) en_35 (by simp [evs, ev_t, lk_eq, lk_ne, hne]) rfl (fun u hu hok hav => kbin_AppendUvarint u yy.u.length (by omega) _ _ (app_len hE hB) hok hav) b8 ?_
      rintro u v' _ ht ⟨_, ⟨rfl, h1⟩, _⟩
      refine ln_pv (pv_assign (v := v') lk_eq) b0 ?_
      refine ln_nil (at_sub (.cons (.skip f8 (.skip f7 (.skip f6 (.skip f5 (.skip f4 (.skip f1 (.skip f0 .rfl')))))))) ?_)
      have hE := app_step hE
      have hrc1 := hrc1.mv ht (by simp)
      have hMK := hMK.mv ht
      have hRK := RK.mv ht hRK
      dsimp only [List.set]
      generalize Lc ++ uvar yy.u.length = Lc2 at *
      refine at_cd ?_
      obtain ⟨hb, hfr, hne⟩ := frs_get hf2
      simp only [List.pairwise_cons, List.mem_cons, List.not_mem_nil, or_false, forall_eq_or_imp, forall_eq, List.Pairwise.nil, and_true, false_imp_iff, implies_true] at hb hfr hne
      obtain ⟨f0, f3, f4, f5⟩ := hfr
      obtain ⟨b0, b3, b4, b5⟩ := hb
      refine cd_region ?_
      refine ln_pv (pv_fieldAddr hu hk hsz ho (by rw [ev_t, lk_ne (lk_fr f0 hp)]; exact hp) rfl) b3 ?_
      refine ln_pv (pv_move (v := v') (by simp [ev_t, lk_eq, lk_ne, hne])) b4 ?_
      refine ln_callT (i := 0) (vals := [.pointer (some ⟨b, o + off, none⟩), v']) en_39 (by simp [evs, ev_t, lk_eq, lk_ne, hne]) rfl (fun u hu hok hav => tags_AppendEach u b (o + off) mv l yy.u _ _ (hrc1.mv hu (by simp)) (hMK.mv hu) (RK.mv hu hRK) o1 o2 (app_len hE hB) hok hav) b5 ?_
      rintro u2 v2 _ ht2 ⟨_, ⟨rfl, h2⟩, _⟩
      refine ln_pv (pv_assign (v := v2) lk_eq) b0 ?_
      refine ln_nil (at_sub (.cons (.skip f5 (.skip f4 (.skip f3 (.skip f0 .rfl')))))  ?_)
      exact kk u2 v2 _ (ht.trans ht2) (app_step hE)
  · subst h
    exact cd_skip (at_base fun u hu => kk u vd Lc hu (by simpa using hE))
end
section
variable {n : Nat} {L : Env} {H0 : Hp} {C : Cx} {s : Vw} {N R : Act → World → Prop} {X : List (Nat × (Act → World → Prop))}
variable {id id' id1 id2 id3 bid : Nat} {td x p sz la d0 d1 d2 d3 d4 d5 d6 e1 e2 e3 e4 lb : Nat} {vd val : Value} {Lc bs rest Full fb : List UInt8} {ts ts' : Array TypeId} {f : FuncId}
variable {ty0 ty1 ty2 ty3 ty4 ty5 ty6 : TypeId} {p0 p1 p2 p3 p4 p5 p6 : String} {a0 a1 a2 a3 a4 a5 a6 : Array Edge} {uy1 uy2 uy3 uy4 uy5 uy6 uy7 : TypeId} {q1 q2 q3 q4 q5 q6 q7 : String} {c1 c2 c3 c4 c5 c6 c7 : Array Edge}
variable {T ft : TypeId} {fs : Array Field} {k off szz b o : Nat} {fl : Field} {dd : TypeDesc} {cells : List Value} {W : Code}
/-- a tagged part: a copy of it is written twice -/
theorem ap_scopeP {vs : List Value} {zz : Value} {by_ m : Nat} {lz : List Value} (hx : lk L p = some (.pointer (some ⟨b, o, none⟩))) (hu : Tryz.prog.underlying T = some (.struct fs)) (hk : fs[k]? = some fl) (hsz : (Tryz.prog.info? fl.type).map (·.size) = some (szz + 1)) (ho : fl.offset = off)
    (hd : Tryz.prog.underlying ft = some dd) (hna : aggD dd = true) (hti : TI Tryz.prog ft zz m by_) (hzz : zz.cells = lz.toArray) (hzl : lz.length = m) (hvs : (cells.drop off).take m = vs) (hvl : vs.length = m) (hv1 : ∀ v ∈ vs, v.oneCell' = true) (hm0 : 0 < m) (hrc : RC s b o cells) (hf1 : frs n L [td, x, d1, d2, d3, d4] = true) (hf2 : frs n ((x, .bool true) :: L) [td, e1, e2] = true) (hf3 : frs n ((td, vd) :: (x, .bool true) :: L) [sz] = true) (hf4 : frs n ((sz, .bool false) :: (x, .bool true) :: L) [td, la, e3, e4] = true)
    (hE : Lc ++ (uvar 0 ++ (uvar fb.length ++ (fb ++ rest))) = Full) (hB : Full.length ≤ 4398046511104)
    (first : ∀ bx u v', Tr s u → RC u bx 0 vs → CdG Tryz.prog W lb (fun a w => ∃ (z : Value × Nat) (u1 : Vw), Tr s u1 ∧ RC u1 z.2 0 vs ∧ Fr n ((td, z.1) :: (la, .int .i64 ((Lc ++ uvar 0).length : Int)) :: (sz, .bool true) :: (x, .pointer (some ⟨z.2, 0, none⟩)) :: L) a ∧ St C u1 (OctRow z.1 ((Lc ++ uvar 0) ++ uvar fb.length) :: H0) w) ⟨N, R, X⟩ n
      ((td, v') :: (la, .int .i64 ((Lc ++ uvar 0).length : Int)) :: (sz, .bool false) :: (x, .pointer (some ⟨bx, 0, none⟩)) :: L) (OctRow v' (Lc ++ uvar 0) :: H0) C u)
    (second : ∀ bx u v', Tr s u → RC u bx 0 vs → Cd Tryz.prog W ⟨N, R, X⟩ n ((td, v') :: (la, .int .i64 ((Lc ++ uvar 0).length : Int)) :: (sz, .bool true) :: (x, .pointer (some ⟨bx, 0, none⟩)) :: L) (OctRow v' ((Lc ++ uvar 0) ++ uvar fb.length) :: H0) C u) :
    Cd Tryz.prog (.scope (.seq (.region id [⟨some d1, .move (.tmp p), ty1, p1, a1, none⟩, ⟨some d2, .nilCheck (.tmp d1), ty2, p2, a2, none⟩, ⟨some d3, .fieldAddr T (.tmp d2) k, ty3, p3, a3, none⟩, ⟨some d4, .load ft (.tmp d3), ty4, p4, a4, none⟩, ⟨some x, .alloc ft, ty5, p5, a5, none⟩, ⟨none, .store ft (.tmp x) (.tmp d4), ty6, p6, a6, none⟩].toArray false) (.seq (.region id1 [⟨some e1, .move (.tmp td), uy1, q1, c1, none⟩, ⟨some e2, .call ⟨.value (.func 35), [.tmp e1, .const (.int .u32 0)].toArray, ts⟩, uy2, q2, c2, none⟩, ⟨some td, .assign (.tmp e2), uy3, q3, c3, none⟩].toArray false) (.seq (.region id2 [⟨some sz, .assign (.const (.bool false)), uy4, q4, c4, none⟩].toArray false) (.seq (.region id3 [⟨some e3, .move (.tmp td), uy5, q5, c5, none⟩, ⟨some e4, .call ⟨.builtin .len, #[.tmp e3], #[22]⟩, uy6, q6, c6, none⟩, ⟨some la, .assign (.tmp e4), uy7, q7, c7, none⟩].toArray false) (.seq (.label lb) W)))))) ⟨N, R, X⟩ n ((td, vd) :: L) (OctRow vd Lc :: H0) C s := by
  have hf1' := hf1
  obtain ⟨hb, hfr, hne⟩ := frs_get hf1
  simp only [List.pairwise_cons, List.mem_cons, List.not_mem_nil, or_false, forall_eq_or_imp, forall_eq, List.Pairwise.nil, and_true, false_imp_iff, implies_true] at hb hfr hne
  obtain ⟨f0, fx, f1, f2, f3, f4⟩ := hfr
  obtain ⟨b0, bx, b1, b2, b3, b4⟩ := hb
  have hvn : vs ≠ [] := fun h => by rw [h] at hvl; simp at hvl; omega
  refine cd_scopeJ (S := Value × Nat) lb (fun z => (td, z.1) :: (la, .int .i64 ((Lc ++ uvar 0).length : Int)) :: (sz, .bool true) :: (x, .pointer (some ⟨z.2, 0, none⟩)) :: L) (fun z => OctRow z.1 ((Lc ++ uvar 0) ++ uvar fb.length) :: H0) (fun z u => RC u z.2 0 vs) (rest := .seq .skip W) ?_ ?_ ?_
  · simp [findLabel]
  · refine cdG_sq ?_
    refine cd_region ?_
    refine ln_pv (pv_move (by rw [ev_t, lk_ne (lk_fr f0 hx)]; exact hx)) b1 ?_
    refine ln_pv (pv_nilCheck lk_eq) b2 ?_
    refine ln_pv (pv_fieldAddr hu hk hsz ho lk_eq rfl) b3 ?_
    refine ln_pv (pv_ldSub hrc hd hna hti.size hvs hvl lk_eq) b4 ?_
    refine ln_allocF hti hzz bx (fun b9 hb9 => ?_)
    refine ln_storeW (i := 0) (vs := vs) (v := .agg vs.toArray) rfl lk_eq (by simp [ev_t, lk_eq, lk_ne, hne]) rfl (by rw [hzl]; exact hti.size) (hvl.trans hzl.symm) hv1 ?_
    refine ln_freeF (fun q hq => by simp [Ent.blk] at hq; exact hq ▸ hb9) (fun s9 hs9 hK9 => ?_)
    have hob : OB s9 b9 (.cells vs.toArray ft) := hK9
    have hrb : RC s9 b9 0 vs := hob.rc
    clear hK9
    refine ln_nil (at_sub (L' := (td, vd) :: (x, .pointer (some ⟨b9, 0, none⟩)) :: L) ?_ ?_)
    · exact .put (by simp [lk_eq, lk_ne, hne]) (.put (by simp [lk_eq, lk_ne, hne]) (.skip fx (.skip f4 (.skip f3 (.skip f2 (.skip f1 (.skip f0 .rfl')))))))
    refine at_cdG ?_
    refine cdG_sq ?_
    refine ap_callK en_35 (by simpa [frs, fr] using hf2) (fun u hu => kbin_AppendUvarint u 0 (by omega)) hE hB (fun u v' Lc' ht hL => ?_)
    subst hL
    refine at_cdG ?_
    refine cdG_sq ?_
    have hf3' : frs n ((td, v') :: (x, .pointer (some ⟨b9, 0, none⟩)) :: L) [sz] = true := by simpa [frs, fr] using hf3
    have hne : ¬ sz = td := by
      intro e
      subst e
      simp [frs, fr] at hf3
    refine ap_const hf3' ?_
    refine at_cdG ?_
    refine cdG_sq ?_
    refine cd_sub_ (L' := (td, v') :: (sz, .bool false) :: (x, .pointer (some ⟨b9, 0, none⟩)) :: L) (sub.swap (nbeq hne)) ?_
    refine ap_lenD (by simpa [frs, fr] using hf4) ?_
    refine at_cdG ?_
    refine cdG_label ?_
    exact first b9 u v' (hs9.trans ht) (hrb.mv ht hvn)
  · rintro ⟨z, b9⟩ u ht hI
    exact cd_sq (cd_skip (at_cd (second b9 u z ht hI)))
end
theorem fixed4_eq (n d : Int) : fixed n 4 = fixed d 4 ↔ IntKind.i32.wrap n = IntKind.i32.wrap d := by
  constructor
  · have e : ∀ x : Int, fixed x 4 = [b8 (x / 16777216), b8 (x / 65536), b8 (x / 256), b8 x] := fun x => by simp [fixed]
    rw [e, e]
    simp only [List.cons.injEq, and_true]
    rintro ⟨h1, h2, h3, h4⟩
    have g1 := congrArg (fun u : UInt8 => (u.toNat : Int)) h1
    have g2 := congrArg (fun u : UInt8 => (u.toNat : Int)) h2
    have g3 := congrArg (fun u : UInt8 => (u.toNat : Int)) h3
    have g4 := congrArg (fun u : UInt8 => (u.toNat : Int)) h4
    simp only [b8n] at g1 g2 g3 g4
    have hm : n % 4294967296 = d % 4294967296 := by omega
    simp only [IntKind.wrap, IntKind.bits, IntKind.signed]
    have hp : ((2 : Int) ^ 32) = 4294967296 := by decide
    simp [hm]
  · intro h
    rw [← fixed_wrap32 n, h, fixed_wrap32 d]
theorem RTg.map {s : Vw} {y : Tre} {mv : Value} (h : RTg s y mv) (hn : y.u = [] → mv = .map none) : ∃ mo, mv = .map mo ∧ mo.isNone = decide (y.u.length = 0) := by
  obtain ⟨l, h1, h2⟩ := h
  have hl := h2.len
  rcases h1 with ⟨rfl, rfl⟩ | ⟨m, rfl, _⟩
  · exact ⟨none, rfl, (decide_eq_true (by simpa using hl.symm)).symm⟩
  · refine ⟨some m, rfl, (decide_eq_false fun h0 => ?_).symm⟩
    have := hn (List.eq_nil_of_length_eq_zero h0)
    cases this
theorem us_zz {y : Tre} {mo : Option Nat} (hu : (unkn 0 y.u).map cut = y.u) (hmo : mo.isNone = decide (y.u.length = 0)) :
    usualB uF y = (decide (IntKind.i32.wrap (y.at_ 0).n = -1) && decide (IntKind.i32.wrap (y.at_ 1).n = -1) && ((⟨(y.at_ 2).s.toArray⟩ : ByteArray).toList == ByteArray.empty.toList) && decide (IntKind.i32.wrap (y.at_ 3).n = 0) && mo.isNone) := by
  rw [us_uF, hmo]
  have e1 : ∀ n d : Int, IntKind.i32.wrap d = d → decide (fixed n 4 = fixed d 4) = decide (IntKind.i32.wrap n = d) := fun n d hd => decide_eq_decide.2 (by rw [fixed4_eq, hd])
  have e2 : ((⟨(y.at_ 2).s.toArray⟩ : ByteArray).toList == ByteArray.empty.toList) = decide ((y.at_ 2).s.length = 0) := by
    rw [ByteArray.toList_eq, ByteArray.toList_eq]
    cases h : (y.at_ 2).s <;> simp
  have e3 : decide ((unkn 0 y.u).length = 0) = decide (y.u.length = 0) := by
    have := congrArg List.length hu
    rw [List.length_map] at this
    rw [this]
  rw [e1 _ _ (by decide), e1 _ _ (by decide), e1 _ _ (by decide), e2, e3]
  simp only [Bool.and_assoc]
/-- the relation, and that a part without unknown tags has no map -/
def RMq (s : Vw) (fs : List Fld) (y : Tre) (cs : List Value) : Prop := RMp s fs y cs ∧ ((y.at_ 2).u = [] → cs[6]? = some (.map none))
theorem RMq.mv {s t : Vw} {fs : List Fld} {y : Tre} {cs : List Value} (h : RMq s fs y cs) (ht : Tr s t) : RMq t fs y cs := ⟨h.1.mv ht, h.2⟩
end K
end Go.Proofs.YtepbicjadambbabGreatDoor
namespace Go.Proofs.YtepbicjadambbabGreatDoor
namespace K
open Go Go.Lib
theorem rd_TagsN (t : Vw) (l : Tags) (hk : (l.map (·.1)).Nodup) (hb : ∀ y ∈ l, y.1 < 4294967296 ∧ y.2.length ≤ 32767) (hn : l.length < 4294967296) :
    RdC 55 (uvar l.length ++ l.flatMap tagB) (fun u r => ∃ mv ml, r = .agg #[mv] ∧ MK u mv ml ∧ RK u ml l ∧ (l = [] → mv = .map none)) t := by
  intro b v rest hv hok hav
  rw [List.append_assoc] at hv
  refine ct_enter Tryz.func55 rfl Tryz.ntmps55 rfl hok hav (by simp [Ent.blk]) ?_
  refine cd_sr ?_
  refine ln_alloc (l := [.map none]) tipub_kmsg_Tags rfl rfl (fun b2 => ?_)
  refine ln_cd ?_
  refine cd_sr ?_
  refine ln_alloc (l := [.map none]) tipub_kmsg_Tags rfl rfl (fun b3 => ?_)
  refine ln_cd ?_
  refine cd_seq ?_
  refine cd_sr ?_
  refine ln_pv (pv_move rfl) rfl ?_
  refine ln_callT (i := 2) en_48 rfl rfl (fun u hu hok hav => rd_Uvarint u l.length hn b v _ (RSv.mv hv hu) hok hav) rfl ?_
  rintro u1 _ _ ht1 ⟨ux1, ⟨rfl, v1, rfl, hv1⟩, hx1⟩
  have hv1 := hv1.mv hx1
  refine ln_pv (pv_assign rfl) rfl ?_
  refine ln_cd ?_
  refine cd_perm (H' := [RdE b v1, .obj b3 (.cells [Value.map none].toArray 59), .obj b2 (.cells [Value.map none].toArray 59)]) (by
    refine List.Perm.trans (List.perm_append_comm (l₁ := [Ent.obj b3 (.cells [Value.map none].toArray 59), .obj b2 (.cells [Value.map none].toArray 59)]) (l₂ := [RdE b v1])) ?_
    exact List.Perm.refl _) ?_
  refine cd_block ?_
  refine cd_loop' (S := Nat × Option Nat × List (Nat × Value) × Value) ⟨fun z => [(4, .int .u32 ((l.length - z.1 : Nat) : Int)), (3, .pointer (some ⟨b3, 0, none⟩)), (2, .pointer (some ⟨b2, 0, none⟩)), (0, .pointer (some ⟨b, 0, none⟩))],
      fun z => RdE b z.2.2.2 :: (mapE z.2.1 z.2.2.1 ++ .obj b3 (.cells [mapV z.2.1].toArray 59) :: [.obj b2 (.cells [Value.map none].toArray 59)]),
      fun z u => (z.1 = 0 → z.2.1 = none) ∧ z.1 ≤ l.length ∧ RK u z.2.2.1 (l.take z.1) ∧ (z.2.1 = none → z.2.2.1 = []) ∧ RSn u z.2.2.2 ((l.drop z.1).flatMap tagB ++ rest), fun z => l.length - z.1⟩ (0, none, [], v1)
    (fun u hu => ⟨fun _ => rfl, Nat.zero_le _, rfl, fun _ => rfl, hv1.mv hu⟩) ?_ (List.Sublist.refl _) ?_
  · exact .put rfl (.put rfl (.put rfl (.put rfl (fun _ _ h => by simp [lk] at h))))
  · rintro ⟨i, mo, ml, v2⟩ u hu ⟨hm0, hi, hRK, hmo, hv2⟩
    dsimp only at hm0 hi hRK hmo hv2 ⊢
    refine cd_seq ?_
    refine cd_sr ?_
    refine ln_pv (pv_move rfl) rfl ?_
    refine ln_pv (pv_gtr rfl rfl) rfl ?_
    refine ln_cd ?_
    refine cd_if rfl (fun hlt => ?_) (fun hge => ?_)
    · have hi' : i < l.length := by omega
      have hbi := hb _ (List.getElem_mem hi')
      rw [tagB_cons hi'] at hv2
      refine cd_skip ?_
      refine at_cd ?_
      refine cd_seq ?_
      refine cd_block ?_
      refine cd_sr ?_
      refine ln_pv (pv_move rfl) rfl ?_
      refine ln_callT (i := 0) en_48 rfl rfl (fun u hu hok hav => rd_Uvarint u _ hbi.1 b v2 _ (RSv.mv hv2.1 hu) hok hav) rfl ?_
      rintro u3 _ _ ht3 ⟨ux3, ⟨rfl, v3, rfl, hv3⟩, hx3⟩
      have hv3 := hv3.mv hx3
      refine ln_pv (pv_move rfl) rfl ?_
      refine ln_callT (i := 0) en_48 rfl rfl (fun u hu hok hav => rd_Uvarint u _ (by omega) b v3 _ (RSv.mv hv3.1 hu) hok hav) rfl ?_
      rintro u4 _ _ ht4 ⟨ux4, ⟨rfl, v4, rfl, hv4⟩, hx4⟩
      have hv4 := hv4.mv hx4
      refine ln_pv (pv_assign rfl) rfl ?_
      refine ln_pv (pv_assign rfl) rfl ?_
      refine ln_cd ?_
      refine cd_region ?_
      refine ln_pv (pv_move rfl) rfl ?_
      refine ln_pv (pv_move rfl) rfl ?_
      refine ln_pv (pv_move rfl) rfl ?_
      refine ln_pv (pv_conv' (k := .u32) (i := (l[i].2.length : Int)) Tryz.underlying53 Tryz.underlying3 rfl (r := (l[i].2.length : Int)) (by rw [wrap_i64 (by omega) (by omega)])) rfl ?_
      refine ln_callT (i := 0) (vals := [.pointer (some ⟨b, 0, none⟩), .int .i64 (l[i].2.length : Int)]) en_50 rfl rfl (fun u hu hok hav => rd_Span u b _ l[i].2 _ (hv4.mv hu) hok hav) rfl ?_
      rintro u5 r5 _ ht5 ⟨ux5, ⟨hr5, v5, rfl, hv5⟩, hx5⟩
      have hv5 := hv5.mv hx5
      have hr5 := hr5.mv hx5
      have hRK5 := RK.mv (ht3.trans (ht4.trans ht5)) hRK
      refine ln_callH (E := mapE mo ml ++ [.obj b3 (.cells [mapV mo].toArray 59)]) (H0 := [RdE b v5, .obj b2 (.cells [Value.map none].toArray 59)]) (vals := [.pointer (some ⟨b3, 0, none⟩), .int .u32 (l[i].1 : Int), r5]) (show List.Perm (RdE b v5 :: (mapE mo ml ++ Ent.obj b3 (.cells [mapV mo].toArray 59) :: [Ent.obj b2 (.cells [Value.map none].toArray 59)])) (_ ++ _) from set_perm) en_49 rfl
        (fun u hu hok hav hnd => tags_SetU u b3 0 l[i].1 [.map none] 59 r5 mo ml (by decide) hmo (nodup_new hi' (RK.keys hRK) hk) hok hav hnd) rfl ?_
      rintro u6 r6 _ ht6 ⟨_, ⟨m, rfl⟩, _⟩
      refine ln_nil ?_
      refine at_cd ?_
      refine cd_region ?_
      refine ln_pv (pv_move rfl) rfl ?_
      refine ln_pv (pv_sub' (k := .u32) (i := ((l.length - i : Nat) : Int)) (j := 1) rfl rfl (r := ((l.length - (i + 1) : Nat) : Int)) (by rw [wrap_u32_eq]; omega)) rfl ?_
      refine ln_pv (pv_assign rfl) rfl ?_
      refine ln_nil ?_
      refine at_perm (H' := RdE b v5 :: (mapE (some m) (ml ++ [(l[i].1, r5)]) ++ .obj b3 (.cells [mapV (some m)].toArray 59) :: [.obj b2 (.cells [Value.map none].toArray 59)])) ?_ ?_
      · exact set_perm.symm
      refine at_rnd' (i + 1, some m, ml ++ [(l[i].1, r5)], v5) (hu.trans (ht3.trans (ht4.trans (ht5.trans ht6)))) (fun u7 hu7 => ⟨fun h => absurd h (Nat.succ_ne_zero _), by dsimp only; omega, ?_, (fun h => by cases h), hv5.mv (ht6.trans hu7)⟩) (by dsimp only; omega) ?_ (List.Sublist.refl _)
      · rw [take_snoc' hi']
        exact RK.snoc (RSv.mv hr5.1 (ht6.trans hu7)) (RK.mv (ht6.trans hu7) hRK5)
      · exact .put rfl (.put rfl (.put rfl (.put rfl (fun _ _ h => by simp [lk] at h))))
    · have him : i = l.length := by omega
      subst him
      rw [List.take_length] at hRK
      simp only [List.drop_length, List.flatMap_nil, List.nil_append] at hv2
      refine cd_exit rfl ?_
      refine at_cd ?_
      cases mo with
      | none =>
        obtain rfl := hmo rfl
        refine cd_sr ?_
        refine ln_pv (pv_ldO (i := 1) (l := [.map none]) rfl Tryz.underlying59 rfl tipub_kmsg_Tags.size rfl rfl) rfl ?_
        refine ln_storeW (i := 2) (vs := [.map none]) rfl rfl rfl rfl tipub_kmsg_Tags.size rfl (by simp) ?_
        refine ln_cd ?_
        refine cd_ret ?_
        exact at_retTC (i := 0) (j := 2) rfl rfl rfl rfl Tryz.underlying59 rfl tipub_kmsg_Tags.size rfl (fun w hS => ⟨⟨_, _, rfl, .inl ⟨rfl, rfl⟩, RK.mv (hS.trFinT _ _) hRK, fun _ => rfl⟩, _, rfl, hv2.mv (hS.trFinT _ _)⟩)
      | some m =>
        refine cd_sr ?_
        refine ln_pv (pv_ldO (i := 2) (l := [.map (some m)]) rfl Tryz.underlying59 rfl tipub_kmsg_Tags.size rfl rfl) rfl ?_
        refine ln_storeW (i := 3) (vs := [.map (some m)]) rfl rfl rfl rfl tipub_kmsg_Tags.size rfl (by simp) ?_
        refine ln_cd ?_
        refine cd_ret ?_
        exact at_retTC (i := 0) (j := 3) rfl rfl rfl rfl Tryz.underlying59 rfl tipub_kmsg_Tags.size rfl (fun w hS => ⟨⟨_, _, rfl, .inr ⟨m, rfl, obT hS (by simp [Ent.blk]) (i := 0) (j := 1) rfl rfl (by decide)⟩, RK.mv (hS.trFinT _ _) hRK, fun h => by subst h; exact absurd (hm0 rfl) (by simp)⟩, _, rfl, hv2.mv (hS.trFinT _ _)⟩)
section
variable {n : Nat} {L : Env} {H H0 : Hp} {C : Cx} {s : Vw} {N R : Act → World → Prop} {X : List (Nat × (Act → World → Prop))}
variable {id id0 id1 id2 id3 id4 id5 id6 id7 id8 id9 : Nat} {tb ts un fx vr x y d0 d1 d2 d3 d4 d5 d6 d7 d8 d9 e1 e2 e3 e4 y1 y2 y3 y4 : Nat} {f g : FuncId} {br b o po len fo k sz : Nat} {mk : List Value → Ent} {v c val : Value} {rest bs : List UInt8}
variable {ty0 ty1 ty2 ty3 ty4 ty5 ty6 ty7 ty8 ty9 : TypeId} {p0 p1 p2 p3 p4 p5 p6 p7 p8 p9 : String} {a0 a1 a2 a3 a4 a5 a6 a7 a8 a9 : Array Edge} {tys tyt : Array TypeId}
variable {uy1 uy2 uy3 uy4 uy5 uy6 uy7 uy8 : TypeId} {q1 q2 q3 q4 q5 q6 q7 q8 : String} {c1 c2 c3 c4 c5 c6 c7 c8 : Array Edge}
variable {T ft : TypeId} {fs : Array Field} {fd : Field} {fl : Fld} {r fsd : List Fld} {v0 : Int} {q : Bool} {xx Y : Tre} {T' : List UInt8} {done zc zs : List Value} {z : Value} {E0 : Ent}
theorem st_tagsN {F : List Fld} {z0 : Bool} {T2 : List UInt8} {mt : TypeId} (hn : ntFs F = true) (hR : Rs s [] F v0 q xx (.mk 0 [] z0 (imL F v0 q xx 0) (imU F q xx.u)) (tgsB q xx ++ T2) v done) (hk' : ∀ y ∈ xx.u, y.1 < 4294967296) (hb : lk L tb = some (.pointer (some ⟨br, 0, none⟩))) (hq : lk L fx = some (.bool q)) (hs : lk L ts = some (.pointer (some ⟨b, po, none⟩))) (hT : Tgt mk b o len) (hl : fszs F + 1 = len) (hu : Tryz.prog.underlying T = some (.struct fs)) (hk : fs[k]? = some fd) (hsz : (Tryz.prog.info? fd.type).map (·.size) = some (sz + 1)) (ho : fd.offset = fo)
    (hpo : po + fo = o + fszs F) (hsz1 : (Tryz.prog.info? mt).map (·.size) = some 1) (hf0 : frs n L [d0] = true) (hf : frs n L [d1, d2, d3, d4] = true)
    (kk : ∀ u v' done', Tr s u → RSv u v' T2 → RMp u F (.mk 0 [] z0 (imL F v0 q xx 0) (imU F q xx.u)) done' → (imU F q xx.u = [] → ∃ fc, done' = fc ++ [.map none]) → At N n L (RdE br v' :: mk done' :: H0) C u) :
    Cd Tryz.prog (.seq (.region id0 [⟨some d0, .move (.tmp fx), ty0, p0, a0, none⟩].toArray false) (.cond (.tmp d0)
      (.region id [⟨some d1, .move (.tmp ts), ty1, p1, a1, none⟩, ⟨some d2, .call ⟨.value (.func 55), [.tmp tb].toArray, tys⟩, ty2, p2, a2, none⟩, ⟨some d3, .nilCheck (.tmp d1), ty3, p3, a3, none⟩, ⟨some d4, .fieldAddr T (.tmp d3) k, ty4, p4, a4, none⟩, ⟨none, .store mt (.tmp d4) (.tmp d2), ty5, p5, a5, none⟩].toArray false) .skip)) ⟨N, R, X⟩ n L (RdE br v :: mk (done ++ [.map none]) :: H0) C s := by
  obtain ⟨hb0, hfr0, _⟩ := frs_get hf0
  simp only [List.mem_cons, List.not_mem_nil, or_false, forall_eq] at hb0 hfr0
  obtain ⟨hb', hfr, hne⟩ := frs_get hf
  simp only [List.pairwise_cons, List.mem_cons, List.not_mem_nil, or_false, forall_eq_or_imp, forall_eq, List.Pairwise.nil, and_true, false_imp_iff, implies_true] at hb' hfr hne
  obtain ⟨f1, f2, f3, f4⟩ := hfr
  obtain ⟨b1, b2, b3, b4⟩ := hb'
  have hdl := hR.len
  have hv := hR.hv
  simp only [plainB, List.nil_append] at hv
  refine cd_sq ?_
  refine cd_region ?_
  refine ln_pv (pv_move hq) hb0 ?_
  refine ln_nil (at_cd ?_)
  refine cd_cond lk_eq (fun h => cd_sub_ (.skip hfr0 .rfl') ?_) (fun h => cd_sub_ (.skip hfr0 .rfl') ?_)
  · subst h
    have hu0 : imU F true xx.u = (unkn 0 xx.u).map cut := by rw [imU, if_pos rfl, known_nt hn]
    have hv : RSv s v ((uvar ((unkn 0 xx.u).map cut).length ++ ((unkn 0 xx.u).map cut).flatMap tagB) ++ T2) := by
      simpa [tgsB] using hv
    have hnd := keys_nodup (srt_cut (unkn_sorted 0 xx.u))
    have hbd : ∀ y ∈ (unkn 0 xx.u).map cut, y.1 < 4294967296 ∧ y.2.length ≤ 32767 := fun y hy => by
      obtain ⟨z, hz, rfl⟩ := List.mem_map.1 hy
      exact ⟨hk' z (unkn_mem hz).1, by simp only [cut, List.length_take]; omega⟩
    have hln : ((unkn 0 xx.u).map cut).length < 4294967296 := by have := unkn_le 0 xx.u; rw [List.length_map]; omega
    refine cd_region ?_
    refine ln_pv (pv_move hs) b1 ?_
    refine ln_callT (i := 0) (vals := [.pointer (some ⟨br, 0, none⟩)]) en_55 (by simp [evs, ev_t, lk_ne (lk_fr f1 hb), hb]) rfl (fun u hu hok hav => rd_TagsN u _ hnd hbd hln br v T2 (RSv.mv hv hu) hok hav) b2 ?_
    rintro u c _ ht ⟨ux, ⟨⟨mv, ml, rfl, hM, hK, hN0⟩, v', rfl, h2⟩, hx⟩
    have h2 := h2.mv hx
    have hM := hM.mv hx
    have hK := RK.mv hx hK
    refine ln_pv (pv_nilCheck (by simp [ev_t, lk_eq, lk_ne, hne] <;> rfl)) b3 ?_
    refine ln_pv (pv_fieldAddr (r := o + done.length) hu hk hsz ho lk_eq (by rw [hdl]; exact hpo)) b4 ?_
    have h1m : mv.oneCell' = true := RTg.one (s := u) (y := .mk 0 [] z0 (imL F v0 true xx 0) (imU F true xx.u)) ⟨ml, hM, by rw [tu, hu0]; exact hK⟩
    refine ln_storeG (i := 1) (vs := [mv]) (v := .agg #[mv]) (win' := done ++ [mv]) hT rfl (by simp [hdl] <;> omega) lk_eq (by simp [ev_t, lk_eq, lk_ne, hne]) rfl hsz1 (by simp [hdl] <;> omega) (by simp [h1m]) (by have := wr_done (done := done) (zc := [.map none]) (zs := []) (cs := [mv]) rfl; simpa using this) ?_
    refine ln_nil (at_sub (.skip f4 (.skip f3 (.skip f2 (.skip f1 .rfl')))) ?_)
    exact kk u v' _ ht h2.1 ⟨done, mv, rfl, RMl.mv ht hR.acc, ml, hM, by rw [tu, hu0]; exact hK⟩ (fun h0 => ⟨done, by rw [hN0 (by rw [← hu0]; exact h0)]⟩)
  · subst h
    refine cd_skip (at_base fun u hu' => ?_)
    have hR := hR.mv hu'
    refine kk u v _ hu' (by have := hR.hv; simpa [plainB, tgsB] using this) ⟨done, .map none, rfl, hR.acc, [], .inl ⟨rfl, rfl⟩, ?_⟩ (fun _ => ⟨done, rfl⟩)
    rw [tu, imU]
    rfl
end
/-! ### The octets of the tagged part, and of all tags -/
theorem uF_len {v : Int} {y : Tre} (hk : keysT y) : (fieldB uF v true y).length ≤ 4294967295 := by
  have e : fieldB uF v true y = partB uSub v true y := by rw [fieldB_mk]; rfl
  rw [e, partB_nt (by kernel_rfl)]
  have h1 : (plainB uSub v true y 0).length ≤ 4 * 32800 := plainB_le uSub 0 (by decide)
  have hl := unkn_le 0 y.u
  have h2 := tags_le ((unkn 0 y.u).map cut) (fun z hz => by
    obtain ⟨w, hw, rfl⟩ := List.mem_map.1 hz
    exact ⟨hk.open.1 w (unkn_mem hw).1, by simp only [cut, List.length_take]; omega⟩)
  have h3 := uvar_length_le (unkn 0 y.u).length 4 (by omega)
  rw [List.length_map] at h2
  simp only [List.length_append, if_true]
  omega
def tgl (us : Bool) (fb : List UInt8) (U : Tags) : Tags := (if us then [] else [(0, fb)]) ++ U
theorem tgl_len {us : Bool} {fb : List UInt8} {U : Tags} : (tgl us fb U).length = (if us then 0 else 1) + U.length := by unfold tgl; cases us <;> simp [Nat.add_comm]
theorem tgl_enc {us : Bool} {fb : List UInt8} {U : Tags} : (tgl us fb U).flatMap tagB = (if us then [] else tagB (0, fb)) ++ U.flatMap tagB := by unfold tgl; cases us <;> simp
/-- the unknown tags among the first i -/
def uTk (us : Bool) (U : Tags) (i : Nat) : Tags := if us then U.take i else U.take (i - 1)
theorem tgl_zero {us : Bool} {fb : List UInt8} {U : Tags} (hU : ∀ y ∈ U, 1 ≤ y.1) {i : Nat} (hi : i < (tgl us fb U).length) (h : (tgl us fb U)[i].1 = 0) : us = false ∧ i = 0 := by
  cases us with
  | true =>
    have h1 : (tgl true fb U)[i] ∈ U := by simp only [tgl, if_true, List.nil_append]; exact List.getElem_mem _
    have := hU _ h1
    omega
  | false =>
    cases i with
    | zero => exact ⟨rfl, rfl⟩
    | succ j =>
      have h1 : (tgl false fb U)[j + 1] ∈ U := by simp only [tgl, Bool.false_eq_true, if_false, List.cons_append, List.nil_append, List.getElem_cons_succ]; exact List.getElem_mem _
      have := hU _ h1
      omega
/-- the next that is unknown: where it stands among the unknown -/
theorem tgl_next {us : Bool} {fb : List UInt8} {U : Tags} {i : Nat} (hi : i < (tgl us fb U).length) (h : ¬ (tgl us fb U)[i].1 = 0) : ∃ j, ∃ hj : j < U.length, uTk us U i = U.take j ∧ uTk us U (i + 1) = U.take (j + 1) ∧ (tgl us fb U)[i] = U[j] := by
  cases us with
  | true => exact ⟨i, by simpa [tgl] using hi, rfl, rfl, by simp [tgl]⟩
  | false =>
    cases i with
    | zero => exact absurd rfl h
    | succ j => exact ⟨j, by simpa [tgl] using hi, by simp [uTk], by simp [uTk], by simp [tgl]⟩
theorem uTk_all {us : Bool} {fb : List UInt8} {U : Tags} : uTk us U (tgl us fb U).length = U := by
  rw [tgl_len]
  cases us <;> simp [uTk]
/-- what the tagged part is, when i tags are read -/
def uT2 (us : Bool) (i : Nat) (v : Int) (y : Tre) : Tre := if us = true ∨ i = 0 then dfF uF else imF uF v true y
abbrev uDz : List Value := [.int .i32 (-1), .int .i32 (-1), .string .empty, .int .i32 0, .map none]
theorem uDz_rel (s : Vw) : RMp s uSub (dfF uF) uDz :=
  ⟨[.int .i32 (-1), .int .i32 (-1), .string .empty, .int .i32 0], .map none, rfl, by
    refine ⟨[_], _, rfl, RMf_i32.2 rfl, [_], _, rfl, RMf_i32.2 rfl, [_], _, rfl, (RMf_str (by decide)).2 rfl, [_], _, rfl, RMf_i32.2 rfl, rfl⟩, [], .inl ⟨rfl, rfl⟩, rfl⟩
theorem uT2_end {us : Bool} {fb : List UInt8} {U : Tags} {v : Int} {x : Tre} (hus : us = usualB uF (x.at_ 2)) : (imT uFs v true x).at_ 2 = uT2 us (tgl us fb U).length v (x.at_ 2) := by
  rw [uY2, ← hus, tgl_len]
  unfold uT2
  cases us <;> simp
theorem uT2_next {us : Bool} {fb : List UInt8} {U TL : Tags} {i : Nat} {v : Int} {y : Tre} (hTL : TL = tgl us fb U) (hi : i < TL.length) (h : ¬ TL[i].1 = 0) : uT2 us (i + 1) v y = uT2 us i v y := by
  subst hTL
  unfold uT2
  cases us with
  | true => simp
  | false =>
    cases i with
    | zero => exact absurd rfl h
    | succ j => simp
theorem uTwo_of {α : Type} {l : List α} (h : l.length = 2) : ∃ a b, l = [a, b] := by
  match l, h with
  | [a, b], _ => exact ⟨a, b, rfl⟩
theorem uFive_of {α : Type} {l : List α} (h : l.length = 5) : ∃ a b c d e, l = [a, b, c, d, e] := by
  match l, h with
  | [a, b, c, d, e], _ => exact ⟨a, b, c, d, e, rfl⟩
theorem uF_im_len {v : Int} {x : Tre} (hk : keysT x) : (fieldB uF v true ((imT uFs v true x).at_ 2)).length ≤ 4294967295 := by
  rw [uY2]
  split
  · exact uF_len (by simp [dfF, dfL, keysT, keysTs])
  · rw [uPart_im]
    exact uF_len (hk.at_ 2)
theorem Rs.startU {s : Vw} {v0 : Int} {x : Tre} {T : List UInt8} {v : Value} (h0 : 0 ≤ v0) (hv : RSv s v (plainB uPl v0 true x 0 ++ T)) : Rs s uPl [] v0 true x (imT uFs v0 true x) T v [] :=
  ⟨hv, by simp [RMl], fun j hj => by
    have hj : j < 2 := hj
    match j, hj with
    | 0, _ => exact (uY0 h0).trans (imx_yes (hasB_all h0)).symm
    | 1, _ => exact (uY1 h0).trans (imx_yes (hasB_all h0)).symm, by kernel_rfl⟩
theorem uPl_enc {v : Int} {x : Tre} : partB uFs v true x = plainB uPl v true x 0 ++ (uvar (tgl (usualB uF (x.at_ 2)) (fieldB uF v true (x.at_ 2)) ((unkn 1 x.u).map cut)).length ++ ((tgl (usualB uF (x.at_ 2)) (fieldB uF v true (x.at_ 2)) ((unkn 1 x.u).map cut)).flatMap tagB ++ [])) := by
  rw [partB_raw1 uFs_known tg_uFs, tgl_len, tgl_enc, List.append_nil]
  have e : plainB uFs v true x 0 = plainB uPl v true x 0 := by simp [plainB, Fld.tag]
  rw [e]
end K
end Go.Proofs.YtepbicjadambbabGreatDoor
