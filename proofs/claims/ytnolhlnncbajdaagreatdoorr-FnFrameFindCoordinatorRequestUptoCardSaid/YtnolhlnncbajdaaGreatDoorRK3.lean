import Derived.Test.YtnolhlnncbajdaaGreatDoorRK2
import Derived.Laws.Slices
set_option linter.unusedVariables false
set_option linter.unusedSimpArgs false
namespace Go.Proofs.YtnolhlnncbajdaaGreatDoorR
namespace K
open Go Go.Lib
theorem u8v_lit {x : Int} (h0 : 0 ≤ x) (h1 : x < 256) : Value.int .u8 x = u8v (b8 x) := by rw [u8v, b8_val h0 h1]
theorem kbin_AppendBool_true (t : Vw)  : AppC 173 [.bool true] ([b8 1]) t := by
  intro v L hB hrow hav
  refine ct_enter Tryz.func173 rfl Tryz.ntmps173 rfl hrow hav (by simp only [Ent.blk]; cases v.ownBlock <;> simp) ?_
  refine cd_sr ?_
  refine ln_pv (pv_assign rfl) rfl ?_
  refine ln_cd ?_
  refine cd_seq ?_
  refine cd_sr ?_
  refine ln_pv (pv_move rfl) rfl ?_
  refine ln_cd ?_
  refine cd_tt rfl ?_
  refine cd_sr ?_
  refine ln_pv (pv_move rfl) rfl ?_
  refine ln_lit (vs := [_]) Tryz.underlying24 tiuint8 rfl (by decide) rfl rfl rfl rfl rfl rfl (fun b1 => ?_)
  refine ln_append (i := 1) rfl Tryz.underlying24 tiuint8 rfl (by decide) rfl rfl (src_obj (j := 0) rfl rfl rfl) (by simp only [List.length_append, List.length_cons, List.length_nil, maxLen] at *; omega) (by simp only [List.length_append, List.length_cons, List.length_nil, maxLen] at *; omega) rfl (k' := (L ++ [b8 1]).length) (xs' := u8s (L ++ [b8 1])) (by simp) (by rw [u8s_append]; rfl) (fun v1 hv1 => ?_)
  refine ln_pv (pv_assign rfl) rfl ?_
  refine ln_cd ?_
  refine cd_ret ?_
  refine at_retT (i := 1) rfl rfl rfl (fun w hS => ⟨rfl, hv1.2⟩)
theorem kbin_AppendBool_false (t : Vw)  : AppC 173 [.bool false] ([b8 0]) t := by
  intro v L hB hrow hav
  refine ct_enter Tryz.func173 rfl Tryz.ntmps173 rfl hrow hav (by simp only [Ent.blk]; cases v.ownBlock <;> simp) ?_
  refine cd_sr ?_
  refine ln_pv (pv_assign rfl) rfl ?_
  refine ln_cd ?_
  refine cd_seq ?_
  refine cd_sr ?_
  refine ln_pv (pv_move rfl) rfl ?_
  refine ln_cd ?_
  refine cd_ff rfl ?_
  refine cd_skip ?_
  refine at_cd ?_
  refine cd_sr ?_
  refine ln_pv (pv_move rfl) rfl ?_
  refine ln_lit (vs := [_]) Tryz.underlying24 tiuint8 rfl (by decide) rfl rfl rfl rfl rfl rfl (fun b1 => ?_)
  refine ln_append (i := 1) rfl Tryz.underlying24 tiuint8 rfl (by decide) rfl rfl (src_obj (j := 0) rfl rfl rfl) (by simp only [List.length_append, List.length_cons, List.length_nil, maxLen] at *; omega) (by simp only [List.length_append, List.length_cons, List.length_nil, maxLen] at *; omega) rfl (k' := (L ++ [b8 0]).length) (xs' := u8s (L ++ [b8 0])) (by simp) (by rw [u8s_append]; rfl) (fun v1 hv1 => ?_)
  refine ln_pv (pv_assign rfl) rfl ?_
  refine ln_cd ?_
  refine cd_ret ?_
  refine at_retT (i := 1) rfl rfl rfl (fun w hS => ⟨rfl, hv1.2⟩)
theorem kbin_AppendBool (t : Vw) (y : Tre) (null fl : Bool) : AppC 173 [.bool (decide (y.n % 2 = 1))] (scalarB 0 null fl y) t := by
  have e : scalarB 0 null fl y = [b8 (y.n % 2)] := by simp [scalarB]
  rw [e]
  by_cases h : y.n % 2 = 1
  · rw [h, decide_eq_true rfl]
    exact kbin_AppendBool_true t
  · have h0 : y.n % 2 = 0 := by omega
    rw [h0]
    exact kbin_AppendBool_false t
theorem kbin_AppendInt8 (t : Vw) (x : Int) : AppC 184 [.int .i8 x] ([b8 x]) t := by
  intro v L hB hrow hav
  refine ct_enter Tryz.func184 rfl Tryz.ntmps184 rfl hrow hav (by simp only [Ent.blk]; cases v.ownBlock <;> simp) ?_
  refine cd_sr ?_
  refine ln_pv (pv_assign rfl) rfl ?_
  refine ln_cd ?_
  refine cd_sr ?_
  refine ln_pv (pv_move rfl) rfl ?_
  refine ln_pv (pv_move rfl) rfl ?_
  refine ln_pv (pv_conv' Tryz.underlying98 Tryz.underlying5 rfl (r := ((b8 x).toNat : Int)) (wrap_u8 x)) rfl ?_
  refine ln_lit (vs := [_]) Tryz.underlying24 tiuint8 rfl (by decide) rfl rfl rfl rfl rfl rfl (fun b1 => ?_)
  refine ln_append (i := 1) rfl Tryz.underlying24 tiuint8 rfl (by decide) rfl rfl (src_obj (j := 0) rfl rfl rfl) (by simp only [List.length_append, List.length_cons, List.length_nil, maxLen] at *; omega) (by simp only [List.length_append, List.length_cons, List.length_nil, maxLen] at *; omega) rfl (k' := (L ++ [b8 x]).length) (xs' := u8s (L ++ [b8 x])) (by simp) (by rw [u8s_append]; rfl) (fun v1 hv1 => ?_)
  refine ln_pv (pv_assign rfl) rfl ?_
  refine ln_cd ?_
  refine cd_ret ?_
  refine at_retT (i := 1) rfl rfl rfl (fun w hS => ⟨rfl, hv1.2⟩)
section
variable {P : Program} {n : Nat} {L : Env} {S : World → Prop} {d : Option Nat} {g : Option (Nat × Bool)} {ty : TypeId} {pos : String} {af : Array Edge}
theorem pv_slice_arr {t e : TypeId} {m b : Nat} {x : Operand} (hu : P.underlying t = some (.array m e)) (hsz : (P.info? e).isSome = true) (hx : ev L x = some (.pointer (some ⟨b, 0, none⟩))) :
    PV P S ⟨d, .slice t x none none none, ty, pos, af, g⟩ n L (.slice (some ⟨b, 0, none⟩) m m) := fun a w hF _ => by
  obtain ⟨ii, hi⟩ := Option.isSome_iff_exists.1 hsz
  have e1 : P.arrayLen t = m := by simp [Program.arrayLen, hu]
  have e2 : P.elem t = e := by simp [Program.elem, hu]
  have h := run_sliceAt_array_all (P := P) w t ⟨b, 0, none⟩ (by rw [e1, e2]; exact hu)
  rw [e1, e2] at h
  simp only [execOp, hF.ev hx, Option.map_none]
  simp only [Sem.run_bind, h]
  simp [sizeOf, typeInfo, hi, Result.andThen, slicedAt]
  exact fun _ => Addr.add_zero' _
end
theorem kbin_AppendUuid (t : Vw) (l : List UInt8) (hl : l.length = 16) : AppC 130 [.agg (u8s l).toArray] l t := by
  intro v L hB hrow hav
  refine ct_enter Tryz.func130 rfl Tryz.ntmps130 rfl hrow hav (by simp only [Ent.blk]; cases v.ownBlock <;> simp) ?_
  refine cd_sr ?_
  refine ln_box (l := u8s l) rfl rfl rfl (fun b1 => ?_)
  refine ln_pv (pv_assign rfl) rfl ?_
  refine ln_cd ?_
  refine cd_sr ?_
  refine ln_pv (pv_move rfl) rfl ?_
  refine ln_pv (pv_slice_arr Tryz.underlying114 (by have := (tiuint8 : TI Tryz.prog _ _ _ _).size; obtain ⟨ii, h, _⟩ := Option.map_eq_some_iff.1 this; exact Option.isSome_iff_exists.2 ⟨ii, h⟩) rfl) rfl ?_
  refine ln_append (i := 1) (m := 16) (news := u8s l) rfl Tryz.underlying24 tiuint8 rfl (by decide) rfl rfl (src_obj (j := 0) rfl (by simp [hl]) (List.all_eq_true.2 (u8s_one _))) (by simp only [maxLen]; omega) (by omega) rfl (k' := (L ++ l).length) (xs' := u8s (L ++ l)) (by simp [hl]) (by simp [u8s]) (fun v3 hv3 => ?_)
  refine ln_pv (pv_assign rfl) rfl ?_
  refine ln_cd ?_
  refine cd_ret ?_
  exact at_retT (i := 1) rfl rfl rfl (fun w hS => ⟨rfl, hv3.2⟩)
theorem kbin_AppendArrayLen (t : Vw) (m : Nat) (hm : m ≤ 32767) : AppC 129 [.int .i64 (m : Int)] (fixed (m : Int) 4) t := by
  intro v L hB hrow hav
  refine ct_enter Tryz.func129 rfl Tryz.ntmps129 rfl hrow hav (by simp only [Ent.blk]; cases v.ownBlock <;> simp) ?_
  refine cd_sr ?_
  refine ln_pv (pv_assign rfl) rfl ?_
  refine ln_cd ?_
  refine cd_sr ?_
  refine ln_pv (pv_move rfl) rfl ?_
  refine ln_pv (pv_move rfl) rfl ?_
  refine ln_pv (pv_conv' Tryz.underlying3 Tryz.underlying21 rfl (r := (m : Int)) (by rw [IntKind.wrap_i32]; omega)) rfl ?_
  refine ln_callT (i := 0) en_90 rfl rfl (fun u hu hok hav => (kbin_AppendInt32 u (m : Int)) _ _ hB hok hav) rfl ?_
  rintro u1 v1 _ ht1 ⟨_, ⟨rfl, h1v1⟩, _⟩
  refine ln_pv (pv_assign rfl) rfl ?_
  refine ln_cd ?_
  refine cd_ret ?_
  refine at_retT (i := 0) rfl rfl rfl (fun w hS => ⟨rfl, h1v1⟩)
theorem kbin_AppendCompactArrayLen (t : Vw) (m : Nat) (hm : m ≤ 32767) : AppC 128 [.int .i64 (m : Int)] (uvar (m + 1)) t := by
  intro v L hB hrow hav
  refine ct_enter Tryz.func128 rfl Tryz.ntmps128 rfl hrow hav (by simp only [Ent.blk]; cases v.ownBlock <;> simp) ?_
  refine cd_sr ?_
  refine ln_pv (pv_assign rfl) rfl ?_
  refine ln_cd ?_
  refine cd_sr ?_
  refine ln_pv (pv_move rfl) rfl ?_
  refine ln_pv (pv_move rfl) rfl ?_
  refine ln_pv (pv_conv' Tryz.underlying3 Tryz.underlying65 rfl (r := (m : Int)) (by rw [IntKind.wrap_u32]; omega)) rfl ?_
  refine ln_pv (pv_add' rfl rfl (r := ((m + 1 : Nat) : Int)) (by rw [IntKind.wrap_u32]; omega)) rfl ?_
  refine ln_callT (i := 0) en_131 rfl rfl (fun u hu hok hav => (kbin_AppendUvarint u (m + 1) (by omega)) _ _ hB hok hav) rfl ?_
  rintro u1 v1 _ ht1 ⟨_, ⟨rfl, h1v1⟩, _⟩
  refine ln_pv (pv_assign rfl) rfl ?_
  refine ln_cd ?_
  refine cd_ret ?_
  refine at_retT (i := 0) rfl rfl rfl (fun w hS => ⟨rfl, h1v1⟩)
theorem kbin_AppendNullableArrayLen_true (t : Vw) (m : Nat) (hm : m ≤ 32767) : AppC 175 [.int .i64 (m : Int), .bool true] (fixed (-1) 4) t := by
  intro v L hB hrow hav
  refine ct_enter Tryz.func175 rfl Tryz.ntmps175 rfl hrow hav (by simp only [Ent.blk]; cases v.ownBlock <;> simp) ?_
  refine cd_sr ?_
  refine ln_pv (pv_assign rfl) rfl ?_
  refine ln_cd ?_
  refine cd_seq ?_
  refine cd_sr ?_
  refine ln_pv (pv_move rfl) rfl ?_
  refine ln_cd ?_
  refine cd_tt rfl ?_
  refine cd_sr ?_
  refine ln_pv (pv_move rfl) rfl ?_
  refine ln_callT (i := 0) en_90 rfl rfl (fun u hu hok hav => (kbin_AppendInt32 u (-1)) _ _ hB hok hav) rfl ?_
  rintro u1 v1 _ ht1 ⟨_, ⟨rfl, h1v1⟩, _⟩
  refine ln_pv (pv_assign rfl) rfl ?_
  refine ln_cd ?_
  refine cd_ret ?_
  refine at_retT (i := 0) rfl rfl rfl (fun w hS => ⟨rfl, h1v1⟩)
theorem kbin_AppendNullableArrayLen_false (t : Vw) (m : Nat) (hm : m ≤ 32767) : AppC 175 [.int .i64 (m : Int), .bool false] (fixed (m : Int) 4) t := by
  intro v L hB hrow hav
  refine ct_enter Tryz.func175 rfl Tryz.ntmps175 rfl hrow hav (by simp only [Ent.blk]; cases v.ownBlock <;> simp) ?_
  refine cd_sr ?_
  refine ln_pv (pv_assign rfl) rfl ?_
  refine ln_cd ?_
  refine cd_seq ?_
  refine cd_sr ?_
  refine ln_pv (pv_move rfl) rfl ?_
  refine ln_cd ?_
  refine cd_ff rfl ?_
  refine cd_skip ?_
  refine at_cd ?_
  refine cd_sr ?_
  refine ln_pv (pv_move rfl) rfl ?_
  refine ln_pv (pv_move rfl) rfl ?_
  refine ln_pv (pv_conv' Tryz.underlying3 Tryz.underlying21 rfl (r := (m : Int)) (by rw [IntKind.wrap_i32]; omega)) rfl ?_
  refine ln_callT (i := 0) en_90 rfl rfl (fun u hu hok hav => (kbin_AppendInt32 u ((m : Int))) _ _ hB hok hav) rfl ?_
  rintro u1 v1 _ ht1 ⟨_, ⟨rfl, h1v1⟩, _⟩
  refine ln_pv (pv_assign rfl) rfl ?_
  refine ln_cd ?_
  refine cd_ret ?_
  refine at_retT (i := 0) rfl rfl rfl (fun w hS => ⟨rfl, h1v1⟩)
theorem kbin_AppendCompactNullableArrayLen_true (t : Vw) (m : Nat) (hm : m ≤ 32767) : AppC 174 [.int .i64 (m : Int), .bool true] (uvar 0) t := by
  intro v L hB hrow hav
  refine ct_enter Tryz.func174 rfl Tryz.ntmps174 rfl hrow hav (by simp only [Ent.blk]; cases v.ownBlock <;> simp) ?_
  refine cd_sr ?_
  refine ln_pv (pv_assign rfl) rfl ?_
  refine ln_cd ?_
  refine cd_seq ?_
  refine cd_sr ?_
  refine ln_pv (pv_move rfl) rfl ?_
  refine ln_cd ?_
  refine cd_tt rfl ?_
  refine cd_sr ?_
  refine ln_pv (pv_move rfl) rfl ?_
  refine ln_callT (i := 0) en_131 rfl rfl (fun u hu hok hav => (kbin_AppendUvarint u 0 (by omega)) _ _ hB hok hav) rfl ?_
  rintro u1 v1 _ ht1 ⟨_, ⟨rfl, h1v1⟩, _⟩
  refine ln_pv (pv_assign rfl) rfl ?_
  refine ln_cd ?_
  refine cd_ret ?_
  refine at_retT (i := 0) rfl rfl rfl (fun w hS => ⟨rfl, h1v1⟩)
theorem kbin_AppendCompactNullableArrayLen_false (t : Vw) (m : Nat) (hm : m ≤ 32767) : AppC 174 [.int .i64 (m : Int), .bool false] (uvar (m + 1)) t := by
  intro v L hB hrow hav
  refine ct_enter Tryz.func174 rfl Tryz.ntmps174 rfl hrow hav (by simp only [Ent.blk]; cases v.ownBlock <;> simp) ?_
  refine cd_sr ?_
  refine ln_pv (pv_assign rfl) rfl ?_
  refine ln_cd ?_
  refine cd_seq ?_
  refine cd_sr ?_
  refine ln_pv (pv_move rfl) rfl ?_
  refine ln_cd ?_
  refine cd_ff rfl ?_
  refine cd_skip ?_
  refine at_cd ?_
  refine cd_sr ?_
  refine ln_pv (pv_move rfl) rfl ?_
  refine ln_pv (pv_move rfl) rfl ?_
  refine ln_pv (pv_conv' Tryz.underlying3 Tryz.underlying65 rfl (r := (m : Int)) (by rw [IntKind.wrap_u32]; omega)) rfl ?_
  refine ln_pv (pv_add' rfl rfl (r := ((m + 1 : Nat) : Int)) (by rw [IntKind.wrap_u32]; omega)) rfl ?_
  refine ln_callT (i := 0) en_131 rfl rfl (fun u hu hok hav => (kbin_AppendUvarint u (m + 1) (by omega)) _ _ hB hok hav) rfl ?_
  rintro u1 v1 _ ht1 ⟨_, ⟨rfl, h1v1⟩, _⟩
  refine ln_pv (pv_assign rfl) rfl ?_
  refine ln_cd ?_
  refine cd_ret ?_
  refine at_retT (i := 0) rfl rfl rfl (fun w hS => ⟨rfl, h1v1⟩)
end K
end Go.Proofs.YtnolhlnncbajdaaGreatDoorR
