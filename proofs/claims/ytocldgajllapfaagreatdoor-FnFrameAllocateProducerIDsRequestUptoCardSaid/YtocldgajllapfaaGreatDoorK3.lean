import Derived.Test.YtocldgajllapfaaGreatDoorK2
import Derived.Laws.Slices
set_option linter.unusedVariables false
set_option linter.unusedSimpArgs false
namespace Go.Proofs.YtocldgajllapfaaGreatDoor
namespace K
open Go Go.Lib
theorem u8v_lit {x : Int} (h0 : 0 ≤ x) (h1 : x < 256) : Value.int .u8 x = u8v (b8 x) := by rw [u8v, b8_val h0 h1]
theorem kbin_AppendBool_true (t : Vw)  : AppC 143 [.bool true] ([b8 1]) t := by
  intro v L hB hrow hav
  refine ct_enter Tryz.func143 rfl Tryz.ntmps143 rfl hrow hav (by simp only [Ent.blk]; cases v.ownBlock <;> simp) ?_
  refine cd_sr ?_
  refine ln_pv (pv_assign rfl) rfl ?_
  refine ln_cd ?_
  refine cd_seq ?_
  refine cd_sr ?_
  refine ln_pv (pv_move rfl) rfl ?_
  refine ln_cd ?_
  refine cd_tt rfl ?_
  refine cd_sr ?_
  refine ln_pv (pv_move rfl) rfl ?_
  refine ln_lit (vs := [_]) Tryz.underlying24 tiuint8 rfl (by decide) rfl rfl rfl rfl rfl rfl (fun b1 => ?_)
  refine ln_append (i := 1) rfl Tryz.underlying24 tiuint8 rfl (by decide) rfl rfl (src_obj (j := 0) rfl rfl rfl) (by simp only [List.length_append, List.length_cons, List.length_nil, maxLen] at *; omega) (by simp only [List.length_append, List.length_cons, List.length_nil, maxLen] at *; omega) rfl (k' := (L ++ [b8 1]).length) (xs' := u8s (L ++ [b8 1])) (by simp) (by rw [u8s_append]; rfl) (fun v1 hv1 => ?_)
  refine ln_pv (pv_assign rfl) rfl ?_
  refine ln_cd ?_
  refine cd_ret ?_
  refine at_retT (i := 1) rfl rfl rfl (fun w hS => ⟨rfl, hv1.2⟩)
theorem kbin_AppendBool_false (t : Vw)  : AppC 143 [.bool false] ([b8 0]) t := by
  intro v L hB hrow hav
  refine ct_enter Tryz.func143 rfl Tryz.ntmps143 rfl hrow hav (by simp only [Ent.blk]; cases v.ownBlock <;> simp) ?_
  refine cd_sr ?_
  refine ln_pv (pv_assign rfl) rfl ?_
  refine ln_cd ?_
  refine cd_seq ?_
  refine cd_sr ?_
  refine ln_pv (pv_move rfl) rfl ?_
  refine ln_cd ?_
  refine cd_ff rfl ?_
  refine cd_skip ?_
  refine at_cd ?_
  refine cd_sr ?_
  refine ln_pv (pv_move rfl) rfl ?_
  refine ln_lit (vs := [_]) Tryz.underlying24 tiuint8 rfl (by decide) rfl rfl rfl rfl rfl rfl (fun b1 => ?_)
  refine ln_append (i := 1) rfl Tryz.underlying24 tiuint8 rfl (by decide) rfl rfl (src_obj (j := 0) rfl rfl rfl) (by simp only [List.length_append, List.length_cons, List.length_nil, maxLen] at *; omega) (by simp only [List.length_append, List.length_cons, List.length_nil, maxLen] at *; omega) rfl (k' := (L ++ [b8 0]).length) (xs' := u8s (L ++ [b8 0])) (by simp) (by rw [u8s_append]; rfl) (fun v1 hv1 => ?_)
  refine ln_pv (pv_assign rfl) rfl ?_
  refine ln_cd ?_
  refine cd_ret ?_
  refine at_retT (i := 1) rfl rfl rfl (fun w hS => ⟨rfl, hv1.2⟩)
theorem kbin_AppendBool (t : Vw) (y : Tre) (null fl : Bool) : AppC 143 [.bool (decide (y.n % 2 = 1))] (scalarB 0 null fl y) t := by
  have e : scalarB 0 null fl y = [b8 (y.n % 2)] := by simp [scalarB]
  rw [e]
  by_cases h : y.n % 2 = 1
  · rw [h, decide_eq_true rfl]
    exact kbin_AppendBool_true t
  · have h0 : y.n % 2 = 0 := by omega
    rw [h0]
    exact kbin_AppendBool_false t
theorem kbin_AppendInt8 (t : Vw) (x : Int) : AppC 144 [.int .i8 x] ([b8 x]) t := by
  intro v L hB hrow hav
  refine ct_enter Tryz.func144 rfl Tryz.ntmps144 rfl hrow hav (by simp only [Ent.blk]; cases v.ownBlock <;> simp) ?_
  refine cd_sr ?_
  refine ln_pv (pv_assign rfl) rfl ?_
  refine ln_cd ?_
  refine cd_sr ?_
  refine ln_pv (pv_move rfl) rfl ?_
  refine ln_pv (pv_move rfl) rfl ?_
  refine ln_pv (pv_conv' Tryz.underlying88 Tryz.underlying5 rfl (r := ((b8 x).toNat : Int)) (wrap_u8 x)) rfl ?_
  refine ln_lit (vs := [_]) Tryz.underlying24 tiuint8 rfl (by decide) rfl rfl rfl rfl rfl rfl (fun b1 => ?_)
  refine ln_append (i := 1) rfl Tryz.underlying24 tiuint8 rfl (by decide) rfl rfl (src_obj (j := 0) rfl rfl rfl) (by simp only [List.length_append, List.length_cons, List.length_nil, maxLen] at *; omega) (by simp only [List.length_append, List.length_cons, List.length_nil, maxLen] at *; omega) rfl (k' := (L ++ [b8 x]).length) (xs' := u8s (L ++ [b8 x])) (by simp) (by rw [u8s_append]; rfl) (fun v1 hv1 => ?_)
  refine ln_pv (pv_assign rfl) rfl ?_
  refine ln_cd ?_
  refine cd_ret ?_
  refine at_retT (i := 1) rfl rfl rfl (fun w hS => ⟨rfl, hv1.2⟩)
end K
end Go.Proofs.YtocldgajllapfaaGreatDoor
