import Derived.Test.YtekafeogilbjmaaDoorQ0
set_option linter.unusedVariables false
set_option linter.unusedSimpArgs false
namespace Go.Proofs.YtekafeogilbjmaaDoor
namespace K
open Go Go.Lib
def F_ControlRecordKey : List Fld := [.mk 2 0 (-1) (-1) (-1) 0 0 []]
theorem sch_F_ControlRecordKey (t : Vw) : CA Tryd.prog 14 [] t fun u r => ∃ sv lc, r = .agg #[sv, .int .i64 (-1)] ∧ RS u 8 sv F_ControlRecordKey.length lc ∧ RFs u F_ControlRecordKey lc := by
  refine ca_enter Tryd.func14 rfl Tryd.ntmps14 rfl ?_
  refine cd_sr ?_
  refine ln_alloc tispec_Message rfl rfl (fun b1 => ?_)
  refine ln_cd ?_
  refine cd_sr ?_
  refine ln_pv (pv_struct [(0, 1), (1, 1), (2, 1), (3, 1), (4, 1), (5, 1), (6, 1), (7, 1)] (l := [_, _, _, _, _, _, _, _]) rfl Tryd.underlying52 tispec_Field (by kernel_rfl) rfl rfl) rfl ?_
  refine ln_lit (vs := [_]) Tryd.underlying29 tispec_Field rfl (by decide) rfl rfl rfl rfl rfl rfl (fun b2 => ?_)
  refine ln_pv (pv_struct [(0, 1), (1, 1)] (l := [_, _]) rfl Tryd.underlying31 tispec_Message (by kernel_rfl) rfl rfl) rfl ?_
  refine ln_storeW (i := 1) rfl rfl rfl rfl (tispec_Message).size rfl (by simp []) ?_
  refine ln_cd ?_
  refine cd_ret ?_
  refine at_retC (i := 1) rfl rfl rfl Tryd.underlying31 rfl tispec_Message.size rfl (fun w hS => ?_)
  exact ⟨_, _, rfl, obj_rs hS (i := 0) (m := 1) (sz := 8) rfl rfl (by simp [flat, Value.cells]), (RFs.leaf rfl)⟩
theorem ok_F_ControlRecordKey : okFs F_ControlRecordKey = true ∧ ofOks F_ControlRecordKey = true ∧ F_ControlRecordKey.length < 1000000 := by decide
end K
end Go.Proofs.YtekafeogilbjmaaDoor
