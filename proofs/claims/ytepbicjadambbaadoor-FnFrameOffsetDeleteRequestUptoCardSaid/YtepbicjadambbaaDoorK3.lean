import Derived.Test.YtepbicjadambbaaDoorK2
import Derived.Laws.Slices
set_option linter.unusedVariables false
set_option linter.unusedSimpArgs false
namespace Go.Proofs.YtepbicjadambbaaDoor
namespace K
open Go Go.Lib
theorem u8v_lit {x : Int} (h0 : 0 ≤ x) (h1 : x < 256) : Value.int .u8 x = u8v (b8 x) := by rw [u8v, b8_val h0 h1]
theorem kbin_AppendArrayLen (t : Vw) (m : Nat) (hm : m ≤ 32767) : AppC 83 [.int .i64 (m : Int)] (fixed (m : Int) 4) t := by
  intro v L hB hrow hav
  refine ct_enter Tryd.func83 rfl Tryd.ntmps83 rfl hrow hav (by simp only [Ent.blk]; cases v.ownBlock <;> simp) ?_
  refine cd_sr ?_
  refine ln_pv (pv_assign rfl) rfl ?_
  refine ln_cd ?_
  refine cd_sr ?_
  refine ln_pv (pv_move rfl) rfl ?_
  refine ln_pv (pv_move rfl) rfl ?_
  refine ln_pv (pv_conv' Tryd.underlying3 Tryd.underlying21 rfl (r := (m : Int)) (by rw [IntKind.wrap_i32]; omega)) rfl ?_
  refine ln_callT (i := 0) en_53 rfl rfl (fun u hu hok hav => (kbin_AppendInt32 u (m : Int)) _ _ hB hok hav) rfl ?_
  rintro u1 v1 _ ht1 ⟨_, ⟨rfl, h1v1⟩, _⟩
  refine ln_pv (pv_assign rfl) rfl ?_
  refine ln_cd ?_
  refine cd_ret ?_
  refine at_retT (i := 0) rfl rfl rfl (fun w hS => ⟨rfl, h1v1⟩)
end K
end Go.Proofs.YtepbicjadambbaaDoor
