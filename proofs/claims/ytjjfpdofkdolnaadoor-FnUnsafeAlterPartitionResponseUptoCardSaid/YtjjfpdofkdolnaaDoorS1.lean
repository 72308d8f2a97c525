import Derived.Test.YtjjfpdofkdolnaaDoorIx
set_option linter.unusedVariables false
set_option linter.unusedSimpArgs false
namespace Go.Proofs.YtjjfpdofkdolnaaDoor
namespace K
open Go Go.Lib
theorem RTs.take {s : Vw} : ∀ {l : List Tre} {cs : List Value} (k : Nat), RTs s l cs → RTs s (l.take k) (cs.take (k * 5))
  | [], cs, k, h => by simp only [RTs] at h; subst h; simp [RTs]
  | x :: r, cs, 0, h => by simp [RTs]
  | x :: r, cs, k + 1, h => by
    simp only [RTs] at h
    obtain ⟨c, c', h1, h2, h3⟩ := h
    simp only [List.take_succ_cons, RTs]
    refine ⟨c, c'.take (k * 5), ?_, h2, RTs.take k h3⟩
    subst h1
    have hl := h2.len
    rw [List.take_append, List.take_of_length_le (by omega), show (k + 1) * 5 - c.length = k * 5 by omega]
def versionN (n most : Nat) : Nat := n % (most + 1)
theorem laws_version (t : Vw) (n most : Nat) (hn : n < 256) (hm : most < 32768) : CS Tryd.prog 12 [.int .u8 (n : Int), .int .i64 (most : Int)] t (.int .i64 ((versionN n most : Nat) : Int)) := by
  refine CA.cs ?_
  refine ca_enter Tryd.func12 rfl Tryd.ntmps12 rfl ?_
  refine cd_sr ?_
  refine ln_pv (pv_assign rfl) rfl ?_
  refine ln_cd ?_
  refine cd_sr ?_
  refine ln_pv (pv_move rfl) rfl ?_
  refine ln_pv (pv_conv' Tryd.underlying5 Tryd.underlying3 rfl (wrap_i64 (by omega) (by omega))) rfl ?_
  refine ln_pv (pv_move rfl) rfl ?_
  refine ln_pv (pv_add' rfl rfl (wrap_i64 (by omega) (by omega))) rfl ?_
  refine ln_pv (pv_rem rfl rfl (by omega) (by omega)) rfl ?_
  refine ln_pv (pv_assign rfl) rfl ?_
  refine ln_cd ?_
  refine cd_ret ?_
  refine at_retA rfl rfl (fun w hS => ?_)
  simp [versionN]
end K
end Go.Proofs.YtjjfpdofkdolnaaDoor
