import Derived.Test.YtjjfpdofkdolnaaDoorDz
import Derived.Test.YtjjfpdofkdolnaaDoorUe
set_option linter.unusedVariables false
set_option linter.unusedSimpArgs false
namespace Go.Proofs.YtjjfpdofkdolnaaDoor
namespace K
open Go Go.RowKit Go.ChangeShapes
/-- what the row lists of the reader's error: its variable holds a value of a type -/
theorem err_laid {W : World} (h : laidMet Tryd.prog [("pub-mailsack/pub/kmsg/inner/kbin.ErrNotEnoughData", Rows.laid_pub_mailsack_pub_kmsg_inner_kbin_ErrNotEnoughData)] W) : EG (vw0 W) := by
  obtain ⟨ps, ⟨g0, t0, cs0, f0, p0, q0, hg0, ht0, hv0, hd0, _, e0⟩, _, hrows⟩ := h
  have hg : Tryd.prog.globalNamed "pub-mailsack/pub/kmsg/inner/kbin.ErrNotEnoughData" = some 0 := by kernel_rfl
  have ht : (Tryd.prog.globals[(0 : Nat)]?).map (·.type) = some 51 := by kernel_rfl
  obtain rfl := Option.some.inj (hg.symm.trans hg0)
  obtain rfl := Option.some.inj (ht.symm.trans ht0)
  obtain ⟨l0⟩ := cs0
  obtain ⟨f1, u, v, hl, hn, h1⟩ := iface_of_trod Tryd.underlying51 hd0
  have hl : l0 = [.iface u v] := hl
  subst hl
  refine ⟨u, v, id, fun j x hx => ?_⟩
  cases j with
  | zero =>
    obtain rfl : Value.iface u v = x := by simpa using hx
    show W.cell? _ = _
    simpa using World.var?_cell hg0 hv0 0
  | succ j => simp at hx
end K
end Go.Proofs.YtjjfpdofkdolnaaDoor
