import Derived.Test.YtjjfpdofkdolnaaDoorK1
set_option linter.unusedVariables false
set_option linter.unusedSimpArgs false
namespace Go.Proofs.YtjjfpdofkdolnaaDoor
namespace K
open Go Go.Lib
section eqnil
variable {P : Program} {S : World → Prop} {n : Nat} {L : Env} {d : Option Nat} {g : Option (Nat × Bool)} {ty : TypeId} {pos : String} {af : Array Edge} {t u : TypeId} {x y : Operand}
theorem in_eqS {e : TypeId} {b : Option Addr} {m c : Nat} (q : Nat) (w : World) (hu : P.underlying t = some (.slice e)) : (Op.equalIn (q + 1) t (.slice b m c) (.slice none 0 0)).run P w = .ok b.isNone w := by
  cases b <;> simp [Op.equalIn, run_underlying hu]
theorem run_eqS {e : TypeId} {b : Option Addr} {m c : Nat} (w : World) (hu : P.underlying t = some (.slice e)) : (Op.equal t (.slice b m c) (.slice none 0 0)).run P w = .ok b.isNone w := in_eqS 9999 w hu
theorem in_eqM {k e : TypeId} {b : Option Nat} (q : Nat) (w : World) (hu : P.underlying t = some (.map k e)) : (Op.equalIn (q + 1) t (.map b) (.map none)).run P w = .ok b.isNone w := by
  cases b <;> simp [Op.equalIn, run_underlying hu]
theorem run_eqM {k e : TypeId} {b : Option Nat} (w : World) (hu : P.underlying t = some (.map k e)) : (Op.equal t (.map b) (.map none)).run P w = .ok b.isNone w := in_eqM 9999 w hu
theorem pv_eqS {e : TypeId} {b : Option Addr} {m c : Nat} (hu : P.underlying t = some (.slice e)) (hx : ev L x = some (.slice b m c)) (hy : ev L y = some (.slice none 0 0)) :
    PV P S ⟨d, .binOp .eql t x y u, ty, pos, af, g⟩ n L (.bool b.isNone) := fun a w hF _ => by
  simp [execOp, hF.ev hx, hF.ev hy, eqGuard, binOp, run_eqS w hu]
theorem pv_eqM {k e : TypeId} {b : Option Nat} (hu : P.underlying t = some (.map k e)) (hx : ev L x = some (.map b)) (hy : ev L y = some (.map none)) :
    PV P S ⟨d, .binOp .eql t x y u, ty, pos, af, g⟩ n L (.bool b.isNone) := fun a w hF _ => by
  simp [execOp, hF.ev hx, hF.ev hy, eqGuard, binOp, run_eqM w hu]
end eqnil
def strB (z : ByteArray) : List UInt8 := z.data.toList
theorem strB_len (z : ByteArray) : (strB z).length = z.size := by unfold strB; exact Array.length_toList
end K
end Go.Proofs.YtjjfpdofkdolnaaDoor
