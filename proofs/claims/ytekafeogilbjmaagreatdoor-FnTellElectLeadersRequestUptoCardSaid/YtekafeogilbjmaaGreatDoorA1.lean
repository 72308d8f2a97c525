import Derived.Test.YtekafeogilbjmaaGreatDoorR1
set_option linter.unusedVariables false
set_option linter.unusedSimpArgs false
namespace Go.Proofs.YtekafeogilbjmaaGreatDoor
namespace K
open Go Go.Lib
/-! ### Code that appends -/
abbrev OctRow (v : Value) (L0 : List UInt8) : Ent := .row v 5 1 L0.length (u8s L0)
section
variable {n : Nat} {L : Env} {H0 : Hp} {C : Cx} {s : Vw} {N R : Act → World → Prop} {X : List (Nat × (Act → World → Prop))}
variable {id id' id1 id2 id3 : Nat} {td x y p d0 d1 d2 d3 d4 d5 d6 d7 d8 d9 e1 e2 e3 e4 : Nat} {f g : FuncId} {vd val : Value} {Lc bs rest Full : List UInt8} {ts ts' : Array TypeId}
variable {ty0 ty1 ty2 ty3 ty4 ty5 ty6 ty7 ty8 ty9 : TypeId} {p0 p1 p2 p3 p4 p5 p6 p7 p8 p9 : String} {a0 a1 a2 a3 a4 a5 a6 a7 a8 a9 : Array Edge}
variable {uy1 uy2 uy3 uy4 uy5 uy6 : TypeId} {q1 q2 q3 q4 q5 q6 : String} {c1 c2 c3 c4 c5 c6 : Array Edge}
variable {T ft : TypeId} {fs : Array Field} {k off sz b o : Nat} {fl : Field} {dd : TypeDesc} {cells : List Value}
end
end K
end Go.Proofs.YtekafeogilbjmaaGreatDoor
