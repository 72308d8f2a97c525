import Derived.Test.YtjjfpdofkdolnaaDoorR1
import Derived.Test.YtjjfpdofkdolnaaDoorK3
import Derived.Test.YtjjfpdofkdolnaaDoorP4
import Derived.Laws.StructEq
import Derived.ScopeJumps
set_option linter.unusedVariables false
set_option linter.unusedSimpArgs false
namespace Go.Proofs.YtjjfpdofkdolnaaDoor
namespace K
open Go Go.Lib
/-! ### Code that appends -/
abbrev OctRow (v : Value) (L0 : List UInt8) : Ent := .row v 5 1 L0.length (u8s L0)
section
variable {n : Nat} {L : Env} {H0 : Hp} {C : Cx} {s : Vw} {N R : Act → World → Prop} {X : List (Nat × (Act → World → Prop))}
variable {id id' id1 id2 id3 : Nat} {td x y p d0 d1 d2 d3 d4 d5 d6 d7 d8 d9 e1 e2 e3 e4 : Nat} {f g : FuncId} {vd val : Value} {Lc bs rest Full : List UInt8} {ts ts' : Array TypeId}
variable {ty0 ty1 ty2 ty3 ty4 ty5 ty6 ty7 ty8 ty9 : TypeId} {p0 p1 p2 p3 p4 p5 p6 p7 p8 p9 : String} {a0 a1 a2 a3 a4 a5 a6 a7 a8 a9 : Array Edge}
variable {uy1 uy2 uy3 uy4 uy5 uy6 : TypeId} {q1 q2 q3 q4 q5 q6 : String} {c1 c2 c3 c4 c5 c6 : Array Edge}
variable {T ft : TypeId} {fs : Array Field} {k off sz b o : Nat} {fl : Field} {dd : TypeDesc} {cells : List Value}
end
end K
end Go.Proofs.YtjjfpdofkdolnaaDoor
namespace Go.Proofs.YtjjfpdofkdolnaaDoor
namespace K
open Go Go.Lib
section
variable {n : Nat} {L : Env} {H0 : Hp} {C : Cx} {s : Vw} {N R : Act → World → Prop} {X : List (Nat × (Act → World → Prop))}
variable {id id' id1 id2 id3 : Nat} {td x y p d0 d1 d2 d3 d4 d5 d6 d7 d8 d9 e1 e2 e3 e4 e5 e6 : Nat} {f g : FuncId} {vd val : Value} {Lc bs rest Full : List UInt8} {ts ts' : Array TypeId}
variable {ty0 ty1 ty2 ty3 ty4 ty5 ty6 ty7 ty8 ty9 : TypeId} {p0 p1 p2 p3 p4 p5 p6 p7 p8 p9 : String} {a0 a1 a2 a3 a4 a5 a6 a7 a8 a9 : Array Edge}
variable {uy1 uy2 uy3 uy4 uy5 uy6 : TypeId} {q1 q2 q3 q4 q5 q6 : String} {c1 c2 c3 c4 c5 c6 : Array Edge}
variable {T ft vy1 vy2 : TypeId} {fs : Array Field} {k off sz b o : Nat} {fl : Field} {dd : TypeDesc} {cells : List Value} {ts2 : Array TypeId}
end
end K
end Go.Proofs.YtjjfpdofkdolnaaDoor
namespace Go.Proofs.YtjjfpdofkdolnaaDoor
namespace K
open Go Go.Lib
/-! ### What is appended of a field, in the reference's words -/
section
variable {Lc T Full : List UInt8} {f : Fld} {r : List Fld} {v : Int} {q : Bool} {y : Tre} {i : Nat}
def els (y : Tre) : List Tre := if y.z then [] else y.l
end
/-- a list that is read: its things, each where it lies -/
theorem RLs.els {s : Vw} {o : Int} {sub : List Fld} {y : Tre} {c : Value} (h : RLs s o sub y c) : ∃ ad cap, c = .slice ad (els y).length cap ∧ (ad.isNone = y.z) ∧ ((els y).length = 0 ∨ ∃ g off lc, ad = some ⟨g, off, none⟩ ∧ RC s g off lc ∧ lc.length = (els y).length * (if o = 7 then 16 else if o = 10 then fszs sub + 1 else 1) ∧
    ∀ i, (hi : i < (els y).length) → REl s o sub (els y)[i] (seg lc i (if o = 7 then 16 else if o = 10 then fszs sub + 1 else 1))) := by
  rcases h with ⟨hz, rfl⟩ | ⟨hz, g, off, cap, lc, rfl, hR, hE⟩
  · have e : K.els y = [] := by simp [K.els, hz]
    exact ⟨none, 0, by rw [e]; rfl, by simp [hz], .inl (by rw [e]; rfl)⟩
  · have e : K.els y = y.l := by simp [K.els, hz]
    refine ⟨some ⟨g, off, none⟩, cap, by rw [e], by simp [hz], ?_⟩
    rw [e]
    by_cases hm : y.l.length = 0
    · exact .inl hm
    · refine .inr ⟨g, off, lc, rfl, ?_, hR.1, hE⟩
      have hpos : 0 < (if o = 7 then 16 else if o = 10 then fszs sub + 1 else 1) := by
        split
        · omega
        · split <;> omega
      obtain ⟨b, o', he, hrc⟩ := hR.pos (by omega) hpos
      simp only [Option.some.injEq, Addr.mk.injEq] at he
      obtain ⟨rfl, rfl, _⟩ := he
      exact hrc
section
variable {Lc T Full : List UInt8} {v : Int} {q : Bool} {y : Tre}
end
section
variable {s : Vw} {sub : List Fld} {y : Tre} {cs : List Value}
theorem RE_part (h : REl s 10 sub y cs) : RMp s sub y cs := by simpa [REl] using h
theorem RE_i32 (h : REl s 3 sub y cs) : cs = [.int .i32 (IntKind.i32.wrap y.n)] := by simpa [REl, RS1] using h
end
theorem sub.nil {L : Env} : sub [] L := fun t v h => by simp [lk] at h
end K
end Go.Proofs.YtjjfpdofkdolnaaDoor
namespace Go.Proofs.YtjjfpdofkdolnaaDoor
namespace K
open Go Go.Lib
section neq
variable {P : Program} {S : World → Prop} {d : Option Nat} {g : Option (Nat × Bool)} {t u ty : TypeId} {pos : String} {af : Array Edge} {n : Nat} {L : Env} {x y : Operand}
end neq
section
variable {n : Nat} {L : Env} {H0 : Hp} {C : Cx} {s : Vw} {N R : Act → World → Prop} {X : List (Nat × (Act → World → Prop))}
variable {id id' id1 id2 id3 : Nat} {td x y p d0 d1 d2 d3 d4 d5 d6 : Nat} {vd val : Value} {Lc bs rest Full : List UInt8}
variable {ty0 ty1 ty2 ty3 ty4 ty5 ty6 : TypeId} {p0 p1 p2 p3 p4 p5 p6 : String} {a0 a1 a2 a3 a4 a5 a6 : Array Edge}
variable {uy1 uy2 : TypeId} {q : Bool} {T ft e : TypeId} {v : Int} {yy : Tre}
end
end K
end Go.Proofs.YtjjfpdofkdolnaaDoor
namespace Go.Proofs.YtjjfpdofkdolnaaDoor
namespace K
open Go Go.Lib
section
variable {n : Nat} {L : Env} {H0 : Hp} {C : Cx} {s : Vw} {N R : Act → World → Prop} {X : List (Nat × (Act → World → Prop))}
variable {id id' id1 id2 id3 : Nat} {td x y p d0 d1 d2 d3 d4 d5 d6 e1 e2 e3 e4 e5 e6 fx : Nat} {vd val : Value} {Lc bs rest Full : List UInt8} {ts ts' : Array TypeId} {f g : FuncId}
variable {ty0 ty1 ty2 ty3 ty4 ty5 ty6 ty7 : TypeId} {p0 p1 p2 p3 p4 p5 p6 p7 : String} {a0 a1 a2 a3 a4 a5 a6 a7 : Array Edge}
variable {uy1 uy2 uy3 uy4 uy5 uy6 uy7 wy wz : TypeId} {q1 q2 q3 q4 q5 q6 q7 : String} {c1 c2 c3 c4 c5 c6 c7 : Array Edge}
variable {q z : Bool} {T ft e : TypeId} {v : Int} {yy : Tre}
end
end K
end Go.Proofs.YtjjfpdofkdolnaaDoor
namespace Go.Proofs.YtjjfpdofkdolnaaDoor
namespace K
open Go Go.Lib
/-! ### Arrays of octets held against one another -/
section
variable {P : Program} {S : World → Prop} {d : Option Nat} {g : Option (Nat × Bool)} {t u e ty : TypeId} {pos : String} {af : Array Edge} {n : Nat} {L : Env} {x y : Operand}
end
end K
end Go.Proofs.YtjjfpdofkdolnaaDoor
namespace Go.Proofs.YtjjfpdofkdolnaaDoor
namespace K
open Go Go.Lib
/-! ### Jumps back to one label -/
section jumps
variable {P : Program} {n : Nat} {L L' : Env} {H H' : Hp} {C : Cx} {s : Vw} {N R J : Act → World → Prop} {X : List (Nat × (Act → World → Prop))} {p : Post} {c x y : Code} {l : Nat}
def CdG (P : Program) (c : Code) (l : Nat) (J : Act → World → Prop) (p : Post) (n : Nat) (L : Env) (H : Hp) (C : Cx) (s : Vw) : Prop :=
  ∀ a w, Fr n L a → St C s H w → c.wp P (Exit.jump l J p.q) a w
theorem cdG_sq (h : Cd P x ⟨y.wp P (Exit.jump l J (Post.q ⟨N, R, X⟩)), R, X⟩ n L H C s) : CdG P (.seq x y) l J ⟨N, R, X⟩ n L H C s := fun a w hF hS => by
  refine wp_seq (Code.wp_mono (fun e a w hq => ?_) (h a w hF hS))
  cases e <;> first | exact hq | exact (hq : False).elim
theorem at_cdG (h : CdG P y l J p n L H C s) : At (y.wp P (Exit.jump l J p.q)) n L H C s := h
theorem cdG_goto (h : At J n L H C s) : CdG P (.goto l) l J p n L H C s := fun a w hF hS => wp_goto ⟨rfl, h a w hF hS⟩
theorem cdG_tt {o : Operand} (hc : ev L o = some (.bool true)) (h : CdG P x l J p n L H C s) : CdG P (.cond o x y) l J p n L H C s := fun a w hF hS => wp_cond_true (hF.ev hc) (h a w hF hS)
theorem cd_label {k : Nat} (h : Cd P y p n L H C s) : Cd P (.seq (.label k) y) p n L H C s := fun a w hF hS => wp_seq (wp_label (h a w hF hS))
/-- a scope with one jump back: what holds at the jump is told by z -/
theorem cd_scopeJ {S : Type} {rest : Code} (l : Nat) (Lj : S → Env) (Hj : S → Hp) (I : S → Vw → Prop) (hf : findLabel c l = some rest)
    (first : CdG P c l (fun a w => ∃ z u, Tr s u ∧ I z u ∧ Fr n (Lj z) a ∧ St C u (Hj z) w) ⟨N, R, X⟩ n L H C s)
    (pass : ∀ z u, Tr s u → I z u → Cd P rest ⟨N, R, X⟩ n (Lj z) (Hj z) C u) : Cd P (.scope c) ⟨N, R, X⟩ n L H C s := fun a w hF hS =>
  wp_scope_jumps l _ (fun _ _ => 0) hf (first a w hF hS) (by
    rintro a w ⟨z, u, h1, h2, h3, h4⟩
    exact Code.wp_mono (fun e a w hq => by cases e <;> first | exact hq | exact (hq : False).elim) (pass z u h1 h2 a w h3 h4))
theorem at_jump {S : Type} {Lj : S → Env} {Hj : S → Hp} {I : S → Vw → Prop} {s0 : Vw} (z : S) (ht : Tr s0 s) (hI : ∀ u, Tr s u → I z u) (hL : sub (Lj z) L) (hH : (Hj z).Sublist H) :
    At (fun a w => ∃ z u, Tr s0 u ∧ I z u ∧ Fr n (Lj z) a ∧ St C u (Hj z) w) n L H C s := fun a w hF hS => by
  have hS0 := hS.sub hH
  exact ⟨z, hS0.vw, ht.trans hS0.tr, hI _ hS0.tr, hF.drop hL, hS0.rebase⟩
/-- a scope without a jump -/
theorem cd_scope0 (h : Cd P c ⟨N, R, X⟩ n L H C s) : Cd P (.scope c) ⟨N, R, X⟩ n L H C s := fun a w hF hS =>
  wp_scope_straight (Code.wp_mono (fun e a w hq => by cases e <;> first | exact hq | exact (hq : False).elim) (h a w hF hS))
end jumps
/-! ### A row that is cut -/
section
variable {n : Nat} {L : Env} {H0 : Hp} {C : Cx} {s : Vw} {N R : Act → World → Prop} {X : List (Nat × (Act → World → Prop))}
variable {id id' id1 id2 id3 : Nat} {td x y p sz la d0 d1 d2 d3 d4 d5 d6 d7 d8 d9 d10 : Nat} {vd val : Value} {Lc bs rest Full : List UInt8} {ts : Array TypeId} {f : FuncId}
variable {ty0 ty1 ty2 ty3 ty4 ty5 ty6 ty7 ty8 ty9 ty10 : TypeId} {p0 p1 p2 p3 p4 p5 p6 p7 p8 p9 p10 : String} {a0 a1 a2 a3 a4 a5 a6 a7 a8 a9 a10 : Array Edge} {uy1 uy2 uy3 : TypeId}
variable {q z : Bool} {T ft e : TypeId} {v : Int} {yy : Tre}
end
end K
end Go.Proofs.YtjjfpdofkdolnaaDoor
namespace Go.Proofs.YtjjfpdofkdolnaaDoor
namespace K
open Go Go.Lib
/-! ### A part with one tagged field -/
section plain
variable {fs r : List Fld} {f : Fld} {v : Int} {q : Bool} {y : Tre} {i : Nat} {T Lc Full fb : List UInt8} {us : Bool}
end plain
section
variable {n : Nat} {L : Env} {H0 : Hp} {C : Cx} {s : Vw} {N R : Act → World → Prop} {X : List (Nat × (Act → World → Prop))}
variable {id id' id1 id2 id3 bid : Nat} {td x p te tl ti tc ta tg d0 d1 d2 d3 d4 d5 d6 d7 d8 d9 d10 : Nat} {vd mv : Value} {Lc bs rest Full : List UInt8} {ts ts' : Array TypeId} {ad : Option Addr} {m c : Nat}
variable {ty0 ty1 ty2 ty3 ty4 ty5 ty6 ty7 ty8 ty9 ty10 : TypeId} {p0 p1 p2 p3 p4 p5 p6 p7 p8 p9 p10 : String} {a0 a1 a2 a3 a4 a5 a6 a7 a8 a9 a10 : Array Edge} {uy1 uy2 uy3 uy4 : TypeId}
variable {T TS eU : TypeId} {fs : Array Field} {k off sz b o : Nat} {fl : Field} {cells : List Value} {yy : Tre} {body SC : Code}
end
end K
end Go.Proofs.YtjjfpdofkdolnaaDoor
namespace Go.Proofs.YtjjfpdofkdolnaaDoor
namespace K
open Go Go.Lib
section
variable {n : Nat} {L : Env} {H0 : Hp} {C : Cx} {s : Vw} {N R : Act → World → Prop} {X : List (Nat × (Act → World → Prop))}
variable {id id' id1 id2 id3 bid : Nat} {td x p sz la d0 d1 d2 d3 d4 d5 d6 e1 e2 e3 e4 lb : Nat} {vd val : Value} {Lc bs rest Full fb : List UInt8} {ts ts' : Array TypeId} {f : FuncId}
variable {ty0 ty1 ty2 ty3 ty4 ty5 ty6 : TypeId} {p0 p1 p2 p3 p4 p5 p6 : String} {a0 a1 a2 a3 a4 a5 a6 : Array Edge} {uy1 uy2 uy3 uy4 uy5 uy6 uy7 : TypeId} {q1 q2 q3 q4 q5 q6 q7 : String} {c1 c2 c3 c4 c5 c6 c7 : Array Edge}
variable {T ft : TypeId} {fs : Array Field} {k off szz b o : Nat} {fl : Field} {dd : TypeDesc} {cells : List Value} {W : Code}
end
/-! ### what is as by default -/
section usual
variable {a b nul tag d o v : Int} {sub : List Fld} {y : Tre}
end usual
end K
end Go.Proofs.YtjjfpdofkdolnaaDoor
