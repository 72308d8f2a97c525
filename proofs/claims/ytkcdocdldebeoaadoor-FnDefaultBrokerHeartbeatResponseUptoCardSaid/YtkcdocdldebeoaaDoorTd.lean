import Derived.Test.YtkcdocdldebeoaaDoorTc
import Derived.Test.YtkcdocdldebeoaaDoorTa
import Derived.Test.YtkcdocdldebeoaaDoorQ1
set_option linter.unusedVariables false
set_option linter.unusedSimpArgs false
namespace Go.Proofs.YtkcdocdldebeoaaDoor
namespace K
open Go Go.Lib
abbrev TA (b3 : Nat) (c0 c1 c2 c3 : Value) (z : Value × List Value × Nat) : Ent := .obj b3 (.cells [c0, c1, c2, c3, z.1].toArray 37)
abbrev TB (z : Value × List Value × Nat) : Ent := .row z.1 65 2 z.2.2 z.2.1
def TInv (us : Tags) (j : Nat) (u : Vw) (z : Value × List Value × Nat) : Prop := z.2.2 = j ∧ RUs u (us.take j) z.2.1
theorem ln_makeN {P : Program} {n : Nat} {L : Env} {H : Hp} {C : Cx} {s : Vw} {K : Act → World → Prop} {ops : Array Oper} {rest : List Oper} {ty : TypeId} {pos : String} {af : Array Edge} {d m sz by_ : Nat} {t e : TypeId} {z : Value} {x y : Operand} {l : List Value} (hu : P.underlying t = some (.slice e)) (hti : TI P e z sz by_) (hx : ev L x = some (.int .i64 (m : Int))) (hy : ev L y = some (.int .i64 (m : Int))) (hl : madeCells z.cells (m * sz) = l.toArray)
    (hb : by_ * m ≤ 281474976710656) (hm : m ≤ 9223372036854775807) (hd : Nat.blt d n = true) (k : ∀ b, Ln P ops rest K n ((d, .slice (some ⟨b, 0, none⟩) m m) :: L) (.obj b (.cells l.toArray e) :: H) C s) :
    Ln P ops (⟨some d, .makeSlice t x y, ty, pos, af, none⟩ :: rest) K n L H C s := fun a w hF hS => by
  obtain ⟨ii, hii, hz0, hz1, hz2⟩ := info_parts hti
  have hbi : (ii.bytes : Int) * (m : Int) ≤ 281474976710656 := by
    rw [hz2]
    have h : ((by_ * m : Nat) : Int) ≤ 281474976710656 := by omega
    rwa [Int.natCast_mul] at h
  have hr := run_make (P := P) w t e ii z hu hii hz0 .i64 .i64 m m (by omega) (Int.le_refl _) hbi (by omega)
  have e1 : madeCells z.cells (((m : Int)).toNat * ii.size) = l.toArray := by rw [hz1, Int.toNat_natCast]; exact hl
  rw [e1, Int.toNat_natCast] at hr
  exact wpl_val (w' := w.alloc (.cells l.toArray e)) rfl (by simp [execOp, hF.ev hx, hF.ev hy, hr]) (k w.heap.size _ _ (hF.put d _ hd) (hS.new _))
theorem w64_i8 (x : Int) : IntKind.i64.wrap (IntKind.i8.wrap x) = IntKind.i8.wrap x := by simp [IntKind.wrap, IntKind.bits, IntKind.signed]; omega
theorem w64_i16 (x : Int) : IntKind.i64.wrap (IntKind.i16.wrap x) = IntKind.i16.wrap x := by simp [IntKind.wrap, IntKind.bits, IntKind.signed]; omega
theorem w64_i32 (x : Int) : IntKind.i64.wrap (IntKind.i32.wrap x) = IntKind.i32.wrap x := by simp [IntKind.wrap, IntKind.bits, IntKind.signed]; omega
theorem w64_u16 (x : Int) : IntKind.i64.wrap (IntKind.u16.wrap x) = IntKind.u16.wrap x := by simp [IntKind.wrap, IntKind.bits, IntKind.signed]; omega
theorem I64_i8 (x : Int) : I64 (IntKind.i8.wrap x) := by simp [I64, IntKind.wrap, IntKind.bits, IntKind.signed]; omega
theorem I64_i16 (x : Int) : I64 (IntKind.i16.wrap x) := by simp [I64, IntKind.wrap, IntKind.bits, IntKind.signed]; omega
theorem I64_i32 (x : Int) : I64 (IntKind.i32.wrap x) := by simp [I64, IntKind.wrap, IntKind.bits, IntKind.signed]; omega
theorem I64_u16 (x : Int) : I64 (IntKind.u16.wrap x) := by simp [I64, IntKind.wrap, IntKind.bits, IntKind.signed]; omega
theorem obj_rsS {t : Vw} {w : World} {H : Hp} {s : Vw} (hS : St ⟨t, No⟩ s H w) {i b m sz : Nat} {l : List Value} {e : TypeId} (hi : H[i]? = some (.obj b (.cells l.toArray e))) (hl : l.length = m * sz) (h1 : ∀ u ∈ l, u.oneCell' = true) : RS hS.fin sz (.slice (some ⟨b, 0, none⟩) m m) m l :=
  ⟨hl, h1, .inr ⟨⟨b, 0, none⟩, m, rfl, Nat.le_refl _, fun _ => ⟨rfl, obj_rc hS hi⟩⟩⟩
def RCx (s : Vw) (b o : Nat) (c : Value) (cs : List Value) : Prop := RC s b o (c :: cs)
theorem RCx.mv {s t : Vw} {b o : Nat} {c : Value} {cs : List Value} (h : RCx s b o c cs) (ht : Tr s t) : RCx t b o c cs := RC.mv h ht (by simp)
theorem RS_nil {s : Vw} (sz : Nat) : RS s sz (.slice none 0 0) 0 [] := ⟨by simp, by simp, .inl ⟨rfl, rfl⟩⟩
theorem RT_num {s : Vw} {n : Int} (h : I64 n) : RT s (.mk n [] false [] []) [.int .i64 n, .slice none 0 0, .bool false, .slice none 0 0, .slice none 0 0] := by
  have h0 : ∀ sz, RS s sz (.slice none 0 0) 0 [] := fun sz => ⟨by simp, by simp, .inl ⟨rfl, rfl⟩⟩
  exact RT.shut ⟨_, _, _, rfl, h, h0 1, ⟨[], h0 5, rfl⟩, ⟨[], h0 2, rfl⟩⟩
end K
end Go.Proofs.YtkcdocdldebeoaaDoor
