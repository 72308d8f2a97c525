import Derived.Test.YtjjfpdofkdolnaaDoorQ0
import Derived.Laws.IdiomStrings
import Derived.Laws.BytesArg
set_option linter.unusedVariables false
set_option linter.unusedSimpArgs false
namespace Go.Proofs.YtjjfpdofkdolnaaDoor
namespace K
open Go Go.Lib
section helpers
variable {P : Program} {n : Nat} {L : Env} {H : Hp} {C : Cx} {s : Vw} {p : Post} {ops : Array Oper} {rest : List Oper} {K : Act → World → Prop}
variable {ty : TypeId} {pos : String} {af : Array Edge}
theorem pv_b2s {d : Option Nat} {g : Option (Nat × Bool)} {src dst e : TypeId} {x : Operand} {v : Value} {l : List UInt8} (hb : RSv s v l) (hs : P.underlying src = some (.slice e)) (he : P.underlying e = some (.int .u8)) (hd : P.underlying dst = some .string) (hx : ev L x = some v) :
    PV P (Sk s H) ⟨d, .convert src dst x, ty, pos, af, g⟩ n L (.string ⟨l.toArray⟩) := fun a w hF hw => by
  rcases hb.2.2 with ⟨rfl, h0⟩ | ⟨ad, c, rfl, hc, hr⟩
  · have : l = [] := List.eq_nil_of_length_eq_zero h0
    subst this
    have := run_convert_bytes_nil (P := P) w src e hs he 0 0 dst hd
    simp [execOp, hF.ev hx, this]
    rfl
  · have := run_convert_bytes_back (P := P) w src dst e ad c l hs he hd (fun j hj => by
      have hne : u8s l ≠ [] := by intro h; rw [show l = [] by simpa [u8s] using h] at hj; simp at hj
      obtain ⟨h0, hrc⟩ := hr hne
      obtain ⟨b, o, sp⟩ := ad
      simp only at h0 hrc
      subst h0
      have := hw.rc hrc (j := j) (v := u8v l[j]) (by simp [u8s, hj])
      rw [Addr.add_lit]
      exact this)
    simp [execOp, hF.ev hx, this]
theorem obj_rc {t : Vw} {w : World} (hS : St ⟨t, No⟩ s H w) {i b : Nat} {l : List Value} {e : TypeId} (hi : H[i]? = some (.obj b (.cells l.toArray e))) : RC hS.fin b 0 l :=
  ⟨freshO hS hi, fun j v hv => cell_of_list (hS.sk.obj hi) _ (by simpa using hv)⟩
end helpers
/-- octets that may be null -/
def Octs (s : Vw) (c : Value) (x : Tre) : Prop := (x.z = true ∧ c = .slice none 0 0) ∨ (x.z = false ∧ ∃ g o cap, c = .slice (some ⟨g, o, none⟩) x.s.length cap ∧ RSv s c x.s)
theorem Octs.mv {s t : Vw} {c : Value} {x : Tre} (h : Octs s c x) (ht : Tr s t) : Octs t c x := h.imp id fun ⟨h1, g, o, cap, h2, h3⟩ => ⟨h1, g, o, cap, h2, RSv.mv h3 ht⟩
theorem Octs.one {s : Vw} {c : Value} {x : Tre} (h : Octs s c x) : c.oneCell' = true := by
  rcases h with ⟨_, rfl⟩ | ⟨_, g, o, cap, rfl, _⟩ <;> rfl
/-- a text that may be null -/
def Txt (s : Vw) (c : Value) (x : Tre) : Prop := (x.z = true ∧ c = .pointer none) ∨ (x.z = false ∧ ∃ g z, c = .pointer (some ⟨g, 0, none⟩) ∧ RC s g 0 [.string z] ∧ strB z = x.s)
theorem Txt.mv {s t : Vw} {c : Value} {x : Tre} (h : Txt s c x) (ht : Tr s t) : Txt t c x := h.imp id fun ⟨h1, g, z, h2, h3, h4⟩ => ⟨h1, g, z, h2, RC.mv h3 ht (by simp), h4⟩
theorem Txt.one {s : Vw} {c : Value} {x : Tre} (h : Txt s c x) : c.oneCell' = true := by
  rcases h with ⟨_, rfl⟩ | ⟨_, g, z, rfl, _⟩ <;> rfl
/-- the tags as they lie, and what they say -/
def RK (s : Vw) : List (Nat × Value) → Tags → Prop
  | [], u => u = []
  | (k, v) :: l, u => ∃ b r, u = (k, b) :: r ∧ RSv s v b ∧ RK s l r
theorem RK.mv {s t : Vw} (ht : Tr s t) : ∀ {l : List (Nat × Value)} {u : Tags}, RK s l u → RK t l u
  | [], _, h => h
  | (_, _) :: _, _, ⟨b, r, h1, h2, h3⟩ => ⟨b, r, h1, RSv.mv h2 ht, RK.mv ht h3⟩
theorem RK.keys {s : Vw} : ∀ {l : List (Nat × Value)} {u : Tags}, RK s l u → l.map (·.1) = u.map (·.1)
  | [], _, h => by simp only [RK] at h; subst h; rfl
  | (_, _) :: _, _, ⟨b', r, h1, h2, h3⟩ => by subst h1; simp [RK.keys h3]
end K
end Go.Proofs.YtjjfpdofkdolnaaDoor
