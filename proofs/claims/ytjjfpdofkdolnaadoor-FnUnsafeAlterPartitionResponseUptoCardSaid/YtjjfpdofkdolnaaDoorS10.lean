import Derived.Test.YtjjfpdofkdolnaaDoorS7
set_option linter.unusedVariables false
set_option linter.unusedSimpArgs false
namespace Go.Proofs.YtjjfpdofkdolnaaDoor
namespace K
open Go Go.Lib
def flexB (fx v : Int) : Bool := decide (fx ≥ 0) && decide (v ≥ fx)
theorem cd_rowone {P : Program} {n : Nat} {L : Env} {H : Hp} {C : Cx} {s : Vw} {c : Code} {p : Post} {i : Nat} {v : Value} {e : TypeId} {sz m : Nat} {xs : List Value} (hi : H[i]? = some (.row v e sz m xs)) (h : v.oneCell' = true → Cd P c p n L H C s) : Cd P c p n L H C s := fun a w hF hS => h (ownsRow_one (hS.hf _ (List.mem_of_getElem? hi))) a w hF hS
def Fld.one (f : Fld) : Fld := .mk f.of_ f.frm f.to (-1) (-1) f.dflt f.of_ f.sub
theorem RTs.cells {s : Vw} : ∀ {l : List Tre} {cs : List Value}, RTs s l cs → ∀ u ∈ cs, u.oneCell' = true
  | [], cs, h => by simp only [RTs] at h; subst h; simp
  | x :: r, cs, h => by
    simp only [RTs] at h
    obtain ⟨c, c', rfl, h1, h2⟩ := h
    intro u hu
    rcases List.mem_append.1 hu with hu | hu
    · exact h1.cells u hu
    · exact RTs.cells h2 u hu
end K
end Go.Proofs.YtjjfpdofkdolnaaDoor
namespace Go.Proofs.YtjjfpdofkdolnaaDoor
namespace K
open Go Go.Lib
theorem RF.one_ {s : Vw} {f : Fld} {sv : Value} (h : RF s f [.int .i64 f.kind, .int .i64 f.frm, .int .i64 f.to, .int .i64 f.nul, .int .i64 f.tag, .int .i64 f.dflt, .int .i64 f.of_, sv]) : RF s f.one [.int .i64 f.of_, .int .i64 f.frm, .int .i64 f.to, .int .i64 (-1), .int .i64 (-1), .int .i64 f.dflt, .int .i64 f.of_, sv] := by
  obtain ⟨sv', he, lc, h1, h2⟩ := h.open
  simp only [List.cons.injEq, and_true, true_and] at he
  subst he
  cases f
  simp only [RF, Fld.one, Fld.kind, Fld.frm, Fld.to, Fld.nul, Fld.tag, Fld.dflt, Fld.of_, Fld.sub] at h1 h2 ⊢
  exact ⟨_, rfl, lc, h1, h2⟩
mutual
def ofOk : Fld → Bool
  | .mk _ _ _ _ _ _ o sub => decide (o ≠ 11) && ofOks sub
def ofOks : List Fld → Bool
  | [] => true
  | f :: r => ofOk f && ofOks r
end
theorem ofOks.mem : ∀ {l : List Fld}, ofOks l = true → ∀ f ∈ l, ofOk f = true
  | [], _, f, h => by simp at h
  | g :: r, h, f, hf => by
    simp only [ofOks, Bool.and_eq_true] at h
    rcases List.mem_cons.1 hf with rfl | hf
    · exact h.1
    · exact ofOks.mem h.2 f hf
theorem ofOk.of {f : Fld} (h : ofOk f = true) : f.of_ ≠ 11 ∧ ofOks f.sub = true := by
  cases f
  simpa only [ofOk, Bool.and_eq_true, decide_eq_true_eq, Fld.of_, Fld.sub] using h
end K
end Go.Proofs.YtjjfpdofkdolnaaDoor
namespace Go.Proofs.YtjjfpdofkdolnaaDoor
namespace K
open Go Go.Lib
end K
end Go.Proofs.YtjjfpdofkdolnaaDoor
