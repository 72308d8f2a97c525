import Derived.Test.YtjjfpdofkdolnaaDoorG4
set_option linter.unusedVariables false
set_option linter.unusedSimpArgs false
namespace Go.Proofs.YtjjfpdofkdolnaaDoor
namespace K
open Go Go.Lib
/-! ### Pieces of code whose temporaries are fresh -/
def fr (d : Nat) : Env → Bool
  | [] => true
  | (k, _) :: r => !(Nat.beq k d) && fr d r
def frs (n : Nat) (L : Env) : List Nat → Bool
  | [] => true
  | d :: r => Nat.blt d n && fr d L && r.all (fun e => !(Nat.beq d e)) && frs n L r
theorem frs.all {n : Nat} {L : Env} : ∀ {ds : List Nat}, frs n L ds = true → (∀ d ∈ ds, Nat.blt d n = true ∧ fr d L = true) ∧ ds.Pairwise (fun a b => ¬ a = b)
  | [], _ => ⟨by simp, List.Pairwise.nil⟩
  | d :: r, h => by
    simp only [frs, Bool.and_eq_true] at h
    obtain ⟨⟨⟨h1, h2⟩, h3⟩, h4⟩ := h
    obtain ⟨h5, h6⟩ := frs.all h4
    refine ⟨fun e he => ?_, List.pairwise_cons.2 ⟨fun e he heq => ?_, h6⟩⟩
    · rcases List.mem_cons.1 he with rfl | he
      · exact ⟨h1, h2⟩
      · exact h5 e he
    · subst heq
      have := List.all_eq_true.1 h3 _ he
      simp at this
theorem lk_eq {t : Nat} {v : Value} {L : Env} : lk ((t, v) :: L) t = some v := by simp [lk]
theorem lk_ne {k t : Nat} {v : Value} {L : Env} (h : ¬ k = t) : lk ((k, v) :: L) t = lk L t := by simp [lk, nbeq h]
theorem ev_t {L : Env} {t : Nat} : ev L (.tmp t) = lk L t := rfl
theorem ev_c {L : Env} {v : Value} : ev L (.const v) = some v := rfl
theorem lk_fr {d : Nat} : ∀ {L : Env} {t : Nat} {v : Value}, fr d L = true → lk L t = some v → ¬ d = t
  | [], t, v, _, h => by simp [lk] at h
  | (k, u) :: r, t, v, hf, h => by
    simp only [fr, Bool.and_eq_true] at hf
    simp only [lk] at h
    by_cases e : k = t
    · subst e
      intro h0
      subst h0
      have := hf.1
      simp at this
    · rw [nbeq e] at h
      exact lk_fr hf.2 h
def sub (L' L : Env) : Prop := ∀ t v, lk L' t = some v → lk L t = some v
theorem sub.rfl' {L : Env} : sub L L := fun _ _ h => h
theorem sub.skip {L' L : Env} {d : Nat} {u : Value} (hf : fr d L' = true) (h : sub L' L) : sub L' ((d, u) :: L) := fun t v hv => by rw [lk_ne (lk_fr hf hv)]; exact h t v hv
theorem sub.cons {L' L : Env} {d : Nat} {u : Value} (h : sub L' L) : sub ((d, u) :: L') ((d, u) :: L) := fun t v hv => by
  by_cases e : d = t
  · subst e
    rw [lk_eq] at hv ⊢
    exact hv
  · rw [lk_ne e] at hv ⊢
    exact h t v hv
theorem sub.put {L' L : Env} {d : Nat} {u : Value} (h : lk L d = some u) (hs : sub L' L) : sub ((d, u) :: L') L := fun t v hv => by
  by_cases e : d = t
  · subst e
    rw [lk_eq] at hv
    rw [h]
    exact hv
  · rw [lk_ne e] at hv
    exact hs t v hv
theorem sub.swap {a d : Nat} {x v : Value} {L : Env} (h : Nat.beq a d = false) : sub ((d, v) :: (a, x) :: L) ((a, x) :: (d, v) :: L) := fun t u hu => by
  have hne : ¬ a = d := fun e => by subst e; simp at h
  by_cases e : d = t
  · subst e
    rw [lk_eq] at hu
    rw [lk_ne hne, lk_eq]
    exact hu
  · rw [lk_ne e] at hu
    by_cases e2 : a = t
    · subst e2
      rw [lk_eq] at hu ⊢
      exact hu
    · rw [lk_ne e2] at hu
      rw [lk_ne e2, lk_ne e]
      exact hu
section
variable {P : Program} {n : Nat} {L L' : Env} {H : Hp} {C : Cx} {s : Vw} {N R : Act → World → Prop} {X : List (Nat × (Act → World → Prop))} {K : Act → World → Prop} {c : Code} {p : Post}
theorem at_sub (h : sub L' L) (k : At K n L' H C s) : At K n L H C s := fun a w hF hS => k a w (hF.drop h) hS
theorem cd_sub_ (h : sub L' L) (k : Cd P c p n L' H C s) : Cd P c p n L H C s := fun a w hF hS => k a w (hF.drop h) hS
theorem cd_sq {x y : Code} (h : Cd P x ⟨y.wp P (Post.q ⟨N, R, X⟩), R, X⟩ n L H C s) : Cd P (.seq x y) ⟨N, R, X⟩ n L H C s := cd_seq h
/-- a loop's round, its frame told by what it must hold -/
theorem cd_loop' {c : Code} {S : Type} (l : Lp S) (z0 : S) (hI : ∀ t, Tr s t → l.I z0 t) (hL : sub (l.L z0) L) (hH : (l.H z0).Sublist H)
    (round : ∀ z t, Tr s t → l.I z t → Cd P c ⟨Rnd l C n s z, R, X⟩ n (l.L z) (l.H z) C t) : Cd P (.loop c) ⟨N, R, X⟩ n L H C s := fun a w hF hS => by
  have hS0 := hS.sub hH
  refine wp_loop_ghost (fun k a w => ∃ z t, l.m z = k ∧ Tr s t ∧ l.I z t ∧ Fr n (l.L z) a ∧ St C t (l.H z) w) (l.m z0) ⟨z0, hS0.vw, rfl, hS0.tr, hI _ hS0.tr, hF.drop hL, hS0.rebase⟩ ?_
  rintro k a w ⟨z, t, rfl, ht, hi, hF, hS⟩
  refine Code.wp_mono (fun e a w hq => ?_) (round z t ht hi a w hF hS)
  cases e with
  | normal =>
    obtain ⟨z', t', h1, h2, h3, h4, h5⟩ := hq
    exact ⟨_, h3, z', t', rfl, h1, h2, h4, h5⟩
  | exit id => exact hq
  | ret => exact hq
  | goto l => exact (hq : False).elim
  | panic l => exact (hq : False).elim
  | outgrown => exact (hq : False).elim
theorem at_rnd' {S : Type} {l : Lp S} {z : S} {s0 : Vw} (z' : S) (ht : Tr s0 s) (hI : ∀ t, Tr s t → l.I z' t) (hm : l.m z' < l.m z) (hL : sub (l.L z') L) (hH : (l.H z').Sublist H) :
    At (Rnd l C n s0 z) n L H C s := fun a w hF hS => by
  have hS0 := hS.sub hH
  exact ⟨z', hS0.vw, ht.trans hS0.tr, hI _ hS0.tr, hm, hF.drop hL, hS0.rebase⟩
theorem frs_get {ds : List Nat} (h : frs n L ds = true) : (∀ d ∈ ds, Nat.blt d n = true) ∧ (∀ d ∈ ds, fr d L = true) ∧ ds.Pairwise (fun a b => ¬ a = b ∧ ¬ b = a) :=
  ⟨fun d hd => ((frs.all h).1 d hd).1, fun d hd => ((frs.all h).1 d hd).2, (frs.all h).2.imp fun h => ⟨h, fun e => h e.symm⟩⟩
end
end K
end Go.Proofs.YtjjfpdofkdolnaaDoor
