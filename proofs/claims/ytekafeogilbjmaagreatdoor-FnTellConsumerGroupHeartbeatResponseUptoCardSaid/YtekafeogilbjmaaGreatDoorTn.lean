import Derived.Test.YtekafeogilbjmaaGreatDoorVa
set_option linter.unusedVariables false
set_option linter.unusedSimpArgs false
namespace Go.Proofs.YtekafeogilbjmaaGreatDoor
namespace K
open Go Go.Lib
/-! ### More of what readers meet: parts that may be null; parts whose first fields hang on the version -/
theorem plain_posi {k a b nul tag d o : Int} {sub r : List Fld} {v0 : Int} {q : Bool} {z : Tre} {i : Nat} (h11 : k ≠ 11) (h10 : k ≠ 10) (ht : tag < 0) (hh : hasB (.mk k a b nul tag d o sub) v0 = true) : 1 ≤ (plainB (.mk k a b nul tag d o sub :: r) v0 q z i).length := by
  rw [plainB, List.length_append]
  have e : (decide ((Fld.mk k a b nul tag d o sub).tag < 0) && hasB (.mk k a b nul tag d o sub) v0) = true := by rw [hh]; simp [Fld.tag, ht]
  rw [if_pos e, fB_sc h11 h10]
  have := scalar_pos k (Tre.z (z.at_ i) && decide (nul ≥ 0) && decide (v0 ≥ nul)) q (z.at_ i)
  omega
theorem plain_skip {f : Fld} {r : List Fld} {v0 : Int} {q : Bool} {z : Tre} {i : Nat} (h : 1 ≤ (plainB r v0 q z (i + 1)).length) : 1 ≤ (plainB (f :: r) v0 q z i).length := by
  rw [plainB, List.length_append]
  omega
section
variable {a b nul tag d o v0 : Int} {sub : List Fld} {q : Bool} {y : Tre} {s : Vw} {v : Value} {T : List UInt8}
theorem ptr_cases (hn : nul ≥ 0) (hv : v0 ≥ nul) (h : RSv s v (fieldB (.mk 10 a b nul tag d o sub) v0 q y ++ T)) : (y.z = true ∧ RSv s v ([255] ++ T)) ∨ (y.z = false ∧ RSv s v ([1] ++ (partB sub v0 q y ++ T))) := by
  rw [fieldB_eq] at h
  simp only [Fld.kind, Fld.nul, Fld.sub] at h
  rw [if_neg (by decide), if_pos ⟨trivial, hn⟩] at h
  have e : nullB (.mk 10 a b nul tag d o sub) v0 y = y.z := by rw [nullB_mk]; simp [hn, hv]
  rw [e] at h
  cases hz : y.z with
  | true =>
    rw [hz, if_pos rfl, show fixed (-1) 1 = [255] from by decide] at h
    exact .inl ⟨rfl, h⟩
  | false =>
    rw [hz, if_neg (by decide), show fixed 1 1 = [1] from by decide, List.append_assoc] at h
    exact .inr ⟨rfl, h⟩
theorem ptr_null (hh : hasB (.mk 10 a b nul tag d o sub) v0 = true) (hn : nul ≥ 0) (hv : v0 ≥ nul) (hz : y.z = true) : RMf s (.mk 10 a b nul tag d o sub) (imx (.mk 10 a b nul tag d o sub) v0 q y) [.pointer none] := by
  have e : imF (.mk 10 a b nul tag d o sub) v0 q y = .mk 0 [] true [] [] := by
    simp only [imF]
    rw [if_neg (by decide), if_pos trivial, if_pos (by simp [hz, hn, hv])]
  rw [imx_yes hh, e, RMf_ptr (by omega)]
  exact ⟨_, rfl, .inl ⟨rfl, rfl⟩⟩
theorem ptr_some {g : Nat} {pc : List Value} (hh : hasB (.mk 10 a b nul tag d o sub) v0 = true) (hn : nul ≥ 0) (hz : y.z = false) (hr : RC s g 0 pc) (hm : RMp s sub (.mk 0 [] false (imL sub v0 q y 0) (imU sub q y.u)) pc) : RMf s (.mk 10 a b nul tag d o sub) (imx (.mk 10 a b nul tag d o sub) v0 q y) [.pointer (some ⟨g, 0, none⟩)] := by
  have e : imF (.mk 10 a b nul tag d o sub) v0 q y = .mk 0 [] false (imL sub v0 q y 0) (imU sub q y.u) := by
    simp only [imF]
    rw [if_neg (by decide), if_pos trivial, if_neg (by simp [hz])]
  rw [imx_yes hh, e, RMf_ptr (by omega)]
  exact ⟨_, rfl, .inr ⟨rfl, g, pc, rfl, hr, hm⟩⟩
end
theorem at_freeP {n : Nat} {L : Env} {H0 : Hp} {C : Cx} {s : Vw} {K : Act → World → Prop} {e0 e1 : Ent} (hO : ∀ q, C.O q → q ∈ blks H0) (k : ∀ t, Tr s t → Known t e1 → At K n L (e0 :: H0) C t) : At K n L (e0 :: e1 :: H0) C s := fun a w hF hS => by
  have hS' : St C s (e1 :: e0 :: H0) w := hS.perm (List.Perm.swap _ _ _)
  obtain ⟨t, h1, h2, h3⟩ := st_free1 (fun q hq => by rw [blks_cons]; exact List.mem_append.2 (.inr (hO q hq))) hS'
  exact k t h1 h2 a w hF h3
theorem at_assoc {n : Nat} {L : Env} {H0 : Hp} {C : Cx} {s : Vw} {K : Act → World → Prop} {e0 : Ent} {mk : List Value → Ent} {done zs : List Value} {c : Value} (k : At K n L (e0 :: mk ((done ++ [c]) ++ zs) :: H0) C s) : At K n L (e0 :: mk (done ++ c :: zs) :: H0) C s := by
  rwa [show (done ++ [c]) ++ zs = done ++ c :: zs by simp] at k
theorem set_done {done zs : List Value} {z c : Value} : (done ++ z :: zs).set done.length c = (done ++ [c]) ++ zs := by simp
end K
end Go.Proofs.YtekafeogilbjmaaGreatDoor
