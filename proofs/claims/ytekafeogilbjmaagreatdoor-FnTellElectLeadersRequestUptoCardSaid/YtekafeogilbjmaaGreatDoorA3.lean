import Derived.Test.YtekafeogilbjmaaGreatDoorA2
import Derived.Test.YtekafeogilbjmaaGreatDoorK3
import Derived.Test.YtekafeogilbjmaaGreatDoorP3
set_option linter.unusedVariables false
set_option linter.unusedSimpArgs false
namespace Go.Proofs.YtekafeogilbjmaaGreatDoor
namespace K
open Go Go.Lib
/-! ### What is appended of a field, in the reference's words -/
section
variable {Lc T Full : List UInt8} {f : Fld} {r : List Fld} {v : Int} {q : Bool} {y : Tre} {i : Nat}
def els (y : Tre) : List Tre := if y.z then [] else y.l
end
/-- a list that is read: its things, each where it lies -/
theorem RLs.els {s : Vw} {o : Int} {sub : List Fld} {y : Tre} {c : Value} (h : RLs s o sub y c) : ∃ ad cap, c = .slice ad (els y).length cap ∧ (ad.isNone = y.z) ∧ ((els y).length = 0 ∨ ∃ g off lc, ad = some ⟨g, off, none⟩ ∧ RC s g off lc ∧ lc.length = (els y).length * (if o = 7 then 16 else if o = 10 then fszs sub + 1 else 1) ∧
    ∀ i, (hi : i < (els y).length) → REl s o sub (els y)[i] (seg lc i (if o = 7 then 16 else if o = 10 then fszs sub + 1 else 1))) := by
  rcases h with ⟨hz, rfl⟩ | ⟨hz, g, off, cap, lc, rfl, hR, hE⟩
  · have e : K.els y = [] := by simp [K.els, hz]
    exact ⟨none, 0, by rw [e]; rfl, by simp [hz], .inl (by rw [e]; rfl)⟩
  · have e : K.els y = y.l := by simp [K.els, hz]
    refine ⟨some ⟨g, off, none⟩, cap, by rw [e], by simp [hz], ?_⟩
    rw [e]
    by_cases hm : y.l.length = 0
    · exact .inl hm
    · refine .inr ⟨g, off, lc, rfl, ?_, hR.1, hE⟩
      have hpos : 0 < (if o = 7 then 16 else if o = 10 then fszs sub + 1 else 1) := by
        split
        · omega
        · split <;> omega
      obtain ⟨b, o', he, hrc⟩ := hR.pos (by omega) hpos
      simp only [Option.some.injEq, Addr.mk.injEq] at he
      obtain ⟨rfl, rfl, _⟩ := he
      exact hrc
theorem hasB_all {k nul tag d o v : Int} {sub : List Fld} (h0 : 0 ≤ v) : hasB (.mk k 0 (-1) nul tag d o sub) v = true := by simp [hasB, Fld.frm, Fld.to, h0]
theorem hasB_from {k a nul tag d o v : Int} {sub : List Fld} : hasB (.mk k a (-1) nul tag d o sub) v = decide (v ≥ a) := by
  have e : hasB (.mk k a (-1) nul tag d o sub) v = (decide (a ≤ v) && (decide ((-1 : Int) < 0) || decide (v ≤ -1))) := rfl
  rw [e]
  simp
theorem hasB_to {k a b nul tag d o v : Int} {sub : List Fld} (hb : ¬ b < 0) : hasB (.mk k a b nul tag d o sub) v = decide (v ≥ a ∧ v ≤ b) := by
  have e : hasB (.mk k a b nul tag d o sub) v = (decide (a ≤ v) && (decide (b < 0) || decide (v ≤ b))) := rfl
  rw [e, decide_eq_false hb, Bool.eq_iff_iff]
  simp
section
variable {Lc T Full : List UInt8} {v : Int} {q : Bool} {y : Tre}
end
section
variable {s : Vw} {sub : List Fld} {y : Tre} {cs : List Value}
theorem RE_part (h : REl s 10 sub y cs) : RMp s sub y cs := by simpa [REl] using h
theorem RE_i8 (h : REl s 1 sub y cs) : cs = [.int .i8 (IntKind.i8.wrap y.n)] := by simpa [REl, RS1] using h
theorem RE_i32 (h : REl s 3 sub y cs) : cs = [.int .i32 (IntKind.i32.wrap y.n)] := by simpa [REl, RS1] using h
theorem RE_str (h : REl s 8 sub y cs) : cs = [.string ⟨y.s.toArray⟩] := by simpa [REl, RS1] using h
end
theorem sub.nil {L : Env} : sub [] L := fun t v h => by simp [lk] at h
theorem uuid16 (l : List UInt8) : ∃ a b c d e f g h i j k m n o p q : Value, u8s (uuid l) = [a, b, c, d, e, f, g, h, i, j, k, m, n, o, p, q] := by
  have h1 : (u8s (uuid l)).length = 16 := by rw [u8s_length, uuid_length]
  match u8s (uuid l), h1 with
  | [a, b, c, d, e, f, g, h, i, j, k, m, n, o, p, q], _ => exact ⟨a, b, c, d, e, f, g, h, i, j, k, m, n, o, p, q, rfl⟩
end K
end Go.Proofs.YtekafeogilbjmaaGreatDoor
