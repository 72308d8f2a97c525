/-
  Proved: of a HeartbeatRequest whose fields are set to anything, the octets that the program writes are, at every version, those of the reference (law FnMakeHeartbeatRequest), where the input is of bulk at most 1048576.
-/
import Derived.Test.YtoledocfkjohhaaD3
import Derived.WalkKit
import Derived.ProofKit
import Derived.OpenShut
import Derived.JoinedCond
import Derived.Carry
set_option linter.unusedVariables false
namespace Go.Proofs.Ytoledocfkjohhaa.heartbeat
open Go.ChangeShapes Go.WideShapes Go.ChangeAt Go.RowKit
open Go.ChangeMaps (open_string shut_string)
open K
theorem own : ownKnob Try.prog.godebug = none := by kernel_rfl
theorem laidOut : laidOutB Try.prog = true := by kernel_rfl
theorem kept_of {W W' : World} (hm : K.Mod K.No W W') (may : MemPlace → Prop) : W.keptBut W' may := by
  refine ⟨hm.os, hm.output, fun i hi => ?_⟩
  rw [hm.block i hi id]
  cases W.heap[i]? with
  | none => rfl
  | some o => cases o <;> simp
theorem agg_of {P : Program} {w : World} {r : Reach} {b : Nat} {t : TypeId} {fs : Array Field} {v : Value} (hu : P.underlying t = some (.struct fs)) (h : Value.okWide P w r b t v) : ∃ cs, v = .agg cs := by
  unfold Value.okWide at h
  rw [hu] at h
  obtain ⟨cs, h, _⟩ := h
  exact ⟨cs, h⟩
set_option maxRecDepth 100000 in
theorem contract (H : Type) (enc : TypeId × Value → H) (W : World) (base : Nat) (args : Array Value) (ds gs : List (DataW H)) (before : List MemPlace)
    (hval : ∀ (j : Nat) t v, Try.f7.params[j]? = some t → args[j]? = some v → Value.okWide Try.prog W .any base t v)
    (hW : DataW.Whole enc Try.prog Try.f7.params.toList Rows.fnMakeHeartbeatRequestSpec.vars false W args.toList ds gs before) (hk : Rows.uptoSmall H (ds ++ gs) = true) :
    Calls Try.prog 7 args W fun e W' => ∃ v, e = .returned v ∧ Rows.fnMakeHeartbeatRequestSpec.post enc Try.prog Try.f7 false true false false W args v W' := by
  have hW' := hW
  obtain ⟨p, q, hA0, hV, rfl, hfz, hnd⟩ := hW
  have hA : DataW.TrodAll enc Try.prog W 0 (fun _ => true) true Try.f7.params.toList args.toList ds p := hA0
  rw [Try.params7] at hA hval
  obtain ⟨v0, vs0, d0, ds0, p0, q0, hargs, rfl, rfl, h0, r0⟩ := trodAll_cons hA
  obtain ⟨v1, vs1, d1, ds1, p1, q1, rfl, rfl, rfl, h1, r1⟩ := trodAll_cons r0
  obtain ⟨rfl, rfl, rfl⟩ := trodAll_nil r1
  obtain rfl : args = #[v0, v1] := by cases args; simp_all
  obtain ⟨rfl, rfl⟩ := trodVars_none hV
  obtain ⟨cs, rfl⟩ := agg_of Try.underlying26 (hval 1 26 v1 rfl rfl)
  have h0k := h0
  have h1k := h1
  obtain ⟨n, rfl, rfl, rfl, hwf⟩ := open_int Try.underlying5 (hval 0 5 v0 rfl rfl) h0
  clear hA0
  obtain ⟨fuel, hf⟩ := h1
  have hB : Rows.uptoBulk d1 ≤ 1048576 := by
    have h : Rows.uptoBulkAll ([DataW.lit (H := H) (.int .u8 n), d1] ++ []) ≤ 1048576 := of_decide_eq_true hk
    simp only [List.append_nil, Rows.uptoBulkAll] at h
    omega
  obtain ⟨x, hx, hsm⟩ := dec_tree fuel cs.toList d1 p1 hf hB
  have hn : 0 ≤ n ∧ n < 256 := by
    simp [Lit.wf] at hwf
    have h1 : IntKind.u8.min = 0 := rfl
    have h2 : IntKind.u8.max = 255 := rfl
    rw [h1, h2] at hwf
    omega
  have hC := fn_HeartbeatRequest (vw0 W) n.toNat x cs.toList (by omega) hx hsm
  rw [Int.toNat_of_nonneg hn.1] at hC
  have hC' : Calls Try.prog 7 #[.int .u8 n, .agg cs] W fun e w' => e = .returned (.bool true) ∧ K.Mod No W w' := hC
  refine hC'.mono fun e W' ⟨he, hm⟩ => ⟨_, he, ?_⟩
  have hbelow := hm.below
  subst he
  have hlt : ∀ y ∈ p1, y.block < W.heap.size := fun y hy => by simpa using hW'.lt y (by simpa using hy)
  refine ⟨_, _, _, [], [] ++ (p1 ++ []), [], hW', trodAll_cons_mk (shut_bool Try.underlying4 _) trodAll_mk0, ?_, rfl, kept_of hm _, fun h => by cases h⟩
  exact trodAll_cons_mk (Below.trod laidOut (by kernel_rfl) (of_decide_eq_true (by kernel_rfl)) h0k hbelow (fun y hy => by simp at hy)) (trodAll_cons_mk (Below.trod laidOut (by kernel_rfl) (of_decide_eq_true (by kernel_rfl)) h1k hbelow hlt) trodAll_mk0)
set_option maxRecDepth 100000 in
theorem lifted (os : Os) (started : os.Started) (H : Type) (enc : TypeId × Value → H) (F : Stop.Interp) :
    ReturnsInHanded {} Try.checked os 7 .any ((Rows.OpenSpec.upto Rows.fnMakeHeartbeatRequestSpec).pre6 enc Try.prog Try.f7 Rows.fnMakeHeartbeatRequestUptoRow.domain false) (((Rows.OpenSpec.upto Rows.fnMakeHeartbeatRequestSpec).at F).post enc Try.prog Try.f7 false true false false) := by
  refine returnsInHanded_of_cond (C := Try.checked) (s := Rows.OpenSpec.upto Rows.fnMakeHeartbeatRequestSpec) (k := Rows.uptoSmall) rfl own started (by kernel_rfl) Try.func7
    (OpenSpec.witness (enc := enc) (C := Try.checked) (s := Rows.OpenSpec.upto Rows.fnMakeHeartbeatRequestSpec) (k := Rows.uptoSmall) rfl false ⟨#[], #[.int .u8 0, .agg #[.int .i64 0, .slice none 0 0, .bool false, .slice none 0 0, .slice none 0 0]], []⟩ 8 (by kernel_rfl) (by kernel_rfl) (by kernel_rfl)
      (x := ([.lit (.int .u8 0), .agg [.lit (.int .i64 0), .nil, .lit (.bool false), .nil, .nil]], [], [])) (by kernel_rfl) rfl (by kernel_rfl)) ?_
  intro W base args ds gs before hval hW _ hk _
  exact contract H enc W base args ds gs before hval hW hk

theorem proved : Rows.FnMakeHeartbeatRequestUptoSaid :=
  OpenClaim.holds_of_cond 7 Try.f7 rfl rfl rfl rfl rfl rfl rfl ⟨rfl, rfl, rfl, rfl, rfl⟩ rfl rfl rfl rfl rfl (by kernel_rfl) Try.func7 (by kernel_rfl)
    (of_decide_eq_true (by kernel_rfl)) (by unfold Func.isWrapper; first | (rw [if_pos (by decide +kernel)]; kernel_rfl) | (rw [if_neg (by decide +kernel)]; exact ⟨rfl, rfl⟩))
    (fun os started H enc _ F => lifted os started H enc F)
#print axioms proved
end Go.Proofs.Ytoledocfkjohhaa.heartbeat
