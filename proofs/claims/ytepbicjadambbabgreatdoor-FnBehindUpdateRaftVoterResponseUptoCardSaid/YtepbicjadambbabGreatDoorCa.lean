/-
  Proved: a UpdateRaftVoterResponse that is read of what the reference wrote is written again behind octets that are there, and they stand: the same octets (law FnBehindUpdateRaftVoterResponse), where the input is of bulk at most 1048576. The card of the second form.
-/
import Derived.Test.YtepbicjadambbabGreatDoorDz
import Derived.Test.YtepbicjadambbabGreatDoorMal
set_option linter.unusedVariables false
set_option linter.unusedSimpArgs false
namespace Go.Proofs.YtepbicjadambbabGreatDoor.lawUpdateRaftVoterResponse
open Go.ChangeShapes Go.WideShapes Go.ChangeAt Go.RowKit
open Go.ChangeMaps (open_string shut_string)
open K
theorem kept_of {W W' : World} (hm : K.Mod K.No W W') (may : MemPlace → Prop) : W.keptBut W' may := by
  refine ⟨hm.os, hm.output, fun i hi => ?_⟩
  rw [hm.block i hi id]
  cases W.heap[i]? with
  | none => rfl
  | some o => cases o <;> simp
theorem agg_of {P : Program} {w : World} {r : Reach} {b : Nat} {t : TypeId} {fs : Array Field} {v : Value} (hu : P.underlying t = some (.struct fs)) (h : Value.okWide P w r b t v) : ∃ cs, v = .agg cs := by
  unfold Value.okWide at h
  rw [hu] at h
  obtain ⟨cs, h, _⟩ := h
  exact ⟨cs, h⟩
set_option maxRecDepth 100000 in
theorem contract (H : Type) (enc : TypeId × Value → H) (W : World) (base : Nat) (args : Array Value) (ds gs : List (DataW H)) (before : List MemPlace)
    (hval : ∀ (j : Nat) t v, Tryz.f3.params[j]? = some t → args[j]? = some v → Value.okWide Tryz.prog W .any base t v)
    (hW : DataW.Whole enc Tryz.prog Tryz.f3.params.toList Rows.fnBehindUpdateRaftVoterResponseSpec.vars false W args.toList ds gs before) (hk : Rows.uptoSmall H (ds ++ gs) = true) :
    Calls Tryz.prog 3 args W fun e W' => ∃ v, e = .returned v ∧ Rows.fnBehindUpdateRaftVoterResponseSpec.post enc Tryz.prog Tryz.f3 false true false false W args v W' := by
  have hW' := hW
  obtain ⟨p, q, hA0, hV, rfl, hfz, hnd⟩ := hW
  have hA : DataW.TrodAll enc Tryz.prog W 0 (fun _ => true) true Tryz.f3.params.toList args.toList ds p := hA0
  rw [Tryz.params3] at hA hval
  obtain ⟨v0, vs0, d0, ds0, p0, q0, hargs, rfl, rfl, h0, r0⟩ := trodAll_cons hA
  obtain ⟨v1, vs1, d1, ds1, p1, q1, rfl, rfl, rfl, h1, r1⟩ := trodAll_cons r0
  obtain ⟨v2, vs2, d2, ds2, p2, q2, rfl, rfl, rfl, h2, r2⟩ := trodAll_cons r1
  obtain ⟨rfl, rfl, rfl⟩ := trodAll_nil r2
  obtain rfl : args = #[v0, v1, v2] := by cases args; simp_all
  obtain ⟨rfl, rfl⟩ := trodVars_none hV
  obtain ⟨cs, rfl⟩ := agg_of Tryz.underlying26 (hval 2 26 v2 rfl rfl)
  have h0k := h0
  have h1k := h1
  have h2k := h2
  obtain ⟨n, rfl, rfl, rfl, hwf⟩ := open_int Tryz.underlying5 (hval 0 5 v0 rfl rfl) h0
  clear hA0
  obtain ⟨fuel, hf⟩ := h2
  obtain ⟨fuel1, hf1⟩ := h1
  have hB : Rows.uptoBulk d1 ≤ 1048576 ∧ Rows.uptoBulk d2 ≤ 1048576 := by
    have h : Rows.uptoBulkAll ([DataW.lit (H := H) (.int .u8 n), d1, d2] ++ []) ≤ 1048576 := of_decide_eq_true hk
    simp only [List.append_nil, Rows.uptoBulkAll] at h
    omega
  obtain ⟨x, hx, hw⟩ := dec_tree fuel cs.toList d2 p2 hf
  have e1 : v1.cells.toList = [v1] := by
    obtain ⟨a1, m1, c1, rfl⟩ := okWide_slice Tryz.underlying22 (hval 1 22 v1 rfl rfl)
    rfl
  rw [e1] at hf1
  obtain ⟨D, hD, hDl⟩ : ∃ D : List UInt8, RSv (vw0 W) v1 D ∧ D.length ≤ Rows.uptoBulk d1 := by
    cases fuel1 with
    | zero => simp [DataW.trod] at hf1
    | succ fuel1 =>
      obtain ⟨l, hl, hls⟩ := dec_bytes Tryz.underlying22 Tryz.underlying5 (by kernel_rfl) hf1
      exact ⟨l, hl, by have h2 := bulk_bytes hls; omega⟩
  have hn : 0 ≤ n ∧ n < 256 := by
    simp [Lit.wf] at hwf
    have h1 : IntKind.u8.min = 0 := rfl
    have h2 : IntKind.u8.max = 255 := rfl
    rw [h1, h2] at hwf
    omega
  have hC := fn_UpdateRaftVoterResponse (vw0 W) n.toNat x cs.toList D v1 (by omega) hD (by omega) hx (by omega)
  rw [Int.toNat_of_nonneg hn.1] at hC
  have hC' : Calls Tryz.prog 3 #[.int .u8 n, v1, .agg cs] W fun e w' => e = .returned (.bool true) ∧ K.Mod No W w' := hC
  refine hC'.mono fun e W' ⟨he, hm⟩ => ⟨_, he, ?_⟩
  have hbelow := hm.below
  subst he
  have hlt1 : ∀ y ∈ p1, y.block < W.heap.size := fun y hy => by simpa using hW'.lt y (by simp [hy])
  have hlt2 : ∀ y ∈ p2, y.block < W.heap.size := fun y hy => by simpa using hW'.lt y (by simp [hy])
  refine ⟨_, _, _, [], [] ++ (p1 ++ (p2 ++ [])), [], hW', trodAll_cons_mk (shut_bool Tryz.underlying4 _) trodAll_mk0, ?_, rfl, kept_of hm _, fun h => by cases h⟩
  exact trodAll_cons_mk (Below.trod laidOut (by kernel_rfl) (of_decide_eq_true (by kernel_rfl)) h0k hbelow (fun y hy => by simp at hy)) (trodAll_cons_mk (Below.trod laidOut (by kernel_rfl) (of_decide_eq_true (by kernel_rfl)) h1k hbelow hlt1) (trodAll_cons_mk (Below.trod laidOut (by kernel_rfl) (of_decide_eq_true (by kernel_rfl)) h2k hbelow hlt2) trodAll_mk0))
theorem reads (os : Os) {H : Type} (enc : TypeId × Value → H) : ∃ places, DataW.whole enc Tryz.prog ((laidWorld os).forCall (fun _ _ => 0) ⟨#[], #[.int .u8 0, .slice none 0 0, .agg #[.int .i64 0, .slice none 0 0, .bool false, .slice none 0 0, .slice none 0 0]], []⟩).memory Tryz.f3.params.toList Rows.fnBehindUpdateRaftVoterResponseSpec.vars false #[Value.int .u8 0, .slice none 0 0, .agg #[.int .i64 0, .slice none 0 0, .bool false, .slice none 0 0, .slice none 0 0]].toList 8 = some ([.lit (.int .u8 0), .nil, .agg [.lit (.int .i64 0), .nil, .lit (.bool false), .nil, .nil]], [], places) :=
  ⟨[], by kernel_rfl⟩
set_option maxRecDepth 100000 in
theorem lifted (os : Os) (started : os.Started) (H : Type) (enc : TypeId × Value → H) (F : Stop.Interp) :
    ReturnsInHanded {} Tryz.checked os 3 .any ((Rows.OpenSpec.upto Rows.fnBehindUpdateRaftVoterResponseSpec).preRow enc Tryz.prog Tryz.f3 Rows.fnBehindUpdateRaftVoterResponseUptoRow.domain false Rows.fnBehindUpdateRaftVoterResponseUptoRow.laid) (((Rows.OpenSpec.upto Rows.fnBehindUpdateRaftVoterResponseSpec).at F).post enc Tryz.prog Tryz.f3 false true false false) := by
  obtain ⟨places, hx⟩ := reads os enc
  refine returnsInHanded_of_row (C := Tryz.checked) (s := Rows.OpenSpec.upto Rows.fnBehindUpdateRaftVoterResponseSpec) own started (by kernel_rfl) Tryz.func3
    (witness_row_at (enc := enc) (C := Tryz.checked) false (laidWorld os) #[.int .u8 0, .slice none 0 0, .agg #[.int .i64 0, .slice none 0 0, .bool false, .slice none 0 0, .slice none 0 0]] rfl (by kernel_rfl) (by kernel_rfl) (by kernel_rfl)
      (OpenSpec.preRow_of_cond 8 hx (by kernel_rfl) (fun k hk => by cases hk; kernel_rfl) (by kernel_rfl) (laid_met os _))) ?_
  intro W base args ds gs before hval hW _ hcond _ _ _ _
  exact contract H enc W base args ds gs before hval hW (hcond _ rfl)

set_option maxHeartbeats 4000000 in
/-- the row's closed facts, each reckoned by itself -/
theorem closed : joinedFacts Tryz.prog 3 Tryz.f3 (Rows.OpenSpec.upto Rows.fnBehindUpdateRaftVoterResponseSpec).bare Rows.fnBehindUpdateRaftVoterResponseUptoRow = true := by
  unfold joinedFacts
  refine (and_t (and_t (and_t (and_t (and_t (and_t (and_t (and_t (and_t (and_t (and_t (and_t (and_t (and_t (and_t (and_t (and_t (and_t (and_t (and_t (and_t (and_t (and_t (and_t (and_t (and_t (and_t (and_t (and_t (and_t (and_t ?_ laidOut) pz_maps) ?_) ?_) ?_) ?_) ?_) ?_) ?_) ?_) ?_) ?_) ?_) ?_) ?_) ?_) ?_) ?_) ?_) ?_) ?_) ?_) ?_) pz_heard) pz_enter) (by rw [pz_lift]; rfl)) ?_) ?_) ?_) ?_) ?_)
  all_goals (as_aux_lemma => kernel_rfl)
theorem said : Rows.FnBehindUpdateRaftVoterResponseUptoSaid :=
  OpenClaim.holds_of_cond 3 Tryz.f3 rfl rfl rfl rfl rfl rfl rfl ⟨rfl, rfl, rfl, rfl, rfl⟩ rfl rfl rfl rfl rfl (by as_aux_lemma => kernel_rfl) Tryz.func3 closed
    (of_decide_eq_true (by as_aux_lemma => kernel_rfl)) (by as_aux_lemma => (unfold Func.isWrapper; first | (rw [if_pos (by decide +kernel)]; kernel_rfl) | (rw [if_neg (by decide +kernel)]; exact ⟨rfl, rfl⟩)))
    (fun os started H enc _ F => by rw [OpenClaim.pre_eq_preRow]; exact lifted os started H enc F)
theorem plain (f : FuncId) (fn : Func) (hf : Tryz.pinned.checked.prog.funcNamed "pub-mailsack/laws.FnBehindUpdateRaftVoterResponse" = some f) (hfn : Tryz.pinned.checked.prog.funcs[f]? = some fn) :
    false = Tryz.pinned.checked.prog.looks [] ∧ ∀ (j : Nat) t, fn.params[j]? = some t → Tryz.pinned.checked.prog.wantsStandIn t = false := by
  obtain rfl : f = 3 := Option.some.inj ((show Tryz.prog.funcNamed "pub-mailsack/laws.FnBehindUpdateRaftVoterResponse" = some 3 by kernel_rfl).symm.trans hf) |>.symm
  obtain rfl : fn = Tryz.f3 := (Option.some.inj (Tryz.func3.symm.trans hfn)).symm
  refine ⟨no_looks, fun j t ht => ?_⟩
  rw [Tryz.params3] at ht
  have h := Array.mem_of_getElem? ht
  simp only [List.mem_toArray, List.mem_cons, List.not_mem_nil, or_false] at h
  rcases h with rfl | rfl | rfl
  · exact wants_u8
  · exact wants_sl8
  · exact wants_tree
theorem proved : Rows.FnBehindUpdateRaftVoterResponseUptoCardSaid :=
  Claim7.holds_tied_plain_at .later [] _ _ _ _ said (fun _ h => by cases h) (by kernel_rfl) (fun _ h => by cases h) fnBehindUpdateRaftVoterResponseUpto_row_tie rfl ⟨rfl, rfl⟩ (by kernel_rfl) rfl plain (by kernel_rfl)
end Go.Proofs.YtepbicjadambbabGreatDoor.lawUpdateRaftVoterResponse
