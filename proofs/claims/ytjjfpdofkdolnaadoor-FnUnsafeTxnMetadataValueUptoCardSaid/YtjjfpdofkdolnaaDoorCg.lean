/-
  Proved: both ways of reading (ReadFrom, UnsafeReadFrom) tell the same of any octets as a TxnMetadataValue (law FnUnsafeTxnMetadataValue), where the input is of bulk at most 1048576. The card of the second form.
-/
import Derived.Test.YtjjfpdofkdolnaaDoorDu
import Derived.Test.YtjjfpdofkdolnaaDoorMgl
set_option linter.unusedVariables false
set_option linter.unusedSimpArgs false
namespace Go.Proofs.YtjjfpdofkdolnaaDoor.lawTxnMetadataValue
open Go.ChangeShapes Go.WideShapes Go.ChangeAt Go.RowKit
open Go.ChangeMaps (open_string shut_string)
open K
theorem kept_of {W W' : World} (hm : K.Mod K.No W W') (may : MemPlace → Prop) : W.keptBut W' may := by
  refine ⟨hm.os, hm.output, fun i hi => ?_⟩
  rw [hm.block i hi id]
  cases W.heap[i]? with
  | none => rfl
  | some o => cases o <;> simp
theorem agg_of {P : Program} {w : World} {r : Reach} {b : Nat} {t : TypeId} {fs : Array Field} {v : Value} (hu : P.underlying t = some (.struct fs)) (h : Value.okWide P w r b t v) : ∃ cs, v = .agg cs := by
  unfold Value.okWide at h
  rw [hu] at h
  obtain ⟨cs, h, _⟩ := h
  exact ⟨cs, h⟩
set_option maxRecDepth 100000 in
theorem contract (H : Type) (enc : TypeId × Value → H) (W : World) (base : Nat) (args : Array Value) (ds gs : List (DataW H)) (before : List MemPlace)
    (hval : ∀ (j : Nat) t v, Tryd.f9.params[j]? = some t → args[j]? = some v → Value.okWide Tryd.prog W .any base t v)
    (hW : DataW.Whole enc Tryd.prog Tryd.f9.params.toList Rows.fnUnsafeTxnMetadataValueSpec.vars false W args.toList ds gs before) (hk : Rows.uptoSmall H (ds ++ gs) = true) (hL : laidMetH Tryd.prog Rows.fnUnsafeTxnMetadataValueUptoRow.laid W) :
    Calls Tryd.prog 9 args W fun e W' => ∃ v, e = .returned v ∧ Rows.fnUnsafeTxnMetadataValueSpec.post enc Tryd.prog Tryd.f9 false true false false W args v W' := by
  have hW' := hW
  obtain ⟨p, q, hA0, hV, rfl, hfz, hnd⟩ := hW
  have hA : DataW.TrodAll enc Tryd.prog W 0 (fun _ => true) true Tryd.f9.params.toList args.toList ds p := hA0
  rw [Tryd.params9] at hA hval
  obtain ⟨v1, vs1, d1, ds1, p1, q1, hargs, rfl, rfl, h1, r1⟩ := trodAll_cons hA
  obtain ⟨rfl, rfl, rfl⟩ := trodAll_nil r1
  obtain rfl : args = #[v1] := by cases args; simp_all
  obtain ⟨rfl, rfl⟩ := trodVars_none hV
  have h1k := h1
  clear hA0
  obtain ⟨fuel1, hf1⟩ := h1
  have hB : Rows.uptoBulk d1 ≤ 1048576 := by
    have h : Rows.uptoBulkAll ([d1] ++ []) ≤ 1048576 := of_decide_eq_true hk
    simp only [List.append_nil, Rows.uptoBulkAll] at h
    omega
  have e1 : v1.cells.toList = [v1] := by
    obtain ⟨a1, m1, c1, rfl⟩ := okWide_slice Tryd.underlying22 (hval 0 22 v1 rfl rfl)
    rfl
  rw [e1] at hf1
  obtain ⟨D, hD, hDl⟩ : ∃ D : List UInt8, RSv (vw0 W) v1 D ∧ D.length ≤ Rows.uptoBulk d1 := by
    cases fuel1 with
    | zero => simp [DataW.trod] at hf1
    | succ fuel1 =>
      obtain ⟨l, hl, hls⟩ := dec_bytes Tryd.underlying22 Tryd.underlying5 (by kernel_rfl) hf1
      exact ⟨l, hl, by have h2 := bulk_bytes hls; omega⟩
  have hC := fn_TxnMetadataValue (vw0 W) D v1 hD (by omega) (err_laid hL)
  have hC' : Calls Tryd.prog 9 #[v1] W fun e w' => e = .returned (.bool true) ∧ K.Mod No W w' := hC
  refine hC'.mono fun e W' ⟨he, hm⟩ => ⟨_, he, ?_⟩
  have hbelow := hm.below
  subst he
  have hlt1 : ∀ y ∈ p1, y.block < W.heap.size := fun y hy => by simpa using hW'.lt y (by simp [hy])
  refine ⟨_, _, _, [], p1 ++ [], [], hW', trodAll_cons_mk (shut_bool Tryd.underlying4 _) trodAll_mk0, ?_, rfl, kept_of hm _, fun h => by cases h⟩
  exact trodAll_cons_mk (Below.trod laidOut (by kernel_rfl) (of_decide_eq_true (by kernel_rfl)) h1k hbelow hlt1) trodAll_mk0
theorem reads (os : Os) {H : Type} (enc : TypeId × Value → H) : ∃ places, DataW.whole enc Tryd.prog ((laidWorld os).forCall (fun _ _ => 0) ⟨#[], #[.slice none 0 0], []⟩).memory Tryd.f9.params.toList Rows.fnUnsafeTxnMetadataValueSpec.vars false #[Value.slice none 0 0].toList 8 = some ([.nil], [], places) :=
  ⟨[], by kernel_rfl⟩
set_option maxRecDepth 100000 in
theorem lifted (os : Os) (started : os.Started) (H : Type) (enc : TypeId × Value → H) (F : Stop.Interp) :
    ReturnsInHanded {} Tryd.checked os 9 .any ((Rows.OpenSpec.upto Rows.fnUnsafeTxnMetadataValueSpec).preRow enc Tryd.prog Tryd.f9 Rows.fnUnsafeTxnMetadataValueUptoRow.domain false Rows.fnUnsafeTxnMetadataValueUptoRow.laid) (((Rows.OpenSpec.upto Rows.fnUnsafeTxnMetadataValueSpec).at F).post enc Tryd.prog Tryd.f9 false true false false) := by
  obtain ⟨places, hx⟩ := reads os enc
  refine returnsInHanded_of_row (C := Tryd.checked) (s := Rows.OpenSpec.upto Rows.fnUnsafeTxnMetadataValueSpec) own started (by kernel_rfl) Tryd.func9
    (witness_row_at (enc := enc) (C := Tryd.checked) false (laidWorld os) #[.slice none 0 0] rfl (by kernel_rfl) (by kernel_rfl) (by kernel_rfl)
      (OpenSpec.preRow_of_cond 8 hx (by kernel_rfl) (fun k hk => by cases hk; kernel_rfl) (by kernel_rfl) (laid_met os _))) ?_
  intro W base args ds gs before hval hW _ hcond _ hL _ _
  exact contract H enc W base args ds gs before hval hW (hcond _ rfl) hL

set_option maxHeartbeats 4000000 in
/-- the row's closed facts, each reckoned by itself -/
theorem closed : joinedFacts Tryd.prog 9 Tryd.f9 (Rows.OpenSpec.upto Rows.fnUnsafeTxnMetadataValueSpec).bare Rows.fnUnsafeTxnMetadataValueUptoRow = true := by
  unfold joinedFacts
  refine (and_t (and_t (and_t (and_t (and_t (and_t (and_t (and_t (and_t (and_t (and_t (and_t (and_t (and_t (and_t (and_t (and_t (and_t (and_t (and_t (and_t (and_t (and_t (and_t (and_t (and_t (and_t (and_t (and_t (and_t (and_t ?_ laidOut) pz_maps) ?_) ?_) ?_) ?_) ?_) ?_) ?_) ?_) ?_) ?_) ?_) ?_) ?_) ?_) ?_) ?_) ?_) ?_) ?_) ?_) ?_) pz_heard) pz_enter) (by rw [pz_lift]; rfl)) ?_) ?_) ?_) ?_) ?_)
  all_goals (as_aux_lemma => kernel_rfl)
theorem said : Rows.FnUnsafeTxnMetadataValueUptoSaid :=
  OpenClaim.holds_of_cond 9 Tryd.f9 rfl rfl rfl rfl rfl rfl rfl ⟨rfl, rfl, rfl, rfl, rfl⟩ rfl rfl rfl rfl rfl (by as_aux_lemma => kernel_rfl) Tryd.func9 closed
    (of_decide_eq_true (by as_aux_lemma => kernel_rfl)) (by as_aux_lemma => (unfold Func.isWrapper; first | (rw [if_pos (by decide +kernel)]; kernel_rfl) | (rw [if_neg (by decide +kernel)]; exact ⟨rfl, rfl⟩)))
    (fun os started H enc _ F => by rw [OpenClaim.pre_eq_preRow]; exact lifted os started H enc F)
theorem plain (f : FuncId) (fn : Func) (hf : Tryd.pinned.checked.prog.funcNamed "pub-mailsack/laws.FnUnsafeTxnMetadataValue" = some f) (hfn : Tryd.pinned.checked.prog.funcs[f]? = some fn) :
    false = Tryd.pinned.checked.prog.looks [] ∧ ∀ (j : Nat) t, fn.params[j]? = some t → Tryd.pinned.checked.prog.wantsStandIn t = false := by
  obtain rfl : f = 9 := Option.some.inj ((show Tryd.prog.funcNamed "pub-mailsack/laws.FnUnsafeTxnMetadataValue" = some 9 by kernel_rfl).symm.trans hf) |>.symm
  obtain rfl : fn = Tryd.f9 := (Option.some.inj (Tryd.func9.symm.trans hfn)).symm
  refine ⟨no_looks, fun j t ht => ?_⟩
  rw [Tryd.params9] at ht
  have h := Array.mem_of_getElem? ht
  simp only [List.mem_toArray, List.mem_cons, List.not_mem_nil, or_false] at h
  subst h
  exact wants_sl8
theorem proved : Rows.FnUnsafeTxnMetadataValueUptoCardSaid :=
  Claim7.holds_tied_plain_at .later [] _ _ _ _ said (fun _ h => by cases h) (by as_aux_lemma => kernel_rfl) (fun _ h => by cases h) fnUnsafeTxnMetadataValueUpto_row_tie rfl ⟨rfl, rfl⟩ (by as_aux_lemma => kernel_rfl) rfl plain (by as_aux_lemma => kernel_rfl)
end Go.Proofs.YtjjfpdofkdolnaaDoor.lawTxnMetadataValue
