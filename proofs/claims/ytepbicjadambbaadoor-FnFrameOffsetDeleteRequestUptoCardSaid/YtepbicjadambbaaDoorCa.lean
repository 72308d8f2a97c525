/-
  Proved: a whole request of OffsetDeleteRequest is, at every version, the frame of the protocol: its length, key, version and number, the client id or none, of flexible ones an octet of no tags, and what it says (law FnFrameOffsetDeleteRequest), where the input is of bulk at most 1048576. The card of the second form.
-/
import Derived.Test.YtepbicjadambbaaDoorEz
import Derived.Test.YtepbicjadambbaaDoorMal
set_option linter.unusedVariables false
set_option linter.unusedSimpArgs false
namespace Go.Proofs.YtepbicjadambbaaDoor.lawOffsetDeleteRequest
open Go.ChangeShapes Go.WideShapes Go.ChangeAt Go.RowKit
open Go.ChangeMaps (open_string shut_string)
open K
theorem kept_of {W W' : World} (hm : K.Mod K.No W W') (may : MemPlace → Prop) : W.keptBut W' may := by
  refine ⟨hm.os, hm.output, fun i hi => ?_⟩
  rw [hm.block i hi id]
  cases W.heap[i]? with
  | none => rfl
  | some o => cases o <;> simp
theorem agg_of {P : Program} {w : World} {r : Reach} {b : Nat} {t : TypeId} {fs : Array Field} {v : Value} (hu : P.underlying t = some (.struct fs)) (h : Value.okWide P w r b t v) : ∃ cs, v = .agg cs := by
  unfold Value.okWide at h
  rw [hu] at h
  obtain ⟨cs, h, _⟩ := h
  exact ⟨cs, h⟩
set_option maxRecDepth 100000 in
theorem contract (H : Type) (enc : TypeId × Value → H) (W : World) (base : Nat) (args : Array Value) (ds gs : List (DataW H)) (before : List MemPlace)
    (hval : ∀ (j : Nat) t v, Tryd.f3.params[j]? = some t → args[j]? = some v → Value.okWide Tryd.prog W .any base t v)
    (hW : DataW.Whole enc Tryd.prog Tryd.f3.params.toList Rows.fnFrameOffsetDeleteRequestSpec.vars false W args.toList ds gs before) (hk : Rows.uptoSmall H (ds ++ gs) = true) :
    Calls Tryd.prog 3 args W fun e W' => ∃ v, e = .returned v ∧ Rows.fnFrameOffsetDeleteRequestSpec.post enc Tryd.prog Tryd.f3 false true false false W args v W' := by
  have hW' := hW
  obtain ⟨p, q, hA0, hV, rfl, hfz, hnd⟩ := hW
  have hA : DataW.TrodAll enc Tryd.prog W 0 (fun _ => true) true Tryd.f3.params.toList args.toList ds p := hA0
  rw [Tryd.params3] at hA hval
  obtain ⟨v0, vs0, d0, ds0, p0, q0, hargs, rfl, rfl, h0, r0⟩ := trodAll_cons hA
  obtain ⟨v1, vs1, d1, ds1, p1, q1, rfl, rfl, rfl, h1, r1⟩ := trodAll_cons r0
  obtain ⟨v2, vs2, d2, ds2, p2, q2, rfl, rfl, rfl, h2, r2⟩ := trodAll_cons r1
  obtain ⟨v3, vs3, d3, ds3, p3, q3, rfl, rfl, rfl, h3, r3⟩ := trodAll_cons r2
  obtain ⟨rfl, rfl, rfl⟩ := trodAll_nil r3
  obtain rfl : args = #[v0, v1, v2, v3] := by cases args; simp_all
  obtain ⟨rfl, rfl⟩ := trodVars_none hV
  obtain ⟨cs, rfl⟩ := agg_of Tryd.underlying28 (hval 3 28 v3 rfl rfl)
  obtain ⟨ci, rfl⟩ := agg_of Tryd.underlying23 (hval 1 23 v1 rfl rfl)
  have h0k := h0
  have h1k := h1
  have h2k := h2
  have h3k := h3
  obtain ⟨n, rfl, rfl, rfl, hwf⟩ := open_int Tryd.underlying5 (hval 0 5 v0 rfl rfl) h0
  obtain ⟨num, rfl, rfl, rfl, hwn⟩ := open_int Tryd.underlying21 (hval 2 21 v2 rfl rfl) h2
  clear hA0
  obtain ⟨fuel, hf⟩ := h3
  obtain ⟨fuel1, hf1⟩ := h1
  have hB : Rows.uptoBulk d1 ≤ 1048576 ∧ Rows.uptoBulk d3 ≤ 1048576 := by
    have h : Rows.uptoBulkAll ([DataW.lit (H := H) (.int .u8 n), d1, DataW.lit (H := H) (.int .i32 num), d3] ++ []) ≤ 1048576 := of_decide_eq_true hk
    simp only [List.append_nil, Rows.uptoBulkAll] at h
    omega
  obtain ⟨x, hx, hw⟩ := dec_tree fuel cs.toList d3 p3 hf
  obtain ⟨has, z, hcz, hzl⟩ : ∃ (has : Bool) (z : ByteArray), ci = #[.bool has, .string z] ∧ z.size ≤ Rows.uptoBulk d1 := by
    obtain ⟨has, z, hcz, hzl⟩ := dec_id hf1
    exact ⟨has, z, Array.toList_inj.1 hcz, hzl⟩
  subst hcz
  have hnum : -2147483648 ≤ num ∧ num ≤ 2147483647 := by
    simp [Lit.wf] at hwn
    have h1 : IntKind.i32.min = -2147483648 := rfl
    have h2 : IntKind.i32.max = 2147483647 := rfl
    rw [h1, h2] at hwn
    omega
  have hn : 0 ≤ n ∧ n < 256 := by
    simp [Lit.wf] at hwf
    have h1 : IntKind.u8.min = 0 := rfl
    have h2 : IntKind.u8.max = 255 := rfl
    rw [h1, h2] at hwf
    omega
  have hC := fn_OffsetDeleteRequest (vw0 W) n.toNat has z num x cs.toList (by omega) (by omega) hnum.1 hnum.2 hx (by omega)
  rw [Int.toNat_of_nonneg hn.1] at hC
  have hC' : Calls Tryd.prog 3 #[.int .u8 n, .agg #[.bool has, .string z], .int .i32 num, .agg cs] W fun e w' => e = .returned (.bool true) ∧ K.Mod No W w' := hC
  refine hC'.mono fun e W' ⟨he, hm⟩ => ⟨_, he, ?_⟩
  have hbelow := hm.below
  subst he
  have hlt1 : ∀ y ∈ p1, y.block < W.heap.size := fun y hy => by simpa using hW'.lt y (by simp [hy])
  have hlt3 : ∀ y ∈ p3, y.block < W.heap.size := fun y hy => by simpa using hW'.lt y (by simp [hy])
  refine ⟨_, _, _, [], [] ++ (p1 ++ ([] ++ (p3 ++ []))), [], hW', trodAll_cons_mk (shut_bool Tryd.underlying4 _) trodAll_mk0, ?_, rfl, kept_of hm _, fun h => by cases h⟩
  exact trodAll_cons_mk (Below.trod laidOut (by kernel_rfl) (of_decide_eq_true (by kernel_rfl)) h0k hbelow (fun y hy => by simp at hy)) (trodAll_cons_mk (Below.trod laidOut (by kernel_rfl) (of_decide_eq_true (by kernel_rfl)) h1k hbelow hlt1) (trodAll_cons_mk (Below.trod laidOut (by kernel_rfl) (of_decide_eq_true (by kernel_rfl)) h2k hbelow (fun y hy => by simp at hy)) (trodAll_cons_mk (Below.trod laidOut (by kernel_rfl) (of_decide_eq_true (by kernel_rfl)) h3k hbelow hlt3) trodAll_mk0)))
theorem reads (os : Os) {H : Type} (enc : TypeId × Value → H) : ∃ places, DataW.whole enc Tryd.prog ((laidWorld os).forCall (fun _ _ => 0) ⟨#[], #[.int .u8 0, .agg #[.bool false, .string .empty], .int .i32 0, .agg #[.int .i64 0, .slice none 0 0, .bool false, .slice none 0 0, .slice none 0 0]], []⟩).memory Tryd.f3.params.toList Rows.fnFrameOffsetDeleteRequestSpec.vars false #[Value.int .u8 0, .agg #[.bool false, .string .empty], .int .i32 0, .agg #[.int .i64 0, .slice none 0 0, .bool false, .slice none 0 0, .slice none 0 0]].toList 8 = some ([.lit (.int .u8 0), .agg [.lit (.bool false), .lit (.string [])], .lit (.int .i32 0), .agg [.lit (.int .i64 0), .nil, .lit (.bool false), .nil, .nil]], [], places) :=
  ⟨[], by kernel_rfl⟩
set_option maxRecDepth 100000 in
theorem lifted (os : Os) (started : os.Started) (H : Type) (enc : TypeId × Value → H) (F : Stop.Interp) :
    ReturnsInHanded {} Tryd.checked os 3 .any ((Rows.OpenSpec.upto Rows.fnFrameOffsetDeleteRequestSpec).preRow enc Tryd.prog Tryd.f3 Rows.fnFrameOffsetDeleteRequestUptoRow.domain false Rows.fnFrameOffsetDeleteRequestUptoRow.laid) (((Rows.OpenSpec.upto Rows.fnFrameOffsetDeleteRequestSpec).at F).post enc Tryd.prog Tryd.f3 false true false false) := by
  obtain ⟨places, hx⟩ := reads os enc
  refine returnsInHanded_of_row (C := Tryd.checked) (s := Rows.OpenSpec.upto Rows.fnFrameOffsetDeleteRequestSpec) own started (by kernel_rfl) Tryd.func3
    (witness_row_at (enc := enc) (C := Tryd.checked) false (laidWorld os) #[.int .u8 0, .agg #[.bool false, .string .empty], .int .i32 0, .agg #[.int .i64 0, .slice none 0 0, .bool false, .slice none 0 0, .slice none 0 0]] rfl (by kernel_rfl) (by kernel_rfl) (by kernel_rfl)
      (OpenSpec.preRow_of_cond 8 hx (by kernel_rfl) (fun k hk => by cases hk; kernel_rfl) (by kernel_rfl) (laid_met os _))) ?_
  intro W base args ds gs before hval hW _ hcond _ _ _ _
  exact contract H enc W base args ds gs before hval hW (hcond _ rfl)

set_option maxHeartbeats 4000000 in
/-- the row's closed facts, each reckoned by itself -/
theorem closed : joinedFacts Tryd.prog 3 Tryd.f3 (Rows.OpenSpec.upto Rows.fnFrameOffsetDeleteRequestSpec).bare Rows.fnFrameOffsetDeleteRequestUptoRow = true := by
  unfold joinedFacts
  refine (and_t (and_t (and_t (and_t (and_t (and_t (and_t (and_t (and_t (and_t (and_t (and_t (and_t (and_t (and_t (and_t (and_t (and_t (and_t (and_t (and_t (and_t (and_t (and_t (and_t (and_t (and_t (and_t (and_t (and_t (and_t ?_ laidOut) pz_maps) ?_) ?_) ?_) ?_) ?_) ?_) ?_) ?_) ?_) ?_) ?_) ?_) ?_) ?_) ?_) ?_) ?_) ?_) ?_) ?_) ?_) pz_heard) pz_enter) (by rw [pz_lift]; rfl)) ?_) ?_) ?_) ?_) ?_)
  all_goals (as_aux_lemma => kernel_rfl)
theorem said : Rows.FnFrameOffsetDeleteRequestUptoSaid :=
  OpenClaim.holds_of_cond 3 Tryd.f3 rfl rfl rfl rfl rfl rfl rfl ⟨rfl, rfl, rfl, rfl, rfl⟩ rfl rfl rfl rfl rfl (by as_aux_lemma => kernel_rfl) Tryd.func3 closed
    (of_decide_eq_true (by as_aux_lemma => kernel_rfl)) (by as_aux_lemma => (unfold Func.isWrapper; first | (rw [if_pos (by decide +kernel)]; kernel_rfl) | (rw [if_neg (by decide +kernel)]; exact ⟨rfl, rfl⟩)))
    (fun os started H enc _ F => by rw [OpenClaim.pre_eq_preRow]; exact lifted os started H enc F)
theorem plain (f : FuncId) (fn : Func) (hf : Tryd.pinned.checked.prog.funcNamed "pub-mailsack/laws.FnFrameOffsetDeleteRequest" = some f) (hfn : Tryd.pinned.checked.prog.funcs[f]? = some fn) :
    false = Tryd.pinned.checked.prog.looks [] ∧ ∀ (j : Nat) t, fn.params[j]? = some t → Tryd.pinned.checked.prog.wantsStandIn t = false := by
  obtain rfl : f = 3 := Option.some.inj ((show Tryd.prog.funcNamed "pub-mailsack/laws.FnFrameOffsetDeleteRequest" = some 3 by kernel_rfl).symm.trans hf) |>.symm
  obtain rfl : fn = Tryd.f3 := (Option.some.inj (Tryd.func3.symm.trans hfn)).symm
  refine ⟨no_looks, fun j t ht => ?_⟩
  rw [Tryd.params3] at ht
  have h := Array.mem_of_getElem? ht
  simp only [List.mem_toArray, List.mem_cons, List.not_mem_nil, or_false] at h
  rcases h with rfl | rfl | rfl | rfl
  · exact wants_u8
  · exact wants_id
  · exact wants_i32
  · exact wants_tree
theorem proved : Rows.FnFrameOffsetDeleteRequestUptoCardSaid :=
  Claim7.holds_tied_plain_at .later [] _ _ _ _ said (fun _ h => by cases h) (by kernel_rfl) (fun _ h => by cases h) fnFrameOffsetDeleteRequestUpto_row_tie rfl ⟨rfl, rfl⟩ (by kernel_rfl) rfl plain (by kernel_rfl)
end Go.Proofs.YtepbicjadambbaaDoor.lawOffsetDeleteRequest
