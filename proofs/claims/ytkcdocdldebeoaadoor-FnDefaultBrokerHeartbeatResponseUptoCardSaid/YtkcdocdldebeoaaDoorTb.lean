import Derived.Test.YtkcdocdldebeoaaDoorW4
import Derived.Test.YtkcdocdldebeoaaDoorS10
set_option linter.unusedVariables false
set_option linter.unusedSimpArgs false
namespace Go.Proofs.YtkcdocdldebeoaaDoor
namespace K
open Go Go.Lib
theorem impl_sorted (t : Vw) (v : Value) (us : Tags) (cs : List Value) (hsrt : us.Pairwise (fun x y => x.1 < y.1)) (hlen : us.length < 4611686018427387904) (hcl : cs.length = us.length * 2) (hU : ∀ i, (hi : i < us.length) → cs[i * 2]? = some (.int .u32 (us[i].1 : Int))) (hok : (Ent.row v 65 2 us.length cs).ok t.w) (hav : ∀ q ∈ (Ent.row v 65 2 us.length cs).blk, t.av q) :
    CT Tryd.prog 46 [v] t (.row v 65 2 us.length cs) fun u r e' => e' = .row v 65 2 us.length cs := by
  refine ct_enter Tryd.func46 rfl Tryd.ntmps46 rfl hok hav (by simp only [Ent.blk]; cases v.ownBlock <;> simp) ?_
  refine cd_sr ?_
  refine ln_pv (pv_move rfl) rfl ?_
  refine ln_pv (pv_len_row (i := 0) rfl Tryd.underlying35 rfl) rfl ?_
  refine ln_pv (pv_move rfl) rfl ?_
  refine ln_cd ?_
  refine cd_block ?_
  refine cd_loop' (S := Nat) ⟨fun i => [(6, .int .i64 (i : Int)), (5, .int .i64 (us.length : Int)), (0, v)], fun _ => [.row v 65 2 us.length cs], fun i _ => i ≤ us.length, fun i => us.length - i⟩ 0 (fun _ _ => Nat.zero_le _) (.put rfl (.put rfl (.put rfl .nil))) (List.Sublist.refl _) ?_
  intro i u hu hi
  dsimp only at hi ⊢
  refine cd_sr ?_
  refine ln_pv (pv_lss rfl rfl) rfl ?_
  refine ln_cd ?_
  refine cd_seq ?_
  refine cd_if rfl (fun hlt => ?_) (fun hge => ?_)
  · have hlt : i < us.length := by omega
    refine cd_skip ?_
    refine at_cd ?_
    refine cd_seq ?_
    refine cd_block ?_
    refine cd_shape (i := 0) rfl (by omega) (fun g cap hsh hcap => ?_)
    subst hsh
    refine cd_sr ?_
    refine ln_pv (pv_move rfl) rfl ?_
    refine ln_pv (pv_assign rfl) rfl ?_
    refine ln_cd ?_
    refine cd_sr ?_
    refine ln_pv (pv_move rfl) rfl ?_
    refine ln_pv (pv_assign rfl) rfl ?_
    refine ln_cd ?_
    refine cd_block ?_
    refine cd_loop' (S := Unit) ⟨fun _ => [(3, .int .i64 (i : Int)), (6, .int .i64 (i : Int)), (5, .int .i64 (us.length : Int)), (0, .slice (some ⟨g, 0, none⟩) us.length cap)], fun _ => [.row (.slice (some ⟨g, 0, none⟩) us.length cap) 65 2 us.length cs], fun _ _ => True, fun _ => 0⟩ () (fun _ _ => trivial) (.put rfl (.put rfl (.put rfl (.put rfl .nil)))) (List.Sublist.refl _) ?_
    intro _ u2 hu2 _
    dsimp only
    have hv1 := hU i hlt
    refine cd_seq ?_
    refine cd_dr' [0] [0, 1, 2, 3, 4, 5, 6, 7, 8, 9, 10, 11, 12, 13, 14, 15] [0, 1, 2, 3, 4, 5, 6, 7, 8, 9, 10, 11, 12, 13, 14, 15] mixed (by kernel_rfl) ?_
    by_cases h0 : 0 < i
    · have hv0 := hU (i - 1) (by omega)
      have hno : ¬ ((us[i].1 : Int) < (us[i - 1].1 : Int)) := by
        have := List.pairwise_iff_getElem.1 hsrt (i - 1) i (by omega) hlt (by omega)
        omega
      refine lo_pv rfl rfl (sk_js (Tr.refl _) [0] rfl) (pv_move rfl) rfl ?_
      refine lo_pv rfl rfl (sk_js (Tr.refl _) [0] rfl) (pv_tt (pv_gtr rfl rfl) (by omega)) rfl ?_
      refine lo_pv rfl rfl (sk_js (Tr.refl _) [0] rfl) (pv_move rfl) rfl ?_
      refine lo_gt rfl rfl (sk_js (Tr.refl _) [0] rfl) rfl rfl rfl (pv_move rfl) rfl ?_
      refine lo_gt rfl rfl (sk_js (Tr.refl _) [0] rfl) rfl rfl rfl (pv_move rfl) rfl ?_
      refine lo_gt rfl rfl (sk_js (Tr.refl _) [0] rfl) rfl rfl rfl (pv_ixN (b := g) (o := 0) (i := i) Tryd.underlying35 tiimpl_Tag.size rfl rfl hlt) rfl ?_
      refine lo_gt rfl rfl (sk_js (Tr.refl _) [0] rfl) rfl rfl rfl (pv_fieldAddr (off := 0) Tryd.underlying65 rfl tiuint32.size rfl rfl rfl) rfl ?_
      refine lo_gt rfl rfl (sk_js (Tr.refl _) [0] rfl) rfl rfl rfl (pv_ldG1 (i := 0) (mk := fun xs => .row (.slice (some ⟨g, 0, none⟩) us.length cap) 65 2 us.length xs) (off := i * 2) (v := .int .u32 (us[i].1 : Int)) (Tgt.row g cap us.length 2 65) rfl hcl Tryd.underlying63 rfl rfl hv1) rfl ?_
      refine lo_gt rfl rfl (sk_js (Tr.refl _) [0] rfl) rfl rfl rfl (pv_move rfl) rfl ?_
      refine lo_gt rfl rfl (sk_js (Tr.refl _) [0] rfl) rfl rfl rfl (pv_move rfl) rfl ?_
      refine lo_gt rfl rfl (sk_js (Tr.refl _) [0] rfl) rfl rfl rfl (pv_sub' rfl rfl (r := ((i - 1 : Nat) : Int)) (by rw [wrap_i64 (by omega) (by omega)]; omega)) rfl ?_
      refine lo_gt rfl rfl (sk_js (Tr.refl _) [0] rfl) rfl rfl rfl (pv_ixN (b := g) (o := 0) (i := (i - 1)) Tryd.underlying35 tiimpl_Tag.size rfl rfl (by omega)) rfl ?_
      refine lo_gt rfl rfl (sk_js (Tr.refl _) [0] rfl) rfl rfl rfl (pv_fieldAddr (off := 0) Tryd.underlying65 rfl tiuint32.size rfl rfl rfl) rfl ?_
      refine lo_gt rfl rfl (sk_js (Tr.refl _) [0] rfl) rfl rfl rfl (pv_ldG1 (i := 0) (mk := fun xs => .row (.slice (some ⟨g, 0, none⟩) us.length cap) 65 2 us.length xs) (off := (i - 1) * 2) (v := .int .u32 (us[(i - 1)].1 : Int)) (Tgt.row g cap us.length 2 65) rfl hcl Tryd.underlying63 rfl rfl hv0) rfl ?_
      refine lo_gt rfl rfl (sk_js (Tr.refl _) [0] rfl) rfl rfl rfl (pv_ff (pv_lss rfl rfl) hno) rfl ?_
      refine lo_pv rfl rfl (sk_js (Tr.refl _) [0] rfl) (pv_pick (v := .bool false) rfl (fun _ => rfl) (fun h => by cases h)) rfl ?_
      refine lo_cd ?_
      refine cd_ff rfl ?_
      refine cd_exit rfl ?_
      refine at_cd ?_
      refine cd_region ?_
      refine ln_pv (pv_add' rfl rfl (r := ((i + 1 : Nat) : Int)) (by rw [wrap_i64 (by omega) (by omega)]; omega)) rfl ?_
      refine ln_pv (pv_move rfl) rfl ?_
      refine ln_nil ?_
      exact at_rnd' (i + 1) (hu.trans hu2) (fun _ _ => by dsimp only; omega) (by dsimp only; omega) (.put rfl (.put rfl (.put rfl .nil))) (List.Sublist.refl _)
    · skip
      refine lo_pv rfl rfl (sk_js (Tr.refl _) [0] rfl) (pv_move rfl) rfl ?_
      refine lo_pv rfl rfl (sk_js (Tr.refl _) [0] rfl) (pv_ff (pv_gtr rfl rfl) (by omega)) rfl ?_
      refine lo_pv rfl rfl (sk_js (Tr.refl _) [0] rfl) (pv_move rfl) rfl ?_
      refine lo_gf rfl rfl (sk_js (Tr.refl _) [0] rfl) rfl rfl rfl rfl rfl ?_
      refine lo_gf rfl rfl (sk_js (Tr.refl _) [0] rfl) rfl rfl rfl rfl rfl ?_
      refine lo_gf rfl rfl (sk_js (Tr.refl _) [0] rfl) rfl rfl rfl rfl rfl ?_
      refine lo_gf rfl rfl (sk_js (Tr.refl _) [0] rfl) rfl rfl rfl rfl rfl ?_
      refine lo_gf rfl rfl (sk_js (Tr.refl _) [0] rfl) rfl rfl rfl rfl rfl ?_
      refine lo_gf rfl rfl (sk_js (Tr.refl _) [0] rfl) rfl rfl rfl rfl rfl ?_
      refine lo_gf rfl rfl (sk_js (Tr.refl _) [0] rfl) rfl rfl rfl rfl rfl ?_
      refine lo_gf rfl rfl (sk_js (Tr.refl _) [0] rfl) rfl rfl rfl rfl rfl ?_
      refine lo_gf rfl rfl (sk_js (Tr.refl _) [0] rfl) rfl rfl rfl rfl rfl ?_
      refine lo_gf rfl rfl (sk_js (Tr.refl _) [0] rfl) rfl rfl rfl rfl rfl ?_
      refine lo_gf rfl rfl (sk_js (Tr.refl _) [0] rfl) rfl rfl rfl rfl rfl ?_
      refine lo_gf rfl rfl (sk_js (Tr.refl _) [0] rfl) rfl rfl rfl rfl rfl ?_
      refine lo_pv rfl rfl (sk_js (Tr.refl _) [0] rfl) (pv_pick (u := .bool false) rfl (fun h => by cases h) (fun _ => rfl)) rfl ?_
      refine lo_cd ?_
      refine cd_ff rfl ?_
      refine cd_exit rfl ?_
      refine at_cd ?_
      refine cd_region ?_
      refine ln_pv (pv_add' rfl rfl (r := ((i + 1 : Nat) : Int)) (by rw [wrap_i64 (by omega) (by omega)]; omega)) rfl ?_
      refine ln_pv (pv_move rfl) rfl ?_
      refine ln_nil ?_
      exact at_rnd' (i + 1) (hu.trans hu2) (fun _ _ => by dsimp only; omega) (by dsimp only; omega) (.put rfl (.put rfl (.put rfl .nil))) (List.Sublist.refl _)
  · refine cd_exit rfl ?_
    exact at_retT0 (i := 0) rfl rfl (fun w hS => rfl)
end K
end Go.Proofs.YtkcdocdldebeoaaDoor
