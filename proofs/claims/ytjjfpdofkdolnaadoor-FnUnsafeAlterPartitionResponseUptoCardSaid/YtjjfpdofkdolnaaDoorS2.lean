import Derived.Test.YtjjfpdofkdolnaaDoorS1
set_option linter.unusedVariables false
set_option linter.unusedSimpArgs false
namespace Go.Proofs.YtjjfpdofkdolnaaDoor
namespace K
open Go Go.Lib
theorem u8s_at {l : List UInt8} {i : Nat} (h : i < l.length) : (u8s l)[i * 1]? = some (u8v l[i]) := by simp [u8s, h]
theorem spec_Same (t : Vw) (va vb : Value) (a b : List UInt8) (ha : RSv t va a) (hb : RSv t vb b) (hm : a.length < 4611686018427387904) : CS Tryd.prog 41 [va, vb] t (.bool (decide (a = b))) := by
  obtain ⟨ad, c, rfl, hle⟩ := ha.shape
  obtain ⟨ad2, c2, rfl, hle2⟩ := hb.shape
  refine CA.cs ?_
  refine ca_enter Tryd.func41 rfl Tryd.ntmps41 rfl ?_
  refine cd_sr ?_
  refine ln_pv (pv_assign rfl) rfl ?_
  refine ln_cd ?_
  refine cd_seq ?_
  refine cd_sr ?_
  refine ln_pv (pv_move rfl) rfl ?_
  refine ln_pv (pv_len_slice Tryd.underlying22 rfl) rfl ?_
  refine ln_pv (pv_move rfl) rfl ?_
  refine ln_pv (pv_len_slice Tryd.underlying22 rfl) rfl ?_
  refine ln_pv (pv_neq rfl rfl) rfl ?_
  refine ln_cd ?_
  refine cd_if rfl (fun hc1 => ?_) (fun hc1 => ?_)
  · -- yes
    refine cd_sr ?_
    refine ln_pv (pv_assign rfl) rfl ?_
    refine ln_cd ?_
    refine cd_ret ?_
    refine at_retA rfl rfl (fun w hS => ?_)
    have h : ¬ a = b := by rintro rfl; exact hc1 rfl
    simp [h]
  · -- no
    refine cd_skip ?_
    refine at_cd ?_
    refine cd_seq ?_
    refine cd_sr ?_
    refine ln_pv (pv_move rfl) rfl ?_
    refine ln_pv (pv_len_slice Tryd.underlying22 rfl) rfl ?_
    refine ln_pv (pv_move rfl) rfl ?_
    refine ln_cd ?_
    refine cd_block ?_
    refine cd_loop (⟨fun (z : Nat) => [(0, .slice ad a.length c), (1, .slice ad2 b.length c2), (12, .int .i64 (a.length : Int)), (13, .int .i64 ((z : Nat) : Int))], fun (z : Nat) => [], fun (z : Nat) s => z ≤ a.length ∧ a.take z = b.take z, fun (z : Nat) => a.length - z⟩ : Lp (Nat)) 0 ?_ ?_ ?_ ?_
    · intro s0 hs0
      exact ⟨Nat.zero_le _, rfl⟩
    · exact ⟨rfl, rfl, rfl, rfl,  trivial⟩
    · exact .slnil
    intro i s1 hl1 hI
    dsimp only at hI ⊢
    have ha := ha.mv hl1
    have hb := hb.mv hl1
    obtain ⟨hI, hall⟩ := hI
    refine cd_sr ?_
    refine ln_pv (pv_lss rfl rfl) rfl ?_
    refine ln_cd ?_
    refine cd_seq ?_
    refine cd_if rfl (fun hc2 => ?_) (fun hc2 => ?_)
    · -- yes
      refine cd_skip ?_
      refine at_cd ?_
      refine cd_seq ?_
      refine cd_block ?_
      have hi : i < a.length := by omega
      have hi2 : i < b.length := by omega
      obtain ⟨b0, o0, rfl, hra⟩ := RS.pos ha (by omega) (by decide)
      obtain ⟨b1, o1, rfl, hrb⟩ := RS.pos hb (by omega) (by decide)
      refine cd_sr ?_
      refine ln_pv (pv_move rfl) rfl ?_
      refine ln_pv (pv_assign rfl) rfl ?_
      refine ln_cd ?_
      refine cd_dr' [] [0, 1, 2, 3, 4, 5, 6, 7, 8] [0, 1, 2, 3, 4, 5, 6, 7, 8] mixed (by kernel_rfl) ?_
      refine lo_pv rfl rfl (sk_js (Tr.refl _) [] rfl) (pv_move rfl) rfl ?_
      refine lo_pv rfl rfl (sk_js (Tr.refl _) [] rfl) (pv_move rfl) rfl ?_
      refine lo_pv rfl rfl (sk_js (Tr.refl _) [] rfl) (pv_ixN Tryd.underlying22 tiuint8.size rfl rfl hi) rfl ?_
      refine lo_pv rfl rfl (sk_js (Tr.refl _) [] rfl) (pv_ldr (j := i * 1) hra Tryd.underlying5 rfl rfl (u8s_at hi)) rfl ?_
      refine lo_pv rfl rfl (sk_js (Tr.refl _) [] rfl) (pv_move rfl) rfl ?_
      refine lo_pv rfl rfl (sk_js (Tr.refl _) [] rfl) (pv_move rfl) rfl ?_
      refine lo_pv rfl rfl (sk_js (Tr.refl _) [] rfl) (pv_ixN Tryd.underlying22 tiuint8.size rfl rfl hi2) rfl ?_
      refine lo_pv rfl rfl (sk_js (Tr.refl _) [] rfl) (pv_ldr (j := i * 1) hrb Tryd.underlying5 rfl rfl (u8s_at hi2)) rfl ?_
      refine lo_pv rfl rfl (sk_js (Tr.refl _) [] rfl) (pv_neq rfl rfl) rfl ?_
      refine lo_cd ?_
      refine cd_if rfl (fun hc3 => ?_) (fun hc3 => ?_)
      · -- yes
        refine cd_sr ?_
        refine ln_pv (pv_assign rfl) rfl ?_
        refine ln_cd ?_
        refine cd_ret ?_
        refine at_retA rfl rfl (fun w hS => ?_)
        have h : ¬ a = b := by rintro rfl; exact hc3 rfl
        simp [h]
      · -- no
        refine cd_skip ?_
        refine at_cd ?_
        refine cd_region ?_
        refine ln_pv (pv_add' rfl rfl (wrap_succ (by omega))) rfl ?_
        refine ln_pv (pv_move rfl) rfl ?_
        refine ln_nil ?_
        refine at_rnd (i + 1) hl1 ?_ ?_ ⟨rfl, rfl, rfl, rfl,  trivial⟩ .slnil
        · intro s9 hs9
          refine ⟨by omega, ?_⟩
          have e : a[i] = b[i] := UInt8.toNat_inj.1 (by omega)
          rw [take_snoc' hi, take_snoc' hi2, hall, e]
        · dsimp only; omega
    · -- no
      refine cd_exit rfl ?_
      refine at_cd ?_
      refine cd_sr ?_
      refine ln_pv (pv_assign rfl) rfl ?_
      refine ln_cd ?_
      refine cd_ret ?_
      refine at_retA rfl rfl (fun w hS => ?_)
      have e : i = a.length := by omega
      subst e
      have hl : a.length = b.length := by omega
      rw [List.take_length, hl, List.take_length] at hall
      simp [hall]
end K
end Go.Proofs.YtjjfpdofkdolnaaDoor
