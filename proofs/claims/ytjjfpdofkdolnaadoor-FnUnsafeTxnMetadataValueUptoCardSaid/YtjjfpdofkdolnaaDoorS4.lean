import Derived.Test.YtjjfpdofkdolnaaDoorSp
set_option linter.unusedVariables false
set_option linter.unusedSimpArgs false
namespace Go.Proofs.YtjjfpdofkdolnaaDoor
namespace K
open Go Go.Lib
def UsualC (f : Fld) : Prop := ∀ (t : Vw) (fc cs : List Value) (x : Tre), RF t f fc → RT t x cs → smT x → CS Tryd.prog 153 [.agg fc.toArray, .agg cs.toArray] t (.bool (usualB f x))
theorem s_at {l : List UInt8} {i : Nat} (h : i < l.length) : (u8s l)[i * 1]? = some (u8v l[i]) := u8s_at h
theorem all16_snoc {l : List UInt8} {i : Nat} (h : i < l.length) : ((l.take (i + 1)).take 16).all (fun b => decide (b = 0)) = (((l.take i).take 16).all (fun b => decide (b = 0)) && (decide (16 ≤ i) || decide (l[i] = 0))) := by
  rw [take_snoc' h]
  by_cases h16 : 16 ≤ i
  · rw [List.take_append_of_le_length (by simp; omega)]
    simp [h16]
  · rw [List.take_of_length_le (l := l.take i ++ [l[i]]) (by simp; omega), List.take_of_length_le (l := l.take i) (by simp; omega), List.all_append]
    simp [h16]
theorem all16_bad {l : List UInt8} {i : Nat} (h : i < l.length) (h16 : i < 16) (hb : ¬ l[i] = 0) : (l.take 16).all (fun b => decide (b = 0)) = false := by
  rw [Bool.eq_false_iff]
  intro ha
  have := List.all_eq_true.1 ha l[i] (by rw [List.mem_take_iff_getElem]; exact ⟨i, by omega, rfl⟩)
  exact hb (by simpa using this)
theorem widthN_le (k : Int) : widthN k ≤ 8 := by unfold widthN; split <;> (try split) <;> (try split) <;> omega
theorem spec_usual1 (f : Fld) (hok : okF f = true) (ih : ∀ g ∈ f.sub, UsualC g) : UsualC f := by
  intro t fc cs x hf hx hsm
  obtain ⟨sv, rfl, lf, hVf, hFf⟩ := hf.open
  obtain ⟨adf, cf, rfl, hlef⟩ := hVf.shape
  obtain ⟨sS, sL, sU, rfl, hn, hS, ⟨lc, hL, hLs⟩, hU⟩ := hx.open
  obtain ⟨adS, cS, rfl, hleS⟩ := hS.shape
  obtain ⟨adL, cL, rfl, hleL⟩ := hL.shape
  have hU0 := hU
  obtain ⟨uc, hU1, hUs⟩ := hU0
  obtain ⟨hz1, hz2, hz3, hz4⟩ := hsm.open
  have hT := okFs.tags (okF.sub hok)
  have hlen := okF.len hok
  refine CA.cs ?_
  refine ca_enter Tryd.func153 rfl Tryd.ntmps153 rfl ?_
  by_cases h0 : f.kind = 0
  · skip
    refine cd_sr ?_
    refine ln_box rfl rfl rfl (fun b1 => ?_)
    refine ln_box rfl rfl rfl (fun b2 => ?_)
    refine ln_pv (pv_assign rfl) rfl ?_
    refine ln_cd ?_
    refine cd_seq ?_
    refine cd_sr ?_
    refine ln_pv (pv_fieldAddr (off := 0) (r := 0) Tryd.underlying87 rfl (tiint).size rfl rfl rfl) rfl ?_
    refine ln_pv (pv_ldo (i := 1) rfl Tryd.underlying3 rfl rfl rfl) rfl ?_
    refine ln_cd ?_
    refine cd_block ?_
    refine cd_sr ?_
    refine ln_pv (pv_tt (pv_eql rfl rfl) h0) rfl ?_
    refine ln_pv (pv_assign rfl) rfl ?_
    refine ln_cd ?_
    refine cd_tt rfl ?_
    refine cd_sr ?_
    refine ln_pv (pv_fieldAddr (off := 0) (r := 0) Tryd.underlying35 rfl (tiint64).size rfl rfl rfl) rfl ?_
    refine ln_pv (pv_ldo (i := 0) rfl Tryd.underlying2 rfl rfl rfl) rfl ?_
    refine ln_pv (pv_and' rfl rfl (and1_i64 hn.1 hn.2)) rfl ?_
    refine ln_pv (pv_fieldAddr (off := 5) (r := 5) Tryd.underlying87 rfl (tiint64).size rfl rfl rfl) rfl ?_
    refine ln_pv (pv_ldo (i := 1) rfl Tryd.underlying2 rfl rfl rfl) rfl ?_
    refine ln_pv (pv_eql rfl rfl) rfl ?_
    refine ln_pv (pv_assign rfl) rfl ?_
    refine ln_cd ?_
    refine cd_ret ?_
    refine at_retA rfl rfl (fun w hS => ?_)
    rw [usualB_eq, if_pos h0]
  by_cases h7 : f.kind = 7
  · skip
    refine cd_sr ?_
    refine ln_box rfl rfl rfl (fun b1 => ?_)
    refine ln_box rfl rfl rfl (fun b2 => ?_)
    refine ln_pv (pv_assign rfl) rfl ?_
    refine ln_cd ?_
    refine cd_seq ?_
    refine cd_sr ?_
    refine ln_pv (pv_fieldAddr (off := 0) (r := 0) Tryd.underlying87 rfl (tiint).size rfl rfl rfl) rfl ?_
    refine ln_pv (pv_ldo (i := 1) rfl Tryd.underlying3 rfl rfl rfl) rfl ?_
    refine ln_cd ?_
    refine cd_block ?_
    refine cd_sr ?_
    refine ln_pv (pv_ff (pv_eql rfl rfl) h0) rfl ?_
    refine ln_pv (pv_assign rfl) rfl ?_
    refine ln_cd ?_
    refine cd_ff rfl ?_
    refine cd_sr ?_
    refine ln_pv (pv_tt (pv_eql rfl rfl) h7) rfl ?_
    refine ln_pv (pv_assign rfl) rfl ?_
    refine ln_cd ?_
    refine cd_tt rfl ?_
    refine cd_seq ?_
    refine cd_sr ?_
    refine ln_pv (pv_fieldAddr (off := 1) (r := 1) Tryd.underlying35 rfl (tiSl_uint8).size rfl rfl rfl) rfl ?_
    refine ln_pv (pv_ldo (i := 0) rfl Tryd.underlying22 rfl rfl rfl) rfl ?_
    refine ln_pv (pv_len_slice Tryd.underlying22 rfl) rfl ?_
    refine ln_pv (pv_move rfl) rfl ?_
    refine ln_cd ?_
    refine cd_block ?_
    refine cd_loop (⟨fun (z : Nat) => [(22, .slice adS x.s.length cS), (23, .int .i64 (x.s.length : Int)), (24, .int .i64 ((z : Nat) : Int))], fun (z : Nat) => [], fun (z : Nat) s => z ≤ x.s.length ∧ ((x.s.take z).take 16).all (fun b => decide (b = 0)) = true, fun (z : Nat) => x.s.length - z⟩ : Lp (Nat)) 0 ?_ ?_ ?_ ?_
    · intro s0 hs0
      exact ⟨Nat.zero_le _, rfl⟩
    · exact ⟨rfl, rfl, rfl,  trivial⟩
    · exact (.cons _ (.cons _ .slnil))
    intro i s1 hl1 hI
    dsimp only at hI ⊢
    have hVf := hVf.mv hl1
    have hFf := hFf.mv hl1
    have hx := hx.mv hl1
    have hS := hS.mv hl1
    have hU := hU.mv hl1
    have hU1 := hU1.mv hl1
    have hUs := hUs.mv hl1
    obtain ⟨hI, hall⟩ := hI
    refine cd_sr ?_
    refine ln_pv (pv_lss rfl rfl) rfl ?_
    refine ln_cd ?_
    refine cd_seq ?_
    refine cd_if rfl (fun hc3 => ?_) (fun hc3 => ?_)
    · -- yes
      refine cd_skip ?_
      refine at_cd ?_
      refine cd_seq ?_
      refine cd_block ?_
      have hi : i < x.s.length := by omega
      obtain ⟨b0, o0, rfl, hrc⟩ := hS.pos (by omega) (by decide)
      refine cd_sr ?_
      refine ln_pv (pv_move rfl) rfl ?_
      refine ln_pv (pv_ixN Tryd.underlying22 tiuint8.size rfl rfl hi) rfl ?_
      refine ln_pv (pv_ldr (j := i * 1) hrc Tryd.underlying5 rfl rfl (s_at hi)) rfl ?_
      refine ln_pv (pv_assign rfl) rfl ?_
      refine ln_pv (pv_assign rfl) rfl ?_
      refine ln_cd ?_
      by_cases h16 : i < 16
      · skip
        refine cd_sr ?_
        refine ln_pv (pv_move rfl) rfl ?_
        refine ln_pv (pv_tt (pv_lss rfl rfl) (by omega)) rfl ?_
        refine ln_pv (pv_move rfl) rfl ?_
        refine ln_gt rfl rfl rfl (pv_move rfl) rfl ?_
        refine ln_gt rfl rfl rfl (pv_neq rfl rfl) rfl ?_
        refine ln_pv (pv_pick rfl (fun _ => rfl) (fun _ => rfl)) rfl ?_
        refine ln_cd ?_
        refine cd_if rfl (fun hc4 => ?_) (fun hc4 => ?_)
        · -- yes
          refine cd_sr ?_
          refine ln_pv (pv_assign rfl) rfl ?_
          refine ln_cd ?_
          refine cd_ret ?_
          refine at_retA rfl rfl (fun w hS => ?_)
          have hb : ¬ x.s[i] = 0 := by
            intro e
            have := hc4
            rw [e] at this
            simp at this
          rw [usualB_eq, if_neg h0, if_pos h7, all16_bad hi (by omega) hb]
        · -- no
          refine cd_skip ?_
          refine at_cd ?_
          refine cd_region ?_
          refine ln_pv (pv_add' rfl rfl (wrap_succ (by omega))) rfl ?_
          refine ln_pv (pv_move rfl) rfl ?_
          refine ln_nil ?_
          refine at_rnd (i + 1) hl1 ?_ ?_ ⟨rfl, rfl, rfl,  trivial⟩ .slnil
          · intro s9 hs9
            refine ⟨by omega, ?_⟩
            rw [all16_snoc hi, hall]
            have e : x.s[i] = 0 := by
              have := hc4
              simp at this
              first | exact this | exact UInt8.toNat_inj.1 this
            simp [e]
          · dsimp only; omega
      · skip
        refine cd_sr ?_
        refine ln_pv (pv_move rfl) rfl ?_
        refine ln_pv (pv_ff (pv_lss rfl rfl) (by omega)) rfl ?_
        refine ln_pv (pv_move rfl) rfl ?_
        refine ln_gf rfl rfl rfl rfl rfl ?_
        refine ln_gf rfl rfl rfl rfl rfl ?_
        refine ln_pv (pv_pick rfl (fun _ => rfl) (fun _ => rfl)) rfl ?_
        refine ln_cd ?_
        refine cd_ff rfl ?_
        refine cd_skip ?_
        refine at_cd ?_
        refine cd_region ?_
        refine ln_pv (pv_add' rfl rfl (wrap_succ (by omega))) rfl ?_
        refine ln_pv (pv_move rfl) rfl ?_
        refine ln_nil ?_
        refine at_rnd (i + 1) hl1 ?_ ?_ ⟨rfl, rfl, rfl,  trivial⟩ .slnil
        · intro s9 hs9
          refine ⟨by omega, ?_⟩
          rw [all16_snoc hi, hall]
          simp [show 16 ≤ i by omega]
        · dsimp only; omega
    · -- no
      refine cd_exit rfl ?_
      refine at_cd ?_
      refine cd_sr ?_
      refine ln_pv (pv_assign rfl) rfl ?_
      refine ln_cd ?_
      refine cd_ret ?_
      refine at_retA rfl rfl (fun w hS => ?_)
      have e : i = x.s.length := by omega
      subst e
      rw [List.take_length] at hall
      rw [usualB_eq, if_neg h0, if_pos h7, hall]
  by_cases h8 : f.kind = 8
  · skip
    refine cd_sr ?_
    refine ln_box rfl rfl rfl (fun b1 => ?_)
    refine ln_box rfl rfl rfl (fun b2 => ?_)
    refine ln_pv (pv_assign rfl) rfl ?_
    refine ln_cd ?_
    refine cd_seq ?_
    refine cd_sr ?_
    refine ln_pv (pv_fieldAddr (off := 0) (r := 0) Tryd.underlying87 rfl (tiint).size rfl rfl rfl) rfl ?_
    refine ln_pv (pv_ldo (i := 1) rfl Tryd.underlying3 rfl rfl rfl) rfl ?_
    refine ln_cd ?_
    refine cd_block ?_
    refine cd_sr ?_
    refine ln_pv (pv_ff (pv_eql rfl rfl) h0) rfl ?_
    refine ln_pv (pv_assign rfl) rfl ?_
    refine ln_cd ?_
    refine cd_ff rfl ?_
    refine cd_sr ?_
    refine ln_pv (pv_ff (pv_eql rfl rfl) h7) rfl ?_
    refine ln_pv (pv_assign rfl) rfl ?_
    refine ln_cd ?_
    refine cd_ff rfl ?_
    refine cd_seq ?_
    refine cd_sr ?_
    refine ln_pv (pv_tt (pv_eql rfl rfl) h8) rfl ?_
    refine ln_pv (pv_assign rfl) rfl ?_
    refine ln_cd ?_
    refine cd_tt rfl ?_
    refine cd_skip ?_
    refine at_cd ?_
    refine cd_tt rfl ?_
    refine cd_seq ?_
    refine cd_sr ?_
    refine ln_pv (pv_fieldAddr (off := 3) (r := 3) Tryd.underlying87 rfl (tiint).size rfl rfl rfl) rfl ?_
    refine ln_pv (pv_ldo (i := 1) rfl Tryd.underlying3 rfl rfl rfl) rfl ?_
    refine ln_pv (pv_geq rfl rfl) rfl ?_
    refine ln_cd ?_
    refine cd_if rfl (fun hc5 => ?_) (fun hc5 => ?_)
    · -- yes
      refine cd_sr ?_
      refine ln_pv (pv_fieldAddr (off := 2) (r := 2) Tryd.underlying35 rfl (tibool).size rfl rfl rfl) rfl ?_
      refine ln_pv (pv_ldo (i := 0) rfl Tryd.underlying4 rfl rfl rfl) rfl ?_
      refine ln_pv (pv_assign rfl) rfl ?_
      refine ln_cd ?_
      refine cd_ret ?_
      refine at_retA rfl rfl (fun w hS => ?_)
      rw [usualB_eq, if_neg h0, if_neg h7, if_pos (.inl h8)]
      rw [if_pos hc5]
    · -- no
      refine cd_skip ?_
      refine at_cd ?_
      refine cd_sr ?_
      refine ln_pv (pv_fieldAddr (off := 1) (r := 1) Tryd.underlying35 rfl (tiSl_uint8).size rfl rfl rfl) rfl ?_
      refine ln_pv (pv_ldo (i := 0) rfl Tryd.underlying22 rfl rfl rfl) rfl ?_
      refine ln_pv (pv_len_slice Tryd.underlying22 rfl) rfl ?_
      refine ln_pv (pv_eql rfl rfl) rfl ?_
      refine ln_pv (pv_assign rfl) rfl ?_
      refine ln_cd ?_
      refine cd_ret ?_
      refine at_retA rfl rfl (fun w hS => ?_)
      rw [usualB_eq, if_neg h0, if_neg h7, if_pos (.inl h8)]
      rw [if_neg hc5]
      congr 1
      rw [decide_eq_decide]
      omega
  by_cases h9 : f.kind = 9
  · skip
    refine cd_sr ?_
    refine ln_box rfl rfl rfl (fun b1 => ?_)
    refine ln_box rfl rfl rfl (fun b2 => ?_)
    refine ln_pv (pv_assign rfl) rfl ?_
    refine ln_cd ?_
    refine cd_seq ?_
    refine cd_sr ?_
    refine ln_pv (pv_fieldAddr (off := 0) (r := 0) Tryd.underlying87 rfl (tiint).size rfl rfl rfl) rfl ?_
    refine ln_pv (pv_ldo (i := 1) rfl Tryd.underlying3 rfl rfl rfl) rfl ?_
    refine ln_cd ?_
    refine cd_block ?_
    refine cd_sr ?_
    refine ln_pv (pv_ff (pv_eql rfl rfl) h0) rfl ?_
    refine ln_pv (pv_assign rfl) rfl ?_
    refine ln_cd ?_
    refine cd_ff rfl ?_
    refine cd_sr ?_
    refine ln_pv (pv_ff (pv_eql rfl rfl) h7) rfl ?_
    refine ln_pv (pv_assign rfl) rfl ?_
    refine ln_cd ?_
    refine cd_ff rfl ?_
    refine cd_seq ?_
    refine cd_sr ?_
    refine ln_pv (pv_ff (pv_eql rfl rfl) h8) rfl ?_
    refine ln_pv (pv_assign rfl) rfl ?_
    refine ln_cd ?_
    refine cd_ff rfl ?_
    refine cd_region ?_
    refine ln_pv (pv_tt (pv_eql rfl rfl) h9) rfl ?_
    refine ln_pv (pv_assign rfl) rfl ?_
    refine ln_nil ?_
    refine at_cd ?_
    refine cd_tt rfl ?_
    refine cd_seq ?_
    refine cd_sr ?_
    refine ln_pv (pv_fieldAddr (off := 3) (r := 3) Tryd.underlying87 rfl (tiint).size rfl rfl rfl) rfl ?_
    refine ln_pv (pv_ldo (i := 1) rfl Tryd.underlying3 rfl rfl rfl) rfl ?_
    refine ln_pv (pv_geq rfl rfl) rfl ?_
    refine ln_cd ?_
    refine cd_if rfl (fun hc5 => ?_) (fun hc5 => ?_)
    · -- yes
      refine cd_sr ?_
      refine ln_pv (pv_fieldAddr (off := 2) (r := 2) Tryd.underlying35 rfl (tibool).size rfl rfl rfl) rfl ?_
      refine ln_pv (pv_ldo (i := 0) rfl Tryd.underlying4 rfl rfl rfl) rfl ?_
      refine ln_pv (pv_assign rfl) rfl ?_
      refine ln_cd ?_
      refine cd_ret ?_
      refine at_retA rfl rfl (fun w hS => ?_)
      rw [usualB_eq, if_neg h0, if_neg h7, if_pos (.inr h9)]
      rw [if_pos hc5]
    · -- no
      refine cd_skip ?_
      refine at_cd ?_
      refine cd_sr ?_
      refine ln_pv (pv_fieldAddr (off := 1) (r := 1) Tryd.underlying35 rfl (tiSl_uint8).size rfl rfl rfl) rfl ?_
      refine ln_pv (pv_ldo (i := 0) rfl Tryd.underlying22 rfl rfl rfl) rfl ?_
      refine ln_pv (pv_len_slice Tryd.underlying22 rfl) rfl ?_
      refine ln_pv (pv_eql rfl rfl) rfl ?_
      refine ln_pv (pv_assign rfl) rfl ?_
      refine ln_cd ?_
      refine cd_ret ?_
      refine at_retA rfl rfl (fun w hS => ?_)
      rw [usualB_eq, if_neg h0, if_neg h7, if_pos (.inr h9)]
      rw [if_neg hc5]
      congr 1
      rw [decide_eq_decide]
      omega
  by_cases h11 : f.kind = 11
  · skip
    refine cd_sr ?_
    refine ln_box rfl rfl rfl (fun b1 => ?_)
    refine ln_box rfl rfl rfl (fun b2 => ?_)
    refine ln_pv (pv_assign rfl) rfl ?_
    refine ln_cd ?_
    refine cd_seq ?_
    refine cd_sr ?_
    refine ln_pv (pv_fieldAddr (off := 0) (r := 0) Tryd.underlying87 rfl (tiint).size rfl rfl rfl) rfl ?_
    refine ln_pv (pv_ldo (i := 1) rfl Tryd.underlying3 rfl rfl rfl) rfl ?_
    refine ln_cd ?_
    refine cd_block ?_
    refine cd_sr ?_
    refine ln_pv (pv_ff (pv_eql rfl rfl) h0) rfl ?_
    refine ln_pv (pv_assign rfl) rfl ?_
    refine ln_cd ?_
    refine cd_ff rfl ?_
    refine cd_sr ?_
    refine ln_pv (pv_ff (pv_eql rfl rfl) h7) rfl ?_
    refine ln_pv (pv_assign rfl) rfl ?_
    refine ln_cd ?_
    refine cd_ff rfl ?_
    refine cd_seq ?_
    refine cd_sr ?_
    refine ln_pv (pv_ff (pv_eql rfl rfl) h8) rfl ?_
    refine ln_pv (pv_assign rfl) rfl ?_
    refine ln_cd ?_
    refine cd_ff rfl ?_
    refine cd_region ?_
    refine ln_pv (pv_ff (pv_eql rfl rfl) h9) rfl ?_
    refine ln_pv (pv_assign rfl) rfl ?_
    refine ln_nil ?_
    refine at_cd ?_
    refine cd_ff rfl ?_
    refine cd_sr ?_
    refine ln_pv (pv_tt (pv_eql rfl rfl) h11) rfl ?_
    refine ln_pv (pv_assign rfl) rfl ?_
    refine ln_cd ?_
    refine cd_tt rfl ?_
    refine cd_sr ?_
    refine ln_pv (pv_fieldAddr (off := 3) (r := 3) Tryd.underlying35 rfl (tiSl_spec_Tree).size rfl rfl rfl) rfl ?_
    refine ln_pv (pv_ldo (i := 0) rfl Tryd.underlying32 rfl rfl rfl) rfl ?_
    refine ln_pv (pv_len_slice Tryd.underlying32 rfl) rfl ?_
    refine ln_pv (pv_eql rfl rfl) rfl ?_
    refine ln_pv (pv_assign rfl) rfl ?_
    refine ln_cd ?_
    refine cd_ret ?_
    refine at_retA rfl rfl (fun w hS => ?_)
    rw [usualB_eq, if_neg h0, if_neg h7, if_neg (not_or.2 ⟨h8, h9⟩), if_pos h11]
    congr 1
    rw [decide_eq_decide]
    omega
  by_cases h10 : f.kind = 10
  · skip
    refine cd_sr ?_
    refine ln_box rfl rfl rfl (fun b1 => ?_)
    refine ln_box rfl rfl rfl (fun b2 => ?_)
    refine ln_pv (pv_assign rfl) rfl ?_
    refine ln_cd ?_
    refine cd_seq ?_
    refine cd_sr ?_
    refine ln_pv (pv_fieldAddr (off := 0) (r := 0) Tryd.underlying87 rfl (tiint).size rfl rfl rfl) rfl ?_
    refine ln_pv (pv_ldo (i := 1) rfl Tryd.underlying3 rfl rfl rfl) rfl ?_
    refine ln_cd ?_
    refine cd_block ?_
    refine cd_sr ?_
    refine ln_pv (pv_ff (pv_eql rfl rfl) h0) rfl ?_
    refine ln_pv (pv_assign rfl) rfl ?_
    refine ln_cd ?_
    refine cd_ff rfl ?_
    refine cd_sr ?_
    refine ln_pv (pv_ff (pv_eql rfl rfl) h7) rfl ?_
    refine ln_pv (pv_assign rfl) rfl ?_
    refine ln_cd ?_
    refine cd_ff rfl ?_
    refine cd_seq ?_
    refine cd_sr ?_
    refine ln_pv (pv_ff (pv_eql rfl rfl) h8) rfl ?_
    refine ln_pv (pv_assign rfl) rfl ?_
    refine ln_cd ?_
    refine cd_ff rfl ?_
    refine cd_region ?_
    refine ln_pv (pv_ff (pv_eql rfl rfl) h9) rfl ?_
    refine ln_pv (pv_assign rfl) rfl ?_
    refine ln_nil ?_
    refine at_cd ?_
    refine cd_ff rfl ?_
    refine cd_sr ?_
    refine ln_pv (pv_ff (pv_eql rfl rfl) h11) rfl ?_
    refine ln_pv (pv_assign rfl) rfl ?_
    refine ln_cd ?_
    refine cd_ff rfl ?_
    refine cd_sr ?_
    refine ln_pv (pv_tt (pv_eql rfl rfl) h10) rfl ?_
    refine ln_pv (pv_assign rfl) rfl ?_
    refine ln_cd ?_
    refine cd_tt rfl ?_
    refine cd_seq ?_
    refine cd_sr ?_
    refine ln_pv (pv_fieldAddr (off := 7) (r := 7) Tryd.underlying87 rfl (tiSl_spec_Field).size rfl rfl rfl) rfl ?_
    refine ln_pv (pv_ldo (i := 1) rfl Tryd.underlying40 rfl rfl rfl) rfl ?_
    refine ln_pv (pv_len_slice Tryd.underlying40 rfl) rfl ?_
    refine ln_pv (pv_move rfl) rfl ?_
    refine ln_cd ?_
    refine cd_block ?_
    refine cd_loop (⟨fun (z : Nat) => [(2, .pointer (some ⟨b1, 0, none⟩)), (3, .pointer (some ⟨b2, 0, none⟩)), (57, .slice adf f.sub.length cf), (58, .int .i64 (f.sub.length : Int)), (59, .int .i64 ((z : Nat) : Int))], fun (z : Nat) => [.obj b2 (.cells [.int .i64 x.n, .slice adS x.s.length cS, .bool x.z, .slice adL x.l.length cL, sU].toArray 35), .obj b1 (.cells [.int .i64 f.kind, .int .i64 f.frm, .int .i64 f.to, .int .i64 f.nul, .int .i64 f.tag, .int .i64 f.dflt, .int .i64 f.of_, .slice adf f.sub.length cf].toArray 87)], fun (z : Nat) s => z ≤ f.sub.length ∧ usualL f.sub x 0 = usualL (f.sub.drop z) x z, fun (z : Nat) => f.sub.length - z⟩ : Lp (Nat)) 0 ?_ ?_ ?_ ?_
    · intro s0 hs0
      exact ⟨Nat.zero_le _, rfl⟩
    · exact ⟨rfl, rfl, rfl, rfl, rfl,  trivial⟩
    · exact (.cons_cons _ (.cons_cons _ .slnil))
    intro i s1 hl1 hI
    dsimp only at hI ⊢
    have hVf := hVf.mv hl1
    have hFf := hFf.mv hl1
    have hx := hx.mv hl1
    have hS := hS.mv hl1
    have hU := hU.mv hl1
    have hU1 := hU1.mv hl1
    have hUs := hUs.mv hl1
    obtain ⟨hI, hall⟩ := hI
    refine cd_sr ?_
    refine ln_pv (pv_lss rfl rfl) rfl ?_
    refine ln_cd ?_
    refine cd_seq ?_
    refine cd_if rfl (fun hc7 => ?_) (fun hc7 => ?_)
    · -- yes
      refine cd_skip ?_
      refine at_cd ?_
      refine cd_seq ?_
      refine cd_block ?_
      have hi : i < f.sub.length := by omega
      obtain ⟨b0, o0, rfl, hrc⟩ := hVf.pos (by omega) (by decide)
      obtain ⟨c1, c2, c3, he, hk, hr⟩ := RFs.at_ hi hFf
      have hsub := hrc.sub (i * 8) he hk
      refine cd_sr ?_
      refine ln_pv (pv_move rfl) rfl ?_
      refine ln_pv (pv_ixN Tryd.underlying40 tispec_Field.size rfl rfl hi) rfl ?_
      refine ln_pv (pv_ldR hsub Tryd.underlying87 rfl tispec_Field.size rfl hr.len) rfl ?_
      refine ln_alloc tispec_Field rfl rfl (fun b3 => ?_)
      refine ln_pv (pv_assign rfl) rfl ?_
      refine ln_storeW (i := 0) rfl rfl rfl rfl (tispec_Field).size hr.len hr.cells ?_
      refine ln_cd ?_
      refine cd_dr' [0, 1, 2] [0, 1, 2, 5] [0, 1, 2, 3, 4, 5] mixed (by kernel_rfl) ?_
      refine lo_pv rfl rfl (sk_js (Tr.refl _) [0, 1, 2] rfl) (pv_ldO (i := 0) rfl Tryd.underlying87 rfl (tispec_Field).size rfl hr.len) rfl ?_
      refine lo_pv rfl rfl (sk_js (Tr.refl _) [0, 1, 2] rfl) (pv_ldO (i := 1) rfl Tryd.underlying35 rfl (tispec_Tree).size rfl rfl) rfl ?_
      refine lo_pv rfl rfl (sk_js (Tr.refl _) [0, 1, 2] rfl) (pv_move rfl) rfl ?_
      refine lo_eff rfl rfl ?_
      refine ln_callA en_151 rfl (fun u hu => spec_at u x _ i (hx.mv hu)) rfl (fun u1 v1 ht1 hR1 => ?_)
      have hVf := hVf.mv ht1
      have hFf := hFf.mv ht1
      have hx := hx.mv ht1
      have hS := hS.mv ht1
      have hU := hU.mv ht1
      have hU1 := hU1.mv ht1
      have hUs := hUs.mv ht1
      have hr := hr.mv ht1
      obtain ⟨ds1, rfl, hds1⟩ := hR1
      refine lo_back (sk_js ht1 [0, 1, 2] rfl) ?_
      refine lo_eff rfl rfl ?_
      refine ln_callS en_153 rfl (fun u hu => ih _ (List.getElem_mem hi) u _ _ (x.at_ i) (hr.mv hu) (hds1.mv hu) (hsm.at_ i)) rfl ?_
      refine lo_back (sk_js ht1 [0, 1, 2] rfl) ?_
      refine lo_pv rfl rfl (sk_js ht1 [0, 1, 2] rfl) (pv_not rfl) rfl ?_
      refine lo_cd ?_
      refine cd_cond rfl (fun hc8 => ?_) (fun hc8 => ?_)
      · -- yes
        refine cd_sr ?_
        refine ln_pv (pv_assign rfl) rfl ?_
        refine ln_cd ?_
        refine cd_ret ?_
        refine at_retA rfl rfl (fun w hS => ?_)
        rw [usualB_eq, if_neg h0, if_neg h7, if_neg (not_or.2 ⟨h8, h9⟩), if_neg h11, if_pos h10]
        have e : usualB f.sub[i] (x.at_ i) = false := by simpa using hc8
        rw [hall, usualL_drop hi, e]
        rfl
      · -- no
        refine cd_skip ?_
        refine at_cd ?_
        refine cd_region ?_
        refine ln_pv (pv_add' rfl rfl (wrap_succ (by omega))) rfl ?_
        refine ln_pv (pv_move rfl) rfl ?_
        refine ln_nil ?_
        refine at_rnd (i + 1) (hl1.trans ht1) ?_ ?_ ⟨rfl, rfl, rfl, rfl, rfl,  trivial⟩ (.cons _ (.cons_cons _ (.cons_cons _ .slnil)))
        · intro s9 hs9
          refine ⟨by omega, ?_⟩
          rw [hall, usualL_drop hi]
          have e : usualB f.sub[i] (x.at_ i) = true := by simpa using hc8
          rw [e, Bool.true_and]
        · dsimp only; omega
    · -- no
      refine cd_exit rfl ?_
      refine at_cd ?_
      refine cd_sr ?_
      refine ln_pv (pv_fieldAddr (off := 7) (r := 7) Tryd.underlying87 rfl (tiSl_spec_Field).size rfl rfl rfl) rfl ?_
      refine ln_pv (pv_ldo (i := 1) rfl Tryd.underlying40 rfl rfl rfl) rfl ?_
      refine ln_pv (pv_fieldAddr (off := 4) (r := 4) Tryd.underlying35 rfl (tiSl_spec_Tag).size rfl rfl rfl) rfl ?_
      refine ln_pv (pv_ldo (i := 0) rfl Tryd.underlying33 rfl rfl rfl) rfl ?_
      refine ln_callA en_155 rfl (fun u hu => spec_unknown u _ _ f.sub lf uc x.u (hVf.mv hu) (hFf.mv hu) hT (by omega) (hU1.mv hu) (hUs.mv hu)) rfl (fun u2 v2 ht2 hR2 => ?_)
      have hVf := hVf.mv ht2
      have hFf := hFf.mv ht2
      have hx := hx.mv ht2
      have hS := hS.mv ht2
      have hU := hU.mv ht2
      have hU1 := hU1.mv ht2
      have hUs := hUs.mv ht2
      obtain ⟨uq, hq, hqs⟩ := hR2
      obtain ⟨adq, cq, rfl, hleq⟩ := hq.shape
      refine ln_pv (pv_len_slice Tryd.underlying33 rfl) rfl ?_
      refine ln_pv (pv_eql rfl rfl) rfl ?_
      refine ln_pv (pv_assign rfl) rfl ?_
      refine ln_cd ?_
      refine cd_ret ?_
      refine at_retA rfl rfl (fun w hS => ?_)
      rw [usualB_eq, if_neg h0, if_neg h7, if_neg (not_or.2 ⟨h8, h9⟩), if_neg h11, if_pos h10]
      have e : i = f.sub.length := by omega
      subst e
      rw [hall, List.drop_length, usualL, Bool.true_and]
      congr 1
      rw [decide_eq_decide]
      omega
  refine cd_sr ?_
  refine ln_box rfl rfl rfl (fun b1 => ?_)
  refine ln_box rfl rfl rfl (fun b2 => ?_)
  refine ln_pv (pv_assign rfl) rfl ?_
  refine ln_cd ?_
  refine cd_seq ?_
  refine cd_sr ?_
  refine ln_pv (pv_fieldAddr (off := 0) (r := 0) Tryd.underlying87 rfl (tiint).size rfl rfl rfl) rfl ?_
  refine ln_pv (pv_ldo (i := 1) rfl Tryd.underlying3 rfl rfl rfl) rfl ?_
  refine ln_cd ?_
  refine cd_block ?_
  refine cd_sr ?_
  refine ln_pv (pv_ff (pv_eql rfl rfl) h0) rfl ?_
  refine ln_pv (pv_assign rfl) rfl ?_
  refine ln_cd ?_
  refine cd_ff rfl ?_
  refine cd_sr ?_
  refine ln_pv (pv_ff (pv_eql rfl rfl) h7) rfl ?_
  refine ln_pv (pv_assign rfl) rfl ?_
  refine ln_cd ?_
  refine cd_ff rfl ?_
  refine cd_seq ?_
  refine cd_sr ?_
  refine ln_pv (pv_ff (pv_eql rfl rfl) h8) rfl ?_
  refine ln_pv (pv_assign rfl) rfl ?_
  refine ln_cd ?_
  refine cd_ff rfl ?_
  refine cd_region ?_
  refine ln_pv (pv_ff (pv_eql rfl rfl) h9) rfl ?_
  refine ln_pv (pv_assign rfl) rfl ?_
  refine ln_nil ?_
  refine at_cd ?_
  refine cd_ff rfl ?_
  refine cd_sr ?_
  refine ln_pv (pv_ff (pv_eql rfl rfl) h11) rfl ?_
  refine ln_pv (pv_assign rfl) rfl ?_
  refine ln_cd ?_
  refine cd_ff rfl ?_
  refine cd_sr ?_
  refine ln_pv (pv_ff (pv_eql rfl rfl) h10) rfl ?_
  refine ln_pv (pv_assign rfl) rfl ?_
  refine ln_cd ?_
  refine cd_ff rfl ?_
  refine cd_skip ?_
  refine at_cd ?_
  refine cd_dr' [0, 1] [0, 1, 2, 3, 6, 7, 8, 9, 13] [0, 1, 2, 3, 6, 7, 8, 9, 4, 5, 10, 11, 12, 13] mixed (by kernel_rfl) ?_
  refine lo_pv rfl rfl (sk_js (Tr.refl _) [0, 1] rfl) (pv_fieldAddr (off := 0) (r := 0) Tryd.underlying35 rfl (tiint64).size rfl rfl rfl) rfl ?_
  refine lo_pv rfl rfl (sk_js (Tr.refl _) [0, 1] rfl) (pv_ldo (i := 0) rfl Tryd.underlying2 rfl rfl rfl) rfl ?_
  refine lo_pv rfl rfl (sk_js (Tr.refl _) [0, 1] rfl) (pv_fieldAddr (off := 0) (r := 0) Tryd.underlying87 rfl (tiint).size rfl rfl rfl) rfl ?_
  refine lo_pv rfl rfl (sk_js (Tr.refl _) [0, 1] rfl) (pv_ldo (i := 1) rfl Tryd.underlying3 rfl rfl rfl) rfl ?_
  refine lo_pv rfl rfl (sk_js (Tr.refl _) [0, 1] rfl) (pv_fieldAddr (off := 5) (r := 5) Tryd.underlying87 rfl (tiint64).size rfl rfl rfl) rfl ?_
  refine lo_pv rfl rfl (sk_js (Tr.refl _) [0, 1] rfl) (pv_ldo (i := 1) rfl Tryd.underlying2 rfl rfl rfl) rfl ?_
  refine lo_pv rfl rfl (sk_js (Tr.refl _) [0, 1] rfl) (pv_fieldAddr (off := 0) (r := 0) Tryd.underlying87 rfl (tiint).size rfl rfl rfl) rfl ?_
  refine lo_pv rfl rfl (sk_js (Tr.refl _) [0, 1] rfl) (pv_ldo (i := 1) rfl Tryd.underlying3 rfl rfl rfl) rfl ?_
  refine lo_eff rfl rfl ?_
  refine ln_callS en_175 rfl (fun u hu => spec_width u f.kind) rfl ?_
  refine lo_back (sk_js (Tr.refl _) [0, 1] rfl) ?_
  refine lo_eff rfl rfl ?_
  refine ln_callA en_75 rfl (fun u hu => spec_Fixed u x.n (widthN f.kind) (widthN_le _)) rfl (fun u1 v1 ht1 hR1 => ?_)
  have hVf := hVf.mv ht1
  have hFf := hFf.mv ht1
  have hx := hx.mv ht1
  have hS := hS.mv ht1
  have hU := hU.mv ht1
  have hU1 := hU1.mv ht1
  have hUs := hUs.mv ht1
  refine lo_back (sk_js ht1 [0, 1] rfl) ?_
  refine lo_eff rfl rfl ?_
  refine ln_callS en_175 rfl (fun u hu => spec_width u f.kind) rfl ?_
  refine lo_back (sk_js ht1 [0, 1] rfl) ?_
  refine lo_eff rfl rfl ?_
  refine ln_callA en_75 rfl (fun u hu => spec_Fixed u f.dflt (widthN f.kind) (widthN_le _)) rfl (fun u2 v2 ht2 hR2 => ?_)
  have hVf := hVf.mv ht2
  have hFf := hFf.mv ht2
  have hx := hx.mv ht2
  have hS := hS.mv ht2
  have hU := hU.mv ht2
  have hU1 := hU1.mv ht2
  have hUs := hUs.mv ht2
  have hR1 := hR1.mv ht2
  refine lo_back (sk_js (ht1.trans ht2) [0, 1] rfl) ?_
  refine lo_eff rfl rfl ?_
  refine ln_callS en_41 rfl (fun u hu => spec_Same u _ _ _ _ (hR1.mv hu) (hR2.mv hu) (by rw [fixed_length]; have := widthN_le f.kind; omega)) rfl ?_
  refine lo_back (sk_js (ht1.trans ht2) [0, 1] rfl) ?_
  refine lo_pv rfl rfl (sk_js (ht1.trans ht2) [0, 1] rfl) (pv_assign rfl) rfl ?_
  refine lo_cd ?_
  refine cd_ret ?_
  refine at_retA rfl rfl (fun w hS => ?_)
  rw [usualB_eq, if_neg h0, if_neg h7, if_neg (not_or.2 ⟨h8, h9⟩), if_neg h11, if_neg h10]
theorem spec_usual_n : ∀ (n : Nat) (f : Fld), SizeOf.sizeOf f < n → okF f = true → UsualC f
  | 0, _, h, _ => absurd h (by omega)
  | n + 1, f, h, hok => spec_usual1 f hok fun g hg => spec_usual_n n g (by
      have h1 := List.sizeOf_lt_of_mem hg
      cases f
      simp only [Fld.sub] at h1
      simp only [Fld.mk.sizeOf_spec] at h
      omega) (okFs.mem (okF.sub hok) g hg)
theorem spec_usual (f : Fld) (hok : okF f = true) : UsualC f := spec_usual_n _ f (Nat.lt_succ_self _) hok
end K
end Go.Proofs.YtjjfpdofkdolnaaDoor
