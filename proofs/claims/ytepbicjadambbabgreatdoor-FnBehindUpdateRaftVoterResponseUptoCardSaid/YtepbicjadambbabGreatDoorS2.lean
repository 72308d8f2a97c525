import Derived.Test.YtepbicjadambbabGreatDoorS1
set_option linter.unusedVariables false
set_option linter.unusedSimpArgs false
namespace Go.Proofs.YtepbicjadambbabGreatDoor
namespace K
open Go Go.Lib
theorem spec_width (t : Vw) (k : Int) : CS Tryz.prog 45 [.int .i64 k] t (.int .i64 ((widthN k : Nat) : Int)) := by
  refine CA.cs ?_
  refine ca_enter Tryz.func45 rfl Tryz.ntmps45 rfl ?_
  by_cases h0 : k = 1
  · skip
    refine cd_sr ?_
    refine ln_pv (pv_assign rfl) rfl ?_
    refine ln_cd ?_
    refine cd_seq ?_
    refine cd_sr ?_
    refine ln_pv (pv_move rfl) rfl ?_
    refine ln_cd ?_
    refine cd_block ?_
    refine cd_sr ?_
    refine ln_pv (pv_tt (pv_eql rfl rfl) h0) rfl ?_
    refine ln_pv (pv_assign rfl) rfl ?_
    refine ln_cd ?_
    refine cd_tt rfl ?_
    refine cd_sr ?_
    refine ln_pv (pv_assign rfl) rfl ?_
    refine ln_cd ?_
    refine cd_ret ?_
    refine at_retA rfl rfl (fun w hS => ?_)
    simp [widthN, h0]
  by_cases h1 : k = 2
  · skip
    refine cd_sr ?_
    refine ln_pv (pv_assign rfl) rfl ?_
    refine ln_cd ?_
    refine cd_seq ?_
    refine cd_sr ?_
    refine ln_pv (pv_move rfl) rfl ?_
    refine ln_cd ?_
    refine cd_block ?_
    refine cd_sr ?_
    refine ln_pv (pv_ff (pv_eql rfl rfl) h0) rfl ?_
    refine ln_pv (pv_assign rfl) rfl ?_
    refine ln_cd ?_
    refine cd_ff rfl ?_
    refine cd_seq ?_
    refine cd_sr ?_
    refine ln_pv (pv_tt (pv_eql rfl rfl) h1) rfl ?_
    refine ln_pv (pv_assign rfl) rfl ?_
    refine ln_cd ?_
    refine cd_tt rfl ?_
    refine cd_skip ?_
    refine at_cd ?_
    refine cd_tt rfl ?_
    refine cd_sr ?_
    refine ln_pv (pv_assign rfl) rfl ?_
    refine ln_cd ?_
    refine cd_ret ?_
    refine at_retA rfl rfl (fun w hS => ?_)
    simp [widthN, h0, h1]
  by_cases h2 : k = 5
  · skip
    refine cd_sr ?_
    refine ln_pv (pv_assign rfl) rfl ?_
    refine ln_cd ?_
    refine cd_seq ?_
    refine cd_sr ?_
    refine ln_pv (pv_move rfl) rfl ?_
    refine ln_cd ?_
    refine cd_block ?_
    refine cd_sr ?_
    refine ln_pv (pv_ff (pv_eql rfl rfl) h0) rfl ?_
    refine ln_pv (pv_assign rfl) rfl ?_
    refine ln_cd ?_
    refine cd_ff rfl ?_
    refine cd_seq ?_
    refine cd_sr ?_
    refine ln_pv (pv_ff (pv_eql rfl rfl) h1) rfl ?_
    refine ln_pv (pv_assign rfl) rfl ?_
    refine ln_cd ?_
    refine cd_ff rfl ?_
    refine cd_region ?_
    refine ln_pv (pv_tt (pv_eql rfl rfl) h2) rfl ?_
    refine ln_pv (pv_assign rfl) rfl ?_
    refine ln_nil ?_
    refine at_cd ?_
    refine cd_tt rfl ?_
    refine cd_sr ?_
    refine ln_pv (pv_assign rfl) rfl ?_
    refine ln_cd ?_
    refine cd_ret ?_
    refine at_retA rfl rfl (fun w hS => ?_)
    simp [widthN, h0, h1, h2]
  by_cases h3 : k = 3
  · skip
    refine cd_sr ?_
    refine ln_pv (pv_assign rfl) rfl ?_
    refine ln_cd ?_
    refine cd_seq ?_
    refine cd_sr ?_
    refine ln_pv (pv_move rfl) rfl ?_
    refine ln_cd ?_
    refine cd_block ?_
    refine cd_sr ?_
    refine ln_pv (pv_ff (pv_eql rfl rfl) h0) rfl ?_
    refine ln_pv (pv_assign rfl) rfl ?_
    refine ln_cd ?_
    refine cd_ff rfl ?_
    refine cd_seq ?_
    refine cd_sr ?_
    refine ln_pv (pv_ff (pv_eql rfl rfl) h1) rfl ?_
    refine ln_pv (pv_assign rfl) rfl ?_
    refine ln_cd ?_
    refine cd_ff rfl ?_
    refine cd_region ?_
    refine ln_pv (pv_ff (pv_eql rfl rfl) h2) rfl ?_
    refine ln_pv (pv_assign rfl) rfl ?_
    refine ln_nil ?_
    refine at_cd ?_
    refine cd_ff rfl ?_
    refine cd_sr ?_
    refine ln_pv (pv_tt (pv_eql rfl rfl) h3) rfl ?_
    refine ln_pv (pv_assign rfl) rfl ?_
    refine ln_cd ?_
    refine cd_tt rfl ?_
    refine cd_sr ?_
    refine ln_pv (pv_assign rfl) rfl ?_
    refine ln_cd ?_
    refine cd_ret ?_
    refine at_retA rfl rfl (fun w hS => ?_)
    simp [widthN, h0, h1, h2, h3]
  refine cd_sr ?_
  refine ln_pv (pv_assign rfl) rfl ?_
  refine ln_cd ?_
  refine cd_seq ?_
  refine cd_sr ?_
  refine ln_pv (pv_move rfl) rfl ?_
  refine ln_cd ?_
  refine cd_block ?_
  refine cd_sr ?_
  refine ln_pv (pv_ff (pv_eql rfl rfl) h0) rfl ?_
  refine ln_pv (pv_assign rfl) rfl ?_
  refine ln_cd ?_
  refine cd_ff rfl ?_
  refine cd_seq ?_
  refine cd_sr ?_
  refine ln_pv (pv_ff (pv_eql rfl rfl) h1) rfl ?_
  refine ln_pv (pv_assign rfl) rfl ?_
  refine ln_cd ?_
  refine cd_ff rfl ?_
  refine cd_region ?_
  refine ln_pv (pv_ff (pv_eql rfl rfl) h2) rfl ?_
  refine ln_pv (pv_assign rfl) rfl ?_
  refine ln_nil ?_
  refine at_cd ?_
  refine cd_ff rfl ?_
  refine cd_sr ?_
  refine ln_pv (pv_ff (pv_eql rfl rfl) h3) rfl ?_
  refine ln_pv (pv_assign rfl) rfl ?_
  refine ln_cd ?_
  refine cd_ff rfl ?_
  refine cd_skip ?_
  refine at_cd ?_
  refine cd_sr ?_
  refine ln_pv (pv_assign rfl) rfl ?_
  refine ln_cd ?_
  refine cd_ret ?_
  refine at_retA rfl rfl (fun w hS => ?_)
  simp [widthN, h0, h1, h2, h3]
theorem spec_Fixed_n (t : Vw) (x : Int) (size : Nat) (hs : size ≤ 8) : CN Tryz.prog 44 [.int .i64 x, .int .i64 (size : Int)] t 5 1 (fixed x size).length (u8s (fixed x size)) := by
  refine ca_enter Tryz.func44 rfl Tryz.ntmps44 rfl ?_
  refine cd_sr ?_
  refine ln_pv (pv_assign rfl) rfl ?_
  refine ln_cd ?_
  refine cd_nilrow 5 1 ?_
  refine cd_sr ?_
  refine ln_pv (pv_assign rfl) rfl ?_
  refine ln_cd ?_
  refine cd_seq ?_
  refine cd_sr ?_
  refine ln_pv (pv_move rfl) rfl ?_
  refine ln_pv (pv_sub' rfl rfl (wrap_i64 (by omega) (by omega))) rfl ?_
  refine ln_pv (pv_assign rfl) rfl ?_
  refine ln_cd ?_
  refine cd_block ?_
  refine cd_row (i := 0) (m' := size - size) (xs' := u8s (fixedTop x size size)) rfl (by omega) (by rw [fixedTop_full]; rfl) ?_
  refine cd_loop (⟨fun (z : Nat × Value) => [(0, .int .i64 x), (5, z.2), (6, .int .i64 ((z.1 : Int) - 1))], fun (z : Nat × Value) => [.row z.2 5 1 (size - z.1) (u8s (fixedTop x size z.1))], fun (z : Nat × Value) s => z.1 ≤ size, fun (z : Nat × Value) => z.1⟩ : Lp (Nat × Value)) (size, .slice none 0 0) ?_ ?_ ?_ ?_
  · intro s0 hs0
    exact Nat.le_refl _
  · exact ⟨rfl, rfl, rfl,  trivial⟩
  · exact (.cons_cons _ .slnil)
  intro z s1 hl1 hI
  obtain ⟨k, v⟩ := z
  dsimp only at hI ⊢
  refine cd_seq ?_
  refine cd_sr ?_
  refine ln_pv (pv_move rfl) rfl ?_
  refine ln_pv (pv_geq rfl rfl) rfl ?_
  refine ln_cd ?_
  refine cd_if rfl (fun hc1 => ?_) (fun hc1 => ?_)
  · -- yes
    refine cd_skip ?_
    refine at_cd ?_
    refine cd_seq ?_
    refine cd_block ?_
    refine cd_region ?_
    refine ln_pv (pv_move rfl) rfl ?_
    refine ln_pv (pv_move rfl) rfl ?_
    refine ln_pv (pv_move rfl) rfl ?_
    refine ln_pv (pv_mul' rfl rfl (r := ((8 * (k - 1) : Nat) : Int)) (by rw [wrap_i64 (by omega) (by omega)]; omega)) rfl ?_
    refine ln_pv (pv_shr' rfl rfl (by omega) (by have : IntKind.i64.bits = 64 := rfl; omega) (r := x / 2 ^ (8 * (k - 1))) (by rw [Int.toNat_natCast])) rfl ?_
    refine ln_pv (pv_conv' Tryz.underlying2 Tryz.underlying5 rfl (wrap_u8 _)) rfl ?_
    refine ln_lit (vs := [_]) Tryz.underlying22 tiuint8 rfl (by decide) rfl rfl rfl rfl rfl rfl (fun b1 => ?_)
    refine ln_append (i := 1) rfl Tryz.underlying22 tiuint8 rfl (by decide) rfl rfl (src_obj (j := 0) rfl rfl rfl) (by first | omega | (simp only [maxLen]; omega)) (by first | omega | (simp only [maxLen]; omega)) rfl (k' := size - (k - 1)) (xs' := u8s (fixedTop x size (k - 1))) (by omega) (by rw [fixedTop_step x size (k - 1) (by omega), show k - 1 + 1 = k by omega]; simp [flat, u8v, Value.cells]) (fun v1 hv1 => ?_)
    refine ln_pv (pv_assign rfl) rfl ?_
    refine ln_nil ?_
    refine at_cd ?_
    refine cd_region ?_
    refine ln_pv (pv_move rfl) rfl ?_
    refine ln_pv (pv_sub' rfl rfl (wrap_i64 (by omega) (by omega))) rfl ?_
    refine ln_pv (pv_assign rfl) rfl ?_
    refine ln_nil ?_
    refine at_rnd (k - 1, v1) hl1 ?_ ?_ ⟨rfl, rfl, (congrArg (fun q : Int => some (Value.int .i64 q)) (by omega)),  trivial⟩ (.cons _ (.cons_cons _ .slnil))
    · intro s9 hs9
      show k - 1 ≤ size
      omega
    · dsimp only; omega
  · -- no
    refine cd_exit rfl ?_
    refine at_cd ?_
    refine cd_sr ?_
    refine ln_pv (pv_move rfl) rfl ?_
    refine ln_pv (pv_assign rfl) rfl ?_
    refine ln_cd ?_
    refine cd_ret ?_
    have hk : k = 0 := by omega
    subst hk
    refine at_retA rfl rfl (fun w hS => ?_)
    have h := own_fresh hS (i := 0) rfl
    rw [fixed_length, ← fixedTop_zero]
    exact h
theorem spec_Fixed (t : Vw) (x : Int) (size : Nat) (hs : size ≤ 8) : CA Tryz.prog 44 [.int .i64 x, .int .i64 (size : Int)] t fun u r => RSv u r (fixed x size) := (spec_Fixed_n t x size hs).ca (u8s_one _)
theorem spec_Uvarint_n (t : Vw) (n : Nat) (hn : n < 18446744073709551616) : CN Tryz.prog 26 [.int .u64 (n : Int)] t 5 1 (uvar n).length (u8s (uvar n)) := by
  have hu : (uvar n).length ≤ 10 := uvar_length_le n 9 (by omega)
  refine ca_enter Tryz.func26 rfl Tryz.ntmps26 rfl ?_
  refine cd_sr ?_
  refine ln_pv (pv_assign rfl) rfl ?_
  refine ln_cd ?_
  refine cd_nilrow 5 1 ?_
  refine cd_sr ?_
  refine ln_pv (pv_assign rfl) rfl ?_
  refine ln_cd ?_
  refine cd_seq ?_
  refine cd_block ?_
  refine cd_loop (⟨fun (z : Nat × List UInt8 × Value) => [(0, .int .u64 ((z.1 : Nat) : Int)), (3, z.2.2)], fun (z : Nat × List UInt8 × Value) => [.row z.2.2 5 1 z.2.1.length (u8s z.2.1)], fun (z : Nat × List UInt8 × Value) s => z.2.1 ++ uvar z.1 = uvar n ∧ z.1 ≤ n, fun (z : Nat × List UInt8 × Value) => z.1⟩ : Lp (Nat × List UInt8 × Value)) (n, [], .slice none 0 0) ?_ ?_ ?_ ?_
  · intro s0 hs0
    exact ⟨rfl, Nat.le_refl _⟩
  · exact ⟨rfl, rfl,  trivial⟩
  · exact (.cons_cons _ .slnil)
  intro z s1 hl1 hI
  obtain ⟨m, acc, v⟩ := z
  dsimp only at hI ⊢
  obtain ⟨hI, hm⟩ := hI
  have hl : acc.length ≤ 10 := by
    have h1 := congrArg List.length hI
    rw [List.length_append] at h1
    omega
  refine cd_seq ?_
  refine cd_sr ?_
  refine ln_pv (pv_move rfl) rfl ?_
  refine ln_pv (pv_gtr rfl rfl) rfl ?_
  refine ln_cd ?_
  refine cd_if rfl (fun hc1 => ?_) (fun hc1 => ?_)
  · -- yes
    refine cd_skip ?_
    refine at_cd ?_
    refine cd_block ?_
    refine cd_sr ?_
    refine ln_pv (pv_move rfl) rfl ?_
    refine ln_pv (pv_move rfl) rfl ?_
    refine ln_pv (pv_and' rfl rfl (and127_u64 (by omega) (by omega))) rfl ?_
    refine ln_pv (pv_conv' Tryz.underlying70 Tryz.underlying5 rfl (wrap_u8_in (by omega) (by omega))) rfl ?_
    refine ln_pv (pv_or' rfl rfl (r := ((b8 (m % 128 + 128 : Nat)).toNat : Int)) (by rw [or128_u8 (by omega) (by omega), b8_val (by omega) (by omega)]; omega)) rfl ?_
    refine ln_lit (vs := [_]) Tryz.underlying22 tiuint8 rfl (by decide) rfl rfl rfl rfl rfl rfl (fun b1 => ?_)
    refine ln_append (i := 1) rfl Tryz.underlying22 tiuint8 rfl (by decide) rfl rfl (src_obj (j := 0) rfl rfl rfl) (by first | omega | (simp only [maxLen]; omega)) (by first | omega | (simp only [maxLen]; omega)) rfl (k' := (acc ++ [b8 (m % 128 + 128 : Nat)]).length) (xs' := u8s (acc ++ [b8 (m % 128 + 128 : Nat)])) (by simp) (by simp [flat, u8v, Value.cells]) (fun v1 hv1 => ?_)
    refine ln_pv (pv_assign rfl) rfl ?_
    refine ln_cd ?_
    refine cd_region ?_
    refine ln_pv (pv_move rfl) rfl ?_
    refine ln_pv (pv_shr' rfl rfl (by decide) (by decide) (r := ((m / 128 : Nat) : Int)) (by simp)) rfl ?_
    refine ln_pv (pv_assign rfl) rfl ?_
    refine ln_nil ?_
    refine at_rnd (m / 128, acc ++ [b8 (m % 128 + 128 : Nat)], v1) hl1 ?_ ?_ ⟨rfl, rfl,  trivial⟩ (.cons _ (.cons_cons _ .slnil))
    · intro s9 hs9
      exact ⟨by rw [← hI, uvar_front acc m (by omega)], by dsimp only; omega⟩
    · dsimp only; omega
  · -- no
    refine cd_exit rfl ?_
    refine at_cd ?_
    refine cd_sr ?_
    refine ln_pv (pv_move rfl) rfl ?_
    refine ln_pv (pv_move rfl) rfl ?_
    refine ln_pv (pv_conv' Tryz.underlying70 Tryz.underlying5 rfl (wrap_u8 _)) rfl ?_
    refine ln_lit (vs := [_]) Tryz.underlying22 tiuint8 rfl (by decide) rfl rfl rfl rfl rfl rfl (fun b2 => ?_)
    refine ln_append (i := 1) rfl Tryz.underlying22 tiuint8 rfl (by decide) rfl rfl (src_obj (j := 0) rfl rfl rfl) (by first | omega | (simp only [maxLen]; omega)) (by first | omega | (simp only [maxLen]; omega)) rfl (k' := (acc ++ [b8 m]).length) (xs' := u8s (acc ++ [b8 m])) (by simp) (by simp [flat, u8v, Value.cells]) (fun v2 hv2 => ?_)
    refine ln_pv (pv_assign rfl) rfl ?_
    refine ln_cd ?_
    refine cd_ret ?_
    refine at_retA rfl rfl (fun w hS => ?_)
    have hm2 : m ≤ 127 := by omega
    have h := own_fresh hS (i := 1) rfl
    rw [uvar_lo hm2] at hI
    rw [← hI]
    exact h
theorem spec_Uvarint (t : Vw) (n : Nat) (hn : n < 18446744073709551616) : CA Tryz.prog 26 [.int .u64 (n : Int)] t fun u r => RSv u r (uvar n) := (spec_Uvarint_n t n hn).ca (u8s_one _)
theorem spec_counted_n (t : Vw) (flex null : Bool) (n size : Nat) (hn : n < 9223372036854775807) (hs : size ≤ 8) : CN Tryz.prog 42 [.bool flex, .bool null, .int .i64 (n : Int), .int .i64 (size : Int)] t 5 1 (counted flex null n size).length (u8s (counted flex null n size)) := by
  refine ca_enter Tryz.func42 rfl Tryz.ntmps42 rfl ?_
  cases flex with
  | true =>
    cases null with
    | true =>
      refine cd_sr ?_
      refine ln_pv (pv_assign rfl) rfl ?_
      refine ln_cd ?_
      refine cd_seq ?_
      refine cd_block ?_
      refine cd_sr ?_
      refine ln_pv (pv_move rfl) rfl ?_
      refine ln_pv (pv_move rfl) rfl ?_
      refine ln_gt rfl rfl rfl (pv_move rfl) rfl ?_
      refine ln_pv (pv_pick rfl (fun _ => rfl) (fun _ => rfl)) rfl ?_
      refine ln_pv (pv_assign rfl) rfl ?_
      refine ln_cd ?_
      refine cd_tt rfl ?_
      refine cd_sr ?_
      refine ln_lit (vs := [_]) Tryz.underlying22 tiuint8 rfl (by decide) rfl rfl rfl rfl rfl rfl (fun b1 => ?_)
      refine ln_pv (pv_assign rfl) rfl ?_
      refine ln_cd ?_
      refine cd_ret ?_
      refine at_retA rfl rfl (fun w hS => ?_)
      exact obj_own (l := [u8v 0]) hS (i := 0) rfl rfl (by decide)
    | false =>
      refine cd_sr ?_
      refine ln_pv (pv_assign rfl) rfl ?_
      refine ln_cd ?_
      refine cd_seq ?_
      refine cd_block ?_
      refine cd_sr ?_
      refine ln_pv (pv_move rfl) rfl ?_
      refine ln_pv (pv_move rfl) rfl ?_
      refine ln_gt rfl rfl rfl (pv_move rfl) rfl ?_
      refine ln_pv (pv_pick rfl (fun _ => rfl) (fun _ => rfl)) rfl ?_
      refine ln_pv (pv_assign rfl) rfl ?_
      refine ln_cd ?_
      refine cd_ff rfl ?_
      refine cd_sr ?_
      refine ln_pv (pv_move rfl) rfl ?_
      refine ln_pv (pv_assign rfl) rfl ?_
      refine ln_cd ?_
      refine cd_tt rfl ?_
      refine cd_sr ?_
      refine ln_pv (pv_move rfl) rfl ?_
      refine ln_pv (pv_conv' Tryz.underlying3 Tryz.underlying70 rfl (wrap_u64_in (by omega) (by omega))) rfl ?_
      refine ln_pv (pv_add' rfl rfl (r := ((n + 1 : Nat) : Int)) (by rw [wrap_u64_in (by omega) (by omega)]; omega)) rfl ?_
      refine ln_nilrow 5 1 ?_
      refine ln_callT (i := 0) en_26 rfl rfl (fun u hu hok hav => CN.ct (spec_Uvarint_n u (n + 1) (by omega))) rfl ?_
      rintro u1 v1 _ ht1 ⟨_, ⟨rfl, h1v1⟩, _⟩
      refine ln_pv (pv_assign rfl) rfl ?_
      refine ln_cd ?_
      refine cd_ret ?_
      refine at_retA rfl rfl (fun w hS => ?_)
      exact own_fresh hS (i := 0) rfl
  | false =>
    cases null with
    | true =>
      refine cd_sr ?_
      refine ln_pv (pv_assign rfl) rfl ?_
      refine ln_cd ?_
      refine cd_seq ?_
      refine cd_block ?_
      refine cd_sr ?_
      refine ln_pv (pv_move rfl) rfl ?_
      refine ln_pv (pv_move rfl) rfl ?_
      refine ln_gf rfl rfl rfl rfl rfl ?_
      refine ln_pv (pv_pick rfl (fun _ => rfl) (fun _ => rfl)) rfl ?_
      refine ln_pv (pv_assign rfl) rfl ?_
      refine ln_cd ?_
      refine cd_ff rfl ?_
      refine cd_sr ?_
      refine ln_pv (pv_move rfl) rfl ?_
      refine ln_pv (pv_assign rfl) rfl ?_
      refine ln_cd ?_
      refine cd_ff rfl ?_
      refine cd_sr ?_
      refine ln_pv (pv_move rfl) rfl ?_
      refine ln_pv (pv_assign rfl) rfl ?_
      refine ln_cd ?_
      refine cd_tt rfl ?_
      refine cd_sr ?_
      refine ln_pv (pv_move rfl) rfl ?_
      refine ln_nilrow 5 1 ?_
      refine ln_callT (i := 0) en_44 rfl rfl (fun u hu hok hav => CN.ct (spec_Fixed_n u (-1) size hs)) rfl ?_
      rintro u1 v1 _ ht1 ⟨_, ⟨rfl, h1v1⟩, _⟩
      refine ln_pv (pv_assign rfl) rfl ?_
      refine ln_cd ?_
      refine cd_ret ?_
      refine at_retA rfl rfl (fun w hS => ?_)
      exact own_fresh hS (i := 0) rfl
    | false =>
      refine cd_sr ?_
      refine ln_pv (pv_assign rfl) rfl ?_
      refine ln_cd ?_
      refine cd_seq ?_
      refine cd_block ?_
      refine cd_sr ?_
      refine ln_pv (pv_move rfl) rfl ?_
      refine ln_pv (pv_move rfl) rfl ?_
      refine ln_gf rfl rfl rfl rfl rfl ?_
      refine ln_pv (pv_pick rfl (fun _ => rfl) (fun _ => rfl)) rfl ?_
      refine ln_pv (pv_assign rfl) rfl ?_
      refine ln_cd ?_
      refine cd_ff rfl ?_
      refine cd_sr ?_
      refine ln_pv (pv_move rfl) rfl ?_
      refine ln_pv (pv_assign rfl) rfl ?_
      refine ln_cd ?_
      refine cd_ff rfl ?_
      refine cd_sr ?_
      refine ln_pv (pv_move rfl) rfl ?_
      refine ln_pv (pv_assign rfl) rfl ?_
      refine ln_cd ?_
      refine cd_ff rfl ?_
      refine cd_skip ?_
      refine at_cd ?_
      refine cd_sr ?_
      refine ln_pv (pv_move rfl) rfl ?_
      refine ln_pv (pv_move rfl) rfl ?_
      refine ln_nilrow 5 1 ?_
      refine ln_callT (i := 0) en_44 rfl rfl (fun u hu hok hav => CN.ct (spec_Fixed_n u (n : Int) size hs)) rfl ?_
      rintro u1 v1 _ ht1 ⟨_, ⟨rfl, h1v1⟩, _⟩
      refine ln_pv (pv_assign rfl) rfl ?_
      refine ln_cd ?_
      refine cd_ret ?_
      refine at_retA rfl rfl (fun w hS => ?_)
      exact own_fresh hS (i := 0) rfl
theorem laws_zzFits3 (t : Vw) (k : Value) (v : Value) (b : List UInt8) (hb : RSv t v b) : CS Tryz.prog 19 [.agg #[k, v]] t (.bool (fits3 (0, b))) := by
  obtain ⟨ad, c, rfl, hle⟩ := hb.shape
  refine CA.cs ?_
  refine ca_enter Tryz.func19 rfl Tryz.ntmps19 rfl ?_
  refine cd_sr ?_
  refine ln_box rfl rfl rfl (fun b1 => ?_)
  refine ln_pv (pv_assign rfl) rfl ?_
  refine ln_cd ?_
  refine cd_seq ?_
  refine cd_sr ?_
  refine ln_pv (pv_fieldAddr (off := 1) (r := 1) Tryz.underlying55 rfl (tiSl_uint8).size rfl rfl rfl) rfl ?_
  refine ln_pv (pv_ldo (i := 0) rfl Tryz.underlying22 rfl rfl rfl) rfl ?_
  refine ln_pv (pv_len_slice Tryz.underlying22 rfl) rfl ?_
  refine ln_pv (pv_gtr rfl rfl) rfl ?_
  refine ln_cd ?_
  refine cd_if rfl (fun hc1 => ?_) (fun hc1 => ?_)
  · -- yes
    refine cd_sr ?_
    refine ln_pv (pv_assign rfl) rfl ?_
    refine ln_cd ?_
    refine cd_ret ?_
    refine at_retA rfl rfl (fun w hS => ?_)
    simp [fits3]; omega
  · -- no
    refine cd_skip ?_
    refine at_cd ?_
    refine cd_sr ?_
    refine ln_pv (pv_assign rfl) rfl ?_
    refine ln_cd ?_
    refine cd_ret ?_
    refine at_retA rfl rfl (fun w hS => ?_)
    simp [fits3]; omega
theorem laws_zzFits2 (t : Vw) (v : Value) (ul : List (Nat × List UInt8)) (hU : RU t v ul) (hm : ul.length ≤ 4611686018427387904) : CS Tryz.prog 11 [v] t (.bool (decide (ul.length ≤ 2147483647) && ul.all fits3)) := by
  obtain ⟨uc, hV, hUs⟩ := hU
  obtain ⟨ad, c, rfl, hle⟩ := hV.shape
  refine CA.cs ?_
  refine ca_enter Tryz.func11 rfl Tryz.ntmps11 rfl ?_
  refine cd_sr ?_
  refine ln_pv (pv_assign rfl) rfl ?_
  refine ln_cd ?_
  refine cd_seq ?_
  refine cd_sr ?_
  refine ln_pv (pv_move rfl) rfl ?_
  refine ln_pv (pv_len_slice Tryz.underlying24 rfl) rfl ?_
  refine ln_pv (pv_gtr rfl rfl) rfl ?_
  refine ln_cd ?_
  refine cd_if rfl (fun hc1 => ?_) (fun hc1 => ?_)
  · -- yes
    refine cd_sr ?_
    refine ln_pv (pv_assign rfl) rfl ?_
    refine ln_cd ?_
    refine cd_ret ?_
    refine at_retA rfl rfl (fun w hS => ?_)
    have h : ¬ ul.length ≤ 2147483647 := by omega
    simp [h]
  · -- no
    refine cd_skip ?_
    refine at_cd ?_
    refine cd_seq ?_
    refine cd_sr ?_
    refine ln_pv (pv_move rfl) rfl ?_
    refine ln_pv (pv_len_slice Tryz.underlying24 rfl) rfl ?_
    refine ln_pv (pv_move rfl) rfl ?_
    refine ln_cd ?_
    refine cd_block ?_
    refine cd_loop (⟨fun (z : Nat) => [(8, .slice ad ul.length c), (9, .int .i64 (ul.length : Int)), (10, .int .i64 ((z : Nat) : Int))], fun (z : Nat) => [], fun (z : Nat) s => z ≤ ul.length ∧ (ul.take z).all fits3 = true, fun (z : Nat) => ul.length - z⟩ : Lp (Nat)) 0 ?_ ?_ ?_ ?_
    · intro s0 hs0
      exact ⟨Nat.zero_le _, rfl⟩
    · exact ⟨rfl, rfl, rfl,  trivial⟩
    · exact .slnil
    intro i s1 hl1 hI
    dsimp only at hI ⊢
    have hV := hV.mv hl1
    have hUs := hUs.mv hl1
    obtain ⟨hI, hall⟩ := hI
    refine cd_sr ?_
    refine ln_pv (pv_lss rfl rfl) rfl ?_
    refine ln_cd ?_
    refine cd_seq ?_
    refine cd_if rfl (fun hc2 => ?_) (fun hc2 => ?_)
    · -- yes
      refine cd_skip ?_
      refine at_cd ?_
      refine cd_seq ?_
      refine cd_block ?_
      have hi : i < ul.length := by omega
      obtain ⟨b0, o0, rfl, hrc⟩ := hV.pos (by omega) (by decide)
      obtain ⟨c1, tv, c3, he, hk, hkk, hTv⟩ := RUs.at_ hi hUs
      have hsub := hrc.sub (i * 2) he hk
      refine cd_sr ?_
      refine ln_pv (pv_ixN Tryz.underlying24 tispec_Tag.size rfl rfl hi) rfl ?_
      refine ln_pv (pv_ldR hsub Tryz.underlying55 rfl (tispec_Tag).size rfl rfl) rfl ?_
      refine ln_alloc tispec_Tag rfl rfl (fun b1 => ?_)
      refine ln_storeW (i := 0) rfl rfl rfl rfl (tispec_Tag).size rfl (by simp [(RS.one hTv)]) ?_
      refine ln_cd ?_
      refine cd_sr ?_
      refine ln_pv (pv_ldO (i := 0) rfl Tryz.underlying55 rfl (tispec_Tag).size rfl rfl) rfl ?_
      refine ln_callS en_19 rfl (fun u hu => laws_zzFits3 u _ _ _ (hTv.mv hu)) rfl ?_
      refine ln_pv (pv_not rfl) rfl ?_
      refine ln_cd ?_
      refine cd_cond rfl (fun hc3 => ?_) (fun hc3 => ?_)
      · -- yes
        refine cd_sr ?_
        refine ln_pv (pv_assign rfl) rfl ?_
        refine ln_cd ?_
        refine cd_ret ?_
        refine at_retA rfl rfl (fun w hS => ?_)
        have hf : fits3 (0, ul[i].2) = false := by simpa using hc3
        have h : ul.all fits3 = false := by
          rw [Bool.eq_false_iff]
          intro h
          have := List.all_eq_true.1 h _ (List.getElem_mem hi)
          rw [show fits3 ul[i] = fits3 (0, ul[i].2) from rfl, hf] at this
          cases this
        simp [h]
      · -- no
        refine cd_skip ?_
        refine at_cd ?_
        refine cd_region ?_
        refine ln_pv (pv_add' rfl rfl (wrap_succ (by omega))) rfl ?_
        refine ln_pv (pv_move rfl) rfl ?_
        refine ln_nil ?_
        refine at_rnd (i + 1) hl1 ?_ ?_ ⟨rfl, rfl, rfl,  trivial⟩ (.cons _ .slnil)
        · intro s9 hs9
          refine ⟨by omega, ?_⟩
          rw [take_snoc' hi, List.all_append, hall]
          have h : fits3 (0, ul[i].2) = true := by simpa using hc3
          simp only [List.all_cons, List.all_nil, Bool.and_true, Bool.true_and]
          exact h
        · dsimp only; omega
    · -- no
      refine cd_exit rfl ?_
      refine at_cd ?_
      refine cd_sr ?_
      refine ln_pv (pv_assign rfl) rfl ?_
      refine ln_cd ?_
      refine cd_ret ?_
      refine at_retA rfl rfl (fun w hS => ?_)
      have h1 : ul.length ≤ 2147483647 := by omega
      have h2 : i = ul.length := by omega
      subst h2
      rw [List.take_length] at hall
      simp [h1, hall]
theorem laws_zzFits1 (t : Vw) (x : Tre) (cs : List Value) (hx : RT t x cs) (hm : x.u.length ≤ 4611686018427387904) : CS Tryz.prog 4 [.agg cs.toArray] t (.bool (fits1 x)) := by
  obtain ⟨sS, sL, sU, rfl, hn, hS, ⟨lc, hL, hLs⟩, hU⟩ := hx.open
  obtain ⟨ad, c, rfl, hle⟩ := hS.shape
  obtain ⟨ad2, c2, rfl, hle2⟩ := hL.shape
  refine CA.cs ?_
  refine ca_enter Tryz.func4 rfl Tryz.ntmps4 rfl ?_
  refine cd_sr ?_
  refine ln_box rfl rfl rfl (fun b1 => ?_)
  refine ln_pv (pv_assign rfl) rfl ?_
  refine ln_cd ?_
  refine cd_seq ?_
  refine cd_sr ?_
  refine ln_pv (pv_fieldAddr (off := 1) (r := 1) Tryz.underlying26 rfl (tiSl_uint8).size rfl rfl rfl) rfl ?_
  refine ln_pv (pv_ldo (i := 0) rfl Tryz.underlying22 rfl rfl rfl) rfl ?_
  refine ln_pv (pv_len_slice Tryz.underlying22 rfl) rfl ?_
  refine ln_pv (pv_gtr rfl rfl) rfl ?_
  refine ln_cd ?_
  refine cd_if rfl (fun hc1 => ?_) (fun hc1 => ?_)
  · -- yes
    refine cd_sr ?_
    refine ln_pv (pv_assign rfl) rfl ?_
    refine ln_cd ?_
    refine cd_ret ?_
    refine at_retA rfl rfl (fun w hS => ?_)
    have h : ¬ x.s.length ≤ 2147483647 := by omega
    simp [fits1, h]
  · -- no
    refine cd_skip ?_
    refine at_cd ?_
    refine cd_seq ?_
    refine cd_sr ?_
    refine ln_pv (pv_fieldAddr (off := 3) (r := 3) Tryz.underlying26 rfl (tiSl_spec_Tree).size rfl rfl rfl) rfl ?_
    refine ln_pv (pv_ldo (i := 0) rfl Tryz.underlying23 rfl rfl rfl) rfl ?_
    refine ln_pv (pv_len_slice Tryz.underlying23 rfl) rfl ?_
    refine ln_pv (pv_gtr rfl rfl) rfl ?_
    refine ln_cd ?_
    refine cd_if rfl (fun hc2 => ?_) (fun hc2 => ?_)
    · -- yes
      refine cd_sr ?_
      refine ln_pv (pv_assign rfl) rfl ?_
      refine ln_cd ?_
      refine cd_ret ?_
      refine at_retA rfl rfl (fun w hS => ?_)
      have h : ¬ x.l.length ≤ 2147483647 := by omega
      simp [fits1, h]
    · -- no
      refine cd_skip ?_
      refine at_cd ?_
      refine cd_seq ?_
      refine cd_sr ?_
      refine ln_pv (pv_fieldAddr (off := 4) (r := 4) Tryz.underlying26 rfl (tiSl_spec_Tag).size rfl rfl rfl) rfl ?_
      refine ln_pv (pv_ldo (i := 0) rfl Tryz.underlying24 rfl rfl rfl) rfl ?_
      refine ln_callS en_11 rfl (fun u hu => laws_zzFits2 u _ _ (hU.mv hu) hm) rfl ?_
      refine ln_pv (pv_not rfl) rfl ?_
      refine ln_cd ?_
      refine cd_cond rfl (fun hc3 => ?_) (fun hc3 => ?_)
      · -- yes
        refine cd_sr ?_
        refine ln_pv (pv_assign rfl) rfl ?_
        refine ln_cd ?_
        refine cd_ret ?_
        refine at_retA rfl rfl (fun w hS => ?_)
        have h := hc3
        simp only [Bool.not_eq_true'] at h
        simp only [fits1, h, Bool.and_false]
      · -- no
        refine cd_skip ?_
        refine at_cd ?_
        refine cd_sr ?_
        refine ln_pv (pv_assign rfl) rfl ?_
        refine ln_cd ?_
        refine cd_ret ?_
        refine at_retA rfl rfl (fun w hS => ?_)
        have h1 : x.s.length ≤ 2147483647 := by omega
        have h2 : x.l.length ≤ 2147483647 := by omega
        have h3 : (decide (x.u.length ≤ 2147483647) && x.u.all fits3) = true := by simpa using hc3
        simp only [fits1, h1, h2, h3, decide_true, Bool.and_self]
theorem u8s_at {l : List UInt8} {i : Nat} (h : i < l.length) : (u8s l)[i * 1]? = some (u8v l[i]) := by simp [u8s, h]
theorem spec_Same (t : Vw) (va vb : Value) (a b : List UInt8) (ha : RSv t va a) (hb : RSv t vb b) (hm : a.length < 4611686018427387904) : CS Tryz.prog 10 [va, vb] t (.bool (decide (a = b))) := by
  obtain ⟨ad, c, rfl, hle⟩ := ha.shape
  obtain ⟨ad2, c2, rfl, hle2⟩ := hb.shape
  refine CA.cs ?_
  refine ca_enter Tryz.func10 rfl Tryz.ntmps10 rfl ?_
  refine cd_sr ?_
  refine ln_pv (pv_assign rfl) rfl ?_
  refine ln_cd ?_
  refine cd_seq ?_
  refine cd_sr ?_
  refine ln_pv (pv_move rfl) rfl ?_
  refine ln_pv (pv_len_slice Tryz.underlying22 rfl) rfl ?_
  refine ln_pv (pv_move rfl) rfl ?_
  refine ln_pv (pv_len_slice Tryz.underlying22 rfl) rfl ?_
  refine ln_pv (pv_neq rfl rfl) rfl ?_
  refine ln_cd ?_
  refine cd_if rfl (fun hc1 => ?_) (fun hc1 => ?_)
  · -- yes
    refine cd_sr ?_
    refine ln_pv (pv_assign rfl) rfl ?_
    refine ln_cd ?_
    refine cd_ret ?_
    refine at_retA rfl rfl (fun w hS => ?_)
    have h : ¬ a = b := by rintro rfl; exact hc1 rfl
    simp [h]
  · -- no
    refine cd_skip ?_
    refine at_cd ?_
    refine cd_seq ?_
    refine cd_sr ?_
    refine ln_pv (pv_move rfl) rfl ?_
    refine ln_pv (pv_len_slice Tryz.underlying22 rfl) rfl ?_
    refine ln_pv (pv_move rfl) rfl ?_
    refine ln_cd ?_
    refine cd_block ?_
    refine cd_loop (⟨fun (z : Nat) => [(0, .slice ad a.length c), (1, .slice ad2 b.length c2), (12, .int .i64 (a.length : Int)), (13, .int .i64 ((z : Nat) : Int))], fun (z : Nat) => [], fun (z : Nat) s => z ≤ a.length ∧ a.take z = b.take z, fun (z : Nat) => a.length - z⟩ : Lp (Nat)) 0 ?_ ?_ ?_ ?_
    · intro s0 hs0
      exact ⟨Nat.zero_le _, rfl⟩
    · exact ⟨rfl, rfl, rfl, rfl,  trivial⟩
    · exact .slnil
    intro i s1 hl1 hI
    dsimp only at hI ⊢
    have ha := ha.mv hl1
    have hb := hb.mv hl1
    obtain ⟨hI, hall⟩ := hI
    refine cd_sr ?_
    refine ln_pv (pv_lss rfl rfl) rfl ?_
    refine ln_cd ?_
    refine cd_seq ?_
    refine cd_if rfl (fun hc2 => ?_) (fun hc2 => ?_)
    · -- yes
      refine cd_skip ?_
      refine at_cd ?_
      refine cd_seq ?_
      refine cd_block ?_
      have hi : i < a.length := by omega
      have hi2 : i < b.length := by omega
      obtain ⟨b0, o0, rfl, hra⟩ := RS.pos ha (by omega) (by decide)
      obtain ⟨b1, o1, rfl, hrb⟩ := RS.pos hb (by omega) (by decide)
      refine cd_sr ?_
      refine ln_pv (pv_move rfl) rfl ?_
      refine ln_pv (pv_assign rfl) rfl ?_
      refine ln_cd ?_
      refine cd_dr' [] [0, 1, 2, 3, 4, 5, 6, 7, 8] [0, 1, 2, 3, 4, 5, 6, 7, 8] mixed (by kernel_rfl) ?_
      refine lo_pv rfl rfl (sk_js (Tr.refl _) [] rfl) (pv_move rfl) rfl ?_
      refine lo_pv rfl rfl (sk_js (Tr.refl _) [] rfl) (pv_move rfl) rfl ?_
      refine lo_pv rfl rfl (sk_js (Tr.refl _) [] rfl) (pv_ixN Tryz.underlying22 tiuint8.size rfl rfl hi) rfl ?_
      refine lo_pv rfl rfl (sk_js (Tr.refl _) [] rfl) (pv_ldr (j := i * 1) hra Tryz.underlying5 rfl rfl (u8s_at hi)) rfl ?_
      refine lo_pv rfl rfl (sk_js (Tr.refl _) [] rfl) (pv_move rfl) rfl ?_
      refine lo_pv rfl rfl (sk_js (Tr.refl _) [] rfl) (pv_move rfl) rfl ?_
      refine lo_pv rfl rfl (sk_js (Tr.refl _) [] rfl) (pv_ixN Tryz.underlying22 tiuint8.size rfl rfl hi2) rfl ?_
      refine lo_pv rfl rfl (sk_js (Tr.refl _) [] rfl) (pv_ldr (j := i * 1) hrb Tryz.underlying5 rfl rfl (u8s_at hi2)) rfl ?_
      refine lo_pv rfl rfl (sk_js (Tr.refl _) [] rfl) (pv_neq rfl rfl) rfl ?_
      refine lo_cd ?_
      refine cd_if rfl (fun hc3 => ?_) (fun hc3 => ?_)
      · -- yes
        refine cd_sr ?_
        refine ln_pv (pv_assign rfl) rfl ?_
        refine ln_cd ?_
        refine cd_ret ?_
        refine at_retA rfl rfl (fun w hS => ?_)
        have h : ¬ a = b := by rintro rfl; exact hc3 rfl
        simp [h]
      · -- no
        refine cd_skip ?_
        refine at_cd ?_
        refine cd_region ?_
        refine ln_pv (pv_add' rfl rfl (wrap_succ (by omega))) rfl ?_
        refine ln_pv (pv_move rfl) rfl ?_
        refine ln_nil ?_
        refine at_rnd (i + 1) hl1 ?_ ?_ ⟨rfl, rfl, rfl, rfl,  trivial⟩ .slnil
        · intro s9 hs9
          refine ⟨by omega, ?_⟩
          have e : a[i] = b[i] := UInt8.toNat_inj.1 (by omega)
          rw [take_snoc' hi, take_snoc' hi2, hall, e]
        · dsimp only; omega
    · -- no
      refine cd_exit rfl ?_
      refine at_cd ?_
      refine cd_sr ?_
      refine ln_pv (pv_assign rfl) rfl ?_
      refine ln_cd ?_
      refine cd_ret ?_
      refine at_retA rfl rfl (fun w hS => ?_)
      have e : i = a.length := by omega
      subst e
      have hl : a.length = b.length := by omega
      rw [List.take_length, hl, List.take_length] at hall
      simp [hall]
end K
end Go.Proofs.YtepbicjadambbabGreatDoor
