import Derived.Test.YtjjfpdofkdolnaaDoorS1
set_option linter.unusedVariables false
set_option linter.unusedSimpArgs false
namespace Go.Proofs.YtjjfpdofkdolnaaDoor
namespace K
open Go Go.Lib
theorem spec_width (t : Vw) (k : Int) : CS Tryd.prog 175 [.int .i64 k] t (.int .i64 ((widthN k : Nat) : Int)) := by
  refine CA.cs ?_
  refine ca_enter Tryd.func175 rfl Tryd.ntmps175 rfl ?_
  by_cases h0 : k = 1
  · skip
    refine cd_sr ?_
    refine ln_pv (pv_assign rfl) rfl ?_
    refine ln_cd ?_
    refine cd_seq ?_
    refine cd_sr ?_
    refine ln_pv (pv_move rfl) rfl ?_
    refine ln_cd ?_
    refine cd_block ?_
    refine cd_sr ?_
    refine ln_pv (pv_tt (pv_eql rfl rfl) h0) rfl ?_
    refine ln_pv (pv_assign rfl) rfl ?_
    refine ln_cd ?_
    refine cd_tt rfl ?_
    refine cd_sr ?_
    refine ln_pv (pv_assign rfl) rfl ?_
    refine ln_cd ?_
    refine cd_ret ?_
    refine at_retA rfl rfl (fun w hS => ?_)
    simp [widthN, h0]
  by_cases h1 : k = 2
  · skip
    refine cd_sr ?_
    refine ln_pv (pv_assign rfl) rfl ?_
    refine ln_cd ?_
    refine cd_seq ?_
    refine cd_sr ?_
    refine ln_pv (pv_move rfl) rfl ?_
    refine ln_cd ?_
    refine cd_block ?_
    refine cd_sr ?_
    refine ln_pv (pv_ff (pv_eql rfl rfl) h0) rfl ?_
    refine ln_pv (pv_assign rfl) rfl ?_
    refine ln_cd ?_
    refine cd_ff rfl ?_
    refine cd_seq ?_
    refine cd_sr ?_
    refine ln_pv (pv_tt (pv_eql rfl rfl) h1) rfl ?_
    refine ln_pv (pv_assign rfl) rfl ?_
    refine ln_cd ?_
    refine cd_tt rfl ?_
    refine cd_skip ?_
    refine at_cd ?_
    refine cd_tt rfl ?_
    refine cd_sr ?_
    refine ln_pv (pv_assign rfl) rfl ?_
    refine ln_cd ?_
    refine cd_ret ?_
    refine at_retA rfl rfl (fun w hS => ?_)
    simp [widthN, h0, h1]
  by_cases h2 : k = 5
  · skip
    refine cd_sr ?_
    refine ln_pv (pv_assign rfl) rfl ?_
    refine ln_cd ?_
    refine cd_seq ?_
    refine cd_sr ?_
    refine ln_pv (pv_move rfl) rfl ?_
    refine ln_cd ?_
    refine cd_block ?_
    refine cd_sr ?_
    refine ln_pv (pv_ff (pv_eql rfl rfl) h0) rfl ?_
    refine ln_pv (pv_assign rfl) rfl ?_
    refine ln_cd ?_
    refine cd_ff rfl ?_
    refine cd_seq ?_
    refine cd_sr ?_
    refine ln_pv (pv_ff (pv_eql rfl rfl) h1) rfl ?_
    refine ln_pv (pv_assign rfl) rfl ?_
    refine ln_cd ?_
    refine cd_ff rfl ?_
    refine cd_region ?_
    refine ln_pv (pv_tt (pv_eql rfl rfl) h2) rfl ?_
    refine ln_pv (pv_assign rfl) rfl ?_
    refine ln_nil ?_
    refine at_cd ?_
    refine cd_tt rfl ?_
    refine cd_sr ?_
    refine ln_pv (pv_assign rfl) rfl ?_
    refine ln_cd ?_
    refine cd_ret ?_
    refine at_retA rfl rfl (fun w hS => ?_)
    simp [widthN, h0, h1, h2]
  by_cases h3 : k = 3
  · skip
    refine cd_sr ?_
    refine ln_pv (pv_assign rfl) rfl ?_
    refine ln_cd ?_
    refine cd_seq ?_
    refine cd_sr ?_
    refine ln_pv (pv_move rfl) rfl ?_
    refine ln_cd ?_
    refine cd_block ?_
    refine cd_sr ?_
    refine ln_pv (pv_ff (pv_eql rfl rfl) h0) rfl ?_
    refine ln_pv (pv_assign rfl) rfl ?_
    refine ln_cd ?_
    refine cd_ff rfl ?_
    refine cd_seq ?_
    refine cd_sr ?_
    refine ln_pv (pv_ff (pv_eql rfl rfl) h1) rfl ?_
    refine ln_pv (pv_assign rfl) rfl ?_
    refine ln_cd ?_
    refine cd_ff rfl ?_
    refine cd_region ?_
    refine ln_pv (pv_ff (pv_eql rfl rfl) h2) rfl ?_
    refine ln_pv (pv_assign rfl) rfl ?_
    refine ln_nil ?_
    refine at_cd ?_
    refine cd_ff rfl ?_
    refine cd_sr ?_
    refine ln_pv (pv_tt (pv_eql rfl rfl) h3) rfl ?_
    refine ln_pv (pv_assign rfl) rfl ?_
    refine ln_cd ?_
    refine cd_tt rfl ?_
    refine cd_sr ?_
    refine ln_pv (pv_assign rfl) rfl ?_
    refine ln_cd ?_
    refine cd_ret ?_
    refine at_retA rfl rfl (fun w hS => ?_)
    simp [widthN, h0, h1, h2, h3]
  refine cd_sr ?_
  refine ln_pv (pv_assign rfl) rfl ?_
  refine ln_cd ?_
  refine cd_seq ?_
  refine cd_sr ?_
  refine ln_pv (pv_move rfl) rfl ?_
  refine ln_cd ?_
  refine cd_block ?_
  refine cd_sr ?_
  refine ln_pv (pv_ff (pv_eql rfl rfl) h0) rfl ?_
  refine ln_pv (pv_assign rfl) rfl ?_
  refine ln_cd ?_
  refine cd_ff rfl ?_
  refine cd_seq ?_
  refine cd_sr ?_
  refine ln_pv (pv_ff (pv_eql rfl rfl) h1) rfl ?_
  refine ln_pv (pv_assign rfl) rfl ?_
  refine ln_cd ?_
  refine cd_ff rfl ?_
  refine cd_region ?_
  refine ln_pv (pv_ff (pv_eql rfl rfl) h2) rfl ?_
  refine ln_pv (pv_assign rfl) rfl ?_
  refine ln_nil ?_
  refine at_cd ?_
  refine cd_ff rfl ?_
  refine cd_sr ?_
  refine ln_pv (pv_ff (pv_eql rfl rfl) h3) rfl ?_
  refine ln_pv (pv_assign rfl) rfl ?_
  refine ln_cd ?_
  refine cd_ff rfl ?_
  refine cd_skip ?_
  refine at_cd ?_
  refine cd_sr ?_
  refine ln_pv (pv_assign rfl) rfl ?_
  refine ln_cd ?_
  refine cd_ret ?_
  refine at_retA rfl rfl (fun w hS => ?_)
  simp [widthN, h0, h1, h2, h3]
theorem spec_Fixed_n (t : Vw) (x : Int) (size : Nat) (hs : size ≤ 8) : CN Tryd.prog 75 [.int .i64 x, .int .i64 (size : Int)] t 5 1 (fixed x size).length (u8s (fixed x size)) := by
  refine ca_enter Tryd.func75 rfl Tryd.ntmps75 rfl ?_
  refine cd_sr ?_
  refine ln_pv (pv_assign rfl) rfl ?_
  refine ln_cd ?_
  refine cd_nilrow 5 1 ?_
  refine cd_sr ?_
  refine ln_pv (pv_assign rfl) rfl ?_
  refine ln_cd ?_
  refine cd_seq ?_
  refine cd_sr ?_
  refine ln_pv (pv_move rfl) rfl ?_
  refine ln_pv (pv_sub' rfl rfl (wrap_i64 (by omega) (by omega))) rfl ?_
  refine ln_pv (pv_assign rfl) rfl ?_
  refine ln_cd ?_
  refine cd_block ?_
  refine cd_row (i := 0) (m' := size - size) (xs' := u8s (fixedTop x size size)) rfl (by omega) (by rw [fixedTop_full]; rfl) ?_
  refine cd_loop (⟨fun (z : Nat × Value) => [(0, .int .i64 x), (5, z.2), (6, .int .i64 ((z.1 : Int) - 1))], fun (z : Nat × Value) => [.row z.2 5 1 (size - z.1) (u8s (fixedTop x size z.1))], fun (z : Nat × Value) s => z.1 ≤ size, fun (z : Nat × Value) => z.1⟩ : Lp (Nat × Value)) (size, .slice none 0 0) ?_ ?_ ?_ ?_
  · intro s0 hs0
    exact Nat.le_refl _
  · exact ⟨rfl, rfl, rfl,  trivial⟩
  · exact (.cons_cons _ .slnil)
  intro z s1 hl1 hI
  obtain ⟨k, v⟩ := z
  dsimp only at hI ⊢
  refine cd_seq ?_
  refine cd_sr ?_
  refine ln_pv (pv_move rfl) rfl ?_
  refine ln_pv (pv_geq rfl rfl) rfl ?_
  refine ln_cd ?_
  refine cd_if rfl (fun hc1 => ?_) (fun hc1 => ?_)
  · -- yes
    refine cd_skip ?_
    refine at_cd ?_
    refine cd_seq ?_
    refine cd_block ?_
    refine cd_region ?_
    refine ln_pv (pv_move rfl) rfl ?_
    refine ln_pv (pv_move rfl) rfl ?_
    refine ln_pv (pv_move rfl) rfl ?_
    refine ln_pv (pv_mul' rfl rfl (r := ((8 * (k - 1) : Nat) : Int)) (by rw [wrap_i64 (by omega) (by omega)]; omega)) rfl ?_
    refine ln_pv (pv_shr' rfl rfl (by omega) (by have : IntKind.i64.bits = 64 := rfl; omega) (r := x / 2 ^ (8 * (k - 1))) (by rw [Int.toNat_natCast])) rfl ?_
    refine ln_pv (pv_conv' Tryd.underlying2 Tryd.underlying5 rfl (wrap_u8 _)) rfl ?_
    refine ln_lit (vs := [_]) Tryd.underlying22 tiuint8 rfl (by decide) rfl rfl rfl rfl rfl rfl (fun b1 => ?_)
    refine ln_append (i := 1) rfl Tryd.underlying22 tiuint8 rfl (by decide) rfl rfl (src_obj (j := 0) rfl rfl rfl) (by first | omega | (simp only [maxLen]; omega)) (by first | omega | (simp only [maxLen]; omega)) rfl (k' := size - (k - 1)) (xs' := u8s (fixedTop x size (k - 1))) (by omega) (by rw [fixedTop_step x size (k - 1) (by omega), show k - 1 + 1 = k by omega]; simp [flat, u8v, Value.cells]) (fun v1 hv1 => ?_)
    refine ln_pv (pv_assign rfl) rfl ?_
    refine ln_nil ?_
    refine at_cd ?_
    refine cd_region ?_
    refine ln_pv (pv_move rfl) rfl ?_
    refine ln_pv (pv_sub' rfl rfl (wrap_i64 (by omega) (by omega))) rfl ?_
    refine ln_pv (pv_assign rfl) rfl ?_
    refine ln_nil ?_
    refine at_rnd (k - 1, v1) hl1 ?_ ?_ ⟨rfl, rfl, (congrArg (fun q : Int => some (Value.int .i64 q)) (by omega)),  trivial⟩ (.cons _ (.cons_cons _ .slnil))
    · intro s9 hs9
      show k - 1 ≤ size
      omega
    · dsimp only; omega
  · -- no
    refine cd_exit rfl ?_
    refine at_cd ?_
    refine cd_sr ?_
    refine ln_pv (pv_move rfl) rfl ?_
    refine ln_pv (pv_assign rfl) rfl ?_
    refine ln_cd ?_
    refine cd_ret ?_
    have hk : k = 0 := by omega
    subst hk
    refine at_retA rfl rfl (fun w hS => ?_)
    have h := own_fresh hS (i := 0) rfl
    rw [fixed_length, ← fixedTop_zero]
    exact h
theorem spec_Fixed (t : Vw) (x : Int) (size : Nat) (hs : size ≤ 8) : CA Tryd.prog 75 [.int .i64 x, .int .i64 (size : Int)] t fun u r => RSv u r (fixed x size) := (spec_Fixed_n t x size hs).ca (u8s_one _)
theorem spec_Uvarint_n (t : Vw) (n : Nat) (hn : n < 18446744073709551616) : CN Tryd.prog 154 [.int .u64 (n : Int)] t 5 1 (uvar n).length (u8s (uvar n)) := by
  have hu : (uvar n).length ≤ 10 := uvar_length_le n 9 (by omega)
  refine ca_enter Tryd.func154 rfl Tryd.ntmps154 rfl ?_
  refine cd_sr ?_
  refine ln_pv (pv_assign rfl) rfl ?_
  refine ln_cd ?_
  refine cd_nilrow 5 1 ?_
  refine cd_sr ?_
  refine ln_pv (pv_assign rfl) rfl ?_
  refine ln_cd ?_
  refine cd_seq ?_
  refine cd_block ?_
  refine cd_loop (⟨fun (z : Nat × List UInt8 × Value) => [(0, .int .u64 ((z.1 : Nat) : Int)), (3, z.2.2)], fun (z : Nat × List UInt8 × Value) => [.row z.2.2 5 1 z.2.1.length (u8s z.2.1)], fun (z : Nat × List UInt8 × Value) s => z.2.1 ++ uvar z.1 = uvar n ∧ z.1 ≤ n, fun (z : Nat × List UInt8 × Value) => z.1⟩ : Lp (Nat × List UInt8 × Value)) (n, [], .slice none 0 0) ?_ ?_ ?_ ?_
  · intro s0 hs0
    exact ⟨rfl, Nat.le_refl _⟩
  · exact ⟨rfl, rfl,  trivial⟩
  · exact (.cons_cons _ .slnil)
  intro z s1 hl1 hI
  obtain ⟨m, acc, v⟩ := z
  dsimp only at hI ⊢
  obtain ⟨hI, hm⟩ := hI
  have hl : acc.length ≤ 10 := by
    have h1 := congrArg List.length hI
    rw [List.length_append] at h1
    omega
  refine cd_seq ?_
  refine cd_sr ?_
  refine ln_pv (pv_move rfl) rfl ?_
  refine ln_pv (pv_gtr rfl rfl) rfl ?_
  refine ln_cd ?_
  refine cd_if rfl (fun hc1 => ?_) (fun hc1 => ?_)
  · -- yes
    refine cd_skip ?_
    refine at_cd ?_
    refine cd_block ?_
    refine cd_sr ?_
    refine ln_pv (pv_move rfl) rfl ?_
    refine ln_pv (pv_move rfl) rfl ?_
    refine ln_pv (pv_and' rfl rfl (and127_u64 (by omega) (by omega))) rfl ?_
    refine ln_pv (pv_conv' Tryd.underlying180 Tryd.underlying5 rfl (wrap_u8_in (by omega) (by omega))) rfl ?_
    refine ln_pv (pv_or' rfl rfl (r := ((b8 (m % 128 + 128 : Nat)).toNat : Int)) (by rw [or128_u8 (by omega) (by omega), b8_val (by omega) (by omega)]; omega)) rfl ?_
    refine ln_lit (vs := [_]) Tryd.underlying22 tiuint8 rfl (by decide) rfl rfl rfl rfl rfl rfl (fun b1 => ?_)
    refine ln_append (i := 1) rfl Tryd.underlying22 tiuint8 rfl (by decide) rfl rfl (src_obj (j := 0) rfl rfl rfl) (by first | omega | (simp only [maxLen]; omega)) (by first | omega | (simp only [maxLen]; omega)) rfl (k' := (acc ++ [b8 (m % 128 + 128 : Nat)]).length) (xs' := u8s (acc ++ [b8 (m % 128 + 128 : Nat)])) (by simp) (by simp [flat, u8v, Value.cells]) (fun v1 hv1 => ?_)
    refine ln_pv (pv_assign rfl) rfl ?_
    refine ln_cd ?_
    refine cd_region ?_
    refine ln_pv (pv_move rfl) rfl ?_
    refine ln_pv (pv_shr' rfl rfl (by decide) (by decide) (r := ((m / 128 : Nat) : Int)) (by simp)) rfl ?_
    refine ln_pv (pv_assign rfl) rfl ?_
    refine ln_nil ?_
    refine at_rnd (m / 128, acc ++ [b8 (m % 128 + 128 : Nat)], v1) hl1 ?_ ?_ ⟨rfl, rfl,  trivial⟩ (.cons _ (.cons_cons _ .slnil))
    · intro s9 hs9
      exact ⟨by rw [← hI, uvar_front acc m (by omega)], by dsimp only; omega⟩
    · dsimp only; omega
  · -- no
    refine cd_exit rfl ?_
    refine at_cd ?_
    refine cd_sr ?_
    refine ln_pv (pv_move rfl) rfl ?_
    refine ln_pv (pv_move rfl) rfl ?_
    refine ln_pv (pv_conv' Tryd.underlying180 Tryd.underlying5 rfl (wrap_u8 _)) rfl ?_
    refine ln_lit (vs := [_]) Tryd.underlying22 tiuint8 rfl (by decide) rfl rfl rfl rfl rfl rfl (fun b2 => ?_)
    refine ln_append (i := 1) rfl Tryd.underlying22 tiuint8 rfl (by decide) rfl rfl (src_obj (j := 0) rfl rfl rfl) (by first | omega | (simp only [maxLen]; omega)) (by first | omega | (simp only [maxLen]; omega)) rfl (k' := (acc ++ [b8 m]).length) (xs' := u8s (acc ++ [b8 m])) (by simp) (by simp [flat, u8v, Value.cells]) (fun v2 hv2 => ?_)
    refine ln_pv (pv_assign rfl) rfl ?_
    refine ln_cd ?_
    refine cd_ret ?_
    refine at_retA rfl rfl (fun w hS => ?_)
    have hm2 : m ≤ 127 := by omega
    have h := own_fresh hS (i := 1) rfl
    rw [uvar_lo hm2] at hI
    rw [← hI]
    exact h
theorem spec_Uvarint (t : Vw) (n : Nat) (hn : n < 18446744073709551616) : CA Tryd.prog 154 [.int .u64 (n : Int)] t fun u r => RSv u r (uvar n) := (spec_Uvarint_n t n hn).ca (u8s_one _)
theorem spec_counted_n (t : Vw) (flex null : Bool) (n size : Nat) (hn : n < 9223372036854775807) (hs : size ≤ 8) : CN Tryd.prog 173 [.bool flex, .bool null, .int .i64 (n : Int), .int .i64 (size : Int)] t 5 1 (counted flex null n size).length (u8s (counted flex null n size)) := by
  refine ca_enter Tryd.func173 rfl Tryd.ntmps173 rfl ?_
  cases flex with
  | true =>
    cases null with
    | true =>
      refine cd_sr ?_
      refine ln_pv (pv_assign rfl) rfl ?_
      refine ln_cd ?_
      refine cd_seq ?_
      refine cd_block ?_
      refine cd_sr ?_
      refine ln_pv (pv_move rfl) rfl ?_
      refine ln_pv (pv_move rfl) rfl ?_
      refine ln_gt rfl rfl rfl (pv_move rfl) rfl ?_
      refine ln_pv (pv_pick rfl (fun _ => rfl) (fun _ => rfl)) rfl ?_
      refine ln_pv (pv_assign rfl) rfl ?_
      refine ln_cd ?_
      refine cd_tt rfl ?_
      refine cd_sr ?_
      refine ln_lit (vs := [_]) Tryd.underlying22 tiuint8 rfl (by decide) rfl rfl rfl rfl rfl rfl (fun b1 => ?_)
      refine ln_pv (pv_assign rfl) rfl ?_
      refine ln_cd ?_
      refine cd_ret ?_
      refine at_retA rfl rfl (fun w hS => ?_)
      exact obj_own (l := [u8v 0]) hS (i := 0) rfl rfl (by decide)
    | false =>
      refine cd_sr ?_
      refine ln_pv (pv_assign rfl) rfl ?_
      refine ln_cd ?_
      refine cd_seq ?_
      refine cd_block ?_
      refine cd_sr ?_
      refine ln_pv (pv_move rfl) rfl ?_
      refine ln_pv (pv_move rfl) rfl ?_
      refine ln_gt rfl rfl rfl (pv_move rfl) rfl ?_
      refine ln_pv (pv_pick rfl (fun _ => rfl) (fun _ => rfl)) rfl ?_
      refine ln_pv (pv_assign rfl) rfl ?_
      refine ln_cd ?_
      refine cd_ff rfl ?_
      refine cd_sr ?_
      refine ln_pv (pv_move rfl) rfl ?_
      refine ln_pv (pv_assign rfl) rfl ?_
      refine ln_cd ?_
      refine cd_tt rfl ?_
      refine cd_sr ?_
      refine ln_pv (pv_move rfl) rfl ?_
      refine ln_pv (pv_conv' Tryd.underlying3 Tryd.underlying180 rfl (wrap_u64_in (by omega) (by omega))) rfl ?_
      refine ln_pv (pv_add' rfl rfl (r := ((n + 1 : Nat) : Int)) (by rw [wrap_u64_in (by omega) (by omega)]; omega)) rfl ?_
      refine ln_nilrow 5 1 ?_
      refine ln_callT (i := 0) en_154 rfl rfl (fun u hu hok hav => CN.ct (spec_Uvarint_n u (n + 1) (by omega))) rfl ?_
      rintro u1 v1 _ ht1 ⟨_, ⟨rfl, h1v1⟩, _⟩
      refine ln_pv (pv_assign rfl) rfl ?_
      refine ln_cd ?_
      refine cd_ret ?_
      refine at_retA rfl rfl (fun w hS => ?_)
      exact own_fresh hS (i := 0) rfl
  | false =>
    cases null with
    | true =>
      refine cd_sr ?_
      refine ln_pv (pv_assign rfl) rfl ?_
      refine ln_cd ?_
      refine cd_seq ?_
      refine cd_block ?_
      refine cd_sr ?_
      refine ln_pv (pv_move rfl) rfl ?_
      refine ln_pv (pv_move rfl) rfl ?_
      refine ln_gf rfl rfl rfl rfl rfl ?_
      refine ln_pv (pv_pick rfl (fun _ => rfl) (fun _ => rfl)) rfl ?_
      refine ln_pv (pv_assign rfl) rfl ?_
      refine ln_cd ?_
      refine cd_ff rfl ?_
      refine cd_sr ?_
      refine ln_pv (pv_move rfl) rfl ?_
      refine ln_pv (pv_assign rfl) rfl ?_
      refine ln_cd ?_
      refine cd_ff rfl ?_
      refine cd_sr ?_
      refine ln_pv (pv_move rfl) rfl ?_
      refine ln_pv (pv_assign rfl) rfl ?_
      refine ln_cd ?_
      refine cd_tt rfl ?_
      refine cd_sr ?_
      refine ln_pv (pv_move rfl) rfl ?_
      refine ln_nilrow 5 1 ?_
      refine ln_callT (i := 0) en_75 rfl rfl (fun u hu hok hav => CN.ct (spec_Fixed_n u (-1) size hs)) rfl ?_
      rintro u1 v1 _ ht1 ⟨_, ⟨rfl, h1v1⟩, _⟩
      refine ln_pv (pv_assign rfl) rfl ?_
      refine ln_cd ?_
      refine cd_ret ?_
      refine at_retA rfl rfl (fun w hS => ?_)
      exact own_fresh hS (i := 0) rfl
    | false =>
      refine cd_sr ?_
      refine ln_pv (pv_assign rfl) rfl ?_
      refine ln_cd ?_
      refine cd_seq ?_
      refine cd_block ?_
      refine cd_sr ?_
      refine ln_pv (pv_move rfl) rfl ?_
      refine ln_pv (pv_move rfl) rfl ?_
      refine ln_gf rfl rfl rfl rfl rfl ?_
      refine ln_pv (pv_pick rfl (fun _ => rfl) (fun _ => rfl)) rfl ?_
      refine ln_pv (pv_assign rfl) rfl ?_
      refine ln_cd ?_
      refine cd_ff rfl ?_
      refine cd_sr ?_
      refine ln_pv (pv_move rfl) rfl ?_
      refine ln_pv (pv_assign rfl) rfl ?_
      refine ln_cd ?_
      refine cd_ff rfl ?_
      refine cd_sr ?_
      refine ln_pv (pv_move rfl) rfl ?_
      refine ln_pv (pv_assign rfl) rfl ?_
      refine ln_cd ?_
      refine cd_ff rfl ?_
      refine cd_skip ?_
      refine at_cd ?_
      refine cd_sr ?_
      refine ln_pv (pv_move rfl) rfl ?_
      refine ln_pv (pv_move rfl) rfl ?_
      refine ln_nilrow 5 1 ?_
      refine ln_callT (i := 0) en_75 rfl rfl (fun u hu hok hav => CN.ct (spec_Fixed_n u (n : Int) size hs)) rfl ?_
      rintro u1 v1 _ ht1 ⟨_, ⟨rfl, h1v1⟩, _⟩
      refine ln_pv (pv_assign rfl) rfl ?_
      refine ln_cd ?_
      refine cd_ret ?_
      refine at_retA rfl rfl (fun w hS => ?_)
      exact own_fresh hS (i := 0) rfl
theorem u8s_at {l : List UInt8} {i : Nat} (h : i < l.length) : (u8s l)[i * 1]? = some (u8v l[i]) := by simp [u8s, h]
theorem spec_Same (t : Vw) (va vb : Value) (a b : List UInt8) (ha : RSv t va a) (hb : RSv t vb b) (hm : a.length < 4611686018427387904) : CS Tryd.prog 41 [va, vb] t (.bool (decide (a = b))) := by
  obtain ⟨ad, c, rfl, hle⟩ := ha.shape
  obtain ⟨ad2, c2, rfl, hle2⟩ := hb.shape
  refine CA.cs ?_
  refine ca_enter Tryd.func41 rfl Tryd.ntmps41 rfl ?_
  refine cd_sr ?_
  refine ln_pv (pv_assign rfl) rfl ?_
  refine ln_cd ?_
  refine cd_seq ?_
  refine cd_sr ?_
  refine ln_pv (pv_move rfl) rfl ?_
  refine ln_pv (pv_len_slice Tryd.underlying22 rfl) rfl ?_
  refine ln_pv (pv_move rfl) rfl ?_
  refine ln_pv (pv_len_slice Tryd.underlying22 rfl) rfl ?_
  refine ln_pv (pv_neq rfl rfl) rfl ?_
  refine ln_cd ?_
  refine cd_if rfl (fun hc1 => ?_) (fun hc1 => ?_)
  · -- yes
    refine cd_sr ?_
    refine ln_pv (pv_assign rfl) rfl ?_
    refine ln_cd ?_
    refine cd_ret ?_
    refine at_retA rfl rfl (fun w hS => ?_)
    have h : ¬ a = b := by rintro rfl; exact hc1 rfl
    simp [h]
  · -- no
    refine cd_skip ?_
    refine at_cd ?_
    refine cd_seq ?_
    refine cd_sr ?_
    refine ln_pv (pv_move rfl) rfl ?_
    refine ln_pv (pv_len_slice Tryd.underlying22 rfl) rfl ?_
    refine ln_pv (pv_move rfl) rfl ?_
    refine ln_cd ?_
    refine cd_block ?_
    refine cd_loop (⟨fun (z : Nat) => [(0, .slice ad a.length c), (1, .slice ad2 b.length c2), (12, .int .i64 (a.length : Int)), (13, .int .i64 ((z : Nat) : Int))], fun (z : Nat) => [], fun (z : Nat) s => z ≤ a.length ∧ a.take z = b.take z, fun (z : Nat) => a.length - z⟩ : Lp (Nat)) 0 ?_ ?_ ?_ ?_
    · intro s0 hs0
      exact ⟨Nat.zero_le _, rfl⟩
    · exact ⟨rfl, rfl, rfl, rfl,  trivial⟩
    · exact .slnil
    intro i s1 hl1 hI
    dsimp only at hI ⊢
    have ha := ha.mv hl1
    have hb := hb.mv hl1
    obtain ⟨hI, hall⟩ := hI
    refine cd_sr ?_
    refine ln_pv (pv_lss rfl rfl) rfl ?_
    refine ln_cd ?_
    refine cd_seq ?_
    refine cd_if rfl (fun hc2 => ?_) (fun hc2 => ?_)
    · -- yes
      refine cd_skip ?_
      refine at_cd ?_
      refine cd_seq ?_
      refine cd_block ?_
      have hi : i < a.length := by omega
      have hi2 : i < b.length := by omega
      obtain ⟨b0, o0, rfl, hra⟩ := RS.pos ha (by omega) (by decide)
      obtain ⟨b1, o1, rfl, hrb⟩ := RS.pos hb (by omega) (by decide)
      refine cd_sr ?_
      refine ln_pv (pv_move rfl) rfl ?_
      refine ln_pv (pv_assign rfl) rfl ?_
      refine ln_cd ?_
      refine cd_dr' [] [0, 1, 2, 3, 4, 5, 6, 7, 8] [0, 1, 2, 3, 4, 5, 6, 7, 8] mixed (by kernel_rfl) ?_
      refine lo_pv rfl rfl (sk_js (Tr.refl _) [] rfl) (pv_move rfl) rfl ?_
      refine lo_pv rfl rfl (sk_js (Tr.refl _) [] rfl) (pv_move rfl) rfl ?_
      refine lo_pv rfl rfl (sk_js (Tr.refl _) [] rfl) (pv_ixN Tryd.underlying22 tiuint8.size rfl rfl hi) rfl ?_
      refine lo_pv rfl rfl (sk_js (Tr.refl _) [] rfl) (pv_ldr (j := i * 1) hra Tryd.underlying5 rfl rfl (u8s_at hi)) rfl ?_
      refine lo_pv rfl rfl (sk_js (Tr.refl _) [] rfl) (pv_move rfl) rfl ?_
      refine lo_pv rfl rfl (sk_js (Tr.refl _) [] rfl) (pv_move rfl) rfl ?_
      refine lo_pv rfl rfl (sk_js (Tr.refl _) [] rfl) (pv_ixN Tryd.underlying22 tiuint8.size rfl rfl hi2) rfl ?_
      refine lo_pv rfl rfl (sk_js (Tr.refl _) [] rfl) (pv_ldr (j := i * 1) hrb Tryd.underlying5 rfl rfl (u8s_at hi2)) rfl ?_
      refine lo_pv rfl rfl (sk_js (Tr.refl _) [] rfl) (pv_neq rfl rfl) rfl ?_
      refine lo_cd ?_
      refine cd_if rfl (fun hc3 => ?_) (fun hc3 => ?_)
      · -- yes
        refine cd_sr ?_
        refine ln_pv (pv_assign rfl) rfl ?_
        refine ln_cd ?_
        refine cd_ret ?_
        refine at_retA rfl rfl (fun w hS => ?_)
        have h : ¬ a = b := by rintro rfl; exact hc3 rfl
        simp [h]
      · -- no
        refine cd_skip ?_
        refine at_cd ?_
        refine cd_region ?_
        refine ln_pv (pv_add' rfl rfl (wrap_succ (by omega))) rfl ?_
        refine ln_pv (pv_move rfl) rfl ?_
        refine ln_nil ?_
        refine at_rnd (i + 1) hl1 ?_ ?_ ⟨rfl, rfl, rfl, rfl,  trivial⟩ .slnil
        · intro s9 hs9
          refine ⟨by omega, ?_⟩
          have e : a[i] = b[i] := UInt8.toNat_inj.1 (by omega)
          rw [take_snoc' hi, take_snoc' hi2, hall, e]
        · dsimp only; omega
    · -- no
      refine cd_exit rfl ?_
      refine at_cd ?_
      refine cd_sr ?_
      refine ln_pv (pv_assign rfl) rfl ?_
      refine ln_cd ?_
      refine cd_ret ?_
      refine at_retA rfl rfl (fun w hS => ?_)
      have e : i = a.length := by omega
      subst e
      have hl : a.length = b.length := by omega
      rw [List.take_length, hl, List.take_length] at hall
      simp [hall]
end K
end Go.Proofs.YtjjfpdofkdolnaaDoor
