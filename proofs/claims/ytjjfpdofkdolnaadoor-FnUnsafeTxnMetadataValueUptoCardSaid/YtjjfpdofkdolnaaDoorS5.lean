import Derived.Test.YtjjfpdofkdolnaaDoorS4
set_option linter.unusedVariables false
set_option linter.unusedSimpArgs false
namespace Go.Proofs.YtjjfpdofkdolnaaDoor
namespace K
open Go Go.Lib
theorem counted_le (flex null : Bool) (n size : Nat) (hn : n < 4611686018427387904) (hs : size ≤ 8) : (counted flex null n size).length ≤ 10 := by
  unfold counted
  split
  · simp
  · split
    · exact uvar_length_le (n + 1) 9 (by omega)
    · split <;> (rw [fixed_length]; omega)
def PartC (fs : List Fld) : Prop := ∀ (t : Vw) (vf : Value) (lc cs : List Value) (v : Int) (flex : Bool) (x : Tre), RS t 8 vf fs.length lc → RFs t fs lc → RT t x cs → smT x → (partB fs v flex x).length < 1099511627776 →
  CA Tryd.prog 109 [vf, .int .i64 v, .bool flex, .agg cs.toArray] t fun u r => RSv u r (partB fs v flex x)
def ValueC (k : Int) (fs : List Fld) : Prop := ∀ (t : Vw) (vf : Value) (lc cs : List Value) (null : Bool) (v : Int) (flex : Bool) (x : Tre), RS t 8 vf fs.length lc → RFs t fs lc → RT t x cs → smT x → (valueB k fs null v flex x).length < 1099511627776 →
  CA Tryd.prog 174 [.int .i64 k, vf, .bool null, .int .i64 v, .bool flex, .agg cs.toArray] t fun u r => RSv u r (valueB k fs null v flex x)
def FieldC (f : Fld) : Prop := ∀ (t : Vw) (fc cs : List Value) (v : Int) (flex : Bool) (x : Tre), RF t f fc → RT t x cs → smT x → (fieldB f v flex x).length < 1099511627776 →
  CA Tryd.prog 150 [.agg fc.toArray, .int .i64 v, .bool flex, .agg cs.toArray] t fun u r => RSv u r (fieldB f v flex x)
theorem uuid_cells (l : List UInt8) : (u8s l).take 16 ++ [.int .u8 0, .int .u8 0, .int .u8 0, .int .u8 0, .int .u8 0, .int .u8 0, .int .u8 0, .int .u8 0, .int .u8 0, .int .u8 0, .int .u8 0, .int .u8 0, .int .u8 0, .int .u8 0, .int .u8 0, .int .u8 0].drop l.length = u8s (l.take 16 ++ List.replicate (16 - l.length) 0) := by
  have e : [Value.int .u8 0, .int .u8 0, .int .u8 0, .int .u8 0, .int .u8 0, .int .u8 0, .int .u8 0, .int .u8 0, .int .u8 0, .int .u8 0, .int .u8 0, .int .u8 0, .int .u8 0, .int .u8 0, .int .u8 0, .int .u8 0] = List.replicate 16 (u8v 0) := rfl
  rw [e, List.drop_replicate]
  simp [u8s, List.map_take]
theorem uuid_len (l : List UInt8) : (l.take 16 ++ List.replicate (16 - l.length) (0 : UInt8)).length = 16 := by simp; omega
theorem spec_value1 (k : Int) (fs : List Fld) (hP : PartC fs) : ValueC k fs := by
  intro t vf lf cs null v flex x hVf hFf hx hsm hB
  obtain ⟨sS, sL, sU, rfl, hn, hS, ⟨lc, hL, hLs⟩, hU⟩ := hx.open
  obtain ⟨adS, cS, rfl, hleS⟩ := hS.shape
  obtain ⟨adL, cL, rfl, hleL⟩ := hL.shape
  have hU0 := hU
  obtain ⟨uc, hU1, hUs⟩ := hU0
  obtain ⟨hz1, hz2, hz3, hz4⟩ := hsm.open
  refine ca_enter Tryd.func174 rfl Tryd.ntmps174 rfl ?_
  by_cases h0 : k = 0
  · skip
    refine cd_sr ?_
    refine ln_box rfl rfl rfl (fun b1 => ?_)
    refine ln_pv (pv_assign rfl) rfl ?_
    refine ln_cd ?_
    refine cd_seq ?_
    refine cd_sr ?_
    refine ln_pv (pv_move rfl) rfl ?_
    refine ln_cd ?_
    refine cd_block ?_
    refine cd_sr ?_
    refine ln_pv (pv_tt (pv_eql rfl rfl) h0) rfl ?_
    refine ln_pv (pv_assign rfl) rfl ?_
    refine ln_cd ?_
    refine cd_tt rfl ?_
    refine cd_sr ?_
    refine ln_pv (pv_fieldAddr (off := 0) (r := 0) Tryd.underlying35 rfl (tiint64).size rfl rfl rfl) rfl ?_
    refine ln_pv (pv_ldo (i := 0) rfl Tryd.underlying2 rfl rfl rfl) rfl ?_
    refine ln_pv (pv_and' rfl rfl (and1_i64 hn.1 hn.2)) rfl ?_
    refine ln_pv (pv_conv' Tryd.underlying2 Tryd.underlying5 rfl (wrap_u8 _)) rfl ?_
    refine ln_lit (vs := [_]) Tryd.underlying22 tiuint8 rfl (by decide) rfl rfl rfl rfl rfl rfl (fun b2 => ?_)
    refine ln_pv (pv_assign rfl) rfl ?_
    refine ln_cd ?_
    refine cd_ret ?_
    refine at_retA rfl rfl (fun w hS => ?_)
    rw [valueB, if_neg (by omega), scalarB, if_pos h0]
    exact obj_rs (l := [u8v (b8 (x.n % 2))]) hS (i := 0) rfl rfl (by simp)
  by_cases h7 : k = 7
  · skip
    refine cd_sr ?_
    refine ln_box rfl rfl rfl (fun b1 => ?_)
    refine ln_pv (pv_assign rfl) rfl ?_
    refine ln_cd ?_
    refine cd_seq ?_
    refine cd_sr ?_
    refine ln_pv (pv_move rfl) rfl ?_
    refine ln_cd ?_
    refine cd_block ?_
    refine cd_sr ?_
    refine ln_pv (pv_ff (pv_eql rfl rfl) h0) rfl ?_
    refine ln_pv (pv_assign rfl) rfl ?_
    refine ln_cd ?_
    refine cd_ff rfl ?_
    refine cd_sr ?_
    refine ln_pv (pv_tt (pv_eql rfl rfl) h7) rfl ?_
    refine ln_pv (pv_assign rfl) rfl ?_
    refine ln_cd ?_
    refine cd_tt rfl ?_
    refine cd_sr ?_
    refine ln_makeSlice (m := 16) Tryd.underlying22 tiuint8 rfl rfl rfl (by decide) (by decide) rfl (fun b2 => ?_)
    refine ln_pv (pv_assign rfl) rfl ?_
    refine ln_cd ?_
    refine cd_sr ?_
    refine ln_pv (pv_move rfl) rfl ?_
    refine ln_pv (pv_fieldAddr (off := 1) (r := 1) Tryd.underlying35 rfl (tiSl_uint8).size rfl rfl rfl) rfl ?_
    refine ln_pv (pv_ldo (i := 1) rfl Tryd.underlying22 rfl rfl rfl) rfl ?_
    refine ln_copyO (i := 0) rfl Tryd.underlying22 tiuint8.size rfl rfl (RS.src hS) rfl rfl rfl ?_
    refine ln_cd ?_
    refine cd_sr ?_
    refine ln_pv (pv_move rfl) rfl ?_
    refine ln_pv (pv_assign rfl) rfl ?_
    refine ln_cd ?_
    refine cd_ret ?_
    refine at_retA rfl rfl (fun w hS => ?_)
    rw [valueB, if_neg (by omega), scalarB, if_neg h0, if_pos h7]
    have e1 := uuid_cells x.s
    have e2 := uuid_len x.s
    have h := obj_rs hS (i := 0) (m := 16) (sz := 1) rfl (by
      have := congrArg List.length e1
      rw [u8s_length, e2] at this
      exact this) (by
      intro u hu
      have hu2 := u8s_one (x.s.take 16 ++ List.replicate (16 - x.s.length) 0) u (e1 ▸ hu)
      exact hu2)
    unfold RSv
    rw [e2, ← e1]
    exact h
  by_cases h8 : k = 8
  · cases null with
    | true =>
      refine cd_sr ?_
      refine ln_box rfl rfl rfl (fun b1 => ?_)
      refine ln_pv (pv_assign rfl) rfl ?_
      refine ln_cd ?_
      refine cd_seq ?_
      refine cd_sr ?_
      refine ln_pv (pv_move rfl) rfl ?_
      refine ln_cd ?_
      refine cd_block ?_
      refine cd_sr ?_
      refine ln_pv (pv_ff (pv_eql rfl rfl) h0) rfl ?_
      refine ln_pv (pv_assign rfl) rfl ?_
      refine ln_cd ?_
      refine cd_ff rfl ?_
      refine cd_sr ?_
      refine ln_pv (pv_ff (pv_eql rfl rfl) h7) rfl ?_
      refine ln_pv (pv_assign rfl) rfl ?_
      refine ln_cd ?_
      refine cd_ff rfl ?_
      refine cd_sr ?_
      refine ln_pv (pv_tt (pv_eql rfl rfl) h8) rfl ?_
      refine ln_pv (pv_assign rfl) rfl ?_
      refine ln_cd ?_
      refine cd_tt rfl ?_
      refine cd_sr ?_
      refine ln_pv (pv_fieldAddr (off := 1) (r := 1) Tryd.underlying35 rfl (tiSl_uint8).size rfl rfl rfl) rfl ?_
      refine ln_pv (pv_ldo (i := 0) rfl Tryd.underlying22 rfl rfl rfl) rfl ?_
      refine ln_callA en_156 rfl (fun u hu => spec_whole u _ x.s (RS.mv hS hu)) rfl (fun u1 v1 ht1 hR1 => ?_)
      have hVf := hVf.mv ht1
      have hFf := hFf.mv ht1
      have hx := hx.mv ht1
      have hS := hS.mv ht1
      have hU := hU.mv ht1
      have hU1 := hU1.mv ht1
      have hUs := hUs.mv ht1
      obtain ⟨adr1, cr1, rfl, hler1⟩ := RS.shape hR1
      refine ln_pv (pv_assign rfl) rfl ?_
      refine ln_cd ?_
      refine cd_seq ?_
      refine cd_sr ?_
      refine ln_pv (pv_move rfl) rfl ?_
      refine ln_cd ?_
      refine cd_tt rfl ?_
      refine cd_region ?_
      refine ln_pv (pv_assign rfl) rfl ?_
      refine ln_nil ?_
      refine at_cd ?_
      refine cd_sr ?_
      refine ln_pv (pv_move rfl) rfl ?_
      refine ln_pv (pv_move rfl) rfl ?_
      refine ln_pv (pv_move rfl) rfl ?_
      refine ln_pv (pv_len_slice Tryd.underlying22 rfl) rfl ?_
      refine ln_nilrow 5 1 ?_
      refine ln_callT (i := 0) en_173 rfl rfl (fun u hu hok hav => CN.ct (spec_counted_n u flex true 0 2 (by omega) (by omega))) rfl ?_
      rintro u2 v2 _ ht2 ⟨_, ⟨rfl, h1v2⟩, _⟩
      have hVf := hVf.mv ht2
      have hFf := hFf.mv ht2
      have hx := hx.mv ht2
      have hS := hS.mv ht2
      have hU := hU.mv ht2
      have hU1 := hU1.mv ht2
      have hUs := hUs.mv ht2
      have hR1 := hR1.mv ht2
      refine ln_pv (pv_move rfl) rfl ?_
      refine ln_append (i := 0) rfl Tryd.underlying22 tiuint8 rfl (by decide) rfl rfl (src_nil _) (by have := counted_le flex true ([] : List UInt8).length 2 (by simp only [List.length_take, List.length_nil]; omega) (by omega); simp only [List.length_take, List.length_nil, maxLen] at this ⊢; omega) (by have := counted_le flex true ([] : List UInt8).length 2 (by simp only [List.length_take, List.length_nil]; omega) (by omega); simp only [List.length_take, List.length_nil, maxLen] at this ⊢; omega) rfl (k' := (counted flex true ([] : List UInt8).length 2 ++ ([] : List UInt8)).length) (xs' := u8s (counted flex true ([] : List UInt8).length 2 ++ ([] : List UInt8))) (by simp) (by simp [u8s]) (fun v3 hv3 => ?_)
      refine ln_pv (pv_assign rfl) rfl ?_
      refine ln_cd ?_
      refine cd_ret ?_
      refine at_retA rfl rfl (fun w hS => ?_)
      rw [valueB, if_neg (by omega), scalarB, if_neg h0, if_neg h7, if_pos h8]
      exact row_rs hS (j := 0) rfl (u8s_one _)
    | false =>
      refine cd_sr ?_
      refine ln_box rfl rfl rfl (fun b1 => ?_)
      refine ln_pv (pv_assign rfl) rfl ?_
      refine ln_cd ?_
      refine cd_seq ?_
      refine cd_sr ?_
      refine ln_pv (pv_move rfl) rfl ?_
      refine ln_cd ?_
      refine cd_block ?_
      refine cd_sr ?_
      refine ln_pv (pv_ff (pv_eql rfl rfl) h0) rfl ?_
      refine ln_pv (pv_assign rfl) rfl ?_
      refine ln_cd ?_
      refine cd_ff rfl ?_
      refine cd_sr ?_
      refine ln_pv (pv_ff (pv_eql rfl rfl) h7) rfl ?_
      refine ln_pv (pv_assign rfl) rfl ?_
      refine ln_cd ?_
      refine cd_ff rfl ?_
      refine cd_sr ?_
      refine ln_pv (pv_tt (pv_eql rfl rfl) h8) rfl ?_
      refine ln_pv (pv_assign rfl) rfl ?_
      refine ln_cd ?_
      refine cd_tt rfl ?_
      refine cd_sr ?_
      refine ln_pv (pv_fieldAddr (off := 1) (r := 1) Tryd.underlying35 rfl (tiSl_uint8).size rfl rfl rfl) rfl ?_
      refine ln_pv (pv_ldo (i := 0) rfl Tryd.underlying22 rfl rfl rfl) rfl ?_
      refine ln_callA en_156 rfl (fun u hu => spec_whole u _ x.s (RS.mv hS hu)) rfl (fun u1 v1 ht1 hR1 => ?_)
      have hVf := hVf.mv ht1
      have hFf := hFf.mv ht1
      have hx := hx.mv ht1
      have hS := hS.mv ht1
      have hU := hU.mv ht1
      have hU1 := hU1.mv ht1
      have hUs := hUs.mv ht1
      obtain ⟨adr1, cr1, rfl, hler1⟩ := RS.shape hR1
      refine ln_pv (pv_assign rfl) rfl ?_
      refine ln_cd ?_
      refine cd_seq ?_
      refine cd_sr ?_
      refine ln_pv (pv_move rfl) rfl ?_
      refine ln_cd ?_
      refine cd_ff rfl ?_
      refine cd_skip ?_
      refine at_cd ?_
      refine cd_sr ?_
      refine ln_pv (pv_move rfl) rfl ?_
      refine ln_pv (pv_move rfl) rfl ?_
      refine ln_pv (pv_move rfl) rfl ?_
      refine ln_pv (pv_len_slice Tryd.underlying22 rfl) rfl ?_
      refine ln_nilrow 5 1 ?_
      refine ln_callT (i := 0) en_173 rfl rfl (fun u hu hok hav => CN.ct (spec_counted_n u flex false (x.s.take 32767).length 2 (by simp only [List.length_take]; omega) (by omega))) rfl ?_
      rintro u2 v2 _ ht2 ⟨_, ⟨rfl, h1v2⟩, _⟩
      have hVf := hVf.mv ht2
      have hFf := hFf.mv ht2
      have hx := hx.mv ht2
      have hS := hS.mv ht2
      have hU := hU.mv ht2
      have hU1 := hU1.mv ht2
      have hUs := hUs.mv ht2
      have hR1 := hR1.mv ht2
      refine ln_pv (pv_move rfl) rfl ?_
      refine ln_append (i := 0) rfl Tryd.underlying22 tiuint8 rfl (by decide) rfl rfl (RS.src hR1) (by have := counted_le flex false (x.s.take 32767).length 2 (by simp only [List.length_take, List.length_nil]; omega) (by omega); simp only [List.length_take, List.length_nil, maxLen] at this ⊢; omega) (by have := counted_le flex false (x.s.take 32767).length 2 (by simp only [List.length_take, List.length_nil]; omega) (by omega); simp only [List.length_take, List.length_nil, maxLen] at this ⊢; omega) rfl (k' := (counted flex false (x.s.take 32767).length 2 ++ (x.s.take 32767)).length) (xs' := u8s (counted flex false (x.s.take 32767).length 2 ++ (x.s.take 32767))) (by simp) (by simp [u8s]) (fun v3 hv3 => ?_)
      refine ln_pv (pv_assign rfl) rfl ?_
      refine ln_cd ?_
      refine cd_ret ?_
      refine at_retA rfl rfl (fun w hS => ?_)
      rw [valueB, if_neg (by omega), scalarB, if_neg h0, if_neg h7, if_pos h8]
      exact row_rs hS (j := 0) rfl (u8s_one _)
  by_cases h9 : k = 9
  · cases null with
    | true =>
      refine cd_sr ?_
      refine ln_box rfl rfl rfl (fun b1 => ?_)
      refine ln_pv (pv_assign rfl) rfl ?_
      refine ln_cd ?_
      refine cd_seq ?_
      refine cd_sr ?_
      refine ln_pv (pv_move rfl) rfl ?_
      refine ln_cd ?_
      refine cd_block ?_
      refine cd_sr ?_
      refine ln_pv (pv_ff (pv_eql rfl rfl) h0) rfl ?_
      refine ln_pv (pv_assign rfl) rfl ?_
      refine ln_cd ?_
      refine cd_ff rfl ?_
      refine cd_sr ?_
      refine ln_pv (pv_ff (pv_eql rfl rfl) h7) rfl ?_
      refine ln_pv (pv_assign rfl) rfl ?_
      refine ln_cd ?_
      refine cd_ff rfl ?_
      refine cd_sr ?_
      refine ln_pv (pv_ff (pv_eql rfl rfl) h8) rfl ?_
      refine ln_pv (pv_assign rfl) rfl ?_
      refine ln_cd ?_
      refine cd_ff rfl ?_
      refine cd_sr ?_
      refine ln_pv (pv_tt (pv_eql rfl rfl) h9) rfl ?_
      refine ln_pv (pv_assign rfl) rfl ?_
      refine ln_cd ?_
      refine cd_tt rfl ?_
      refine cd_sr ?_
      refine ln_pv (pv_fieldAddr (off := 1) (r := 1) Tryd.underlying35 rfl (tiSl_uint8).size rfl rfl rfl) rfl ?_
      refine ln_pv (pv_ldo (i := 0) rfl Tryd.underlying22 rfl rfl rfl) rfl ?_
      refine ln_callA en_156 rfl (fun u hu => spec_whole u _ x.s (RS.mv hS hu)) rfl (fun u1 v1 ht1 hR1 => ?_)
      have hVf := hVf.mv ht1
      have hFf := hFf.mv ht1
      have hx := hx.mv ht1
      have hS := hS.mv ht1
      have hU := hU.mv ht1
      have hU1 := hU1.mv ht1
      have hUs := hUs.mv ht1
      obtain ⟨adr1, cr1, rfl, hler1⟩ := RS.shape hR1
      refine ln_pv (pv_assign rfl) rfl ?_
      refine ln_cd ?_
      refine cd_seq ?_
      refine cd_sr ?_
      refine ln_pv (pv_move rfl) rfl ?_
      refine ln_cd ?_
      refine cd_tt rfl ?_
      refine cd_region ?_
      refine ln_pv (pv_assign rfl) rfl ?_
      refine ln_nil ?_
      refine at_cd ?_
      refine cd_sr ?_
      refine ln_pv (pv_move rfl) rfl ?_
      refine ln_pv (pv_move rfl) rfl ?_
      refine ln_pv (pv_move rfl) rfl ?_
      refine ln_pv (pv_len_slice Tryd.underlying22 rfl) rfl ?_
      refine ln_nilrow 5 1 ?_
      refine ln_callT (i := 0) en_173 rfl rfl (fun u hu hok hav => CN.ct (spec_counted_n u flex true 0 4 (by omega) (by omega))) rfl ?_
      rintro u2 v2 _ ht2 ⟨_, ⟨rfl, h1v2⟩, _⟩
      have hVf := hVf.mv ht2
      have hFf := hFf.mv ht2
      have hx := hx.mv ht2
      have hS := hS.mv ht2
      have hU := hU.mv ht2
      have hU1 := hU1.mv ht2
      have hUs := hUs.mv ht2
      have hR1 := hR1.mv ht2
      refine ln_pv (pv_move rfl) rfl ?_
      refine ln_append (i := 0) rfl Tryd.underlying22 tiuint8 rfl (by decide) rfl rfl (src_nil _) (by have := counted_le flex true ([] : List UInt8).length 4 (by simp only [List.length_take, List.length_nil]; omega) (by omega); simp only [List.length_take, List.length_nil, maxLen] at this ⊢; omega) (by have := counted_le flex true ([] : List UInt8).length 4 (by simp only [List.length_take, List.length_nil]; omega) (by omega); simp only [List.length_take, List.length_nil, maxLen] at this ⊢; omega) rfl (k' := (counted flex true ([] : List UInt8).length 4 ++ ([] : List UInt8)).length) (xs' := u8s (counted flex true ([] : List UInt8).length 4 ++ ([] : List UInt8))) (by simp) (by simp [u8s]) (fun v3 hv3 => ?_)
      refine ln_pv (pv_assign rfl) rfl ?_
      refine ln_cd ?_
      refine cd_ret ?_
      refine at_retA rfl rfl (fun w hS => ?_)
      rw [valueB, if_neg (by omega), scalarB, if_neg h0, if_neg h7, if_neg h8, if_pos h9]
      exact row_rs hS (j := 0) rfl (u8s_one _)
    | false =>
      refine cd_sr ?_
      refine ln_box rfl rfl rfl (fun b1 => ?_)
      refine ln_pv (pv_assign rfl) rfl ?_
      refine ln_cd ?_
      refine cd_seq ?_
      refine cd_sr ?_
      refine ln_pv (pv_move rfl) rfl ?_
      refine ln_cd ?_
      refine cd_block ?_
      refine cd_sr ?_
      refine ln_pv (pv_ff (pv_eql rfl rfl) h0) rfl ?_
      refine ln_pv (pv_assign rfl) rfl ?_
      refine ln_cd ?_
      refine cd_ff rfl ?_
      refine cd_sr ?_
      refine ln_pv (pv_ff (pv_eql rfl rfl) h7) rfl ?_
      refine ln_pv (pv_assign rfl) rfl ?_
      refine ln_cd ?_
      refine cd_ff rfl ?_
      refine cd_sr ?_
      refine ln_pv (pv_ff (pv_eql rfl rfl) h8) rfl ?_
      refine ln_pv (pv_assign rfl) rfl ?_
      refine ln_cd ?_
      refine cd_ff rfl ?_
      refine cd_sr ?_
      refine ln_pv (pv_tt (pv_eql rfl rfl) h9) rfl ?_
      refine ln_pv (pv_assign rfl) rfl ?_
      refine ln_cd ?_
      refine cd_tt rfl ?_
      refine cd_sr ?_
      refine ln_pv (pv_fieldAddr (off := 1) (r := 1) Tryd.underlying35 rfl (tiSl_uint8).size rfl rfl rfl) rfl ?_
      refine ln_pv (pv_ldo (i := 0) rfl Tryd.underlying22 rfl rfl rfl) rfl ?_
      refine ln_callA en_156 rfl (fun u hu => spec_whole u _ x.s (RS.mv hS hu)) rfl (fun u1 v1 ht1 hR1 => ?_)
      have hVf := hVf.mv ht1
      have hFf := hFf.mv ht1
      have hx := hx.mv ht1
      have hS := hS.mv ht1
      have hU := hU.mv ht1
      have hU1 := hU1.mv ht1
      have hUs := hUs.mv ht1
      obtain ⟨adr1, cr1, rfl, hler1⟩ := RS.shape hR1
      refine ln_pv (pv_assign rfl) rfl ?_
      refine ln_cd ?_
      refine cd_seq ?_
      refine cd_sr ?_
      refine ln_pv (pv_move rfl) rfl ?_
      refine ln_cd ?_
      refine cd_ff rfl ?_
      refine cd_skip ?_
      refine at_cd ?_
      refine cd_sr ?_
      refine ln_pv (pv_move rfl) rfl ?_
      refine ln_pv (pv_move rfl) rfl ?_
      refine ln_pv (pv_move rfl) rfl ?_
      refine ln_pv (pv_len_slice Tryd.underlying22 rfl) rfl ?_
      refine ln_nilrow 5 1 ?_
      refine ln_callT (i := 0) en_173 rfl rfl (fun u hu hok hav => CN.ct (spec_counted_n u flex false (x.s.take 32767).length 4 (by simp only [List.length_take]; omega) (by omega))) rfl ?_
      rintro u2 v2 _ ht2 ⟨_, ⟨rfl, h1v2⟩, _⟩
      have hVf := hVf.mv ht2
      have hFf := hFf.mv ht2
      have hx := hx.mv ht2
      have hS := hS.mv ht2
      have hU := hU.mv ht2
      have hU1 := hU1.mv ht2
      have hUs := hUs.mv ht2
      have hR1 := hR1.mv ht2
      refine ln_pv (pv_move rfl) rfl ?_
      refine ln_append (i := 0) rfl Tryd.underlying22 tiuint8 rfl (by decide) rfl rfl (RS.src hR1) (by have := counted_le flex false (x.s.take 32767).length 4 (by simp only [List.length_take, List.length_nil]; omega) (by omega); simp only [List.length_take, List.length_nil, maxLen] at this ⊢; omega) (by have := counted_le flex false (x.s.take 32767).length 4 (by simp only [List.length_take, List.length_nil]; omega) (by omega); simp only [List.length_take, List.length_nil, maxLen] at this ⊢; omega) rfl (k' := (counted flex false (x.s.take 32767).length 4 ++ (x.s.take 32767)).length) (xs' := u8s (counted flex false (x.s.take 32767).length 4 ++ (x.s.take 32767))) (by simp) (by simp [u8s]) (fun v3 hv3 => ?_)
      refine ln_pv (pv_assign rfl) rfl ?_
      refine ln_cd ?_
      refine cd_ret ?_
      refine at_retA rfl rfl (fun w hS => ?_)
      rw [valueB, if_neg (by omega), scalarB, if_neg h0, if_neg h7, if_neg h8, if_pos h9]
      exact row_rs hS (j := 0) rfl (u8s_one _)
  by_cases h10 : k = 10
  · skip
    refine cd_sr ?_
    refine ln_box rfl rfl rfl (fun b1 => ?_)
    refine ln_pv (pv_assign rfl) rfl ?_
    refine ln_cd ?_
    refine cd_seq ?_
    refine cd_sr ?_
    refine ln_pv (pv_move rfl) rfl ?_
    refine ln_cd ?_
    refine cd_block ?_
    refine cd_sr ?_
    refine ln_pv (pv_ff (pv_eql rfl rfl) h0) rfl ?_
    refine ln_pv (pv_assign rfl) rfl ?_
    refine ln_cd ?_
    refine cd_ff rfl ?_
    refine cd_sr ?_
    refine ln_pv (pv_ff (pv_eql rfl rfl) h7) rfl ?_
    refine ln_pv (pv_assign rfl) rfl ?_
    refine ln_cd ?_
    refine cd_ff rfl ?_
    refine cd_sr ?_
    refine ln_pv (pv_ff (pv_eql rfl rfl) h8) rfl ?_
    refine ln_pv (pv_assign rfl) rfl ?_
    refine ln_cd ?_
    refine cd_ff rfl ?_
    refine cd_sr ?_
    refine ln_pv (pv_ff (pv_eql rfl rfl) h9) rfl ?_
    refine ln_pv (pv_assign rfl) rfl ?_
    refine ln_cd ?_
    refine cd_ff rfl ?_
    refine cd_sr ?_
    refine ln_pv (pv_tt (pv_eql rfl rfl) h10) rfl ?_
    refine ln_pv (pv_assign rfl) rfl ?_
    refine ln_cd ?_
    refine cd_tt rfl ?_
    refine cd_sr ?_
    refine ln_pv (pv_move rfl) rfl ?_
    refine ln_pv (pv_move rfl) rfl ?_
    refine ln_pv (pv_move rfl) rfl ?_
    refine ln_pv (pv_ldO (i := 0) rfl Tryd.underlying35 rfl (tispec_Tree).size rfl rfl) rfl ?_
    refine ln_callA en_109 rfl (fun u hu => hP u _ _ _ v flex x (RS.mv hVf hu) (RFs.mv hFf hu) (RT.mv hx hu) hsm (by rwa [valueB, if_pos h10] at hB)) rfl (fun u1 v1 ht1 hR1 => ?_)
    have hVf := hVf.mv ht1
    have hFf := hFf.mv ht1
    have hx := hx.mv ht1
    have hS := hS.mv ht1
    have hU := hU.mv ht1
    have hU1 := hU1.mv ht1
    have hUs := hUs.mv ht1
    refine ln_pv (pv_assign rfl) rfl ?_
    refine ln_cd ?_
    refine cd_ret ?_
    refine at_retA rfl rfl (fun w hS => ?_)
    rw [valueB, if_pos h10]
    exact hR1.mv hS.trFin
  refine cd_sr ?_
  refine ln_box rfl rfl rfl (fun b1 => ?_)
  refine ln_pv (pv_assign rfl) rfl ?_
  refine ln_cd ?_
  refine cd_seq ?_
  refine cd_sr ?_
  refine ln_pv (pv_move rfl) rfl ?_
  refine ln_cd ?_
  refine cd_block ?_
  refine cd_sr ?_
  refine ln_pv (pv_ff (pv_eql rfl rfl) h0) rfl ?_
  refine ln_pv (pv_assign rfl) rfl ?_
  refine ln_cd ?_
  refine cd_ff rfl ?_
  refine cd_sr ?_
  refine ln_pv (pv_ff (pv_eql rfl rfl) h7) rfl ?_
  refine ln_pv (pv_assign rfl) rfl ?_
  refine ln_cd ?_
  refine cd_ff rfl ?_
  refine cd_sr ?_
  refine ln_pv (pv_ff (pv_eql rfl rfl) h8) rfl ?_
  refine ln_pv (pv_assign rfl) rfl ?_
  refine ln_cd ?_
  refine cd_ff rfl ?_
  refine cd_sr ?_
  refine ln_pv (pv_ff (pv_eql rfl rfl) h9) rfl ?_
  refine ln_pv (pv_assign rfl) rfl ?_
  refine ln_cd ?_
  refine cd_ff rfl ?_
  refine cd_sr ?_
  refine ln_pv (pv_ff (pv_eql rfl rfl) h10) rfl ?_
  refine ln_pv (pv_assign rfl) rfl ?_
  refine ln_cd ?_
  refine cd_ff rfl ?_
  refine cd_skip ?_
  refine at_cd ?_
  refine cd_dr' [0] [0, 1, 2, 5] [0, 1, 2, 3, 4, 5] mixed (by kernel_rfl) ?_
  refine lo_pv rfl rfl (sk_js (Tr.refl _) [0] rfl) (pv_fieldAddr (off := 0) (r := 0) Tryd.underlying35 rfl (tiint64).size rfl rfl rfl) rfl ?_
  refine lo_pv rfl rfl (sk_js (Tr.refl _) [0] rfl) (pv_ldo (i := 0) rfl Tryd.underlying2 rfl rfl rfl) rfl ?_
  refine lo_pv rfl rfl (sk_js (Tr.refl _) [0] rfl) (pv_move rfl) rfl ?_
  refine lo_eff rfl rfl ?_
  refine ln_callS en_175 rfl (fun u hu => spec_width u k) rfl ?_
  refine lo_back (sk_js (Tr.refl _) [0] rfl) ?_
  refine lo_eff rfl rfl ?_
  refine ln_callA en_75 rfl (fun u hu => spec_Fixed u x.n (widthN k) (widthN_le _)) rfl (fun u1 v1 ht1 hR1 => ?_)
  have hVf := hVf.mv ht1
  have hFf := hFf.mv ht1
  have hx := hx.mv ht1
  have hS := hS.mv ht1
  have hU := hU.mv ht1
  have hU1 := hU1.mv ht1
  have hUs := hUs.mv ht1
  refine lo_back (sk_js ht1 [0] rfl) ?_
  refine lo_pv rfl rfl (sk_js ht1 [0] rfl) (pv_assign rfl) rfl ?_
  refine lo_cd ?_
  refine cd_ret ?_
  refine at_retA rfl rfl (fun w hS => ?_)
  rw [valueB, if_neg h10, scalarB, if_neg h0, if_neg h7, if_neg h8, if_neg h9]
  exact hR1.mv hS.trFin
end K
end Go.Proofs.YtjjfpdofkdolnaaDoor
