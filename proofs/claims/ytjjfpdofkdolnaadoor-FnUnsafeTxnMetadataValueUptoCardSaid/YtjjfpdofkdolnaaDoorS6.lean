import Derived.Test.YtjjfpdofkdolnaaDoorS5
set_option linter.unusedVariables false
set_option linter.unusedSimpArgs false
namespace Go.Proofs.YtjjfpdofkdolnaaDoor
namespace K
open Go Go.Lib
theorem flat_step {α : Type} (g : α → List UInt8) (l : List α) {i : Nat} (h : i < l.length) : (l.take (i + 1)).flatMap g = (l.take i).flatMap g ++ g l[i] := by rw [take_snoc' h, List.flatMap_append]; simp
theorem flat_le {α : Type} (g : α → List UInt8) : ∀ (l : List α) (i : Nat), ((l.take i).flatMap g).length ≤ (l.flatMap g).length
  | [], i => by simp
  | x :: r, 0 => by simp
  | x :: r, i + 1 => by
    have := flat_le g r i
    simp only [List.take_succ_cons, List.flatMap_cons, List.length_append]
    omega
theorem smTs.take {l : List Tre} (h : smTs l) (k i : Nat) (hi : i < (l.take k).length) : smT (l.take k)[i] := smTs.mem h _ (List.mem_of_mem_take (List.getElem_mem hi))
theorem spec_field1 (f : Fld) (hP : PartC f.sub) : FieldC f := by
  intro t fc cs v flex x hf hx hsm hB
  have hV := spec_value1 f.of_ f.sub hP
  have hW := spec_value1 f.kind f.sub hP
  have hf0 := hf
  obtain ⟨sv, rfl, lf, hVf, hFf⟩ := hf.open
  obtain ⟨adf, cf, rfl, hlef⟩ := hVf.shape
  obtain ⟨sS, sL, sU, rfl, hn, hS, ⟨lc, hL, hLs⟩, hU⟩ := hx.open
  obtain ⟨adS, cS, rfl, hleS⟩ := hS.shape
  obtain ⟨adL, cL, rfl, hleL⟩ := hL.shape
  have hU0 := hU
  obtain ⟨uc, hU1, hUs⟩ := hU0
  obtain ⟨hz1, hz2, hz3, hz4⟩ := hsm.open
  refine ca_enter Tryd.func150 rfl Tryd.ntmps150 rfl ?_
  by_cases h11 : f.kind = 11
  · rw [fieldB_eq, if_pos h11] at hB
    cases hnb : nullB f v x with
    | true =>
      rw [hnb] at hB
      simp only [if_true] at hB
      refine cd_sr ?_
      refine ln_box rfl rfl rfl (fun b1 => ?_)
      refine ln_box rfl rfl rfl (fun b2 => ?_)
      refine ln_pv (pv_assign rfl) rfl ?_
      refine ln_cd ?_
      refine cd_sr ?_
      refine ln_pv (pv_ldO (i := 1) rfl Tryd.underlying87 rfl (tispec_Field).size rfl rfl) rfl ?_
      refine ln_pv (pv_move rfl) rfl ?_
      refine ln_pv (pv_ldO (i := 0) rfl Tryd.underlying35 rfl (tispec_Tree).size rfl rfl) rfl ?_
      refine ln_callS en_171 rfl (fun u hu => by have h := spec_null u f _ v x _ (RF.mv hf0 hu) (RT.mv hx hu); rwa [hnb] at h) rfl ?_
      refine ln_pv (pv_assign rfl) rfl ?_
      refine ln_cd ?_
      refine cd_seq ?_
      refine cd_sr ?_
      refine ln_pv (pv_fieldAddr (off := 0) (r := 0) Tryd.underlying87 rfl (tiint).size rfl rfl rfl) rfl ?_
      refine ln_pv (pv_ldo (i := 1) rfl Tryd.underlying3 rfl rfl rfl) rfl ?_
      refine ln_pv (pv_tt (pv_eql rfl rfl) h11) rfl ?_
      refine ln_cd ?_
      refine cd_tt rfl ?_
      refine cd_sr ?_
      refine ln_pv (pv_fieldAddr (off := 3) (r := 3) Tryd.underlying35 rfl (tiSl_spec_Tree).size rfl rfl rfl) rfl ?_
      refine ln_pv (pv_ldo (i := 0) rfl Tryd.underlying32 rfl rfl rfl) rfl ?_
      refine ln_callA en_172 rfl (fun u hu => spec_things u _ x.l lc (RS.mv hL hu) (RTs.mv hLs hu)) rfl (fun u1 v1 ht1 hR1 => ?_)
      have hVf := hVf.mv ht1
      have hFf := hFf.mv ht1
      have hf0 := hf0.mv ht1
      have hx := hx.mv ht1
      have hS := hS.mv ht1
      have hU := hU.mv ht1
      have hU1 := hU1.mv ht1
      have hUs := hUs.mv ht1
      have hL := hL.mv ht1
      have hLs := hLs.mv ht1
      obtain ⟨lq, hQ, hQs⟩ := hR1
      obtain ⟨adq, cq, rfl, hleq⟩ := hQ.shape
      refine ln_pv (pv_assign rfl) rfl ?_
      refine ln_cd ?_
      refine cd_seq ?_
      refine cd_sr ?_
      refine ln_pv (pv_move rfl) rfl ?_
      refine ln_cd ?_
      refine cd_tt rfl ?_
      refine cd_region ?_
      refine ln_pv (pv_assign rfl) rfl ?_
      refine ln_nil ?_
      refine at_cd ?_
      refine cd_sr ?_
      refine ln_pv (pv_move rfl) rfl ?_
      refine ln_pv (pv_move rfl) rfl ?_
      refine ln_pv (pv_move rfl) rfl ?_
      refine ln_pv (pv_len_slice Tryd.underlying32 rfl) rfl ?_
      refine ln_nilrow 5 1 ?_
      refine ln_callT (i := 0) en_173 rfl rfl (fun u hu hok hav => CN.ct (spec_counted_n u flex true ([] : List Tre).length 4 (by simp only [List.length_take, List.length_nil]; omega) (by omega))) rfl ?_
      rintro u2 v2 _ ht2 ⟨_, ⟨rfl, h1v2⟩, _⟩
      have hVf := hVf.mv ht2
      have hFf := hFf.mv ht2
      have hf0 := hf0.mv ht2
      have hx := hx.mv ht2
      have hS := hS.mv ht2
      have hU := hU.mv ht2
      have hU1 := hU1.mv ht2
      have hUs := hUs.mv ht2
      have hL := hL.mv ht2
      have hLs := hLs.mv ht2
      refine ln_pv (pv_assign rfl) rfl ?_
      refine ln_cd ?_
      refine cd_seq ?_
      have hQ : RS u2 5 (.slice none 0 0) ([] : List Tre).length [] := ⟨rfl, by simp, .inl ⟨rfl, rfl⟩⟩
      have hQs : RTs u2 ([] : List Tre) [] := rfl
      obtain ⟨adq, cq, hadq, hleq⟩ : ∃ (ad : Option Addr) (c : Nat), Value.slice none 0 0 = Value.slice ad 0 c ∧ 0 ≤ c := ⟨none, 0, rfl, Nat.le_refl _⟩
      obtain ⟨rfl, rfl⟩ : adq = none ∧ cq = 0 := by simpa [eq_comm] using hadq
      refine cd_row (i := 0) (m' := (counted flex true ([] : List Tre).length 4 ++ (([] : List Tre).take 0).flatMap (fun y => valueB f.of_ f.sub false v flex y)).length) (xs' := u8s (counted flex true ([] : List Tre).length 4 ++ (([] : List Tre).take 0).flatMap (fun y => valueB f.of_ f.sub false v flex y))) rfl (by simp) (by simp) ?_
      refine cd_sr ?_
      refine ln_pv (pv_move rfl) rfl ?_
      refine ln_pv (pv_len_slice Tryd.underlying32 rfl) rfl ?_
      refine ln_pv (pv_move rfl) rfl ?_
      refine ln_cd ?_
      refine cd_block ?_
      refine cd_loop (⟨fun (z : Nat × Value) => [(1, .int .i64 v), (2, .bool flex), (4, .pointer (some ⟨b1, 0, none⟩)), (10, .slice none 0 0), (11, z.2), (30, .int .i64 (([] : List Tre).length : Int)), (31, .int .i64 ((z.1 : Nat) : Int))], fun (z : Nat × Value) => [.row z.2 5 1 (counted flex true ([] : List Tre).length 4 ++ (([] : List Tre).take z.1).flatMap (fun y => valueB f.of_ f.sub false v flex y)).length (u8s (counted flex true ([] : List Tre).length 4 ++ (([] : List Tre).take z.1).flatMap (fun y => valueB f.of_ f.sub false v flex y))), .obj b1 (.cells [.int .i64 f.kind, .int .i64 f.frm, .int .i64 f.to, .int .i64 f.nul, .int .i64 f.tag, .int .i64 f.dflt, .int .i64 f.of_, .slice adf f.sub.length cf].toArray 87)], fun (z : Nat × Value) s => z.1 ≤ ([] : List Tre).length, fun (z : Nat × Value) => ([] : List Tre).length - z.1⟩ : Lp (Nat × Value)) (0, v2) ?_ ?_ ?_ ?_
      · intro s0 hs0
        exact Nat.zero_le _
      · exact ⟨rfl, rfl, rfl, rfl, rfl, rfl, rfl,  trivial⟩
      · exact (.cons_cons _ (.cons _ (.cons_cons _ .slnil)))
      intro z s1 hl1 hI
      obtain ⟨i, vv⟩ := z
      dsimp only at hI ⊢
      have hVf := hVf.mv hl1
      have hFf := hFf.mv hl1
      have hf0 := hf0.mv hl1
      have hx := hx.mv hl1
      have hS := hS.mv hl1
      have hU := hU.mv hl1
      have hU1 := hU1.mv hl1
      have hUs := hUs.mv hl1
      have hL := hL.mv hl1
      have hLs := hLs.mv hl1
      have hQ := hQ.mv hl1
      have hQs := hQs.mv hl1
      refine cd_sr ?_
      refine ln_pv (pv_lss rfl rfl) rfl ?_
      refine ln_cd ?_
      refine cd_seq ?_
      refine cd_if rfl (fun hc3 => ?_) (fun hc3 => ?_)
      · -- yes
        refine cd_skip ?_
        refine at_cd ?_
        refine cd_seq ?_
        refine cd_block ?_
        have hi : i < ([] : List Tre).length := by omega
        exact absurd hi (by simp)
      · -- no
        refine cd_exit rfl ?_
        refine at_cd ?_
        refine cd_sr ?_
        refine ln_pv (pv_move rfl) rfl ?_
        refine ln_pv (pv_assign rfl) rfl ?_
        refine ln_cd ?_
        refine cd_ret ?_
        have hi : i = ([] : List Tre).length := by omega
        subst hi
        refine at_retA rfl rfl (fun w hS => ?_)
        have e : fieldB f v flex x = (counted flex true ([] : List Tre).length 4 ++ (([] : List Tre).take ([] : List Tre).length).flatMap (fun y => valueB f.of_ f.sub false v flex y)) := by
          rw [fieldB_eq, if_pos h11, hnb, List.take_length]
          rfl
        rw [e]
        exact row_rs hS (j := 0) rfl (u8s_one _)
    | false =>
      rw [hnb] at hB
      simp only [Bool.false_eq_true, if_false] at hB
      refine cd_sr ?_
      refine ln_box rfl rfl rfl (fun b1 => ?_)
      refine ln_box rfl rfl rfl (fun b2 => ?_)
      refine ln_pv (pv_assign rfl) rfl ?_
      refine ln_cd ?_
      refine cd_sr ?_
      refine ln_pv (pv_ldO (i := 1) rfl Tryd.underlying87 rfl (tispec_Field).size rfl rfl) rfl ?_
      refine ln_pv (pv_move rfl) rfl ?_
      refine ln_pv (pv_ldO (i := 0) rfl Tryd.underlying35 rfl (tispec_Tree).size rfl rfl) rfl ?_
      refine ln_callS en_171 rfl (fun u hu => by have h := spec_null u f _ v x _ (RF.mv hf0 hu) (RT.mv hx hu); rwa [hnb] at h) rfl ?_
      refine ln_pv (pv_assign rfl) rfl ?_
      refine ln_cd ?_
      refine cd_seq ?_
      refine cd_sr ?_
      refine ln_pv (pv_fieldAddr (off := 0) (r := 0) Tryd.underlying87 rfl (tiint).size rfl rfl rfl) rfl ?_
      refine ln_pv (pv_ldo (i := 1) rfl Tryd.underlying3 rfl rfl rfl) rfl ?_
      refine ln_pv (pv_tt (pv_eql rfl rfl) h11) rfl ?_
      refine ln_cd ?_
      refine cd_tt rfl ?_
      refine cd_sr ?_
      refine ln_pv (pv_fieldAddr (off := 3) (r := 3) Tryd.underlying35 rfl (tiSl_spec_Tree).size rfl rfl rfl) rfl ?_
      refine ln_pv (pv_ldo (i := 0) rfl Tryd.underlying32 rfl rfl rfl) rfl ?_
      refine ln_callA en_172 rfl (fun u hu => spec_things u _ x.l lc (RS.mv hL hu) (RTs.mv hLs hu)) rfl (fun u1 v1 ht1 hR1 => ?_)
      have hVf := hVf.mv ht1
      have hFf := hFf.mv ht1
      have hf0 := hf0.mv ht1
      have hx := hx.mv ht1
      have hS := hS.mv ht1
      have hU := hU.mv ht1
      have hU1 := hU1.mv ht1
      have hUs := hUs.mv ht1
      have hL := hL.mv ht1
      have hLs := hLs.mv ht1
      obtain ⟨lq, hQ, hQs⟩ := hR1
      obtain ⟨adq, cq, rfl, hleq⟩ := hQ.shape
      refine ln_pv (pv_assign rfl) rfl ?_
      refine ln_cd ?_
      refine cd_seq ?_
      refine cd_sr ?_
      refine ln_pv (pv_move rfl) rfl ?_
      refine ln_cd ?_
      refine cd_ff rfl ?_
      refine cd_skip ?_
      refine at_cd ?_
      refine cd_sr ?_
      refine ln_pv (pv_move rfl) rfl ?_
      refine ln_pv (pv_move rfl) rfl ?_
      refine ln_pv (pv_move rfl) rfl ?_
      refine ln_pv (pv_len_slice Tryd.underlying32 rfl) rfl ?_
      refine ln_nilrow 5 1 ?_
      refine ln_callT (i := 0) en_173 rfl rfl (fun u hu hok hav => CN.ct (spec_counted_n u flex false (x.l.take 32767).length 4 (by simp only [List.length_take, List.length_nil]; omega) (by omega))) rfl ?_
      rintro u2 v2 _ ht2 ⟨_, ⟨rfl, h1v2⟩, _⟩
      have hVf := hVf.mv ht2
      have hFf := hFf.mv ht2
      have hf0 := hf0.mv ht2
      have hx := hx.mv ht2
      have hS := hS.mv ht2
      have hU := hU.mv ht2
      have hU1 := hU1.mv ht2
      have hUs := hUs.mv ht2
      have hL := hL.mv ht2
      have hLs := hLs.mv ht2
      have hQ := hQ.mv ht2
      have hQs := hQs.mv ht2
      refine ln_pv (pv_assign rfl) rfl ?_
      refine ln_cd ?_
      refine cd_seq ?_
      have hll := List.length_take_le 32767 x.l
      refine cd_row (i := 0) (m' := (counted flex false (x.l.take 32767).length 4 ++ ((x.l.take 32767).take 0).flatMap (fun y => valueB f.of_ f.sub false v flex y)).length) (xs' := u8s (counted flex false (x.l.take 32767).length 4 ++ ((x.l.take 32767).take 0).flatMap (fun y => valueB f.of_ f.sub false v flex y))) rfl (by simp) (by simp) ?_
      refine cd_sr ?_
      refine ln_pv (pv_move rfl) rfl ?_
      refine ln_pv (pv_len_slice Tryd.underlying32 rfl) rfl ?_
      refine ln_pv (pv_move rfl) rfl ?_
      refine ln_cd ?_
      refine cd_block ?_
      refine cd_loop (⟨fun (z : Nat × Value) => [(1, .int .i64 v), (2, .bool flex), (4, .pointer (some ⟨b1, 0, none⟩)), (10, .slice adq (x.l.take 32767).length cq), (11, z.2), (30, .int .i64 ((x.l.take 32767).length : Int)), (31, .int .i64 ((z.1 : Nat) : Int))], fun (z : Nat × Value) => [.row z.2 5 1 (counted flex false (x.l.take 32767).length 4 ++ ((x.l.take 32767).take z.1).flatMap (fun y => valueB f.of_ f.sub false v flex y)).length (u8s (counted flex false (x.l.take 32767).length 4 ++ ((x.l.take 32767).take z.1).flatMap (fun y => valueB f.of_ f.sub false v flex y))), .obj b1 (.cells [.int .i64 f.kind, .int .i64 f.frm, .int .i64 f.to, .int .i64 f.nul, .int .i64 f.tag, .int .i64 f.dflt, .int .i64 f.of_, .slice adf f.sub.length cf].toArray 87)], fun (z : Nat × Value) s => z.1 ≤ (x.l.take 32767).length, fun (z : Nat × Value) => (x.l.take 32767).length - z.1⟩ : Lp (Nat × Value)) (0, v2) ?_ ?_ ?_ ?_
      · intro s0 hs0
        exact Nat.zero_le _
      · exact ⟨rfl, rfl, rfl, rfl, rfl, rfl, rfl,  trivial⟩
      · exact (.cons_cons _ (.cons _ (.cons_cons _ .slnil)))
      intro z s1 hl1 hI
      obtain ⟨i, vv⟩ := z
      dsimp only at hI ⊢
      have hVf := hVf.mv hl1
      have hFf := hFf.mv hl1
      have hf0 := hf0.mv hl1
      have hx := hx.mv hl1
      have hS := hS.mv hl1
      have hU := hU.mv hl1
      have hU1 := hU1.mv hl1
      have hUs := hUs.mv hl1
      have hL := hL.mv hl1
      have hLs := hLs.mv hl1
      have hQ := hQ.mv hl1
      have hQs := hQs.mv hl1
      refine cd_sr ?_
      refine ln_pv (pv_lss rfl rfl) rfl ?_
      refine ln_cd ?_
      refine cd_seq ?_
      refine cd_if rfl (fun hc3 => ?_) (fun hc3 => ?_)
      · -- yes
        refine cd_skip ?_
        refine at_cd ?_
        refine cd_seq ?_
        refine cd_block ?_
        have hi : i < (x.l.take 32767).length := by omega
        obtain ⟨b0, o0, rfl, hrc⟩ := hQ.pos (by omega) (by decide)
        obtain ⟨c1, c2, c3, he, hk, hr⟩ := RTs.at_ hi hQs
        have hsub := hrc.sub (i * 5) he hk
        have hst := flat_step (fun y => valueB f.of_ f.sub false v flex y) (x.l.take 32767) hi
        have hle := flat_le (fun y => valueB f.of_ f.sub false v flex y) (x.l.take 32767) (i + 1)
        rw [hst] at hle
        simp only [List.length_append] at hB hle
        refine cd_sr ?_
        refine ln_pv (pv_move rfl) rfl ?_
        refine ln_pv (pv_assign rfl) rfl ?_
        refine ln_cd ?_
        refine cd_draw' [1] [0, 1, 2, 3, 4, 5, 6, 7, 8, 9, 10, 13] [0, 1, 2, 3, 4, 5, 6, 7, 8, 9, 10, 11, 12, 13] mixed (by kernel_rfl) ?_
        refine lo_pv rfl rfl (sk_js (Tr.refl _) [1] rfl) (pv_move rfl) rfl ?_
        refine lo_pv rfl rfl (sk_js (Tr.refl _) [1] rfl) (pv_fieldAddr (off := 6) (r := 6) Tryd.underlying87 rfl (tiint).size rfl rfl rfl) rfl ?_
        refine lo_pv rfl rfl (sk_js (Tr.refl _) [1] rfl) (pv_ldo (i := 0) rfl Tryd.underlying3 rfl rfl rfl) rfl ?_
        refine lo_pv rfl rfl (sk_js (Tr.refl _) [1] rfl) (pv_fieldAddr (off := 7) (r := 7) Tryd.underlying87 rfl (tiSl_spec_Field).size rfl rfl rfl) rfl ?_
        refine lo_pv rfl rfl (sk_js (Tr.refl _) [1] rfl) (pv_ldo (i := 0) rfl Tryd.underlying40 rfl rfl rfl) rfl ?_
        refine lo_pv rfl rfl (sk_js (Tr.refl _) [1] rfl) (pv_move rfl) rfl ?_
        refine lo_pv rfl rfl (sk_js (Tr.refl _) [1] rfl) (pv_move rfl) rfl ?_
        refine lo_pv rfl rfl (sk_js (Tr.refl _) [1] rfl) (pv_move rfl) rfl ?_
        refine lo_pv rfl rfl (sk_js (Tr.refl _) [1] rfl) (pv_move rfl) rfl ?_
        refine lo_pv rfl rfl (sk_js (Tr.refl _) [1] rfl) (pv_ixN Tryd.underlying32 tispec_Tree.size rfl rfl hi) rfl ?_
        refine lo_pv rfl rfl (sk_js (Tr.refl _) [1] rfl) (pv_ldR hsub Tryd.underlying35 rfl tispec_Tree.size rfl hr.len) rfl ?_
        refine lo_eff rfl rfl ?_
        refine ln_callA en_174 rfl (fun u hu => hV u _ _ _ false v flex _ (RS.mv hVf hu) (RFs.mv hFf hu) (RT.mv hr hu) (smTs.take hz4 _ _ hi) (by omega)) rfl (fun u3 v3 ht3 hR3 => ?_)
        have hVf := hVf.mv ht3
        have hFf := hFf.mv ht3
        have hf0 := hf0.mv ht3
        have hx := hx.mv ht3
        have hS := hS.mv ht3
        have hU := hU.mv ht3
        have hU1 := hU1.mv ht3
        have hUs := hUs.mv ht3
        have hL := hL.mv ht3
        have hLs := hLs.mv ht3
        have hQ := hQ.mv ht3
        have hQs := hQs.mv ht3
        have hr := hr.mv ht3
        refine lo_back (sk_js ht3 [1] rfl) ?_
        refine lo_eff rfl rfl ?_
        refine ln_append (i := 0) rfl Tryd.underlying22 tiuint8 rfl (by decide) rfl rfl (RS.src hR3) (by simp only [List.length_append, maxLen]; omega) (by simp only [List.length_append, maxLen]; omega) rfl (k' := (counted flex false (x.l.take 32767).length 4 ++ ((x.l.take 32767).take (i + 1)).flatMap (fun y => valueB f.of_ f.sub false v flex y)).length) (xs' := u8s (counted flex false (x.l.take 32767).length 4 ++ ((x.l.take 32767).take (i + 1)).flatMap (fun y => valueB f.of_ f.sub false v flex y))) (by rw [hst]; simp only [List.length_append]; omega) (by rw [hst]; simp [u8s]) (fun v4 hv4 => ?_)
        refine lo_back (sk_js ht3 [1] rfl) ?_
        refine lo_pv rfl rfl (sk_js ht3 [1] rfl) (pv_assign rfl) rfl ?_
        refine lo_nil ?_
        refine at_cd ?_
        refine cd_region ?_
        refine ln_pv (pv_add' rfl rfl (wrap_succ (by omega))) rfl ?_
        refine ln_pv (pv_move rfl) rfl ?_
        refine ln_nil ?_
        refine at_rnd (i + 1, v4) (hl1.trans ht3) ?_ ?_ ⟨rfl, rfl, rfl, rfl, rfl, rfl, rfl,  trivial⟩ (.cons_cons _ (.cons_cons _ .slnil))
        · intro s9 hs9
          show i + 1 ≤ (x.l.take 32767).length
          omega
        · dsimp only; omega
      · -- no
        refine cd_exit rfl ?_
        refine at_cd ?_
        refine cd_sr ?_
        refine ln_pv (pv_move rfl) rfl ?_
        refine ln_pv (pv_assign rfl) rfl ?_
        refine ln_cd ?_
        refine cd_ret ?_
        have hi : i = (x.l.take 32767).length := by omega
        subst hi
        refine at_retA rfl rfl (fun w hS => ?_)
        have e : fieldB f v flex x = (counted flex false (x.l.take 32767).length 4 ++ ((x.l.take 32767).take (x.l.take 32767).length).flatMap (fun y => valueB f.of_ f.sub false v flex y)) := by
          rw [fieldB_eq, if_pos h11, hnb, List.take_length]
          rfl
        rw [e]
        exact row_rs hS (j := 0) rfl (u8s_one _)
  by_cases h10 : f.kind = 10
  · by_cases hnn : f.nul ≥ 0
    · rw [fieldB_eq, if_neg h11, if_pos ⟨h10, hnn⟩] at hB
      cases hnb : nullB f v x with
      | true =>
        refine cd_sr ?_
        refine ln_box rfl rfl rfl (fun b1 => ?_)
        refine ln_box rfl rfl rfl (fun b2 => ?_)
        refine ln_pv (pv_assign rfl) rfl ?_
        refine ln_cd ?_
        refine cd_sr ?_
        refine ln_pv (pv_ldO (i := 1) rfl Tryd.underlying87 rfl (tispec_Field).size rfl rfl) rfl ?_
        refine ln_pv (pv_move rfl) rfl ?_
        refine ln_pv (pv_ldO (i := 0) rfl Tryd.underlying35 rfl (tispec_Tree).size rfl rfl) rfl ?_
        refine ln_callS en_171 rfl (fun u hu => by have h := spec_null u f _ v x _ (RF.mv hf0 hu) (RT.mv hx hu); rwa [hnb] at h) rfl ?_
        refine ln_pv (pv_assign rfl) rfl ?_
        refine ln_cd ?_
        refine cd_seq ?_
        refine cd_sr ?_
        refine ln_pv (pv_fieldAddr (off := 0) (r := 0) Tryd.underlying87 rfl (tiint).size rfl rfl rfl) rfl ?_
        refine ln_pv (pv_ldo (i := 1) rfl Tryd.underlying3 rfl rfl rfl) rfl ?_
        refine ln_pv (pv_ff (pv_eql rfl rfl) h11) rfl ?_
        refine ln_cd ?_
        refine cd_ff rfl ?_
        refine cd_skip ?_
        refine at_cd ?_
        refine cd_seq ?_
        refine cd_sr ?_
        refine ln_pv (pv_fieldAddr (off := 0) (r := 0) Tryd.underlying87 rfl (tiint).size rfl rfl rfl) rfl ?_
        refine ln_pv (pv_ldo (i := 1) rfl Tryd.underlying3 rfl rfl rfl) rfl ?_
        refine ln_pv (pv_tt (pv_eql rfl rfl) h10) rfl ?_
        refine ln_pv (pv_move rfl) rfl ?_
        refine ln_gt rfl rfl rfl (pv_fieldAddr (off := 3) (r := 3) Tryd.underlying87 rfl (tiint).size rfl rfl rfl) rfl ?_
        refine ln_gt rfl rfl rfl (pv_ldo (i := 1) rfl Tryd.underlying3 rfl rfl rfl) rfl ?_
        refine ln_gt rfl rfl rfl (pv_tt (pv_geq rfl rfl) hnn) rfl ?_
        refine ln_pv (pv_pick rfl (fun _ => rfl) (fun _ => rfl)) rfl ?_
        refine ln_cd ?_
        refine cd_tt rfl ?_
        refine cd_seq ?_
        refine cd_sr ?_
        refine ln_pv (pv_move rfl) rfl ?_
        refine ln_cd ?_
        refine cd_tt rfl ?_
        refine cd_sr ?_
        refine ln_callA en_75 rfl (fun u hu => spec_Fixed u (-1) 1 (by omega)) rfl (fun u1 v1 ht1 hR1 => ?_)
        have hVf := hVf.mv ht1
        have hFf := hFf.mv ht1
        have hf0 := hf0.mv ht1
        have hx := hx.mv ht1
        have hS := hS.mv ht1
        have hU := hU.mv ht1
        have hU1 := hU1.mv ht1
        have hUs := hUs.mv ht1
        have hL := hL.mv ht1
        have hLs := hLs.mv ht1
        refine ln_pv (pv_assign rfl) rfl ?_
        refine ln_cd ?_
        refine cd_ret ?_
        refine at_retA rfl rfl (fun w hS => ?_)
        rw [fieldB_eq, if_neg h11, if_pos ⟨h10, hnn⟩, hnb, if_pos rfl]
        exact RSv.mv hR1 hS.trFin
      | false =>
        rw [hnb, if_neg (by decide)] at hB
        refine cd_sr ?_
        refine ln_box rfl rfl rfl (fun b1 => ?_)
        refine ln_box rfl rfl rfl (fun b2 => ?_)
        refine ln_pv (pv_assign rfl) rfl ?_
        refine ln_cd ?_
        refine cd_sr ?_
        refine ln_pv (pv_ldO (i := 1) rfl Tryd.underlying87 rfl (tispec_Field).size rfl rfl) rfl ?_
        refine ln_pv (pv_move rfl) rfl ?_
        refine ln_pv (pv_ldO (i := 0) rfl Tryd.underlying35 rfl (tispec_Tree).size rfl rfl) rfl ?_
        refine ln_callS en_171 rfl (fun u hu => by have h := spec_null u f _ v x _ (RF.mv hf0 hu) (RT.mv hx hu); rwa [hnb] at h) rfl ?_
        refine ln_pv (pv_assign rfl) rfl ?_
        refine ln_cd ?_
        refine cd_seq ?_
        refine cd_sr ?_
        refine ln_pv (pv_fieldAddr (off := 0) (r := 0) Tryd.underlying87 rfl (tiint).size rfl rfl rfl) rfl ?_
        refine ln_pv (pv_ldo (i := 1) rfl Tryd.underlying3 rfl rfl rfl) rfl ?_
        refine ln_pv (pv_ff (pv_eql rfl rfl) h11) rfl ?_
        refine ln_cd ?_
        refine cd_ff rfl ?_
        refine cd_skip ?_
        refine at_cd ?_
        refine cd_seq ?_
        refine cd_sr ?_
        refine ln_pv (pv_fieldAddr (off := 0) (r := 0) Tryd.underlying87 rfl (tiint).size rfl rfl rfl) rfl ?_
        refine ln_pv (pv_ldo (i := 1) rfl Tryd.underlying3 rfl rfl rfl) rfl ?_
        refine ln_pv (pv_tt (pv_eql rfl rfl) h10) rfl ?_
        refine ln_pv (pv_move rfl) rfl ?_
        refine ln_gt rfl rfl rfl (pv_fieldAddr (off := 3) (r := 3) Tryd.underlying87 rfl (tiint).size rfl rfl rfl) rfl ?_
        refine ln_gt rfl rfl rfl (pv_ldo (i := 1) rfl Tryd.underlying3 rfl rfl rfl) rfl ?_
        refine ln_gt rfl rfl rfl (pv_tt (pv_geq rfl rfl) hnn) rfl ?_
        refine ln_pv (pv_pick rfl (fun _ => rfl) (fun _ => rfl)) rfl ?_
        refine ln_cd ?_
        refine cd_tt rfl ?_
        refine cd_seq ?_
        refine cd_sr ?_
        refine ln_pv (pv_move rfl) rfl ?_
        refine ln_cd ?_
        refine cd_ff rfl ?_
        refine cd_skip ?_
        refine at_cd ?_
        refine cd_dr' [0, 1] [1, 2, 3, 4, 5, 8] [1, 2, 3, 4, 5, 0, 6, 7, 8] mixed (by kernel_rfl) ?_
        refine lo_pv rfl rfl (sk_js (Tr.refl _) [0, 1] rfl) (pv_fieldAddr (off := 7) (r := 7) Tryd.underlying87 rfl (tiSl_spec_Field).size rfl rfl rfl) rfl ?_
        refine lo_pv rfl rfl (sk_js (Tr.refl _) [0, 1] rfl) (pv_ldo (i := 1) rfl Tryd.underlying40 rfl rfl rfl) rfl ?_
        refine lo_pv rfl rfl (sk_js (Tr.refl _) [0, 1] rfl) (pv_move rfl) rfl ?_
        refine lo_pv rfl rfl (sk_js (Tr.refl _) [0, 1] rfl) (pv_move rfl) rfl ?_
        refine lo_pv rfl rfl (sk_js (Tr.refl _) [0, 1] rfl) (pv_ldO (i := 0) rfl Tryd.underlying35 rfl (tispec_Tree).size rfl rfl) rfl ?_
        refine lo_eff rfl rfl ?_
        refine ln_nilrow 5 1 ?_
        refine ln_callT (i := 0) en_75 rfl rfl (fun u hu hok hav => CN.ct (spec_Fixed_n u 1 1 (by omega))) rfl ?_
        rintro u1 v1 _ ht1 ⟨_, ⟨rfl, h1v1⟩, _⟩
        have hVf := hVf.mv ht1
        have hFf := hFf.mv ht1
        have hf0 := hf0.mv ht1
        have hx := hx.mv ht1
        have hS := hS.mv ht1
        have hU := hU.mv ht1
        have hU1 := hU1.mv ht1
        have hUs := hUs.mv ht1
        have hL := hL.mv ht1
        have hLs := hLs.mv ht1
        refine lo_back (sk_js ht1 [1, 2] rfl) ?_
        refine lo_eff rfl rfl ?_
        refine ln_callA en_109 rfl (fun u hu => hP u _ _ _ v flex x (RS.mv hVf hu) (RFs.mv hFf hu) (RT.mv hx hu) hsm (by simp only [List.length_append] at hB; omega)) rfl (fun u2 v2 ht2 hR2 => ?_)
        have hVf := hVf.mv ht2
        have hFf := hFf.mv ht2
        have hf0 := hf0.mv ht2
        have hx := hx.mv ht2
        have hS := hS.mv ht2
        have hU := hU.mv ht2
        have hU1 := hU1.mv ht2
        have hUs := hUs.mv ht2
        have hL := hL.mv ht2
        have hLs := hLs.mv ht2
        refine lo_back (sk_js (ht1.trans ht2) [1, 2] rfl) ?_
        refine lo_eff rfl rfl ?_
        refine ln_append (i := 0) rfl Tryd.underlying22 tiuint8 rfl (by decide) rfl rfl (RS.src hR2) (by simp only [List.length_append, maxLen] at hB ⊢; omega) (by simp only [List.length_append, maxLen] at hB ⊢; omega) rfl (k' := (fixed 1 1 ++ partB f.sub v flex x).length) (xs' := u8s (fixed 1 1 ++ partB f.sub v flex x)) (by simp) (by simp [u8s]) (fun v3 hv3 => ?_)
        refine lo_back (sk_js (ht1.trans ht2) [1, 2] rfl) ?_
        refine lo_pv rfl rfl (sk_js (ht1.trans ht2) [1, 2] rfl) (pv_assign rfl) rfl ?_
        refine lo_cd ?_
        refine cd_ret ?_
        refine at_retA rfl rfl (fun w hS => ?_)
        rw [fieldB_eq, if_neg h11, if_pos ⟨h10, hnn⟩, hnb, if_neg (by decide)]
        exact row_rs hS (j := 0) rfl (u8s_one _)
    · rw [fieldB_eq, if_neg h11, if_neg (fun h => hnn h.2)] at hB
      refine cd_sr ?_
      refine ln_box rfl rfl rfl (fun b1 => ?_)
      refine ln_box rfl rfl rfl (fun b2 => ?_)
      refine ln_pv (pv_assign rfl) rfl ?_
      refine ln_cd ?_
      refine cd_sr ?_
      refine ln_pv (pv_ldO (i := 1) rfl Tryd.underlying87 rfl (tispec_Field).size rfl rfl) rfl ?_
      refine ln_pv (pv_move rfl) rfl ?_
      refine ln_pv (pv_ldO (i := 0) rfl Tryd.underlying35 rfl (tispec_Tree).size rfl rfl) rfl ?_
      refine ln_callS en_171 rfl (fun u hu => spec_null u f _ v x _ (RF.mv hf0 hu) (RT.mv hx hu)) rfl ?_
      refine ln_pv (pv_assign rfl) rfl ?_
      refine ln_cd ?_
      refine cd_seq ?_
      refine cd_sr ?_
      refine ln_pv (pv_fieldAddr (off := 0) (r := 0) Tryd.underlying87 rfl (tiint).size rfl rfl rfl) rfl ?_
      refine ln_pv (pv_ldo (i := 1) rfl Tryd.underlying3 rfl rfl rfl) rfl ?_
      refine ln_pv (pv_ff (pv_eql rfl rfl) h11) rfl ?_
      refine ln_cd ?_
      refine cd_ff rfl ?_
      refine cd_skip ?_
      refine at_cd ?_
      refine cd_seq ?_
      refine cd_sr ?_
      refine ln_pv (pv_fieldAddr (off := 0) (r := 0) Tryd.underlying87 rfl (tiint).size rfl rfl rfl) rfl ?_
      refine ln_pv (pv_ldo (i := 1) rfl Tryd.underlying3 rfl rfl rfl) rfl ?_
      refine ln_pv (pv_tt (pv_eql rfl rfl) h10) rfl ?_
      refine ln_pv (pv_move rfl) rfl ?_
      refine ln_gt rfl rfl rfl (pv_fieldAddr (off := 3) (r := 3) Tryd.underlying87 rfl (tiint).size rfl rfl rfl) rfl ?_
      refine ln_gt rfl rfl rfl (pv_ldo (i := 1) rfl Tryd.underlying3 rfl rfl rfl) rfl ?_
      refine ln_gt rfl rfl rfl (pv_ff (pv_geq rfl rfl) (by omega)) rfl ?_
      refine ln_pv (pv_pick rfl (fun _ => rfl) (fun _ => rfl)) rfl ?_
      refine ln_cd ?_
      refine cd_ff rfl ?_
      refine cd_skip ?_
      refine at_cd ?_
      refine cd_sr ?_
      refine ln_pv (pv_fieldAddr (off := 0) (r := 0) Tryd.underlying87 rfl (tiint).size rfl rfl rfl) rfl ?_
      refine ln_pv (pv_ldo (i := 1) rfl Tryd.underlying3 rfl rfl rfl) rfl ?_
      refine ln_pv (pv_fieldAddr (off := 7) (r := 7) Tryd.underlying87 rfl (tiSl_spec_Field).size rfl rfl rfl) rfl ?_
      refine ln_pv (pv_ldo (i := 1) rfl Tryd.underlying40 rfl rfl rfl) rfl ?_
      refine ln_pv (pv_move rfl) rfl ?_
      refine ln_pv (pv_move rfl) rfl ?_
      refine ln_pv (pv_move rfl) rfl ?_
      refine ln_pv (pv_ldO (i := 0) rfl Tryd.underlying35 rfl (tispec_Tree).size rfl rfl) rfl ?_
      refine ln_callA en_174 rfl (fun u hu => hW u _ _ _ (nullB f v x) v flex x (RS.mv hVf hu) (RFs.mv hFf hu) (RT.mv hx hu) hsm hB) rfl (fun u1 v1 ht1 hR1 => ?_)
      have hVf := hVf.mv ht1
      have hFf := hFf.mv ht1
      have hf0 := hf0.mv ht1
      have hx := hx.mv ht1
      have hS := hS.mv ht1
      have hU := hU.mv ht1
      have hU1 := hU1.mv ht1
      have hUs := hUs.mv ht1
      have hL := hL.mv ht1
      have hLs := hLs.mv ht1
      refine ln_pv (pv_assign rfl) rfl ?_
      refine ln_cd ?_
      refine cd_ret ?_
      refine at_retA rfl rfl (fun w hS => ?_)
      rw [fieldB_eq, if_neg h11, if_neg (fun h => hnn h.2)]
      exact RSv.mv hR1 hS.trFin
  rw [fieldB_eq, if_neg h11, if_neg (fun h => h10 h.1)] at hB
  refine cd_sr ?_
  refine ln_box rfl rfl rfl (fun b1 => ?_)
  refine ln_box rfl rfl rfl (fun b2 => ?_)
  refine ln_pv (pv_assign rfl) rfl ?_
  refine ln_cd ?_
  refine cd_sr ?_
  refine ln_pv (pv_ldO (i := 1) rfl Tryd.underlying87 rfl (tispec_Field).size rfl rfl) rfl ?_
  refine ln_pv (pv_move rfl) rfl ?_
  refine ln_pv (pv_ldO (i := 0) rfl Tryd.underlying35 rfl (tispec_Tree).size rfl rfl) rfl ?_
  refine ln_callS en_171 rfl (fun u hu => spec_null u f _ v x _ (RF.mv hf0 hu) (RT.mv hx hu)) rfl ?_
  refine ln_pv (pv_assign rfl) rfl ?_
  refine ln_cd ?_
  refine cd_seq ?_
  refine cd_sr ?_
  refine ln_pv (pv_fieldAddr (off := 0) (r := 0) Tryd.underlying87 rfl (tiint).size rfl rfl rfl) rfl ?_
  refine ln_pv (pv_ldo (i := 1) rfl Tryd.underlying3 rfl rfl rfl) rfl ?_
  refine ln_pv (pv_ff (pv_eql rfl rfl) h11) rfl ?_
  refine ln_cd ?_
  refine cd_ff rfl ?_
  refine cd_skip ?_
  refine at_cd ?_
  refine cd_seq ?_
  refine cd_sr ?_
  refine ln_pv (pv_fieldAddr (off := 0) (r := 0) Tryd.underlying87 rfl (tiint).size rfl rfl rfl) rfl ?_
  refine ln_pv (pv_ldo (i := 1) rfl Tryd.underlying3 rfl rfl rfl) rfl ?_
  refine ln_pv (pv_ff (pv_eql rfl rfl) h10) rfl ?_
  refine ln_pv (pv_move rfl) rfl ?_
  refine ln_gf rfl rfl rfl rfl rfl ?_
  refine ln_gf rfl rfl rfl rfl rfl ?_
  refine ln_gf rfl rfl rfl rfl rfl ?_
  refine ln_pv (pv_pick rfl (fun _ => rfl) (fun _ => rfl)) rfl ?_
  refine ln_cd ?_
  refine cd_ff rfl ?_
  refine cd_skip ?_
  refine at_cd ?_
  refine cd_sr ?_
  refine ln_pv (pv_fieldAddr (off := 0) (r := 0) Tryd.underlying87 rfl (tiint).size rfl rfl rfl) rfl ?_
  refine ln_pv (pv_ldo (i := 1) rfl Tryd.underlying3 rfl rfl rfl) rfl ?_
  refine ln_pv (pv_fieldAddr (off := 7) (r := 7) Tryd.underlying87 rfl (tiSl_spec_Field).size rfl rfl rfl) rfl ?_
  refine ln_pv (pv_ldo (i := 1) rfl Tryd.underlying40 rfl rfl rfl) rfl ?_
  refine ln_pv (pv_move rfl) rfl ?_
  refine ln_pv (pv_move rfl) rfl ?_
  refine ln_pv (pv_move rfl) rfl ?_
  refine ln_pv (pv_ldO (i := 0) rfl Tryd.underlying35 rfl (tispec_Tree).size rfl rfl) rfl ?_
  refine ln_callA en_174 rfl (fun u hu => hW u _ _ _ (nullB f v x) v flex x (RS.mv hVf hu) (RFs.mv hFf hu) (RT.mv hx hu) hsm hB) rfl (fun u1 v1 ht1 hR1 => ?_)
  have hVf := hVf.mv ht1
  have hFf := hFf.mv ht1
  have hf0 := hf0.mv ht1
  have hx := hx.mv ht1
  have hS := hS.mv ht1
  have hU := hU.mv ht1
  have hU1 := hU1.mv ht1
  have hUs := hUs.mv ht1
  have hL := hL.mv ht1
  have hLs := hLs.mv ht1
  refine ln_pv (pv_assign rfl) rfl ?_
  refine ln_cd ?_
  refine cd_ret ?_
  refine at_retA rfl rfl (fun w hS => ?_)
  rw [fieldB_eq, if_neg h11, if_neg (fun h => h10 h.1)]
  exact RSv.mv hR1 hS.trFin
end K
end Go.Proofs.YtjjfpdofkdolnaaDoor
