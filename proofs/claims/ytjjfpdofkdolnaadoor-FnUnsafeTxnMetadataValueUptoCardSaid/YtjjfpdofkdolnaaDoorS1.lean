import Derived.Test.YtjjfpdofkdolnaaDoorIx
set_option linter.unusedVariables false
set_option linter.unusedSimpArgs false
namespace Go.Proofs.YtjjfpdofkdolnaaDoor
namespace K
open Go Go.Lib
theorem spec_at (t : Vw) (x : Tre) (cs : List Value) (i : Nat) (hx : RT t x cs) : CA Tryd.prog 151 [.agg cs.toArray, .int .i64 (i : Int)] t fun u r => ∃ ds, r = .agg ds.toArray ∧ RT u (x.at_ i) ds := by
  obtain ⟨n, b, z, l, u⟩ := x
  have hx0 := hx
  simp only [RT] at hx
  obtain ⟨sS, sL, sU, rfl, hn, hS, ⟨lc, hL, hLs⟩, hU⟩ := hx
  obtain ⟨ad, c, rfl, hle⟩ := hL.shape
  refine ca_enter Tryd.func151 rfl Tryd.ntmps151 rfl ?_
  refine cd_sr ?_
  refine ln_box rfl rfl rfl (fun b1 => ?_)
  refine ln_alloc tispec_Tree rfl rfl (fun b2 => ?_)
  refine ln_cd ?_
  refine cd_seq ?_
  refine cd_sr ?_
  refine ln_pv (pv_move rfl) rfl ?_
  refine ln_pv (pv_fieldAddr (off := 3) (r := 3) Tryd.underlying35 rfl (tiSl_spec_Tree).size rfl rfl rfl) rfl ?_
  refine ln_pv (pv_ldo (i := 1) rfl Tryd.underlying32 rfl rfl rfl) rfl ?_
  refine ln_pv (pv_len_slice Tryd.underlying32 rfl) rfl ?_
  refine ln_pv (pv_lss rfl rfl) rfl ?_
  refine ln_cd ?_
  refine cd_if rfl (fun hc1 => ?_) (fun hc1 => ?_)
  · -- yes
    have hi : i < l.length := by omega
    obtain ⟨b0, o0, rfl, hrc⟩ := hL.pos (by omega) (by decide)
    obtain ⟨c1, c2, c3, he, hk, hr⟩ := RTs.at_ hi hLs
    have hsub := hrc.sub (i * 5) he hk
    refine cd_sr ?_
    refine ln_pv (pv_fieldAddr (off := 3) (r := 3) Tryd.underlying35 rfl (tiSl_spec_Tree).size rfl rfl rfl) rfl ?_
    refine ln_pv (pv_ldo (i := 1) rfl Tryd.underlying32 rfl rfl rfl) rfl ?_
    refine ln_pv (pv_move rfl) rfl ?_
    refine ln_pv (pv_ixN Tryd.underlying32 tispec_Tree.size rfl rfl hi) rfl ?_
    refine ln_pv (pv_ldR hsub Tryd.underlying35 rfl tispec_Tree.size rfl hr.len) rfl ?_
    refine ln_storeW (i := 0) rfl rfl rfl rfl (tispec_Tree).size hr.len hr.cells ?_
    refine ln_cd ?_
    refine cd_ret ?_
    refine at_retC (i := 0) rfl rfl rfl Tryd.underlying35 rfl tispec_Tree.size hr.len (fun w hS => ?_)
    exact ⟨_, rfl, by simpa [Tre.at_, Tre.l, hi] using hr.mv hS.trFin⟩
  · -- no
    refine cd_skip ?_
    refine at_cd ?_
    refine cd_sr ?_
    refine ln_pv (pv_struct [(0, 1), (1, 1), (2, 1), (3, 1), (4, 1)] (l := [_, _, _, _, _]) rfl Tryd.underlying35 tispec_Tree (by kernel_rfl) rfl rfl) rfl ?_
    refine ln_storeW (i := 0) rfl rfl rfl rfl (tispec_Tree).size rfl (by simp []) ?_
    refine ln_cd ?_
    refine cd_ret ?_
    refine at_retC (i := 0) rfl rfl rfl Tryd.underlying35 rfl tispec_Tree.size rfl (fun w hS => ?_)
    have hi : ¬ i < l.length := by omega
    exact ⟨_, rfl, by simpa [Tre.at_, Tre.l, hi] using RT.nul hS.fin⟩
theorem spec_whole (t : Vw) (v : Value) (b : List UInt8) (hb : RSv t v b) : CA Tryd.prog 156 [v] t fun u r => RSv u r (b.take 32767) := by
  obtain ⟨ad, c, rfl, hle⟩ := hb.shape
  refine ca_enter Tryd.func156 rfl Tryd.ntmps156 rfl ?_
  refine cd_sr ?_
  refine ln_pv (pv_assign rfl) rfl ?_
  refine ln_cd ?_
  refine cd_sr ?_
  refine ln_pv (pv_move rfl) rfl ?_
  refine ln_pv (pv_move rfl) rfl ?_
  refine ln_pv (pv_len_slice Tryd.underlying22 rfl) rfl ?_
  refine ln_pv (pv_min rfl rfl) rfl ?_
  refine ln_pv (pv_slice_hi Tryd.underlying22 (by kernel_rfl) rfl rfl (by split <;> omega) (by split <;> omega)) rfl ?_
  refine ln_pv (pv_assign rfl) rfl ?_
  refine ln_cd ?_
  refine cd_ret ?_
  refine at_retA rfl rfl (fun w hS => ?_)
  have hk : (if (32767 : Int) < (b.length : Int) then (32767 : Int) else (b.length : Int)).toNat = (b.take 32767).length := by rw [List.length_take]; split <;> omega
  show RS _ 1 _ _ _
  rw [hk]
  have h := RS.take hb (k := (b.take 32767).length) (by rw [List.length_take]; omega)
  have e : u8s (b.take 32767) = (u8s b).take ((b.take 32767).length * 1) := by simp [u8s, List.map_take, List.take_eq_take_iff]
  rw [e]
  exact h.mv hS.trFin
theorem RTs.take {s : Vw} : ∀ {l : List Tre} {cs : List Value} (k : Nat), RTs s l cs → RTs s (l.take k) (cs.take (k * 5))
  | [], cs, k, h => by simp only [RTs] at h; subst h; simp [RTs]
  | x :: r, cs, 0, h => by simp [RTs]
  | x :: r, cs, k + 1, h => by
    simp only [RTs] at h
    obtain ⟨c, c', h1, h2, h3⟩ := h
    simp only [List.take_succ_cons, RTs]
    refine ⟨c, c'.take (k * 5), ?_, h2, RTs.take k h3⟩
    subst h1
    have hl := h2.len
    rw [List.take_append, List.take_of_length_le (by omega), show (k + 1) * 5 - c.length = k * 5 by omega]
theorem spec_things (t : Vw) (v : Value) (l : List Tre) (lc : List Value) (hL : RS t 5 v l.length lc) (hLs : RTs t l lc) : CA Tryd.prog 172 [v] t fun u r => ∃ lc, RS u 5 r (l.take 32767).length lc ∧ RTs u (l.take 32767) lc := by
  obtain ⟨ad, c, rfl, hle⟩ := hL.shape
  refine ca_enter Tryd.func172 rfl Tryd.ntmps172 rfl ?_
  refine cd_sr ?_
  refine ln_pv (pv_assign rfl) rfl ?_
  refine ln_cd ?_
  refine cd_sr ?_
  refine ln_pv (pv_move rfl) rfl ?_
  refine ln_pv (pv_move rfl) rfl ?_
  refine ln_pv (pv_len_slice Tryd.underlying32 rfl) rfl ?_
  refine ln_pv (pv_min rfl rfl) rfl ?_
  refine ln_pv (pv_slice_hi Tryd.underlying32 (by kernel_rfl) rfl rfl (by split <;> omega) (by split <;> omega)) rfl ?_
  refine ln_pv (pv_assign rfl) rfl ?_
  refine ln_cd ?_
  refine cd_ret ?_
  refine at_retA rfl rfl (fun w hS => ?_)
  have hk : (if (32767 : Int) < (l.length : Int) then (32767 : Int) else (l.length : Int)).toNat = (l.take 32767).length := by rw [List.length_take]; split <;> omega
  rw [hk]
  have h := RS.take hL (k := (l.take 32767).length) (by rw [List.length_take]; omega)
  refine ⟨_, h.mv hS.trFin, ?_⟩
  have e := RTs.take (l.take 32767).length hLs
  have e2 : l.take (l.take 32767).length = l.take 32767 := by rw [List.length_take, List.take_eq_take_iff]; omega
  rw [e2] at e
  exact e.mv hS.trFin
theorem spec_null (t : Vw) (f : Fld) (fc : List Value) (v : Int) (x : Tre) (cs : List Value) (hf : RF t f fc) (hx : RT t x cs) : CS Tryd.prog 171 [.agg fc.toArray, .int .i64 v, .agg cs.toArray] t (.bool (nullB f v x)) := by
  obtain ⟨k, a, b, c, d, e, o, sub⟩ := f
  simp only [RF] at hf
  obtain ⟨sv, rfl, lc, hV, hFs⟩ := hf
  obtain ⟨n, bb, z, l, u⟩ := x
  simp only [RT] at hx
  obtain ⟨sS, sL, sU, rfl, hn, hS, ⟨lt, hL, hLs⟩, hU⟩ := hx
  refine CA.cs ?_
  refine ca_enter Tryd.func171 rfl Tryd.ntmps171 rfl ?_
  cases z with
  | false =>
    refine cd_sr ?_
    refine ln_box rfl rfl rfl (fun b1 => ?_)
    refine ln_box rfl rfl rfl (fun b2 => ?_)
    refine ln_pv (pv_assign rfl) rfl ?_
    refine ln_cd ?_
    refine cd_sr ?_
    refine ln_pv (pv_fieldAddr (off := 2) (r := 2) Tryd.underlying35 rfl (tibool).size rfl rfl rfl) rfl ?_
    refine ln_pv (pv_ldo (i := 0) rfl Tryd.underlying4 rfl rfl rfl) rfl ?_
    refine ln_pv (pv_move rfl) rfl ?_
    refine ln_gf rfl rfl rfl rfl rfl ?_
    refine ln_gf rfl rfl rfl rfl rfl ?_
    refine ln_gf rfl rfl rfl rfl rfl ?_
    refine ln_pv (pv_pick rfl (fun _ => rfl) (fun _ => rfl)) rfl ?_
    refine ln_pv (pv_move rfl) rfl ?_
    refine ln_gf rfl rfl rfl rfl rfl ?_
    refine ln_gf rfl rfl rfl rfl rfl ?_
    refine ln_gf rfl rfl rfl rfl rfl ?_
    refine ln_gf rfl rfl rfl rfl rfl ?_
    refine ln_pv (pv_pick rfl (fun _ => rfl) (fun _ => rfl)) rfl ?_
    refine ln_pv (pv_assign rfl) rfl ?_
    refine ln_cd ?_
    refine cd_ret ?_
    refine at_retA rfl rfl (fun w hS => ?_)
    first | (simp [nullB, Tre.z, Fld.nul]; done) | (simp [nullB, Tre.z, Fld.nul]; omega)
  | true =>
    by_cases h1 : c < 0
    · skip
      refine cd_sr ?_
      refine ln_box rfl rfl rfl (fun b1 => ?_)
      refine ln_box rfl rfl rfl (fun b2 => ?_)
      refine ln_pv (pv_assign rfl) rfl ?_
      refine ln_cd ?_
      refine cd_sr ?_
      refine ln_pv (pv_fieldAddr (off := 2) (r := 2) Tryd.underlying35 rfl (tibool).size rfl rfl rfl) rfl ?_
      refine ln_pv (pv_ldo (i := 0) rfl Tryd.underlying4 rfl rfl rfl) rfl ?_
      refine ln_pv (pv_move rfl) rfl ?_
      refine ln_gt rfl rfl rfl (pv_fieldAddr (off := 3) (r := 3) Tryd.underlying87 rfl (tiint).size rfl rfl rfl) rfl ?_
      refine ln_gt rfl rfl rfl (pv_ldo (i := 1) rfl Tryd.underlying3 rfl rfl rfl) rfl ?_
      refine ln_gt rfl rfl rfl (pv_ff (pv_geq rfl rfl) (by omega)) rfl ?_
      refine ln_pv (pv_pick rfl (fun _ => rfl) (fun _ => rfl)) rfl ?_
      refine ln_pv (pv_move rfl) rfl ?_
      refine ln_gf rfl rfl rfl rfl rfl ?_
      refine ln_gf rfl rfl rfl rfl rfl ?_
      refine ln_gf rfl rfl rfl rfl rfl ?_
      refine ln_gf rfl rfl rfl rfl rfl ?_
      refine ln_pv (pv_pick rfl (fun _ => rfl) (fun _ => rfl)) rfl ?_
      refine ln_pv (pv_assign rfl) rfl ?_
      refine ln_cd ?_
      refine cd_ret ?_
      refine at_retA rfl rfl (fun w hS => ?_)
      first | (simp [nullB, Tre.z, Fld.nul, h1]; done) | (simp [nullB, Tre.z, Fld.nul, h1]; omega)
    · by_cases h2 : v < c
      · skip
        refine cd_sr ?_
        refine ln_box rfl rfl rfl (fun b1 => ?_)
        refine ln_box rfl rfl rfl (fun b2 => ?_)
        refine ln_pv (pv_assign rfl) rfl ?_
        refine ln_cd ?_
        refine cd_sr ?_
        refine ln_pv (pv_fieldAddr (off := 2) (r := 2) Tryd.underlying35 rfl (tibool).size rfl rfl rfl) rfl ?_
        refine ln_pv (pv_ldo (i := 0) rfl Tryd.underlying4 rfl rfl rfl) rfl ?_
        refine ln_pv (pv_move rfl) rfl ?_
        refine ln_gt rfl rfl rfl (pv_fieldAddr (off := 3) (r := 3) Tryd.underlying87 rfl (tiint).size rfl rfl rfl) rfl ?_
        refine ln_gt rfl rfl rfl (pv_ldo (i := 1) rfl Tryd.underlying3 rfl rfl rfl) rfl ?_
        refine ln_gt rfl rfl rfl (pv_tt (pv_geq rfl rfl) (by omega)) rfl ?_
        refine ln_pv (pv_pick rfl (fun _ => rfl) (fun _ => rfl)) rfl ?_
        refine ln_pv (pv_move rfl) rfl ?_
        refine ln_gt rfl rfl rfl (pv_move rfl) rfl ?_
        refine ln_gt rfl rfl rfl (pv_fieldAddr (off := 3) (r := 3) Tryd.underlying87 rfl (tiint).size rfl rfl rfl) rfl ?_
        refine ln_gt rfl rfl rfl (pv_ldo (i := 1) rfl Tryd.underlying3 rfl rfl rfl) rfl ?_
        refine ln_gt rfl rfl rfl (pv_ff (pv_geq rfl rfl) (by omega)) rfl ?_
        refine ln_pv (pv_pick rfl (fun _ => rfl) (fun _ => rfl)) rfl ?_
        refine ln_pv (pv_assign rfl) rfl ?_
        refine ln_cd ?_
        refine cd_ret ?_
        refine at_retA rfl rfl (fun w hS => ?_)
        first | (simp [nullB, Tre.z, Fld.nul, h1, h2]; done) | (simp [nullB, Tre.z, Fld.nul, h1, h2]; omega)
      · skip
        refine cd_sr ?_
        refine ln_box rfl rfl rfl (fun b1 => ?_)
        refine ln_box rfl rfl rfl (fun b2 => ?_)
        refine ln_pv (pv_assign rfl) rfl ?_
        refine ln_cd ?_
        refine cd_sr ?_
        refine ln_pv (pv_fieldAddr (off := 2) (r := 2) Tryd.underlying35 rfl (tibool).size rfl rfl rfl) rfl ?_
        refine ln_pv (pv_ldo (i := 0) rfl Tryd.underlying4 rfl rfl rfl) rfl ?_
        refine ln_pv (pv_move rfl) rfl ?_
        refine ln_gt rfl rfl rfl (pv_fieldAddr (off := 3) (r := 3) Tryd.underlying87 rfl (tiint).size rfl rfl rfl) rfl ?_
        refine ln_gt rfl rfl rfl (pv_ldo (i := 1) rfl Tryd.underlying3 rfl rfl rfl) rfl ?_
        refine ln_gt rfl rfl rfl (pv_tt (pv_geq rfl rfl) (by omega)) rfl ?_
        refine ln_pv (pv_pick rfl (fun _ => rfl) (fun _ => rfl)) rfl ?_
        refine ln_pv (pv_move rfl) rfl ?_
        refine ln_gt rfl rfl rfl (pv_move rfl) rfl ?_
        refine ln_gt rfl rfl rfl (pv_fieldAddr (off := 3) (r := 3) Tryd.underlying87 rfl (tiint).size rfl rfl rfl) rfl ?_
        refine ln_gt rfl rfl rfl (pv_ldo (i := 1) rfl Tryd.underlying3 rfl rfl rfl) rfl ?_
        refine ln_gt rfl rfl rfl (pv_tt (pv_geq rfl rfl) (by omega)) rfl ?_
        refine ln_pv (pv_pick rfl (fun _ => rfl) (fun _ => rfl)) rfl ?_
        refine ln_pv (pv_assign rfl) rfl ?_
        refine ln_cd ?_
        refine cd_ret ?_
        refine at_retA rfl rfl (fun w hS => ?_)
        first | (simp [nullB, Tre.z, Fld.nul, h1, h2]; done) | (simp [nullB, Tre.z, Fld.nul, h1, h2]; omega)
theorem spec_has (t : Vw) (f : Fld) (fc : List Value) (v : Int) (hf : RF t f fc) : CS Tryd.prog 149 [.agg fc.toArray, .int .i64 v] t (.bool (hasB f v)) := by
  obtain ⟨k, a, b, c, d, e, o, sub⟩ := f
  simp only [RF] at hf
  obtain ⟨sv, rfl, lc, hV, hFs⟩ := hf
  refine CA.cs ?_
  refine ca_enter Tryd.func149 rfl Tryd.ntmps149 rfl ?_
  by_cases h1 : a ≤ v
  · by_cases h2 : b < 0
    · skip
      refine cd_sr ?_
      refine ln_box rfl rfl rfl (fun b1 => ?_)
      refine ln_pv (pv_assign rfl) rfl ?_
      refine ln_cd ?_
      refine cd_sr ?_
      refine ln_pv (pv_fieldAddr (off := 1) (r := 1) Tryd.underlying87 rfl (tiint).size rfl rfl rfl) rfl ?_
      refine ln_pv (pv_ldo (i := 0) rfl Tryd.underlying3 rfl rfl rfl) rfl ?_
      refine ln_pv (pv_move rfl) rfl ?_
      refine ln_pv (pv_tt (pv_leq rfl rfl) h1) rfl ?_
      refine ln_pv (pv_move rfl) rfl ?_
      refine ln_gt rfl rfl rfl (pv_fieldAddr (off := 2) (r := 2) Tryd.underlying87 rfl (tiint).size rfl rfl rfl) rfl ?_
      refine ln_gt rfl rfl rfl (pv_ldo (i := 0) rfl Tryd.underlying3 rfl rfl rfl) rfl ?_
      refine ln_gt rfl rfl rfl (pv_tt (pv_lss rfl rfl) h2) rfl ?_
      refine ln_gt rfl rfl rfl (pv_move rfl) rfl ?_
      refine ln_gf rfl rfl rfl rfl rfl ?_
      refine ln_gf rfl rfl rfl rfl rfl ?_
      refine ln_gf rfl rfl rfl rfl rfl ?_
      refine ln_gf rfl rfl rfl rfl rfl ?_
      refine ln_gt rfl rfl rfl (pv_pick rfl (fun _ => rfl) (fun _ => rfl)) rfl ?_
      refine ln_pv (pv_pick rfl (fun _ => rfl) (fun _ => rfl)) rfl ?_
      refine ln_pv (pv_assign rfl) rfl ?_
      refine ln_cd ?_
      refine cd_ret ?_
      refine at_retA rfl rfl (fun w hS => ?_)
      by_cases h3 : v ≤ b <;> simp [hasB, Fld.frm, Fld.to, h3, h1, h2]
    · skip
      refine cd_sr ?_
      refine ln_box rfl rfl rfl (fun b1 => ?_)
      refine ln_pv (pv_assign rfl) rfl ?_
      refine ln_cd ?_
      refine cd_sr ?_
      refine ln_pv (pv_fieldAddr (off := 1) (r := 1) Tryd.underlying87 rfl (tiint).size rfl rfl rfl) rfl ?_
      refine ln_pv (pv_ldo (i := 0) rfl Tryd.underlying3 rfl rfl rfl) rfl ?_
      refine ln_pv (pv_move rfl) rfl ?_
      refine ln_pv (pv_tt (pv_leq rfl rfl) h1) rfl ?_
      refine ln_pv (pv_move rfl) rfl ?_
      refine ln_gt rfl rfl rfl (pv_fieldAddr (off := 2) (r := 2) Tryd.underlying87 rfl (tiint).size rfl rfl rfl) rfl ?_
      refine ln_gt rfl rfl rfl (pv_ldo (i := 0) rfl Tryd.underlying3 rfl rfl rfl) rfl ?_
      refine ln_gt rfl rfl rfl (pv_ff (pv_lss rfl rfl) h2) rfl ?_
      refine ln_gt rfl rfl rfl (pv_move rfl) rfl ?_
      refine ln_gt rfl rfl rfl (pv_move rfl) rfl ?_
      refine ln_gt rfl rfl rfl (pv_fieldAddr (off := 2) (r := 2) Tryd.underlying87 rfl (tiint).size rfl rfl rfl) rfl ?_
      refine ln_gt rfl rfl rfl (pv_ldo (i := 0) rfl Tryd.underlying3 rfl rfl rfl) rfl ?_
      refine ln_gt rfl rfl rfl (pv_leq rfl rfl) rfl ?_
      refine ln_gt rfl rfl rfl (pv_pick rfl (fun _ => rfl) (fun _ => rfl)) rfl ?_
      refine ln_pv (pv_pick rfl (fun _ => rfl) (fun _ => rfl)) rfl ?_
      refine ln_pv (pv_assign rfl) rfl ?_
      refine ln_cd ?_
      refine cd_ret ?_
      refine at_retA rfl rfl (fun w hS => ?_)
      by_cases h3 : v ≤ b <;> simp [hasB, Fld.frm, Fld.to, h3, h1, h2]
  · skip
    refine cd_sr ?_
    refine ln_box rfl rfl rfl (fun b1 => ?_)
    refine ln_pv (pv_assign rfl) rfl ?_
    refine ln_cd ?_
    refine cd_sr ?_
    refine ln_pv (pv_fieldAddr (off := 1) (r := 1) Tryd.underlying87 rfl (tiint).size rfl rfl rfl) rfl ?_
    refine ln_pv (pv_ldo (i := 0) rfl Tryd.underlying3 rfl rfl rfl) rfl ?_
    refine ln_pv (pv_move rfl) rfl ?_
    refine ln_pv (pv_ff (pv_leq rfl rfl) h1) rfl ?_
    refine ln_pv (pv_move rfl) rfl ?_
    refine ln_gf rfl rfl rfl rfl rfl ?_
    refine ln_gf rfl rfl rfl rfl rfl ?_
    refine ln_gf rfl rfl rfl rfl rfl ?_
    refine ln_gf rfl rfl rfl rfl rfl ?_
    refine ln_gu rfl rfl rfl rfl ?_
    refine ln_gu rfl rfl rfl rfl ?_
    refine ln_gu rfl rfl rfl rfl ?_
    refine ln_gu rfl rfl rfl rfl ?_
    refine ln_gf rfl rfl rfl rfl rfl ?_
    refine ln_pv (pv_pick rfl (fun _ => rfl) (fun _ => rfl)) rfl ?_
    refine ln_pv (pv_assign rfl) rfl ?_
    refine ln_cd ?_
    refine cd_ret ?_
    refine at_retA rfl rfl (fun w hS => ?_)
    by_cases h3 : v ≤ b <;> simp [hasB, Fld.frm, Fld.to, h3, h1]
theorem spec_known (t : Vw) (v : Value) (fs : List Fld) (lc : List Value) (hV : RS t 8 v fs.length lc) (hFs : RFs t fs lc) (hT : TagOk fs) (hm : fs.length < 1000000000) : CS Tryd.prog 152 [v] t (.int .u32 (known fs)) := by
  obtain ⟨ad, c, rfl, hle⟩ := hV.shape
  refine CA.cs ?_
  refine ca_enter Tryd.func152 rfl Tryd.ntmps152 rfl ?_
  refine cd_sr ?_
  refine ln_pv (pv_assign rfl) rfl ?_
  refine ln_cd ?_
  refine cd_sr ?_
  refine ln_pv (pv_assign rfl) rfl ?_
  refine ln_cd ?_
  refine cd_seq ?_
  refine cd_sr ?_
  refine ln_pv (pv_move rfl) rfl ?_
  refine ln_pv (pv_len_slice Tryd.underlying40 rfl) rfl ?_
  refine ln_pv (pv_move rfl) rfl ?_
  refine ln_cd ?_
  refine cd_block ?_
  refine cd_loop (⟨fun (z : Nat) => [(6, .slice ad fs.length c), (7, .int .i64 (fs.length : Int)), (8, .int .i64 ((z : Nat) : Int)), (3, .int .u32 (known (fs.take z)))], fun (z : Nat) => [], fun (z : Nat) s => z ≤ fs.length, fun (z : Nat) => fs.length - z⟩ : Lp (Nat)) 0 ?_ ?_ ?_ ?_
  · intro s0 hs0
    exact Nat.zero_le _
  · exact ⟨rfl, rfl, rfl, rfl,  trivial⟩
  · exact .slnil
  intro i s1 hl1 hI
  dsimp only at hI ⊢
  have hV := hV.mv hl1
  have hFs := hFs.mv hl1
  have h0 := known_nonneg (fs.take i)
  have h1 := known_le (hT.take i)
  refine cd_sr ?_
  refine ln_pv (pv_lss rfl rfl) rfl ?_
  refine ln_cd ?_
  refine cd_seq ?_
  refine cd_if rfl (fun hc1 => ?_) (fun hc1 => ?_)
  · -- yes
    refine cd_skip ?_
    refine at_cd ?_
    refine cd_seq ?_
    refine cd_block ?_
    have hi : i < fs.length := by omega
    obtain ⟨b0, o0, rfl, hrc⟩ := hV.pos (by omega) (by decide)
    obtain ⟨c1, c2, c3, he, hk, hr⟩ := RFs.at_ hi hFs
    obtain ⟨sv, rfl, lf, hVf, hFf⟩ := hr.open
    have hsub := hrc.sub (i * 8) he hk
    have hti := hT _ (List.getElem_mem hi)
    refine cd_sr ?_
    refine ln_pv (pv_ixN Tryd.underlying40 tispec_Field.size rfl rfl hi) rfl ?_
    refine ln_pv (pv_ldR hsub Tryd.underlying87 rfl (tispec_Field).size rfl rfl) rfl ?_
    refine ln_alloc tispec_Field rfl rfl (fun b1 => ?_)
    refine ln_storeW (i := 0) rfl rfl rfl rfl (tispec_Field).size rfl (by simp [(RS.one hVf)]) ?_
    refine ln_cd ?_
    refine cd_sr ?_
    refine ln_pv (pv_fieldAddr (off := 4) (r := 4) Tryd.underlying87 rfl (tiint).size rfl rfl rfl) rfl ?_
    refine ln_pv (pv_ldo (i := 0) rfl Tryd.underlying3 rfl rfl rfl) rfl ?_
    refine ln_pv (pv_geq rfl rfl) rfl ?_
    refine ln_cd ?_
    refine cd_if rfl (fun hc2 => ?_) (fun hc2 => ?_)
    · -- yes
      refine cd_region ?_
      refine ln_pv (pv_move rfl) rfl ?_
      refine ln_pv (pv_fieldAddr (off := 4) (r := 4) Tryd.underlying87 rfl (tiint).size rfl rfl rfl) rfl ?_
      refine ln_pv (pv_ldo (i := 0) rfl Tryd.underlying3 rfl rfl rfl) rfl ?_
      refine ln_pv (pv_conv' Tryd.underlying3 Tryd.underlying55 rfl (wrap_u32_in (by omega) (by omega))) rfl ?_
      refine ln_pv (pv_add' rfl rfl (wrap_u32_in (by omega) (by omega))) rfl ?_
      refine ln_pv (pv_max' rfl rfl (r := max (known (fs.take i)) (fs[i].tag + 1)) (by split <;> omega)) rfl ?_
      refine ln_pv (pv_assign rfl) rfl ?_
      refine ln_nil ?_
      refine at_cd ?_
      refine cd_region ?_
      refine ln_pv (pv_add' rfl rfl (wrap_succ (by omega))) rfl ?_
      refine ln_pv (pv_move rfl) rfl ?_
      refine ln_nil ?_
      refine at_rnd (i + 1) hl1 ?_ ?_ ⟨rfl, rfl, rfl, (by rw [take_snoc' hi, known_snoc, if_pos hc2]; rfl),  trivial⟩ (.cons _ .slnil)
      · intro s9 hs9
        show i + 1 ≤ fs.length
        omega
      · dsimp only; omega
    · -- no
      refine cd_skip ?_
      refine at_cd ?_
      refine cd_region ?_
      refine ln_pv (pv_add' rfl rfl (wrap_succ (by omega))) rfl ?_
      refine ln_pv (pv_move rfl) rfl ?_
      refine ln_nil ?_
      refine at_rnd (i + 1) hl1 ?_ ?_ ⟨rfl, rfl, rfl, (by rw [take_snoc' hi, known_snoc, if_neg hc2]; rfl),  trivial⟩ (.cons _ .slnil)
      · intro s9 hs9
        show i + 1 ≤ fs.length
        omega
      · dsimp only; omega
  · -- no
    refine cd_exit rfl ?_
    refine at_cd ?_
    refine cd_sr ?_
    refine ln_pv (pv_move rfl) rfl ?_
    refine ln_pv (pv_assign rfl) rfl ?_
    refine ln_cd ?_
    refine cd_ret ?_
    have hi : i = fs.length := by omega
    subst hi
    refine at_retA rfl rfl (fun w hS => ?_)
    rw [List.take_length]
end K
end Go.Proofs.YtjjfpdofkdolnaaDoor
