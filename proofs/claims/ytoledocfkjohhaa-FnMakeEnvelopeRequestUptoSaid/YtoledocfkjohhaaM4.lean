import Derived.Test.YtoledocfkjohhaaM3
set_option linter.unusedVariables false
set_option linter.unusedSimpArgs false
namespace Go.Proofs.Ytoledocfkjohhaa
namespace K
open Go Go.Lib
def TagsEachC : Prop := ∀ (t : Vw) (b off : Nat) (mv : Value) (l : List (Nat × Value)) (u : Tags) (v : Value) (L : List UInt8), RC t b off [mv] → MK t mv l → RK t l u → u.Pairwise (fun x y => x.1 < y.1) → (∀ y ∈ u, y.1 < 4294967296 ∧ y.2.length ≤ 32767) → L.length + (u.flatMap tagB).length ≤ 4398046511104 →
  (Ent.row v 5 1 L.length (u8s L)).ok t.w → (∀ q ∈ (Ent.row v 5 1 L.length (u8s L)).blk, t.av q) →
  CT Try.prog 68 [.pointer (some ⟨b, off, none⟩), v] t (.row v 5 1 L.length (u8s L)) fun _ r e' => e' = .row r 5 1 (L ++ u.flatMap tagB).length (u8s (L ++ u.flatMap tagB)) ∧ r.oneCell' = true
theorem RK.len {s : Vw} {l : List (Nat × Value)} {u : Tags} (h : RK s l u) : l.length = u.length := by simpa using congrArg List.length h.keys
theorem fixw (k : IntKind) (m : Nat) (n : Int) (hk : k.bits = 8 * m) : fixed (k.wrap n) m = fixed n m := by
  have h : ∃ q : Int, k.wrap n = n % 2 ^ (8 * m) + q * 2 ^ (8 * m) := by
    have e : k.wrap n = if (k.signed && decide (n % 2 ^ k.bits ≥ 2 ^ (k.bits - 1))) = true then n % 2 ^ k.bits - 2 ^ k.bits else n % 2 ^ k.bits := rfl
    rw [e, ← hk]
    by_cases h : (k.signed && decide (n % 2 ^ k.bits ≥ 2 ^ (k.bits - 1))) = true
    · rw [if_pos h]; exact ⟨-1, by rw [Int.neg_one_mul]; rfl⟩
    · rw [if_neg h]; exact ⟨0, by rw [Int.zero_mul, Int.add_zero]⟩
  obtain ⟨q, hq⟩ := h
  rw [← fixed_mod n m m (Nat.le_refl _), ← fixed_mod (k.wrap n) m m (Nat.le_refl _), hq, Int.add_mul_emod_self_right, Int.emod_emod]
theorem RC.drop_ {s : Vw} {b : Nat} {cs : List Value} (h : RC s b 0 cs) (k : Nat) {v : Value} (hv : cs[k]? = some v) : RC s b k [v] := ⟨h.1, fun j w hj => by
  cases j with
  | zero =>
    simp only [List.getElem?_cons_zero, Option.some.injEq] at hj
    subst hj
    have := h.2 k v hv
    simpa using this
  | succ j => simp at hj⟩
def FitOk (fs : List Fld) (v : Int) (x : Tre) : Prop := (∀ i, (hi : i < fs.length) → (fs[i].kind = 8 ∨ fs[i].kind = 9 → (x.at_ i).s.length ≤ 32767) ∧ ((x.at_ i).z = true → fs[i].nul ≥ 0 ∧ v ≥ fs[i].nul)) ∧ (unkn (known fs) x.u).map cut = x.u ∧ x.u.Pairwise (fun x y => x.1 < y.1) ∧ (∀ y ∈ x.u, y.1 < 4294967296 ∧ y.2.length ≤ 32767) ∧ x.u.length ≤ 32767
theorem fb_i8 (a b c d e o : Int) (s : List Fld) (v : Int) (fl : Bool) (y : Tre) : fieldB (.mk 1 a b c d e o s) v fl y = fixed y.n 1 := by simp [fieldB_eq, Fld.kind, valueB, scalarB, widthN]
theorem fb_i16 (a b c d e o : Int) (s : List Fld) (v : Int) (fl : Bool) (y : Tre) : fieldB (.mk 2 a b c d e o s) v fl y = fixed y.n 2 := by simp [fieldB_eq, Fld.kind, valueB, scalarB, widthN]
theorem fb_i32 (a b c d e o : Int) (s : List Fld) (v : Int) (fl : Bool) (y : Tre) : fieldB (.mk 3 a b c d e o s) v fl y = fixed y.n 4 := by simp [fieldB_eq, Fld.kind, valueB, scalarB, widthN]
theorem fb_i64 (a b c d e o : Int) (s : List Fld) (v : Int) (fl : Bool) (y : Tre) : fieldB (.mk 4 a b c d e o s) v fl y = fixed y.n 8 := by simp [fieldB_eq, Fld.kind, valueB, scalarB, widthN]
theorem fb_s (a b c d e o : Int) (s : List Fld) (v : Int) (fl : Bool) (y : Tre) (hz : y.z = false) (hl : y.s.length ≤ 32767) : fieldB (.mk 8 a b c d e o s) v fl y = (if fl then uvar (y.s.length + 1) else fixed y.s.length 2) ++ y.s := by
  simp only [fieldB_eq, Fld.kind, valueB, scalarB, nullB, hz, counted]
  simp [List.take_of_length_le hl]
theorem fb_b (a b c d e o : Int) (s : List Fld) (v : Int) (fl : Bool) (y : Tre) (hz : y.z = false) (hl : y.s.length ≤ 32767) : fieldB (.mk 9 a b c d e o s) v fl y = (if fl then uvar (y.s.length + 1) else fixed y.s.length 4) ++ y.s := by
  simp only [fieldB_eq, Fld.kind, valueB, scalarB, nullB, hz, counted]
  simp [List.take_of_length_le hl]
theorem fb_sn (a b c d e o : Int) (s : List Fld) (v : Int) (fl : Bool) (y : Tre) (hc : c ≥ 0) (hv : v ≥ c) (hl : y.s.length ≤ 32767) : fieldB (.mk 8 a b c d e o s) v fl y = if y.z then (if fl then uvar 0 else fixed (-1) 2) else (if fl then uvar (y.s.length + 1) else fixed y.s.length 2) ++ y.s := by
  have hn : nullB (.mk 8 a b c d e o s) v y = y.z := by simp [nullB, Fld.nul, hc, hv]
  simp only [fieldB_eq, hn, Fld.kind, valueB, scalarB, counted]
  by_cases hz : y.z = true
  · cases fl <;> simp [hz, uvar_zero]
  · cases fl <;> simp [hz, List.take_of_length_le hl]
theorem fb_bn (a b c d e o : Int) (s : List Fld) (v : Int) (fl : Bool) (y : Tre) (hc : c ≥ 0) (hv : v ≥ c) (hl : y.s.length ≤ 32767) : fieldB (.mk 9 a b c d e o s) v fl y = if y.z then (if fl then uvar 0 else fixed (-1) 4) else (if fl then uvar (y.s.length + 1) else fixed y.s.length 4) ++ y.s := by
  have hn : nullB (.mk 9 a b c d e o s) v y = y.z := by simp [nullB, Fld.nul, hc, hv]
  simp only [fieldB_eq, hn, Fld.kind, valueB, scalarB, counted]
  by_cases hz : y.z = true
  · cases fl <;> simp [hz, uvar_zero]
  · cases fl <;> simp [hz, List.take_of_length_le hl]
theorem Octs.rs {s : Vw} {c : Value} {y : Tre} (h : Octs s c y) (hz : y.z = false) : RSv s c y.s := by
  rcases h with ⟨h1, _⟩ | ⟨_, _, _, _, _, h2⟩
  · rw [hz] at h1; cases h1
  · exact h2
theorem kbin_AppendNullableString_any (t : Vw) (c : Value) (y : Tre) (h : Txt t c y) (hl : y.s.length ≤ 32767) : AppC 90 [c] (if y.z = true then fixed (-1) 2 else fixed y.s.length 2 ++ y.s) t := by
  rcases h with ⟨hz, rfl⟩ | ⟨hz, g, z, rfl, hr, hs⟩
  · rw [if_pos hz]
    exact kbin_AppendNullableString_nil t
  · rw [if_neg (by simp [hz]), ← hs]
    exact kbin_AppendNullableString t g 0 z hr (by rw [hs]; exact hl)
theorem kbin_AppendCompactNullableString_any (t : Vw) (c : Value) (y : Tre) (h : Txt t c y) (hl : y.s.length ≤ 32767) : AppC 89 [c] (if y.z = true then uvar 0 else uvar (y.s.length + 1) ++ y.s) t := by
  rcases h with ⟨hz, rfl⟩ | ⟨hz, g, z, rfl, hr, hs⟩
  · rw [if_pos hz]
    exact kbin_AppendCompactNullableString_nil t
  · rw [if_neg (by simp [hz]), ← hs]
    exact kbin_AppendCompactNullableString t g 0 z hr (by rw [hs]; exact hl)
theorem kbin_AppendNullableBytes_any (t : Vw) (c : Value) (y : Tre) (h : Octs t c y) (hl : y.s.length ≤ 32767) : AppC 84 [c] (if y.z = true then fixed (-1) 4 else fixed y.s.length 4 ++ y.s) t := by
  rcases h with ⟨hz, rfl⟩ | ⟨hz, g, o, cap, rfl, hr⟩
  · rw [if_pos hz]
    exact kbin_AppendNullableBytes_nil t
  · rw [if_neg (by simp [hz])]
    exact kbin_AppendNullableBytes t g o cap y.s hr hl
theorem kbin_AppendCompactNullableBytes_any (t : Vw) (c : Value) (y : Tre) (h : Octs t c y) (hl : y.s.length ≤ 32767) : AppC 83 [c] (if y.z = true then uvar 0 else uvar (y.s.length + 1) ++ y.s) t := by
  rcases h with ⟨hz, rfl⟩ | ⟨hz, g, o, cap, rfl, hr⟩
  · rw [if_pos hz]
    exact kbin_AppendCompactNullableBytes_nil t
  · rw [if_neg (by simp [hz])]
    exact kbin_AppendCompactNullableBytes t g o cap y.s hr hl
theorem append_AddOffsetsToTxnResponse (hTE : TagsEachC) (t : Vw) (b : Nat) (v : Int) (x : Tre) (cells : List Value) (vd : Value) (L : List UInt8) (hob : OB t b (.cells cells.toArray 55)) (hM : Msg_AddOffsetsToTxnResponse t v x cells) (hfit : FitOk F_AddOffsetsToTxnResponse v x) (h0 : 0 ≤ v) (h1 : v ≤ 4) (hB : L.length + (writeB F_AddOffsetsToTxnResponse 3 v x).length ≤ 4398046511104) (hok : (Ent.row vd 5 1 L.length (u8s L)).ok t.w) (hav : ∀ q ∈ (Ent.row vd 5 1 L.length (u8s L)).blk, t.av q) : CT Try.prog 34 [.pointer (some ⟨b, 0, none⟩), vd] t (.row vd 5 1 L.length (u8s L)) fun _ r e' => e' = .row r 5 1 (L ++ writeB F_AddOffsetsToTxnResponse 3 v x).length (u8s (L ++ writeB F_AddOffsetsToTxnResponse 3 v x)) ∧ r.oneCell' = true := by
  obtain ⟨mv, l, rfl, hMK, hRK⟩ := hM
  obtain ⟨_, hunk, hsrt, hbd, hul⟩ := id hfit
  refine ct_enter Try.func34 rfl Try.ntmps34 rfl hok hav (by simp only [Ent.blk]; cases vd.ownBlock <;> simp) ?_
  by_cases hv0 : v ≤ 2
  · skip
    have heq : writeB F_AddOffsetsToTxnResponse 3 v x = (fieldB (.mk 3 0 (-1) (-1) (-1) 0 0 []) v false (x.at_ 0)) ++ (fieldB (.mk 2 0 (-1) (-1) (-1) 0 0 []) v false (x.at_ 1)) := by
      have hflex : flexB 3 v = false := by simp [flexB]; omega
      unfold writeB
      rw [hflex]
      rw [partB_false]
      simp only [F_AddOffsetsToTxnResponse, plainB, Fld.tag, hasB, Fld.frm, Fld.to]
      simp [h0]
    rw [heq] at hB
    refine cd_sr ?_
    refine ln_pv (pv_assign rfl) rfl ?_
    refine ln_cd ?_
    refine cd_sr ?_
    refine ln_pv (pv_move rfl) rfl ?_
    refine ln_pv (pv_nilCheck rfl) rfl ?_
    refine ln_pv (pv_fieldAddr (off := 0)  Try.underlying55 rfl (tiint16).size rfl rfl rfl) rfl ?_
    refine ln_pv (pv_ldr (j := 0) (OB.rc hob) Try.underlying45 rfl rfl rfl) rfl ?_
    refine ln_pv (pv_assign rfl) rfl ?_
    refine ln_cd ?_
    refine cd_sr ?_
    refine ln_pv (pv_move rfl) rfl ?_
    refine ln_cd ?_
    refine cd_sr ?_
    refine ln_pv (pv_move rfl) rfl ?_
    refine ln_pv (pv_ff (pv_geq rfl rfl) (by omega)) rfl ?_
    refine ln_pv (pv_assign rfl) rfl ?_
    refine ln_cd ?_
    refine cd_sr ?_
    refine ln_pv (pv_move rfl) rfl ?_
    refine ln_cd ?_
    refine cd_seq ?_
    refine cd_sr ?_
    refine ln_pv (pv_move rfl) rfl ?_
    refine ln_pv (pv_nilCheck rfl) rfl ?_
    refine ln_pv (pv_fieldAddr (off := 1)  Try.underlying55 rfl (tiint32).size rfl rfl rfl) rfl ?_
    refine ln_pv (pv_ldr (j := 1) (OB.rc hob) Try.underlying21 rfl rfl rfl) rfl ?_
    refine ln_pv (pv_assign rfl) rfl ?_
    refine ln_cd ?_
    refine cd_region ?_
    refine ln_pv (pv_move rfl) rfl ?_
    refine ln_pv (pv_move rfl) rfl ?_
    refine ln_callT (i := 0) en_64 rfl rfl (fun u hu hok hav => (show AppC _ _ (fieldB (.mk 3 0 (-1) (-1) (-1) 0 0 []) v false (x.at_ 0)) u from by have h := kbin_AppendInt32 u (IntKind.i32.wrap (x.at_ 0).n); rw [fixw .i32 4 _ rfl] at h; rw [fb_i32 0 (-1) (-1) (-1) 0 0 [] v false (x.at_ 0)]; exact h) _ _ (by have := hB; simp only [List.length_append] at this ⊢; omega) hok hav) rfl ?_
    rintro u1 v1 _ ht1 ⟨_, ⟨rfl, h1v1⟩, _⟩
    have hob := hob.mv ht1
    have hMK := hMK.mv ht1
    have hRK := hRK.mv ht1
    refine ln_pv (pv_assign rfl) rfl ?_
    refine ln_nil ?_
    refine at_cd ?_
    refine cd_seq ?_
    refine cd_sr ?_
    refine ln_pv (pv_move rfl) rfl ?_
    refine ln_pv (pv_nilCheck rfl) rfl ?_
    refine ln_pv (pv_fieldAddr (off := 2)  Try.underlying55 rfl (tiint16).size rfl rfl rfl) rfl ?_
    refine ln_pv (pv_ldr (j := 2) (OB.rc hob) Try.underlying45 rfl rfl rfl) rfl ?_
    refine ln_pv (pv_assign rfl) rfl ?_
    refine ln_cd ?_
    refine cd_region ?_
    refine ln_pv (pv_move rfl) rfl ?_
    refine ln_pv (pv_move rfl) rfl ?_
    refine ln_callT (i := 0) en_65 rfl rfl (fun u hu hok hav => (show AppC _ _ (fieldB (.mk 2 0 (-1) (-1) (-1) 0 0 []) v false (x.at_ 1)) u from by have h := kbin_AppendInt16 u (IntKind.i16.wrap (x.at_ 1).n); rw [fixw .i16 2 _ rfl] at h; rw [fb_i16 0 (-1) (-1) (-1) 0 0 [] v false (x.at_ 1)]; exact h) _ _ (by have := hB; simp only [List.length_append] at this ⊢; omega) hok hav) rfl ?_
    rintro u2 v2 _ ht2 ⟨_, ⟨rfl, h1v2⟩, _⟩
    have hob := hob.mv ht2
    have hMK := hMK.mv ht2
    have hRK := hRK.mv ht2
    refine ln_pv (pv_assign rfl) rfl ?_
    refine ln_nil ?_
    refine at_cd ?_
    refine cd_seq ?_
    refine cd_sr ?_
    refine ln_pv (pv_move rfl) rfl ?_
    refine ln_cd ?_
    refine cd_ff rfl ?_
    refine cd_skip ?_
    refine at_cd ?_
    refine cd_sr ?_
    refine ln_pv (pv_move rfl) rfl ?_
    refine ln_pv (pv_assign rfl) rfl ?_
    refine ln_cd ?_
    refine cd_ret ?_
    exact at_retT (i := 0) rfl rfl rfl (fun w hS => ⟨by rw [heq]; try simp only [List.append_assoc, List.append_nil], h1v2⟩)
  have heq : writeB F_AddOffsetsToTxnResponse 3 v x = (fieldB (.mk 3 0 (-1) (-1) (-1) 0 0 []) v true (x.at_ 0)) ++ (fieldB (.mk 2 0 (-1) (-1) (-1) 0 0 []) v true (x.at_ 1)) ++ uvar x.u.length ++ x.u.flatMap tagB := by
    have hflex : flexB 3 v = true := by simp [flexB]; omega
    unfold writeB
    rw [hflex]
    rw [partB_true, show (known F_AddOffsetsToTxnResponse).toNat = 0 from rfl, hfit.2.1, show TGs F_AddOffsetsToTxnResponse v x 0 = [] from rfl, List.nil_append]
    simp only [F_AddOffsetsToTxnResponse, plainB, Fld.tag, hasB, Fld.frm, Fld.to]
    simp [h0]
  rw [heq] at hB
  refine cd_sr ?_
  refine ln_pv (pv_assign rfl) rfl ?_
  refine ln_cd ?_
  refine cd_sr ?_
  refine ln_pv (pv_move rfl) rfl ?_
  refine ln_pv (pv_nilCheck rfl) rfl ?_
  refine ln_pv (pv_fieldAddr (off := 0)  Try.underlying55 rfl (tiint16).size rfl rfl rfl) rfl ?_
  refine ln_pv (pv_ldr (j := 0) (OB.rc hob) Try.underlying45 rfl rfl rfl) rfl ?_
  refine ln_pv (pv_assign rfl) rfl ?_
  refine ln_cd ?_
  refine cd_sr ?_
  refine ln_pv (pv_move rfl) rfl ?_
  refine ln_cd ?_
  refine cd_sr ?_
  refine ln_pv (pv_move rfl) rfl ?_
  refine ln_pv (pv_tt (pv_geq rfl rfl) (by omega)) rfl ?_
  refine ln_pv (pv_assign rfl) rfl ?_
  refine ln_cd ?_
  refine cd_sr ?_
  refine ln_pv (pv_move rfl) rfl ?_
  refine ln_cd ?_
  refine cd_seq ?_
  refine cd_sr ?_
  refine ln_pv (pv_move rfl) rfl ?_
  refine ln_pv (pv_nilCheck rfl) rfl ?_
  refine ln_pv (pv_fieldAddr (off := 1)  Try.underlying55 rfl (tiint32).size rfl rfl rfl) rfl ?_
  refine ln_pv (pv_ldr (j := 1) (OB.rc hob) Try.underlying21 rfl rfl rfl) rfl ?_
  refine ln_pv (pv_assign rfl) rfl ?_
  refine ln_cd ?_
  refine cd_region ?_
  refine ln_pv (pv_move rfl) rfl ?_
  refine ln_pv (pv_move rfl) rfl ?_
  refine ln_callT (i := 0) en_64 rfl rfl (fun u hu hok hav => (show AppC _ _ (fieldB (.mk 3 0 (-1) (-1) (-1) 0 0 []) v true (x.at_ 0)) u from by have h := kbin_AppendInt32 u (IntKind.i32.wrap (x.at_ 0).n); rw [fixw .i32 4 _ rfl] at h; rw [fb_i32 0 (-1) (-1) (-1) 0 0 [] v true (x.at_ 0)]; exact h) _ _ (by have := hB; simp only [List.length_append] at this ⊢; omega) hok hav) rfl ?_
  rintro u1 v1 _ ht1 ⟨_, ⟨rfl, h1v1⟩, _⟩
  have hob := hob.mv ht1
  have hMK := hMK.mv ht1
  have hRK := hRK.mv ht1
  refine ln_pv (pv_assign rfl) rfl ?_
  refine ln_nil ?_
  refine at_cd ?_
  refine cd_seq ?_
  refine cd_sr ?_
  refine ln_pv (pv_move rfl) rfl ?_
  refine ln_pv (pv_nilCheck rfl) rfl ?_
  refine ln_pv (pv_fieldAddr (off := 2)  Try.underlying55 rfl (tiint16).size rfl rfl rfl) rfl ?_
  refine ln_pv (pv_ldr (j := 2) (OB.rc hob) Try.underlying45 rfl rfl rfl) rfl ?_
  refine ln_pv (pv_assign rfl) rfl ?_
  refine ln_cd ?_
  refine cd_region ?_
  refine ln_pv (pv_move rfl) rfl ?_
  refine ln_pv (pv_move rfl) rfl ?_
  refine ln_callT (i := 0) en_65 rfl rfl (fun u hu hok hav => (show AppC _ _ (fieldB (.mk 2 0 (-1) (-1) (-1) 0 0 []) v true (x.at_ 1)) u from by have h := kbin_AppendInt16 u (IntKind.i16.wrap (x.at_ 1).n); rw [fixw .i16 2 _ rfl] at h; rw [fb_i16 0 (-1) (-1) (-1) 0 0 [] v true (x.at_ 1)]; exact h) _ _ (by have := hB; simp only [List.length_append] at this ⊢; omega) hok hav) rfl ?_
  rintro u2 v2 _ ht2 ⟨_, ⟨rfl, h1v2⟩, _⟩
  have hob := hob.mv ht2
  have hMK := hMK.mv ht2
  have hRK := hRK.mv ht2
  refine ln_pv (pv_assign rfl) rfl ?_
  refine ln_nil ?_
  refine at_cd ?_
  refine cd_seq ?_
  refine cd_sr ?_
  refine ln_pv (pv_move rfl) rfl ?_
  refine ln_cd ?_
  refine cd_tt rfl ?_
  refine cd_sr ?_
  refine ln_pv (pv_move rfl) rfl ?_
  refine ln_pv (pv_move rfl) rfl ?_
  refine ln_pv (pv_nilCheck rfl) rfl ?_
  refine ln_pv (pv_fieldAddr (off := 3)  Try.underlying55 rfl (tipub_kmsg_Tags).size rfl rfl rfl) rfl ?_
  refine ln_callS en_67 rfl (fun u hu => tags_Len u b 3 mv l (RC.drop_ (OB.rc (hob.mv hu)) 3 rfl) (hMK.mv hu)) rfl ?_
  refine ln_pv (pv_conv' Try.underlying3 Try.underlying59 rfl (r := ((x.u.length : Nat) : Int)) (by rw [hRK.len]; exact wrap_u32_in (by omega) (by omega))) rfl ?_
  refine ln_pv (pv_add' rfl rfl (r := ((x.u.length : Nat) : Int)) (by rw [Int.zero_add]; exact wrap_u32_in (by omega) (by omega))) rfl ?_
  refine ln_callT (i := 0) en_66 rfl rfl (fun u hu hok hav => (kbin_AppendUvarint u x.u.length (by omega)) _ _ (by have := hB; simp only [List.length_append] at this ⊢; omega) hok hav) rfl ?_
  rintro u3 v3 _ ht3 ⟨_, ⟨rfl, h1v3⟩, _⟩
  have hob := hob.mv ht3
  have hMK := hMK.mv ht3
  have hRK := hRK.mv ht3
  refine ln_pv (pv_assign rfl) rfl ?_
  refine ln_cd ?_
  refine cd_region ?_
  refine ln_pv (pv_move rfl) rfl ?_
  refine ln_pv (pv_nilCheck rfl) rfl ?_
  refine ln_pv (pv_fieldAddr (off := 3)  Try.underlying55 rfl (tipub_kmsg_Tags).size rfl rfl rfl) rfl ?_
  refine ln_pv (pv_move rfl) rfl ?_
  refine ln_callT (i := 0) en_68 rfl rfl (fun u hu hok hav => hTE u b 3 mv l x.u _ _ (RC.drop_ (OB.rc (hob.mv hu)) 3 rfl) (hMK.mv hu) (RK.mv hu hRK) hsrt hbd (by have := hB; simp only [List.length_append] at this ⊢; omega) hok hav) rfl ?_
  rintro u4 v4 _ ht4 ⟨_, ⟨rfl, h1v4⟩, _⟩
  have hob := hob.mv ht4
  have hMK := hMK.mv ht4
  have hRK := hRK.mv ht4
  refine ln_pv (pv_assign rfl) rfl ?_
  refine ln_nil ?_
  refine at_cd ?_
  refine cd_sr ?_
  refine ln_pv (pv_move rfl) rfl ?_
  refine ln_pv (pv_assign rfl) rfl ?_
  refine ln_cd ?_
  refine cd_ret ?_
  exact at_retT (i := 0) rfl rfl rfl (fun w hS => ⟨by rw [heq]; try simp only [List.append_assoc, List.append_nil], h1v4⟩)
theorem append_ExpireDelegationTokenResponse (hTE : TagsEachC) (t : Vw) (b : Nat) (v : Int) (x : Tre) (cells : List Value) (vd : Value) (L : List UInt8) (hob : OB t b (.cells cells.toArray 70)) (hM : Msg_ExpireDelegationTokenResponse t v x cells) (hfit : FitOk F_ExpireDelegationTokenResponse v x) (h0 : 0 ≤ v) (h1 : v ≤ 2) (hB : L.length + (writeB F_ExpireDelegationTokenResponse 2 v x).length ≤ 4398046511104) (hok : (Ent.row vd 5 1 L.length (u8s L)).ok t.w) (hav : ∀ q ∈ (Ent.row vd 5 1 L.length (u8s L)).blk, t.av q) : CT Try.prog 44 [.pointer (some ⟨b, 0, none⟩), vd] t (.row vd 5 1 L.length (u8s L)) fun _ r e' => e' = .row r 5 1 (L ++ writeB F_ExpireDelegationTokenResponse 2 v x).length (u8s (L ++ writeB F_ExpireDelegationTokenResponse 2 v x)) ∧ r.oneCell' = true := by
  obtain ⟨mv, l, rfl, hMK, hRK⟩ := hM
  obtain ⟨_, hunk, hsrt, hbd, hul⟩ := id hfit
  refine ct_enter Try.func44 rfl Try.ntmps44 rfl hok hav (by simp only [Ent.blk]; cases vd.ownBlock <;> simp) ?_
  by_cases hv0 : v ≤ 1
  · skip
    have heq : writeB F_ExpireDelegationTokenResponse 2 v x = (fieldB (.mk 2 0 (-1) (-1) (-1) 0 0 []) v false (x.at_ 0)) ++ (fieldB (.mk 4 0 (-1) (-1) (-1) 0 0 []) v false (x.at_ 1)) ++ (fieldB (.mk 3 0 (-1) (-1) (-1) 0 0 []) v false (x.at_ 2)) := by
      have hflex : flexB 2 v = false := by simp [flexB]; omega
      unfold writeB
      rw [hflex]
      rw [partB_false]
      simp only [F_ExpireDelegationTokenResponse, plainB, Fld.tag, hasB, Fld.frm, Fld.to]
      simp [h0]
    rw [heq] at hB
    refine cd_sr ?_
    refine ln_pv (pv_assign rfl) rfl ?_
    refine ln_cd ?_
    refine cd_sr ?_
    refine ln_pv (pv_move rfl) rfl ?_
    refine ln_pv (pv_nilCheck rfl) rfl ?_
    refine ln_pv (pv_fieldAddr (off := 0)  Try.underlying70 rfl (tiint16).size rfl rfl rfl) rfl ?_
    refine ln_pv (pv_ldr (j := 0) (OB.rc hob) Try.underlying45 rfl rfl rfl) rfl ?_
    refine ln_pv (pv_assign rfl) rfl ?_
    refine ln_cd ?_
    refine cd_sr ?_
    refine ln_pv (pv_move rfl) rfl ?_
    refine ln_cd ?_
    refine cd_sr ?_
    refine ln_pv (pv_move rfl) rfl ?_
    refine ln_pv (pv_ff (pv_geq rfl rfl) (by omega)) rfl ?_
    refine ln_pv (pv_assign rfl) rfl ?_
    refine ln_cd ?_
    refine cd_sr ?_
    refine ln_pv (pv_move rfl) rfl ?_
    refine ln_cd ?_
    refine cd_seq ?_
    refine cd_sr ?_
    refine ln_pv (pv_move rfl) rfl ?_
    refine ln_pv (pv_nilCheck rfl) rfl ?_
    refine ln_pv (pv_fieldAddr (off := 1)  Try.underlying70 rfl (tiint16).size rfl rfl rfl) rfl ?_
    refine ln_pv (pv_ldr (j := 1) (OB.rc hob) Try.underlying45 rfl rfl rfl) rfl ?_
    refine ln_pv (pv_assign rfl) rfl ?_
    refine ln_cd ?_
    refine cd_region ?_
    refine ln_pv (pv_move rfl) rfl ?_
    refine ln_pv (pv_move rfl) rfl ?_
    refine ln_callT (i := 0) en_65 rfl rfl (fun u hu hok hav => (show AppC _ _ (fieldB (.mk 2 0 (-1) (-1) (-1) 0 0 []) v false (x.at_ 0)) u from by have h := kbin_AppendInt16 u (IntKind.i16.wrap (x.at_ 0).n); rw [fixw .i16 2 _ rfl] at h; rw [fb_i16 0 (-1) (-1) (-1) 0 0 [] v false (x.at_ 0)]; exact h) _ _ (by have := hB; simp only [List.length_append] at this ⊢; omega) hok hav) rfl ?_
    rintro u1 v1 _ ht1 ⟨_, ⟨rfl, h1v1⟩, _⟩
    have hob := hob.mv ht1
    have hMK := hMK.mv ht1
    have hRK := hRK.mv ht1
    refine ln_pv (pv_assign rfl) rfl ?_
    refine ln_nil ?_
    refine at_cd ?_
    refine cd_seq ?_
    refine cd_sr ?_
    refine ln_pv (pv_move rfl) rfl ?_
    refine ln_pv (pv_nilCheck rfl) rfl ?_
    refine ln_pv (pv_fieldAddr (off := 2)  Try.underlying70 rfl (tiint64).size rfl rfl rfl) rfl ?_
    refine ln_pv (pv_ldr (j := 2) (OB.rc hob) Try.underlying2 rfl rfl rfl) rfl ?_
    refine ln_pv (pv_assign rfl) rfl ?_
    refine ln_cd ?_
    refine cd_region ?_
    refine ln_pv (pv_move rfl) rfl ?_
    refine ln_pv (pv_move rfl) rfl ?_
    refine ln_callT (i := 0) en_77 rfl rfl (fun u hu hok hav => (show AppC _ _ (fieldB (.mk 4 0 (-1) (-1) (-1) 0 0 []) v false (x.at_ 1)) u from by rw [fb_i64 0 (-1) (-1) (-1) 0 0 [] v false (x.at_ 1)]; exact kbin_AppendInt64 u _) _ _ (by have := hB; simp only [List.length_append] at this ⊢; omega) hok hav) rfl ?_
    rintro u2 v2 _ ht2 ⟨_, ⟨rfl, h1v2⟩, _⟩
    have hob := hob.mv ht2
    have hMK := hMK.mv ht2
    have hRK := hRK.mv ht2
    refine ln_pv (pv_assign rfl) rfl ?_
    refine ln_nil ?_
    refine at_cd ?_
    refine cd_seq ?_
    refine cd_sr ?_
    refine ln_pv (pv_move rfl) rfl ?_
    refine ln_pv (pv_nilCheck rfl) rfl ?_
    refine ln_pv (pv_fieldAddr (off := 3)  Try.underlying70 rfl (tiint32).size rfl rfl rfl) rfl ?_
    refine ln_pv (pv_ldr (j := 3) (OB.rc hob) Try.underlying21 rfl rfl rfl) rfl ?_
    refine ln_pv (pv_assign rfl) rfl ?_
    refine ln_cd ?_
    refine cd_region ?_
    refine ln_pv (pv_move rfl) rfl ?_
    refine ln_pv (pv_move rfl) rfl ?_
    refine ln_callT (i := 0) en_64 rfl rfl (fun u hu hok hav => (show AppC _ _ (fieldB (.mk 3 0 (-1) (-1) (-1) 0 0 []) v false (x.at_ 2)) u from by have h := kbin_AppendInt32 u (IntKind.i32.wrap (x.at_ 2).n); rw [fixw .i32 4 _ rfl] at h; rw [fb_i32 0 (-1) (-1) (-1) 0 0 [] v false (x.at_ 2)]; exact h) _ _ (by have := hB; simp only [List.length_append] at this ⊢; omega) hok hav) rfl ?_
    rintro u3 v3 _ ht3 ⟨_, ⟨rfl, h1v3⟩, _⟩
    have hob := hob.mv ht3
    have hMK := hMK.mv ht3
    have hRK := hRK.mv ht3
    refine ln_pv (pv_assign rfl) rfl ?_
    refine ln_nil ?_
    refine at_cd ?_
    refine cd_seq ?_
    refine cd_sr ?_
    refine ln_pv (pv_move rfl) rfl ?_
    refine ln_cd ?_
    refine cd_ff rfl ?_
    refine cd_skip ?_
    refine at_cd ?_
    refine cd_sr ?_
    refine ln_pv (pv_move rfl) rfl ?_
    refine ln_pv (pv_assign rfl) rfl ?_
    refine ln_cd ?_
    refine cd_ret ?_
    exact at_retT (i := 0) rfl rfl rfl (fun w hS => ⟨by rw [heq]; try simp only [List.append_assoc, List.append_nil], h1v3⟩)
  have heq : writeB F_ExpireDelegationTokenResponse 2 v x = (fieldB (.mk 2 0 (-1) (-1) (-1) 0 0 []) v true (x.at_ 0)) ++ (fieldB (.mk 4 0 (-1) (-1) (-1) 0 0 []) v true (x.at_ 1)) ++ (fieldB (.mk 3 0 (-1) (-1) (-1) 0 0 []) v true (x.at_ 2)) ++ uvar x.u.length ++ x.u.flatMap tagB := by
    have hflex : flexB 2 v = true := by simp [flexB]; omega
    unfold writeB
    rw [hflex]
    rw [partB_true, show (known F_ExpireDelegationTokenResponse).toNat = 0 from rfl, hfit.2.1, show TGs F_ExpireDelegationTokenResponse v x 0 = [] from rfl, List.nil_append]
    simp only [F_ExpireDelegationTokenResponse, plainB, Fld.tag, hasB, Fld.frm, Fld.to]
    simp [h0]
  rw [heq] at hB
  refine cd_sr ?_
  refine ln_pv (pv_assign rfl) rfl ?_
  refine ln_cd ?_
  refine cd_sr ?_
  refine ln_pv (pv_move rfl) rfl ?_
  refine ln_pv (pv_nilCheck rfl) rfl ?_
  refine ln_pv (pv_fieldAddr (off := 0)  Try.underlying70 rfl (tiint16).size rfl rfl rfl) rfl ?_
  refine ln_pv (pv_ldr (j := 0) (OB.rc hob) Try.underlying45 rfl rfl rfl) rfl ?_
  refine ln_pv (pv_assign rfl) rfl ?_
  refine ln_cd ?_
  refine cd_sr ?_
  refine ln_pv (pv_move rfl) rfl ?_
  refine ln_cd ?_
  refine cd_sr ?_
  refine ln_pv (pv_move rfl) rfl ?_
  refine ln_pv (pv_tt (pv_geq rfl rfl) (by omega)) rfl ?_
  refine ln_pv (pv_assign rfl) rfl ?_
  refine ln_cd ?_
  refine cd_sr ?_
  refine ln_pv (pv_move rfl) rfl ?_
  refine ln_cd ?_
  refine cd_seq ?_
  refine cd_sr ?_
  refine ln_pv (pv_move rfl) rfl ?_
  refine ln_pv (pv_nilCheck rfl) rfl ?_
  refine ln_pv (pv_fieldAddr (off := 1)  Try.underlying70 rfl (tiint16).size rfl rfl rfl) rfl ?_
  refine ln_pv (pv_ldr (j := 1) (OB.rc hob) Try.underlying45 rfl rfl rfl) rfl ?_
  refine ln_pv (pv_assign rfl) rfl ?_
  refine ln_cd ?_
  refine cd_region ?_
  refine ln_pv (pv_move rfl) rfl ?_
  refine ln_pv (pv_move rfl) rfl ?_
  refine ln_callT (i := 0) en_65 rfl rfl (fun u hu hok hav => (show AppC _ _ (fieldB (.mk 2 0 (-1) (-1) (-1) 0 0 []) v true (x.at_ 0)) u from by have h := kbin_AppendInt16 u (IntKind.i16.wrap (x.at_ 0).n); rw [fixw .i16 2 _ rfl] at h; rw [fb_i16 0 (-1) (-1) (-1) 0 0 [] v true (x.at_ 0)]; exact h) _ _ (by have := hB; simp only [List.length_append] at this ⊢; omega) hok hav) rfl ?_
  rintro u1 v1 _ ht1 ⟨_, ⟨rfl, h1v1⟩, _⟩
  have hob := hob.mv ht1
  have hMK := hMK.mv ht1
  have hRK := hRK.mv ht1
  refine ln_pv (pv_assign rfl) rfl ?_
  refine ln_nil ?_
  refine at_cd ?_
  refine cd_seq ?_
  refine cd_sr ?_
  refine ln_pv (pv_move rfl) rfl ?_
  refine ln_pv (pv_nilCheck rfl) rfl ?_
  refine ln_pv (pv_fieldAddr (off := 2)  Try.underlying70 rfl (tiint64).size rfl rfl rfl) rfl ?_
  refine ln_pv (pv_ldr (j := 2) (OB.rc hob) Try.underlying2 rfl rfl rfl) rfl ?_
  refine ln_pv (pv_assign rfl) rfl ?_
  refine ln_cd ?_
  refine cd_region ?_
  refine ln_pv (pv_move rfl) rfl ?_
  refine ln_pv (pv_move rfl) rfl ?_
  refine ln_callT (i := 0) en_77 rfl rfl (fun u hu hok hav => (show AppC _ _ (fieldB (.mk 4 0 (-1) (-1) (-1) 0 0 []) v true (x.at_ 1)) u from by rw [fb_i64 0 (-1) (-1) (-1) 0 0 [] v true (x.at_ 1)]; exact kbin_AppendInt64 u _) _ _ (by have := hB; simp only [List.length_append] at this ⊢; omega) hok hav) rfl ?_
  rintro u2 v2 _ ht2 ⟨_, ⟨rfl, h1v2⟩, _⟩
  have hob := hob.mv ht2
  have hMK := hMK.mv ht2
  have hRK := hRK.mv ht2
  refine ln_pv (pv_assign rfl) rfl ?_
  refine ln_nil ?_
  refine at_cd ?_
  refine cd_seq ?_
  refine cd_sr ?_
  refine ln_pv (pv_move rfl) rfl ?_
  refine ln_pv (pv_nilCheck rfl) rfl ?_
  refine ln_pv (pv_fieldAddr (off := 3)  Try.underlying70 rfl (tiint32).size rfl rfl rfl) rfl ?_
  refine ln_pv (pv_ldr (j := 3) (OB.rc hob) Try.underlying21 rfl rfl rfl) rfl ?_
  refine ln_pv (pv_assign rfl) rfl ?_
  refine ln_cd ?_
  refine cd_region ?_
  refine ln_pv (pv_move rfl) rfl ?_
  refine ln_pv (pv_move rfl) rfl ?_
  refine ln_callT (i := 0) en_64 rfl rfl (fun u hu hok hav => (show AppC _ _ (fieldB (.mk 3 0 (-1) (-1) (-1) 0 0 []) v true (x.at_ 2)) u from by have h := kbin_AppendInt32 u (IntKind.i32.wrap (x.at_ 2).n); rw [fixw .i32 4 _ rfl] at h; rw [fb_i32 0 (-1) (-1) (-1) 0 0 [] v true (x.at_ 2)]; exact h) _ _ (by have := hB; simp only [List.length_append] at this ⊢; omega) hok hav) rfl ?_
  rintro u3 v3 _ ht3 ⟨_, ⟨rfl, h1v3⟩, _⟩
  have hob := hob.mv ht3
  have hMK := hMK.mv ht3
  have hRK := hRK.mv ht3
  refine ln_pv (pv_assign rfl) rfl ?_
  refine ln_nil ?_
  refine at_cd ?_
  refine cd_seq ?_
  refine cd_sr ?_
  refine ln_pv (pv_move rfl) rfl ?_
  refine ln_cd ?_
  refine cd_tt rfl ?_
  refine cd_sr ?_
  refine ln_pv (pv_move rfl) rfl ?_
  refine ln_pv (pv_move rfl) rfl ?_
  refine ln_pv (pv_nilCheck rfl) rfl ?_
  refine ln_pv (pv_fieldAddr (off := 4)  Try.underlying70 rfl (tipub_kmsg_Tags).size rfl rfl rfl) rfl ?_
  refine ln_callS en_67 rfl (fun u hu => tags_Len u b 4 mv l (RC.drop_ (OB.rc (hob.mv hu)) 4 rfl) (hMK.mv hu)) rfl ?_
  refine ln_pv (pv_conv' Try.underlying3 Try.underlying59 rfl (r := ((x.u.length : Nat) : Int)) (by rw [hRK.len]; exact wrap_u32_in (by omega) (by omega))) rfl ?_
  refine ln_pv (pv_add' rfl rfl (r := ((x.u.length : Nat) : Int)) (by rw [Int.zero_add]; exact wrap_u32_in (by omega) (by omega))) rfl ?_
  refine ln_callT (i := 0) en_66 rfl rfl (fun u hu hok hav => (kbin_AppendUvarint u x.u.length (by omega)) _ _ (by have := hB; simp only [List.length_append] at this ⊢; omega) hok hav) rfl ?_
  rintro u4 v4 _ ht4 ⟨_, ⟨rfl, h1v4⟩, _⟩
  have hob := hob.mv ht4
  have hMK := hMK.mv ht4
  have hRK := hRK.mv ht4
  refine ln_pv (pv_assign rfl) rfl ?_
  refine ln_cd ?_
  refine cd_region ?_
  refine ln_pv (pv_move rfl) rfl ?_
  refine ln_pv (pv_nilCheck rfl) rfl ?_
  refine ln_pv (pv_fieldAddr (off := 4)  Try.underlying70 rfl (tipub_kmsg_Tags).size rfl rfl rfl) rfl ?_
  refine ln_pv (pv_move rfl) rfl ?_
  refine ln_callT (i := 0) en_68 rfl rfl (fun u hu hok hav => hTE u b 4 mv l x.u _ _ (RC.drop_ (OB.rc (hob.mv hu)) 4 rfl) (hMK.mv hu) (RK.mv hu hRK) hsrt hbd (by have := hB; simp only [List.length_append] at this ⊢; omega) hok hav) rfl ?_
  rintro u5 v5 _ ht5 ⟨_, ⟨rfl, h1v5⟩, _⟩
  have hob := hob.mv ht5
  have hMK := hMK.mv ht5
  have hRK := hRK.mv ht5
  refine ln_pv (pv_assign rfl) rfl ?_
  refine ln_nil ?_
  refine at_cd ?_
  refine cd_sr ?_
  refine ln_pv (pv_move rfl) rfl ?_
  refine ln_pv (pv_assign rfl) rfl ?_
  refine ln_cd ?_
  refine cd_ret ?_
  exact at_retT (i := 0) rfl rfl rfl (fun w hS => ⟨by rw [heq]; try simp only [List.append_assoc, List.append_nil], h1v5⟩)
theorem append_RenewDelegationTokenRequest (hTE : TagsEachC) (t : Vw) (b : Nat) (v : Int) (x : Tre) (cells : List Value) (vd : Value) (L : List UInt8) (hob : OB t b (.cells cells.toArray 75)) (hM : Msg_RenewDelegationTokenRequest t v x cells) (hfit : FitOk F_RenewDelegationTokenRequest v x) (h0 : 0 ≤ v) (h1 : v ≤ 2) (hB : L.length + (writeB F_RenewDelegationTokenRequest 2 v x).length ≤ 4398046511104) (hok : (Ent.row vd 5 1 L.length (u8s L)).ok t.w) (hav : ∀ q ∈ (Ent.row vd 5 1 L.length (u8s L)).blk, t.av q) : CT Try.prog 49 [.pointer (some ⟨b, 0, none⟩), vd] t (.row vd 5 1 L.length (u8s L)) fun _ r e' => e' = .row r 5 1 (L ++ writeB F_RenewDelegationTokenRequest 2 v x).length (u8s (L ++ writeB F_RenewDelegationTokenRequest 2 v x)) ∧ r.oneCell' = true := by
  obtain ⟨c0, mv, l, rfl, hc0, hMK, hRK⟩ := hM
  obtain ⟨_, hunk, hsrt, hbd, hul⟩ := id hfit
  have hl0 : (x.at_ 0).s.length ≤ 32767 := (hfit.1 0 (by decide)).1 (by decide)
  refine ct_enter Try.func49 rfl Try.ntmps49 rfl hok hav (by simp only [Ent.blk]; cases vd.ownBlock <;> simp) ?_
  by_cases hv0 : v ≤ 1
  · skip
    have hz0 : (x.at_ 0).z = false := by
      cases h : (x.at_ 0).z with
      | false => rfl
      | true => exact absurd ((hfit.1 0 (by decide)).2 h) (by show ¬ ((-1 : Int) ≥ 0 ∧ v ≥ (-1 : Int)); omega)
    have heq : writeB F_RenewDelegationTokenRequest 2 v x = (fieldB (.mk 9 0 (-1) (-1) (-1) 0 0 []) v false (x.at_ 0)) ++ (fieldB (.mk 4 0 (-1) (-1) (-1) 0 0 []) v false (x.at_ 1)) := by
      have hflex : flexB 2 v = false := by simp [flexB]; omega
      unfold writeB
      rw [hflex]
      rw [partB_false]
      simp only [F_RenewDelegationTokenRequest, plainB, Fld.tag, hasB, Fld.frm, Fld.to]
      simp [h0]
    rw [heq] at hB
    refine cd_sr ?_
    refine ln_pv (pv_assign rfl) rfl ?_
    refine ln_cd ?_
    refine cd_sr ?_
    refine ln_pv (pv_move rfl) rfl ?_
    refine ln_pv (pv_nilCheck rfl) rfl ?_
    refine ln_pv (pv_fieldAddr (off := 0)  Try.underlying75 rfl (tiint16).size rfl rfl rfl) rfl ?_
    refine ln_pv (pv_ldr (j := 0) (OB.rc hob) Try.underlying45 rfl rfl rfl) rfl ?_
    refine ln_pv (pv_assign rfl) rfl ?_
    refine ln_cd ?_
    refine cd_sr ?_
    refine ln_pv (pv_move rfl) rfl ?_
    refine ln_cd ?_
    refine cd_sr ?_
    refine ln_pv (pv_move rfl) rfl ?_
    refine ln_pv (pv_ff (pv_geq rfl rfl) (by omega)) rfl ?_
    refine ln_pv (pv_assign rfl) rfl ?_
    refine ln_cd ?_
    refine cd_sr ?_
    refine ln_pv (pv_move rfl) rfl ?_
    refine ln_cd ?_
    refine cd_seq ?_
    refine cd_sr ?_
    refine ln_pv (pv_move rfl) rfl ?_
    refine ln_pv (pv_nilCheck rfl) rfl ?_
    refine ln_pv (pv_fieldAddr (off := 1)  Try.underlying75 rfl (tiSl_uint8).size rfl rfl rfl) rfl ?_
    refine ln_pv (pv_ldr (j := 1) (OB.rc hob) Try.underlying22 rfl rfl rfl) rfl ?_
    refine ln_pv (pv_assign rfl) rfl ?_
    refine ln_cd ?_
    refine cd_sr ?_
    refine ln_pv (pv_move rfl) rfl ?_
    refine ln_cd ?_
    refine cd_ff rfl ?_
    refine cd_region ?_
    refine ln_pv (pv_move rfl) rfl ?_
    refine ln_pv (pv_move rfl) rfl ?_
    refine ln_callT (i := 0) en_81 rfl rfl (fun u hu hok hav => (show AppC _ _ (fieldB (.mk 9 0 (-1) (-1) (-1) 0 0 []) v false (x.at_ 0)) u from by rw [fb_b 0 (-1) (-1) (-1) 0 0 [] v false (x.at_ 0) hz0 hl0]; exact kbin_AppendBytes u _ _ ((hc0.mv hu).rs hz0) hl0) _ _ (by have := hB; simp only [List.length_append] at this ⊢; omega) hok hav) rfl ?_
    rintro u1 v1 _ ht1 ⟨_, ⟨rfl, h1v1⟩, _⟩
    have hob := hob.mv ht1
    have hMK := hMK.mv ht1
    have hRK := hRK.mv ht1
    have hc0 := hc0.mv ht1
    refine ln_pv (pv_assign rfl) rfl ?_
    refine ln_nil ?_
    refine at_cd ?_
    refine cd_seq ?_
    refine cd_sr ?_
    refine ln_pv (pv_move rfl) rfl ?_
    refine ln_pv (pv_nilCheck rfl) rfl ?_
    refine ln_pv (pv_fieldAddr (off := 2)  Try.underlying75 rfl (tiint64).size rfl rfl rfl) rfl ?_
    refine ln_pv (pv_ldr (j := 2) (OB.rc hob) Try.underlying2 rfl rfl rfl) rfl ?_
    refine ln_pv (pv_assign rfl) rfl ?_
    refine ln_cd ?_
    refine cd_region ?_
    refine ln_pv (pv_move rfl) rfl ?_
    refine ln_pv (pv_move rfl) rfl ?_
    refine ln_callT (i := 0) en_77 rfl rfl (fun u hu hok hav => (show AppC _ _ (fieldB (.mk 4 0 (-1) (-1) (-1) 0 0 []) v false (x.at_ 1)) u from by rw [fb_i64 0 (-1) (-1) (-1) 0 0 [] v false (x.at_ 1)]; exact kbin_AppendInt64 u _) _ _ (by have := hB; simp only [List.length_append] at this ⊢; omega) hok hav) rfl ?_
    rintro u2 v2 _ ht2 ⟨_, ⟨rfl, h1v2⟩, _⟩
    have hob := hob.mv ht2
    have hMK := hMK.mv ht2
    have hRK := hRK.mv ht2
    have hc0 := hc0.mv ht2
    refine ln_pv (pv_assign rfl) rfl ?_
    refine ln_nil ?_
    refine at_cd ?_
    refine cd_seq ?_
    refine cd_sr ?_
    refine ln_pv (pv_move rfl) rfl ?_
    refine ln_cd ?_
    refine cd_ff rfl ?_
    refine cd_skip ?_
    refine at_cd ?_
    refine cd_sr ?_
    refine ln_pv (pv_move rfl) rfl ?_
    refine ln_pv (pv_assign rfl) rfl ?_
    refine ln_cd ?_
    refine cd_ret ?_
    exact at_retT (i := 0) rfl rfl rfl (fun w hS => ⟨by rw [heq]; try simp only [List.append_assoc, List.append_nil], h1v2⟩)
  have hz0 : (x.at_ 0).z = false := by
    cases h : (x.at_ 0).z with
    | false => rfl
    | true => exact absurd ((hfit.1 0 (by decide)).2 h) (by show ¬ ((-1 : Int) ≥ 0 ∧ v ≥ (-1 : Int)); omega)
  have heq : writeB F_RenewDelegationTokenRequest 2 v x = (fieldB (.mk 9 0 (-1) (-1) (-1) 0 0 []) v true (x.at_ 0)) ++ (fieldB (.mk 4 0 (-1) (-1) (-1) 0 0 []) v true (x.at_ 1)) ++ uvar x.u.length ++ x.u.flatMap tagB := by
    have hflex : flexB 2 v = true := by simp [flexB]; omega
    unfold writeB
    rw [hflex]
    rw [partB_true, show (known F_RenewDelegationTokenRequest).toNat = 0 from rfl, hfit.2.1, show TGs F_RenewDelegationTokenRequest v x 0 = [] from rfl, List.nil_append]
    simp only [F_RenewDelegationTokenRequest, plainB, Fld.tag, hasB, Fld.frm, Fld.to]
    simp [h0]
  rw [heq] at hB
  refine cd_sr ?_
  refine ln_pv (pv_assign rfl) rfl ?_
  refine ln_cd ?_
  refine cd_sr ?_
  refine ln_pv (pv_move rfl) rfl ?_
  refine ln_pv (pv_nilCheck rfl) rfl ?_
  refine ln_pv (pv_fieldAddr (off := 0)  Try.underlying75 rfl (tiint16).size rfl rfl rfl) rfl ?_
  refine ln_pv (pv_ldr (j := 0) (OB.rc hob) Try.underlying45 rfl rfl rfl) rfl ?_
  refine ln_pv (pv_assign rfl) rfl ?_
  refine ln_cd ?_
  refine cd_sr ?_
  refine ln_pv (pv_move rfl) rfl ?_
  refine ln_cd ?_
  refine cd_sr ?_
  refine ln_pv (pv_move rfl) rfl ?_
  refine ln_pv (pv_tt (pv_geq rfl rfl) (by omega)) rfl ?_
  refine ln_pv (pv_assign rfl) rfl ?_
  refine ln_cd ?_
  refine cd_sr ?_
  refine ln_pv (pv_move rfl) rfl ?_
  refine ln_cd ?_
  refine cd_seq ?_
  refine cd_sr ?_
  refine ln_pv (pv_move rfl) rfl ?_
  refine ln_pv (pv_nilCheck rfl) rfl ?_
  refine ln_pv (pv_fieldAddr (off := 1)  Try.underlying75 rfl (tiSl_uint8).size rfl rfl rfl) rfl ?_
  refine ln_pv (pv_ldr (j := 1) (OB.rc hob) Try.underlying22 rfl rfl rfl) rfl ?_
  refine ln_pv (pv_assign rfl) rfl ?_
  refine ln_cd ?_
  refine cd_sr ?_
  refine ln_pv (pv_move rfl) rfl ?_
  refine ln_cd ?_
  refine cd_tt rfl ?_
  refine cd_region ?_
  refine ln_pv (pv_move rfl) rfl ?_
  refine ln_pv (pv_move rfl) rfl ?_
  refine ln_callT (i := 0) en_80 rfl rfl (fun u hu hok hav => (show AppC _ _ (fieldB (.mk 9 0 (-1) (-1) (-1) 0 0 []) v true (x.at_ 0)) u from by rw [fb_b 0 (-1) (-1) (-1) 0 0 [] v true (x.at_ 0) hz0 hl0]; exact kbin_AppendCompactBytes u _ _ ((hc0.mv hu).rs hz0) hl0) _ _ (by have := hB; simp only [List.length_append] at this ⊢; omega) hok hav) rfl ?_
  rintro u1 v1 _ ht1 ⟨_, ⟨rfl, h1v1⟩, _⟩
  have hob := hob.mv ht1
  have hMK := hMK.mv ht1
  have hRK := hRK.mv ht1
  have hc0 := hc0.mv ht1
  refine ln_pv (pv_assign rfl) rfl ?_
  refine ln_nil ?_
  refine at_cd ?_
  refine cd_seq ?_
  refine cd_sr ?_
  refine ln_pv (pv_move rfl) rfl ?_
  refine ln_pv (pv_nilCheck rfl) rfl ?_
  refine ln_pv (pv_fieldAddr (off := 2)  Try.underlying75 rfl (tiint64).size rfl rfl rfl) rfl ?_
  refine ln_pv (pv_ldr (j := 2) (OB.rc hob) Try.underlying2 rfl rfl rfl) rfl ?_
  refine ln_pv (pv_assign rfl) rfl ?_
  refine ln_cd ?_
  refine cd_region ?_
  refine ln_pv (pv_move rfl) rfl ?_
  refine ln_pv (pv_move rfl) rfl ?_
  refine ln_callT (i := 0) en_77 rfl rfl (fun u hu hok hav => (show AppC _ _ (fieldB (.mk 4 0 (-1) (-1) (-1) 0 0 []) v true (x.at_ 1)) u from by rw [fb_i64 0 (-1) (-1) (-1) 0 0 [] v true (x.at_ 1)]; exact kbin_AppendInt64 u _) _ _ (by have := hB; simp only [List.length_append] at this ⊢; omega) hok hav) rfl ?_
  rintro u2 v2 _ ht2 ⟨_, ⟨rfl, h1v2⟩, _⟩
  have hob := hob.mv ht2
  have hMK := hMK.mv ht2
  have hRK := hRK.mv ht2
  have hc0 := hc0.mv ht2
  refine ln_pv (pv_assign rfl) rfl ?_
  refine ln_nil ?_
  refine at_cd ?_
  refine cd_seq ?_
  refine cd_sr ?_
  refine ln_pv (pv_move rfl) rfl ?_
  refine ln_cd ?_
  refine cd_tt rfl ?_
  refine cd_sr ?_
  refine ln_pv (pv_move rfl) rfl ?_
  refine ln_pv (pv_move rfl) rfl ?_
  refine ln_pv (pv_nilCheck rfl) rfl ?_
  refine ln_pv (pv_fieldAddr (off := 3)  Try.underlying75 rfl (tipub_kmsg_Tags).size rfl rfl rfl) rfl ?_
  refine ln_callS en_67 rfl (fun u hu => tags_Len u b 3 mv l (RC.drop_ (OB.rc (hob.mv hu)) 3 rfl) (hMK.mv hu)) rfl ?_
  refine ln_pv (pv_conv' Try.underlying3 Try.underlying59 rfl (r := ((x.u.length : Nat) : Int)) (by rw [hRK.len]; exact wrap_u32_in (by omega) (by omega))) rfl ?_
  refine ln_pv (pv_add' rfl rfl (r := ((x.u.length : Nat) : Int)) (by rw [Int.zero_add]; exact wrap_u32_in (by omega) (by omega))) rfl ?_
  refine ln_callT (i := 0) en_66 rfl rfl (fun u hu hok hav => (kbin_AppendUvarint u x.u.length (by omega)) _ _ (by have := hB; simp only [List.length_append] at this ⊢; omega) hok hav) rfl ?_
  rintro u3 v3 _ ht3 ⟨_, ⟨rfl, h1v3⟩, _⟩
  have hob := hob.mv ht3
  have hMK := hMK.mv ht3
  have hRK := hRK.mv ht3
  have hc0 := hc0.mv ht3
  refine ln_pv (pv_assign rfl) rfl ?_
  refine ln_cd ?_
  refine cd_region ?_
  refine ln_pv (pv_move rfl) rfl ?_
  refine ln_pv (pv_nilCheck rfl) rfl ?_
  refine ln_pv (pv_fieldAddr (off := 3)  Try.underlying75 rfl (tipub_kmsg_Tags).size rfl rfl rfl) rfl ?_
  refine ln_pv (pv_move rfl) rfl ?_
  refine ln_callT (i := 0) en_68 rfl rfl (fun u hu hok hav => hTE u b 3 mv l x.u _ _ (RC.drop_ (OB.rc (hob.mv hu)) 3 rfl) (hMK.mv hu) (RK.mv hu hRK) hsrt hbd (by have := hB; simp only [List.length_append] at this ⊢; omega) hok hav) rfl ?_
  rintro u4 v4 _ ht4 ⟨_, ⟨rfl, h1v4⟩, _⟩
  have hob := hob.mv ht4
  have hMK := hMK.mv ht4
  have hRK := hRK.mv ht4
  have hc0 := hc0.mv ht4
  refine ln_pv (pv_assign rfl) rfl ?_
  refine ln_nil ?_
  refine at_cd ?_
  refine cd_sr ?_
  refine ln_pv (pv_move rfl) rfl ?_
  refine ln_pv (pv_assign rfl) rfl ?_
  refine ln_cd ?_
  refine cd_ret ?_
  exact at_retT (i := 0) rfl rfl rfl (fun w hS => ⟨by rw [heq]; try simp only [List.append_assoc, List.append_nil], h1v4⟩)
theorem append_EnvelopeRequest (hTE : TagsEachC) (t : Vw) (b : Nat) (v : Int) (x : Tre) (cells : List Value) (vd : Value) (L : List UInt8) (hob : OB t b (.cells cells.toArray 80)) (hM : Msg_EnvelopeRequest t v x cells) (hfit : FitOk F_EnvelopeRequest v x) (h0 : 0 ≤ v) (h1 : v ≤ 0) (hB : L.length + (writeB F_EnvelopeRequest 0 v x).length ≤ 4398046511104) (hok : (Ent.row vd 5 1 L.length (u8s L)).ok t.w) (hav : ∀ q ∈ (Ent.row vd 5 1 L.length (u8s L)).blk, t.av q) : CT Try.prog 54 [.pointer (some ⟨b, 0, none⟩), vd] t (.row vd 5 1 L.length (u8s L)) fun _ r e' => e' = .row r 5 1 (L ++ writeB F_EnvelopeRequest 0 v x).length (u8s (L ++ writeB F_EnvelopeRequest 0 v x)) ∧ r.oneCell' = true := by
  obtain ⟨c0, c1, c2, mv, l, rfl, hc0, hc1, hc2, hMK, hRK⟩ := hM
  obtain ⟨_, hunk, hsrt, hbd, hul⟩ := id hfit
  have hl0 : (x.at_ 0).s.length ≤ 32767 := (hfit.1 0 (by decide)).1 (by decide)
  have hl1 : (x.at_ 1).s.length ≤ 32767 := (hfit.1 1 (by decide)).1 (by decide)
  have hl2 : (x.at_ 2).s.length ≤ 32767 := (hfit.1 2 (by decide)).1 (by decide)
  refine ct_enter Try.func54 rfl Try.ntmps54 rfl hok hav (by simp only [Ent.blk]; cases vd.ownBlock <;> simp) ?_
  have hz0 : (x.at_ 0).z = false := by
    cases h : (x.at_ 0).z with
    | false => rfl
    | true => exact absurd ((hfit.1 0 (by decide)).2 h) (by show ¬ ((-1 : Int) ≥ 0 ∧ v ≥ (-1 : Int)); omega)
  have hz2 : (x.at_ 2).z = false := by
    cases h : (x.at_ 2).z with
    | false => rfl
    | true => exact absurd ((hfit.1 2 (by decide)).2 h) (by show ¬ ((-1 : Int) ≥ 0 ∧ v ≥ (-1 : Int)); omega)
  have heq : writeB F_EnvelopeRequest 0 v x = (fieldB (.mk 9 0 (-1) (-1) (-1) 0 0 []) v true (x.at_ 0)) ++ (fieldB (.mk 9 0 (-1) 0 (-1) 0 0 []) v true (x.at_ 1)) ++ (fieldB (.mk 9 0 (-1) (-1) (-1) 0 0 []) v true (x.at_ 2)) ++ uvar x.u.length ++ x.u.flatMap tagB := by
    have hflex : flexB 0 v = true := by simp [flexB]; omega
    unfold writeB
    rw [hflex]
    rw [partB_true, show (known F_EnvelopeRequest).toNat = 0 from rfl, hfit.2.1, show TGs F_EnvelopeRequest v x 0 = [] from rfl, List.nil_append]
    simp only [F_EnvelopeRequest, plainB, Fld.tag, hasB, Fld.frm, Fld.to]
    simp [h0]
  rw [heq] at hB
  refine cd_sr ?_
  refine ln_pv (pv_assign rfl) rfl ?_
  refine ln_cd ?_
  refine cd_sr ?_
  refine ln_pv (pv_move rfl) rfl ?_
  refine ln_pv (pv_nilCheck rfl) rfl ?_
  refine ln_pv (pv_fieldAddr (off := 0)  Try.underlying80 rfl (tiint16).size rfl rfl rfl) rfl ?_
  refine ln_pv (pv_ldr (j := 0) (OB.rc hob) Try.underlying45 rfl rfl rfl) rfl ?_
  refine ln_pv (pv_assign rfl) rfl ?_
  refine ln_cd ?_
  refine cd_sr ?_
  refine ln_pv (pv_move rfl) rfl ?_
  refine ln_cd ?_
  refine cd_sr ?_
  refine ln_pv (pv_move rfl) rfl ?_
  refine ln_pv (pv_tt (pv_geq rfl rfl) (by omega)) rfl ?_
  refine ln_pv (pv_assign rfl) rfl ?_
  refine ln_cd ?_
  refine cd_sr ?_
  refine ln_pv (pv_move rfl) rfl ?_
  refine ln_cd ?_
  refine cd_seq ?_
  refine cd_sr ?_
  refine ln_pv (pv_move rfl) rfl ?_
  refine ln_pv (pv_nilCheck rfl) rfl ?_
  refine ln_pv (pv_fieldAddr (off := 1)  Try.underlying80 rfl (tiSl_uint8).size rfl rfl rfl) rfl ?_
  refine ln_pv (pv_ldr (j := 1) (OB.rc hob) Try.underlying22 rfl rfl rfl) rfl ?_
  refine ln_pv (pv_assign rfl) rfl ?_
  refine ln_cd ?_
  refine cd_sr ?_
  refine ln_pv (pv_move rfl) rfl ?_
  refine ln_cd ?_
  refine cd_tt rfl ?_
  refine cd_region ?_
  refine ln_pv (pv_move rfl) rfl ?_
  refine ln_pv (pv_move rfl) rfl ?_
  refine ln_callT (i := 0) en_80 rfl rfl (fun u hu hok hav => (show AppC _ _ (fieldB (.mk 9 0 (-1) (-1) (-1) 0 0 []) v true (x.at_ 0)) u from by rw [fb_b 0 (-1) (-1) (-1) 0 0 [] v true (x.at_ 0) hz0 hl0]; exact kbin_AppendCompactBytes u _ _ ((hc0.mv hu).rs hz0) hl0) _ _ (by have := hB; simp only [List.length_append] at this ⊢; omega) hok hav) rfl ?_
  rintro u1 v1 _ ht1 ⟨_, ⟨rfl, h1v1⟩, _⟩
  have hob := hob.mv ht1
  have hMK := hMK.mv ht1
  have hRK := hRK.mv ht1
  have hc0 := hc0.mv ht1
  have hc1 := hc1.mv ht1
  have hc2 := hc2.mv ht1
  refine ln_pv (pv_assign rfl) rfl ?_
  refine ln_nil ?_
  refine at_cd ?_
  refine cd_seq ?_
  refine cd_sr ?_
  refine ln_pv (pv_move rfl) rfl ?_
  refine ln_pv (pv_nilCheck rfl) rfl ?_
  refine ln_pv (pv_fieldAddr (off := 2)  Try.underlying80 rfl (tiSl_uint8).size rfl rfl rfl) rfl ?_
  refine ln_pv (pv_ldr (j := 2) (OB.rc hob) Try.underlying22 rfl rfl rfl) rfl ?_
  refine ln_pv (pv_assign rfl) rfl ?_
  refine ln_cd ?_
  refine cd_sr ?_
  refine ln_pv (pv_move rfl) rfl ?_
  refine ln_cd ?_
  refine cd_tt rfl ?_
  refine cd_region ?_
  refine ln_pv (pv_move rfl) rfl ?_
  refine ln_pv (pv_move rfl) rfl ?_
  refine ln_callT (i := 0) en_83 rfl rfl (fun u hu hok hav => (show AppC _ _ (fieldB (.mk 9 0 (-1) 0 (-1) 0 0 []) v true (x.at_ 1)) u from by rw [fb_bn 0 (-1) 0 (-1) 0 0 [] v true (x.at_ 1) (by omega) (by omega) hl1]; exact kbin_AppendCompactNullableBytes_any u _ _ (hc1.mv hu) hl1) _ _ (by have := hB; simp only [List.length_append] at this ⊢; omega) hok hav) rfl ?_
  rintro u2 v2 _ ht2 ⟨_, ⟨rfl, h1v2⟩, _⟩
  have hob := hob.mv ht2
  have hMK := hMK.mv ht2
  have hRK := hRK.mv ht2
  have hc0 := hc0.mv ht2
  have hc1 := hc1.mv ht2
  have hc2 := hc2.mv ht2
  refine ln_pv (pv_assign rfl) rfl ?_
  refine ln_nil ?_
  refine at_cd ?_
  refine cd_seq ?_
  refine cd_sr ?_
  refine ln_pv (pv_move rfl) rfl ?_
  refine ln_pv (pv_nilCheck rfl) rfl ?_
  refine ln_pv (pv_fieldAddr (off := 3)  Try.underlying80 rfl (tiSl_uint8).size rfl rfl rfl) rfl ?_
  refine ln_pv (pv_ldr (j := 3) (OB.rc hob) Try.underlying22 rfl rfl rfl) rfl ?_
  refine ln_pv (pv_assign rfl) rfl ?_
  refine ln_cd ?_
  refine cd_sr ?_
  refine ln_pv (pv_move rfl) rfl ?_
  refine ln_cd ?_
  refine cd_tt rfl ?_
  refine cd_region ?_
  refine ln_pv (pv_move rfl) rfl ?_
  refine ln_pv (pv_move rfl) rfl ?_
  refine ln_callT (i := 0) en_80 rfl rfl (fun u hu hok hav => (show AppC _ _ (fieldB (.mk 9 0 (-1) (-1) (-1) 0 0 []) v true (x.at_ 2)) u from by rw [fb_b 0 (-1) (-1) (-1) 0 0 [] v true (x.at_ 2) hz2 hl2]; exact kbin_AppendCompactBytes u _ _ ((hc2.mv hu).rs hz2) hl2) _ _ (by have := hB; simp only [List.length_append] at this ⊢; omega) hok hav) rfl ?_
  rintro u3 v3 _ ht3 ⟨_, ⟨rfl, h1v3⟩, _⟩
  have hob := hob.mv ht3
  have hMK := hMK.mv ht3
  have hRK := hRK.mv ht3
  have hc0 := hc0.mv ht3
  have hc1 := hc1.mv ht3
  have hc2 := hc2.mv ht3
  refine ln_pv (pv_assign rfl) rfl ?_
  refine ln_nil ?_
  refine at_cd ?_
  refine cd_seq ?_
  refine cd_sr ?_
  refine ln_pv (pv_move rfl) rfl ?_
  refine ln_cd ?_
  refine cd_tt rfl ?_
  refine cd_sr ?_
  refine ln_pv (pv_move rfl) rfl ?_
  refine ln_pv (pv_move rfl) rfl ?_
  refine ln_pv (pv_nilCheck rfl) rfl ?_
  refine ln_pv (pv_fieldAddr (off := 4)  Try.underlying80 rfl (tipub_kmsg_Tags).size rfl rfl rfl) rfl ?_
  refine ln_callS en_67 rfl (fun u hu => tags_Len u b 4 mv l (RC.drop_ (OB.rc (hob.mv hu)) 4 rfl) (hMK.mv hu)) rfl ?_
  refine ln_pv (pv_conv' Try.underlying3 Try.underlying59 rfl (r := ((x.u.length : Nat) : Int)) (by rw [hRK.len]; exact wrap_u32_in (by omega) (by omega))) rfl ?_
  refine ln_pv (pv_add' rfl rfl (r := ((x.u.length : Nat) : Int)) (by rw [Int.zero_add]; exact wrap_u32_in (by omega) (by omega))) rfl ?_
  refine ln_callT (i := 0) en_66 rfl rfl (fun u hu hok hav => (kbin_AppendUvarint u x.u.length (by omega)) _ _ (by have := hB; simp only [List.length_append] at this ⊢; omega) hok hav) rfl ?_
  rintro u4 v4 _ ht4 ⟨_, ⟨rfl, h1v4⟩, _⟩
  have hob := hob.mv ht4
  have hMK := hMK.mv ht4
  have hRK := hRK.mv ht4
  have hc0 := hc0.mv ht4
  have hc1 := hc1.mv ht4
  have hc2 := hc2.mv ht4
  refine ln_pv (pv_assign rfl) rfl ?_
  refine ln_cd ?_
  refine cd_region ?_
  refine ln_pv (pv_move rfl) rfl ?_
  refine ln_pv (pv_nilCheck rfl) rfl ?_
  refine ln_pv (pv_fieldAddr (off := 4)  Try.underlying80 rfl (tipub_kmsg_Tags).size rfl rfl rfl) rfl ?_
  refine ln_pv (pv_move rfl) rfl ?_
  refine ln_callT (i := 0) en_68 rfl rfl (fun u hu hok hav => hTE u b 4 mv l x.u _ _ (RC.drop_ (OB.rc (hob.mv hu)) 4 rfl) (hMK.mv hu) (RK.mv hu hRK) hsrt hbd (by have := hB; simp only [List.length_append] at this ⊢; omega) hok hav) rfl ?_
  rintro u5 v5 _ ht5 ⟨_, ⟨rfl, h1v5⟩, _⟩
  have hob := hob.mv ht5
  have hMK := hMK.mv ht5
  have hRK := hRK.mv ht5
  have hc0 := hc0.mv ht5
  have hc1 := hc1.mv ht5
  have hc2 := hc2.mv ht5
  refine ln_pv (pv_assign rfl) rfl ?_
  refine ln_nil ?_
  refine at_cd ?_
  refine cd_sr ?_
  refine ln_pv (pv_move rfl) rfl ?_
  refine ln_pv (pv_assign rfl) rfl ?_
  refine ln_cd ?_
  refine cd_ret ?_
  exact at_retT (i := 0) rfl rfl rfl (fun w hS => ⟨by rw [heq]; try simp only [List.append_assoc, List.append_nil], h1v5⟩)
theorem append_HeartbeatRequest (hTE : TagsEachC) (t : Vw) (b : Nat) (v : Int) (x : Tre) (cells : List Value) (vd : Value) (L : List UInt8) (hob : OB t b (.cells cells.toArray 86)) (hM : Msg_HeartbeatRequest t v x cells) (hfit : FitOk F_HeartbeatRequest v x) (h0 : 0 ≤ v) (h1 : v ≤ 4) (hB : L.length + (writeB F_HeartbeatRequest 4 v x).length ≤ 4398046511104) (hok : (Ent.row vd 5 1 L.length (u8s L)).ok t.w) (hav : ∀ q ∈ (Ent.row vd 5 1 L.length (u8s L)).blk, t.av q) : CT Try.prog 59 [.pointer (some ⟨b, 0, none⟩), vd] t (.row vd 5 1 L.length (u8s L)) fun _ r e' => e' = .row r 5 1 (L ++ writeB F_HeartbeatRequest 4 v x).length (u8s (L ++ writeB F_HeartbeatRequest 4 v x)) ∧ r.oneCell' = true := by
  obtain ⟨c3, mv, l, rfl, hc3, hMK, hRK⟩ := hM
  obtain ⟨_, hunk, hsrt, hbd, hul⟩ := id hfit
  have hl0 : (x.at_ 0).s.length ≤ 32767 := (hfit.1 0 (by decide)).1 (by decide)
  have hl2 : (x.at_ 2).s.length ≤ 32767 := (hfit.1 2 (by decide)).1 (by decide)
  have hl3 : (x.at_ 3).s.length ≤ 32767 := (hfit.1 3 (by decide)).1 (by decide)
  refine ct_enter Try.func59 rfl Try.ntmps59 rfl hok hav (by simp only [Ent.blk]; cases vd.ownBlock <;> simp) ?_
  by_cases hv0 : v ≤ 2
  · skip
    have hz0 : (x.at_ 0).z = false := by
      cases h : (x.at_ 0).z with
      | false => rfl
      | true => exact absurd ((hfit.1 0 (by decide)).2 h) (by show ¬ ((-1 : Int) ≥ 0 ∧ v ≥ (-1 : Int)); omega)
    have hz2 : (x.at_ 2).z = false := by
      cases h : (x.at_ 2).z with
      | false => rfl
      | true => exact absurd ((hfit.1 2 (by decide)).2 h) (by show ¬ ((-1 : Int) ≥ 0 ∧ v ≥ (-1 : Int)); omega)
    have hz3 : (x.at_ 3).z = false := by
      cases h : (x.at_ 3).z with
      | false => rfl
      | true => exact absurd ((hfit.1 3 (by decide)).2 h) (by show ¬ ((3 : Int) ≥ 0 ∧ v ≥ (3 : Int)); omega)
    have heq : writeB F_HeartbeatRequest 4 v x = (fieldB (.mk 8 0 (-1) (-1) (-1) 0 0 []) v false (x.at_ 0)) ++ (fieldB (.mk 3 0 (-1) (-1) (-1) 0 0 []) v false (x.at_ 1)) ++ (fieldB (.mk 8 0 (-1) (-1) (-1) 0 0 []) v false (x.at_ 2)) := by
      have hflex : flexB 4 v = false := by simp [flexB]; omega
      unfold writeB
      rw [hflex]
      rw [partB_false]
      simp only [F_HeartbeatRequest, plainB, Fld.tag, hasB, Fld.frm, Fld.to]
      simp [h0, show ((3 : Int) ≤ v) = False by simp; omega]
    rw [heq] at hB
    refine cd_sr ?_
    refine ln_pv (pv_assign rfl) rfl ?_
    refine ln_cd ?_
    refine cd_sr ?_
    refine ln_pv (pv_move rfl) rfl ?_
    refine ln_pv (pv_nilCheck rfl) rfl ?_
    refine ln_pv (pv_fieldAddr (off := 0)  Try.underlying86 rfl (tiint16).size rfl rfl rfl) rfl ?_
    refine ln_pv (pv_ldr (j := 0) (OB.rc hob) Try.underlying45 rfl rfl rfl) rfl ?_
    refine ln_pv (pv_assign rfl) rfl ?_
    refine ln_cd ?_
    refine cd_sr ?_
    refine ln_pv (pv_move rfl) rfl ?_
    refine ln_cd ?_
    refine cd_sr ?_
    refine ln_pv (pv_move rfl) rfl ?_
    refine ln_pv (pv_ff (pv_geq rfl rfl) (by omega)) rfl ?_
    refine ln_pv (pv_assign rfl) rfl ?_
    refine ln_cd ?_
    refine cd_sr ?_
    refine ln_pv (pv_move rfl) rfl ?_
    refine ln_cd ?_
    refine cd_seq ?_
    refine cd_sr ?_
    refine ln_pv (pv_move rfl) rfl ?_
    refine ln_pv (pv_nilCheck rfl) rfl ?_
    refine ln_pv (pv_fieldAddr (off := 1)  Try.underlying86 rfl (tistring).size rfl rfl rfl) rfl ?_
    refine ln_pv (pv_ldr (j := 1) (OB.rc hob) Try.underlying9 rfl rfl rfl) rfl ?_
    refine ln_pv (pv_assign rfl) rfl ?_
    refine ln_cd ?_
    refine cd_sr ?_
    refine ln_pv (pv_move rfl) rfl ?_
    refine ln_cd ?_
    refine cd_ff rfl ?_
    refine cd_region ?_
    refine ln_pv (pv_move rfl) rfl ?_
    refine ln_pv (pv_move rfl) rfl ?_
    refine ln_callT (i := 0) en_88 rfl rfl (fun u hu hok hav => (show AppC _ _ (fieldB (.mk 8 0 (-1) (-1) (-1) 0 0 []) v false (x.at_ 0)) u from by rw [fb_s 0 (-1) (-1) (-1) 0 0 [] v false (x.at_ 0) hz0 hl0]; exact kbin_AppendString u ⟨(x.at_ 0).s.toArray⟩ hl0) _ _ (by have := hB; simp only [List.length_append] at this ⊢; omega) hok hav) rfl ?_
    rintro u1 v1 _ ht1 ⟨_, ⟨rfl, h1v1⟩, _⟩
    have hob := hob.mv ht1
    have hMK := hMK.mv ht1
    have hRK := hRK.mv ht1
    have hc3 := hc3.mv ht1
    refine ln_pv (pv_assign rfl) rfl ?_
    refine ln_nil ?_
    refine at_cd ?_
    refine cd_seq ?_
    refine cd_sr ?_
    refine ln_pv (pv_move rfl) rfl ?_
    refine ln_pv (pv_nilCheck rfl) rfl ?_
    refine ln_pv (pv_fieldAddr (off := 2)  Try.underlying86 rfl (tiint32).size rfl rfl rfl) rfl ?_
    refine ln_pv (pv_ldr (j := 2) (OB.rc hob) Try.underlying21 rfl rfl rfl) rfl ?_
    refine ln_pv (pv_assign rfl) rfl ?_
    refine ln_cd ?_
    refine cd_region ?_
    refine ln_pv (pv_move rfl) rfl ?_
    refine ln_pv (pv_move rfl) rfl ?_
    refine ln_callT (i := 0) en_64 rfl rfl (fun u hu hok hav => (show AppC _ _ (fieldB (.mk 3 0 (-1) (-1) (-1) 0 0 []) v false (x.at_ 1)) u from by have h := kbin_AppendInt32 u (IntKind.i32.wrap (x.at_ 1).n); rw [fixw .i32 4 _ rfl] at h; rw [fb_i32 0 (-1) (-1) (-1) 0 0 [] v false (x.at_ 1)]; exact h) _ _ (by have := hB; simp only [List.length_append] at this ⊢; omega) hok hav) rfl ?_
    rintro u2 v2 _ ht2 ⟨_, ⟨rfl, h1v2⟩, _⟩
    have hob := hob.mv ht2
    have hMK := hMK.mv ht2
    have hRK := hRK.mv ht2
    have hc3 := hc3.mv ht2
    refine ln_pv (pv_assign rfl) rfl ?_
    refine ln_nil ?_
    refine at_cd ?_
    refine cd_seq ?_
    refine cd_sr ?_
    refine ln_pv (pv_move rfl) rfl ?_
    refine ln_pv (pv_nilCheck rfl) rfl ?_
    refine ln_pv (pv_fieldAddr (off := 3)  Try.underlying86 rfl (tistring).size rfl rfl rfl) rfl ?_
    refine ln_pv (pv_ldr (j := 3) (OB.rc hob) Try.underlying9 rfl rfl rfl) rfl ?_
    refine ln_pv (pv_assign rfl) rfl ?_
    refine ln_cd ?_
    refine cd_sr ?_
    refine ln_pv (pv_move rfl) rfl ?_
    refine ln_cd ?_
    refine cd_ff rfl ?_
    refine cd_region ?_
    refine ln_pv (pv_move rfl) rfl ?_
    refine ln_pv (pv_move rfl) rfl ?_
    refine ln_callT (i := 0) en_88 rfl rfl (fun u hu hok hav => (show AppC _ _ (fieldB (.mk 8 0 (-1) (-1) (-1) 0 0 []) v false (x.at_ 2)) u from by rw [fb_s 0 (-1) (-1) (-1) 0 0 [] v false (x.at_ 2) hz2 hl2]; exact kbin_AppendString u ⟨(x.at_ 2).s.toArray⟩ hl2) _ _ (by have := hB; simp only [List.length_append] at this ⊢; omega) hok hav) rfl ?_
    rintro u3 v3 _ ht3 ⟨_, ⟨rfl, h1v3⟩, _⟩
    have hob := hob.mv ht3
    have hMK := hMK.mv ht3
    have hRK := hRK.mv ht3
    have hc3 := hc3.mv ht3
    refine ln_pv (pv_assign rfl) rfl ?_
    refine ln_nil ?_
    refine at_cd ?_
    refine cd_seq ?_
    refine cd_sr ?_
    refine ln_pv (pv_move rfl) rfl ?_
    refine ln_pv (pv_ff (pv_geq rfl rfl) (by omega)) rfl ?_
    refine ln_cd ?_
    refine cd_ff rfl ?_
    refine cd_skip ?_
    refine at_cd ?_
    refine cd_seq ?_
    refine cd_sr ?_
    refine ln_pv (pv_move rfl) rfl ?_
    refine ln_cd ?_
    refine cd_ff rfl ?_
    refine cd_skip ?_
    refine at_cd ?_
    refine cd_sr ?_
    refine ln_pv (pv_move rfl) rfl ?_
    refine ln_pv (pv_assign rfl) rfl ?_
    refine ln_cd ?_
    refine cd_ret ?_
    exact at_retT (i := 0) rfl rfl rfl (fun w hS => ⟨by rw [heq]; try simp only [List.append_assoc, List.append_nil], h1v3⟩)
  by_cases hv1 : v ≤ 3
  · skip
    have hz0 : (x.at_ 0).z = false := by
      cases h : (x.at_ 0).z with
      | false => rfl
      | true => exact absurd ((hfit.1 0 (by decide)).2 h) (by show ¬ ((-1 : Int) ≥ 0 ∧ v ≥ (-1 : Int)); omega)
    have hz2 : (x.at_ 2).z = false := by
      cases h : (x.at_ 2).z with
      | false => rfl
      | true => exact absurd ((hfit.1 2 (by decide)).2 h) (by show ¬ ((-1 : Int) ≥ 0 ∧ v ≥ (-1 : Int)); omega)
    have heq : writeB F_HeartbeatRequest 4 v x = (fieldB (.mk 8 0 (-1) (-1) (-1) 0 0 []) v false (x.at_ 0)) ++ (fieldB (.mk 3 0 (-1) (-1) (-1) 0 0 []) v false (x.at_ 1)) ++ (fieldB (.mk 8 0 (-1) (-1) (-1) 0 0 []) v false (x.at_ 2)) ++ (fieldB (.mk 8 3 (-1) 3 (-1) 0 0 []) v false (x.at_ 3)) := by
      have hflex : flexB 4 v = false := by simp [flexB]; omega
      unfold writeB
      rw [hflex]
      rw [partB_false]
      simp only [F_HeartbeatRequest, plainB, Fld.tag, hasB, Fld.frm, Fld.to]
      simp [h0, show ((3 : Int) ≤ v) = True by simp; omega]
    rw [heq] at hB
    refine cd_sr ?_
    refine ln_pv (pv_assign rfl) rfl ?_
    refine ln_cd ?_
    refine cd_sr ?_
    refine ln_pv (pv_move rfl) rfl ?_
    refine ln_pv (pv_nilCheck rfl) rfl ?_
    refine ln_pv (pv_fieldAddr (off := 0)  Try.underlying86 rfl (tiint16).size rfl rfl rfl) rfl ?_
    refine ln_pv (pv_ldr (j := 0) (OB.rc hob) Try.underlying45 rfl rfl rfl) rfl ?_
    refine ln_pv (pv_assign rfl) rfl ?_
    refine ln_cd ?_
    refine cd_sr ?_
    refine ln_pv (pv_move rfl) rfl ?_
    refine ln_cd ?_
    refine cd_sr ?_
    refine ln_pv (pv_move rfl) rfl ?_
    refine ln_pv (pv_ff (pv_geq rfl rfl) (by omega)) rfl ?_
    refine ln_pv (pv_assign rfl) rfl ?_
    refine ln_cd ?_
    refine cd_sr ?_
    refine ln_pv (pv_move rfl) rfl ?_
    refine ln_cd ?_
    refine cd_seq ?_
    refine cd_sr ?_
    refine ln_pv (pv_move rfl) rfl ?_
    refine ln_pv (pv_nilCheck rfl) rfl ?_
    refine ln_pv (pv_fieldAddr (off := 1)  Try.underlying86 rfl (tistring).size rfl rfl rfl) rfl ?_
    refine ln_pv (pv_ldr (j := 1) (OB.rc hob) Try.underlying9 rfl rfl rfl) rfl ?_
    refine ln_pv (pv_assign rfl) rfl ?_
    refine ln_cd ?_
    refine cd_sr ?_
    refine ln_pv (pv_move rfl) rfl ?_
    refine ln_cd ?_
    refine cd_ff rfl ?_
    refine cd_region ?_
    refine ln_pv (pv_move rfl) rfl ?_
    refine ln_pv (pv_move rfl) rfl ?_
    refine ln_callT (i := 0) en_88 rfl rfl (fun u hu hok hav => (show AppC _ _ (fieldB (.mk 8 0 (-1) (-1) (-1) 0 0 []) v false (x.at_ 0)) u from by rw [fb_s 0 (-1) (-1) (-1) 0 0 [] v false (x.at_ 0) hz0 hl0]; exact kbin_AppendString u ⟨(x.at_ 0).s.toArray⟩ hl0) _ _ (by have := hB; simp only [List.length_append] at this ⊢; omega) hok hav) rfl ?_
    rintro u1 v1 _ ht1 ⟨_, ⟨rfl, h1v1⟩, _⟩
    have hob := hob.mv ht1
    have hMK := hMK.mv ht1
    have hRK := hRK.mv ht1
    have hc3 := hc3.mv ht1
    refine ln_pv (pv_assign rfl) rfl ?_
    refine ln_nil ?_
    refine at_cd ?_
    refine cd_seq ?_
    refine cd_sr ?_
    refine ln_pv (pv_move rfl) rfl ?_
    refine ln_pv (pv_nilCheck rfl) rfl ?_
    refine ln_pv (pv_fieldAddr (off := 2)  Try.underlying86 rfl (tiint32).size rfl rfl rfl) rfl ?_
    refine ln_pv (pv_ldr (j := 2) (OB.rc hob) Try.underlying21 rfl rfl rfl) rfl ?_
    refine ln_pv (pv_assign rfl) rfl ?_
    refine ln_cd ?_
    refine cd_region ?_
    refine ln_pv (pv_move rfl) rfl ?_
    refine ln_pv (pv_move rfl) rfl ?_
    refine ln_callT (i := 0) en_64 rfl rfl (fun u hu hok hav => (show AppC _ _ (fieldB (.mk 3 0 (-1) (-1) (-1) 0 0 []) v false (x.at_ 1)) u from by have h := kbin_AppendInt32 u (IntKind.i32.wrap (x.at_ 1).n); rw [fixw .i32 4 _ rfl] at h; rw [fb_i32 0 (-1) (-1) (-1) 0 0 [] v false (x.at_ 1)]; exact h) _ _ (by have := hB; simp only [List.length_append] at this ⊢; omega) hok hav) rfl ?_
    rintro u2 v2 _ ht2 ⟨_, ⟨rfl, h1v2⟩, _⟩
    have hob := hob.mv ht2
    have hMK := hMK.mv ht2
    have hRK := hRK.mv ht2
    have hc3 := hc3.mv ht2
    refine ln_pv (pv_assign rfl) rfl ?_
    refine ln_nil ?_
    refine at_cd ?_
    refine cd_seq ?_
    refine cd_sr ?_
    refine ln_pv (pv_move rfl) rfl ?_
    refine ln_pv (pv_nilCheck rfl) rfl ?_
    refine ln_pv (pv_fieldAddr (off := 3)  Try.underlying86 rfl (tistring).size rfl rfl rfl) rfl ?_
    refine ln_pv (pv_ldr (j := 3) (OB.rc hob) Try.underlying9 rfl rfl rfl) rfl ?_
    refine ln_pv (pv_assign rfl) rfl ?_
    refine ln_cd ?_
    refine cd_sr ?_
    refine ln_pv (pv_move rfl) rfl ?_
    refine ln_cd ?_
    refine cd_ff rfl ?_
    refine cd_region ?_
    refine ln_pv (pv_move rfl) rfl ?_
    refine ln_pv (pv_move rfl) rfl ?_
    refine ln_callT (i := 0) en_88 rfl rfl (fun u hu hok hav => (show AppC _ _ (fieldB (.mk 8 0 (-1) (-1) (-1) 0 0 []) v false (x.at_ 2)) u from by rw [fb_s 0 (-1) (-1) (-1) 0 0 [] v false (x.at_ 2) hz2 hl2]; exact kbin_AppendString u ⟨(x.at_ 2).s.toArray⟩ hl2) _ _ (by have := hB; simp only [List.length_append] at this ⊢; omega) hok hav) rfl ?_
    rintro u3 v3 _ ht3 ⟨_, ⟨rfl, h1v3⟩, _⟩
    have hob := hob.mv ht3
    have hMK := hMK.mv ht3
    have hRK := hRK.mv ht3
    have hc3 := hc3.mv ht3
    refine ln_pv (pv_assign rfl) rfl ?_
    refine ln_nil ?_
    refine at_cd ?_
    refine cd_seq ?_
    refine cd_sr ?_
    refine ln_pv (pv_move rfl) rfl ?_
    refine ln_pv (pv_tt (pv_geq rfl rfl) (by omega)) rfl ?_
    refine ln_cd ?_
    refine cd_tt rfl ?_
    refine cd_sr ?_
    refine ln_pv (pv_move rfl) rfl ?_
    refine ln_pv (pv_nilCheck rfl) rfl ?_
    refine ln_pv (pv_fieldAddr (off := 4)  Try.underlying86 rfl (tiPt_string).size rfl rfl rfl) rfl ?_
    refine ln_pv (pv_ldr (j := 4) (OB.rc hob) Try.underlying84 rfl rfl rfl) rfl ?_
    refine ln_pv (pv_assign rfl) rfl ?_
    refine ln_cd ?_
    refine cd_sr ?_
    refine ln_pv (pv_move rfl) rfl ?_
    refine ln_cd ?_
    refine cd_ff rfl ?_
    refine cd_region ?_
    refine ln_pv (pv_move rfl) rfl ?_
    refine ln_pv (pv_move rfl) rfl ?_
    refine ln_callT (i := 0) en_90 rfl rfl (fun u hu hok hav => (show AppC _ _ (fieldB (.mk 8 3 (-1) 3 (-1) 0 0 []) v false (x.at_ 3)) u from by rw [fb_sn 3 (-1) 3 (-1) 0 0 [] v false (x.at_ 3) (by omega) (by omega) hl3]; exact kbin_AppendNullableString_any u _ _ (hc3.mv hu) hl3) _ _ (by have := hB; simp only [List.length_append] at this ⊢; omega) hok hav) rfl ?_
    rintro u4 v4 _ ht4 ⟨_, ⟨rfl, h1v4⟩, _⟩
    have hob := hob.mv ht4
    have hMK := hMK.mv ht4
    have hRK := hRK.mv ht4
    have hc3 := hc3.mv ht4
    refine ln_pv (pv_assign rfl) rfl ?_
    refine ln_nil ?_
    refine at_cd ?_
    refine cd_seq ?_
    refine cd_sr ?_
    refine ln_pv (pv_move rfl) rfl ?_
    refine ln_cd ?_
    refine cd_ff rfl ?_
    refine cd_skip ?_
    refine at_cd ?_
    refine cd_sr ?_
    refine ln_pv (pv_move rfl) rfl ?_
    refine ln_pv (pv_assign rfl) rfl ?_
    refine ln_cd ?_
    refine cd_ret ?_
    exact at_retT (i := 0) rfl rfl rfl (fun w hS => ⟨by rw [heq]; try simp only [List.append_assoc, List.append_nil], h1v4⟩)
  have hz0 : (x.at_ 0).z = false := by
    cases h : (x.at_ 0).z with
    | false => rfl
    | true => exact absurd ((hfit.1 0 (by decide)).2 h) (by show ¬ ((-1 : Int) ≥ 0 ∧ v ≥ (-1 : Int)); omega)
  have hz2 : (x.at_ 2).z = false := by
    cases h : (x.at_ 2).z with
    | false => rfl
    | true => exact absurd ((hfit.1 2 (by decide)).2 h) (by show ¬ ((-1 : Int) ≥ 0 ∧ v ≥ (-1 : Int)); omega)
  have heq : writeB F_HeartbeatRequest 4 v x = (fieldB (.mk 8 0 (-1) (-1) (-1) 0 0 []) v true (x.at_ 0)) ++ (fieldB (.mk 3 0 (-1) (-1) (-1) 0 0 []) v true (x.at_ 1)) ++ (fieldB (.mk 8 0 (-1) (-1) (-1) 0 0 []) v true (x.at_ 2)) ++ (fieldB (.mk 8 3 (-1) 3 (-1) 0 0 []) v true (x.at_ 3)) ++ uvar x.u.length ++ x.u.flatMap tagB := by
    have hflex : flexB 4 v = true := by simp [flexB]; omega
    unfold writeB
    rw [hflex]
    rw [partB_true, show (known F_HeartbeatRequest).toNat = 0 from rfl, hfit.2.1, show TGs F_HeartbeatRequest v x 0 = [] from rfl, List.nil_append]
    simp only [F_HeartbeatRequest, plainB, Fld.tag, hasB, Fld.frm, Fld.to]
    simp [h0, show ((3 : Int) ≤ v) = True by simp; omega]
  rw [heq] at hB
  refine cd_sr ?_
  refine ln_pv (pv_assign rfl) rfl ?_
  refine ln_cd ?_
  refine cd_sr ?_
  refine ln_pv (pv_move rfl) rfl ?_
  refine ln_pv (pv_nilCheck rfl) rfl ?_
  refine ln_pv (pv_fieldAddr (off := 0)  Try.underlying86 rfl (tiint16).size rfl rfl rfl) rfl ?_
  refine ln_pv (pv_ldr (j := 0) (OB.rc hob) Try.underlying45 rfl rfl rfl) rfl ?_
  refine ln_pv (pv_assign rfl) rfl ?_
  refine ln_cd ?_
  refine cd_sr ?_
  refine ln_pv (pv_move rfl) rfl ?_
  refine ln_cd ?_
  refine cd_sr ?_
  refine ln_pv (pv_move rfl) rfl ?_
  refine ln_pv (pv_tt (pv_geq rfl rfl) (by omega)) rfl ?_
  refine ln_pv (pv_assign rfl) rfl ?_
  refine ln_cd ?_
  refine cd_sr ?_
  refine ln_pv (pv_move rfl) rfl ?_
  refine ln_cd ?_
  refine cd_seq ?_
  refine cd_sr ?_
  refine ln_pv (pv_move rfl) rfl ?_
  refine ln_pv (pv_nilCheck rfl) rfl ?_
  refine ln_pv (pv_fieldAddr (off := 1)  Try.underlying86 rfl (tistring).size rfl rfl rfl) rfl ?_
  refine ln_pv (pv_ldr (j := 1) (OB.rc hob) Try.underlying9 rfl rfl rfl) rfl ?_
  refine ln_pv (pv_assign rfl) rfl ?_
  refine ln_cd ?_
  refine cd_sr ?_
  refine ln_pv (pv_move rfl) rfl ?_
  refine ln_cd ?_
  refine cd_tt rfl ?_
  refine cd_region ?_
  refine ln_pv (pv_move rfl) rfl ?_
  refine ln_pv (pv_move rfl) rfl ?_
  refine ln_callT (i := 0) en_87 rfl rfl (fun u hu hok hav => (show AppC _ _ (fieldB (.mk 8 0 (-1) (-1) (-1) 0 0 []) v true (x.at_ 0)) u from by rw [fb_s 0 (-1) (-1) (-1) 0 0 [] v true (x.at_ 0) hz0 hl0]; exact kbin_AppendCompactString u ⟨(x.at_ 0).s.toArray⟩ hl0) _ _ (by have := hB; simp only [List.length_append] at this ⊢; omega) hok hav) rfl ?_
  rintro u1 v1 _ ht1 ⟨_, ⟨rfl, h1v1⟩, _⟩
  have hob := hob.mv ht1
  have hMK := hMK.mv ht1
  have hRK := hRK.mv ht1
  have hc3 := hc3.mv ht1
  refine ln_pv (pv_assign rfl) rfl ?_
  refine ln_nil ?_
  refine at_cd ?_
  refine cd_seq ?_
  refine cd_sr ?_
  refine ln_pv (pv_move rfl) rfl ?_
  refine ln_pv (pv_nilCheck rfl) rfl ?_
  refine ln_pv (pv_fieldAddr (off := 2)  Try.underlying86 rfl (tiint32).size rfl rfl rfl) rfl ?_
  refine ln_pv (pv_ldr (j := 2) (OB.rc hob) Try.underlying21 rfl rfl rfl) rfl ?_
  refine ln_pv (pv_assign rfl) rfl ?_
  refine ln_cd ?_
  refine cd_region ?_
  refine ln_pv (pv_move rfl) rfl ?_
  refine ln_pv (pv_move rfl) rfl ?_
  refine ln_callT (i := 0) en_64 rfl rfl (fun u hu hok hav => (show AppC _ _ (fieldB (.mk 3 0 (-1) (-1) (-1) 0 0 []) v true (x.at_ 1)) u from by have h := kbin_AppendInt32 u (IntKind.i32.wrap (x.at_ 1).n); rw [fixw .i32 4 _ rfl] at h; rw [fb_i32 0 (-1) (-1) (-1) 0 0 [] v true (x.at_ 1)]; exact h) _ _ (by have := hB; simp only [List.length_append] at this ⊢; omega) hok hav) rfl ?_
  rintro u2 v2 _ ht2 ⟨_, ⟨rfl, h1v2⟩, _⟩
  have hob := hob.mv ht2
  have hMK := hMK.mv ht2
  have hRK := hRK.mv ht2
  have hc3 := hc3.mv ht2
  refine ln_pv (pv_assign rfl) rfl ?_
  refine ln_nil ?_
  refine at_cd ?_
  refine cd_seq ?_
  refine cd_sr ?_
  refine ln_pv (pv_move rfl) rfl ?_
  refine ln_pv (pv_nilCheck rfl) rfl ?_
  refine ln_pv (pv_fieldAddr (off := 3)  Try.underlying86 rfl (tistring).size rfl rfl rfl) rfl ?_
  refine ln_pv (pv_ldr (j := 3) (OB.rc hob) Try.underlying9 rfl rfl rfl) rfl ?_
  refine ln_pv (pv_assign rfl) rfl ?_
  refine ln_cd ?_
  refine cd_sr ?_
  refine ln_pv (pv_move rfl) rfl ?_
  refine ln_cd ?_
  refine cd_tt rfl ?_
  refine cd_region ?_
  refine ln_pv (pv_move rfl) rfl ?_
  refine ln_pv (pv_move rfl) rfl ?_
  refine ln_callT (i := 0) en_87 rfl rfl (fun u hu hok hav => (show AppC _ _ (fieldB (.mk 8 0 (-1) (-1) (-1) 0 0 []) v true (x.at_ 2)) u from by rw [fb_s 0 (-1) (-1) (-1) 0 0 [] v true (x.at_ 2) hz2 hl2]; exact kbin_AppendCompactString u ⟨(x.at_ 2).s.toArray⟩ hl2) _ _ (by have := hB; simp only [List.length_append] at this ⊢; omega) hok hav) rfl ?_
  rintro u3 v3 _ ht3 ⟨_, ⟨rfl, h1v3⟩, _⟩
  have hob := hob.mv ht3
  have hMK := hMK.mv ht3
  have hRK := hRK.mv ht3
  have hc3 := hc3.mv ht3
  refine ln_pv (pv_assign rfl) rfl ?_
  refine ln_nil ?_
  refine at_cd ?_
  refine cd_seq ?_
  refine cd_sr ?_
  refine ln_pv (pv_move rfl) rfl ?_
  refine ln_pv (pv_tt (pv_geq rfl rfl) (by omega)) rfl ?_
  refine ln_cd ?_
  refine cd_tt rfl ?_
  refine cd_sr ?_
  refine ln_pv (pv_move rfl) rfl ?_
  refine ln_pv (pv_nilCheck rfl) rfl ?_
  refine ln_pv (pv_fieldAddr (off := 4)  Try.underlying86 rfl (tiPt_string).size rfl rfl rfl) rfl ?_
  refine ln_pv (pv_ldr (j := 4) (OB.rc hob) Try.underlying84 rfl rfl rfl) rfl ?_
  refine ln_pv (pv_assign rfl) rfl ?_
  refine ln_cd ?_
  refine cd_sr ?_
  refine ln_pv (pv_move rfl) rfl ?_
  refine ln_cd ?_
  refine cd_tt rfl ?_
  refine cd_region ?_
  refine ln_pv (pv_move rfl) rfl ?_
  refine ln_pv (pv_move rfl) rfl ?_
  refine ln_callT (i := 0) en_89 rfl rfl (fun u hu hok hav => (show AppC _ _ (fieldB (.mk 8 3 (-1) 3 (-1) 0 0 []) v true (x.at_ 3)) u from by rw [fb_sn 3 (-1) 3 (-1) 0 0 [] v true (x.at_ 3) (by omega) (by omega) hl3]; exact kbin_AppendCompactNullableString_any u _ _ (hc3.mv hu) hl3) _ _ (by have := hB; simp only [List.length_append] at this ⊢; omega) hok hav) rfl ?_
  rintro u4 v4 _ ht4 ⟨_, ⟨rfl, h1v4⟩, _⟩
  have hob := hob.mv ht4
  have hMK := hMK.mv ht4
  have hRK := hRK.mv ht4
  have hc3 := hc3.mv ht4
  refine ln_pv (pv_assign rfl) rfl ?_
  refine ln_nil ?_
  refine at_cd ?_
  refine cd_seq ?_
  refine cd_sr ?_
  refine ln_pv (pv_move rfl) rfl ?_
  refine ln_cd ?_
  refine cd_tt rfl ?_
  refine cd_sr ?_
  refine ln_pv (pv_move rfl) rfl ?_
  refine ln_pv (pv_move rfl) rfl ?_
  refine ln_pv (pv_nilCheck rfl) rfl ?_
  refine ln_pv (pv_fieldAddr (off := 5)  Try.underlying86 rfl (tipub_kmsg_Tags).size rfl rfl rfl) rfl ?_
  refine ln_callS en_67 rfl (fun u hu => tags_Len u b 5 mv l (RC.drop_ (OB.rc (hob.mv hu)) 5 rfl) (hMK.mv hu)) rfl ?_
  refine ln_pv (pv_conv' Try.underlying3 Try.underlying59 rfl (r := ((x.u.length : Nat) : Int)) (by rw [hRK.len]; exact wrap_u32_in (by omega) (by omega))) rfl ?_
  refine ln_pv (pv_add' rfl rfl (r := ((x.u.length : Nat) : Int)) (by rw [Int.zero_add]; exact wrap_u32_in (by omega) (by omega))) rfl ?_
  refine ln_callT (i := 0) en_66 rfl rfl (fun u hu hok hav => (kbin_AppendUvarint u x.u.length (by omega)) _ _ (by have := hB; simp only [List.length_append] at this ⊢; omega) hok hav) rfl ?_
  rintro u5 v5 _ ht5 ⟨_, ⟨rfl, h1v5⟩, _⟩
  have hob := hob.mv ht5
  have hMK := hMK.mv ht5
  have hRK := hRK.mv ht5
  have hc3 := hc3.mv ht5
  refine ln_pv (pv_assign rfl) rfl ?_
  refine ln_cd ?_
  refine cd_region ?_
  refine ln_pv (pv_move rfl) rfl ?_
  refine ln_pv (pv_nilCheck rfl) rfl ?_
  refine ln_pv (pv_fieldAddr (off := 5)  Try.underlying86 rfl (tipub_kmsg_Tags).size rfl rfl rfl) rfl ?_
  refine ln_pv (pv_move rfl) rfl ?_
  refine ln_callT (i := 0) en_68 rfl rfl (fun u hu hok hav => hTE u b 5 mv l x.u _ _ (RC.drop_ (OB.rc (hob.mv hu)) 5 rfl) (hMK.mv hu) (RK.mv hu hRK) hsrt hbd (by have := hB; simp only [List.length_append] at this ⊢; omega) hok hav) rfl ?_
  rintro u6 v6 _ ht6 ⟨_, ⟨rfl, h1v6⟩, _⟩
  have hob := hob.mv ht6
  have hMK := hMK.mv ht6
  have hRK := hRK.mv ht6
  have hc3 := hc3.mv ht6
  refine ln_pv (pv_assign rfl) rfl ?_
  refine ln_nil ?_
  refine at_cd ?_
  refine cd_sr ?_
  refine ln_pv (pv_move rfl) rfl ?_
  refine ln_pv (pv_assign rfl) rfl ?_
  refine ln_cd ?_
  refine cd_ret ?_
  exact at_retT (i := 0) rfl rfl rfl (fun w hS => ⟨by rw [heq]; try simp only [List.append_assoc, List.append_nil], h1v6⟩)
end K
end Go.Proofs.Ytoledocfkjohhaa
