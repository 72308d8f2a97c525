import Derived.Test.YtjjfpdofkdolnaaDoorS2
set_option linter.unusedVariables false
set_option linter.unusedSimpArgs false
namespace Go.Proofs.YtjjfpdofkdolnaaDoor
namespace K
open Go Go.Lib
theorem shift_load {ys J : List Value} {k j : Nat} {v : Value} (h1 : 1 ≤ k) (h2 : k * 2 ≤ ys.length) (h : ((ys.drop ((k - 1) * 2)).take 2)[j]? = some v) :
    (ys.take (k * 2) ++ J ++ ys.drop (k * 2))[0 + (k - 1) * 2 + j]? = some v := by
  obtain ⟨k, rfl⟩ : ∃ q, k = q + 1 := ⟨k - 1, by omega⟩
  simp only [Nat.add_sub_cancel] at h ⊢
  have hj : j < 2 := by
    have := (List.getElem?_eq_some_iff.1 h).1
    simp at this; omega
  rw [List.getElem?_take_of_lt hj, List.getElem?_drop] at h
  rw [List.append_assoc, List.getElem?_append_left (by simp; omega), List.getElem?_take_of_lt (by omega), Nat.zero_add, h]
theorem shift_step0 {ys J : List Value} {k : Nat} (h1 : 1 ≤ k) (h2 : k * 2 ≤ ys.length) (hJ : J.length = 2) :
    wr (ys.take (k * 2) ++ J ++ ys.drop (k * 2)) (0 + k * 2) ((ys.drop ((k - 1) * 2)).take 2) = ys.take ((k - 1) * 2) ++ (ys.drop ((k - 1) * 2)).take 2 ++ ys.drop ((k - 1) * 2) := by
  rw [Nat.zero_add]
  exact shift_step h1 h2 hJ
theorem shift_last {ys J N : List Value} {k : Nat} (h2 : k * 2 ≤ ys.length) (hJ : J.length = 2) (hN : N.length = 2) :
    wr (ys.take (k * 2) ++ J ++ ys.drop (k * 2)) (0 + k * 2) N = ys.take (k * 2) ++ N ++ ys.drop (k * 2) := by
  have e1 : (ys.take (k * 2)).length = k * 2 := by simp; omega
  generalize ys.take (k * 2) = A at *
  generalize ys.drop (k * 2) = B at *
  simp only [wr, hN, Nat.zero_add, ← e1]
  have t1 : (A ++ J ++ B).take A.length = A := by simp [List.append_assoc]
  have t2 : (A ++ J ++ B).drop (A.length + 2) = B := by
    rw [show A.length + 2 = (A ++ J).length by simp [hJ]]
    exact List.drop_left
  rw [t1, t2]
theorem insT_skip {least : Int} {out : Tags} {x : Nat × List UInt8} (h : (x.1 : Int) < least) : insT least out x = out := by simp [insT, h]
theorem insT_same {least : Int} {out : Tags} {x : Nat × List UInt8} {i : Nat} (hp : pre out x.1 = i) (hi : i < out.length) (he : out[i].1 = x.1) : insT least out x = out := by
  unfold insT
  split
  · rfl
  · rw [if_pos (by rw [hp, List.getElem?_eq_getElem hi]; simp [he])]
theorem insT_put {least : Int} {out : Tags} {x : Nat × List UInt8} {i : Nat} (hl : ¬ (x.1 : Int) < least) (hp : pre out x.1 = i) (he : ∀ h : i < out.length, out[i].1 ≠ x.1) : insT least out x = out.take i ++ x :: out.drop i := by
  unfold insT
  rw [if_neg hl, if_neg ?_, hp]
  rw [hp]
  by_cases hi : i < out.length
  · rw [List.getElem?_eq_getElem hi]
    simpa using he hi
  · rw [List.getElem?_eq_none (by omega)]
    simp
theorem unkn_snoc (least : Int) (l : Tags) {j : Nat} (h : j < l.length) : (l.take (j + 1)).foldl (insT least) [] = insT least ((l.take j).foldl (insT least) []) l[j] := by
  rw [take_snoc' h, List.foldl_append]; rfl
theorem spec_unknown (t : Vw) (vf v : Value) (fs : List Fld) (lc uc : List Value) (ul : Tags) (hF : RS t 8 vf fs.length lc) (hFs : RFs t fs lc) (hT : TagOk fs) (hmf : fs.length < 1000000000) (hV : RS t 2 v ul.length uc) (hUs : RUs t ul uc) : CA Tryd.prog 155 [vf, v] t fun u r => RU u r (unkn (known fs) ul) := by
  obtain ⟨ad, c, rfl, hle⟩ := hV.shape
  have hV2 := RS.take hV (k := min ul.length 32767) (Nat.min_le_left _ _)
  have hk0 := known_nonneg fs
  have hk1 := known_le hT
  have hm : min ul.length 32767 ≤ 32767 := Nat.min_le_right _ _
  have hmu : min ul.length 32767 ≤ ul.length := Nat.min_le_left _ _
  refine ca_enter Tryd.func155 rfl Tryd.ntmps155 rfl ?_
  refine cd_sr ?_
  refine ln_pv (pv_assign rfl) rfl ?_
  refine ln_cd ?_
  refine cd_sr ?_
  refine ln_pv (pv_move rfl) rfl ?_
  refine ln_callS en_152 rfl (fun u hu => spec_known u vf fs lc (hF.mv hu) (hFs.mv hu) hT hmf) rfl ?_
  refine ln_pv (pv_assign rfl) rfl ?_
  refine ln_cd ?_
  refine cd_nilrow 57 2 ?_
  refine cd_sr ?_
  refine ln_pv (pv_assign rfl) rfl ?_
  refine ln_cd ?_
  refine cd_seq ?_
  refine cd_sr ?_
  refine ln_pv (pv_move rfl) rfl ?_
  refine ln_pv (pv_move rfl) rfl ?_
  refine ln_pv (pv_len_slice Tryd.underlying33 rfl) rfl ?_
  refine ln_pv (pv_min rfl rfl) rfl ?_
  refine ln_pv (pv_slice_hi' (k' := min ul.length 32767) Tryd.underlying33 (by kernel_rfl) rfl rfl (by split <;> omega) (by split <;> omega) (by split <;> omega)) rfl ?_
  refine ln_pv (pv_len_slice Tryd.underlying33 rfl) rfl ?_
  refine ln_pv (pv_move rfl) rfl ?_
  refine ln_cd ?_
  refine cd_block ?_
  refine cd_loop (⟨fun (z : Nat × Tags × List Value × Value) => [(5, .int .u32 (known fs)), (6, z.2.2.2), (17, .slice ad (min ul.length 32767) c), (18, .int .i64 ((min ul.length 32767 : Nat) : Int)), (19, .int .i64 ((z.1 : Nat) : Int))], fun (z : Nat × Tags × List Value × Value) => [.row z.2.2.2 57 2 z.2.1.length (z.2.2.1)], fun (z : Nat × Tags × List Value × Value) s => z.1 ≤ min ul.length 32767 ∧ RUs s z.2.1 z.2.2.1 ∧ z.2.1 = (ul.take z.1).foldl (insT (known fs)) [] ∧ z.2.1.length ≤ z.1, fun (z : Nat × Tags × List Value × Value) => min ul.length 32767 - z.1⟩ : Lp (Nat × Tags × List Value × Value)) (0, [], [], .slice none 0 0) ?_ ?_ ?_ ?_
  · intro s0 hs0
    exact ⟨Nat.zero_le _, rfl, rfl, Nat.le_refl _⟩
  · exact ⟨rfl, rfl, rfl, rfl, rfl,  trivial⟩
  · exact (.cons_cons _ .slnil)
  intro z s1 hl1 hI
  obtain ⟨j, out, ys, v⟩ := z
  dsimp only at hI ⊢
  have hF := hF.mv hl1
  have hFs := hFs.mv hl1
  have hV := hV.mv hl1
  have hUs := hUs.mv hl1
  obtain ⟨hI, hRU, hEq, hLen⟩ := hI
  have hyl := hRU.cells.1
  refine cd_sr ?_
  refine ln_pv (pv_lss rfl rfl) rfl ?_
  refine ln_cd ?_
  refine cd_seq ?_
  refine cd_if rfl (fun hc1 => ?_) (fun hc1 => ?_)
  · -- yes
    refine cd_skip ?_
    refine at_cd ?_
    refine cd_seq ?_
    refine cd_block ?_
    have hj : j < ul.length := by omega
    obtain ⟨b0, o0, rfl, hrc⟩ := hV.pos (by omega) (by decide)
    obtain ⟨c1, tv, c3, he, hk, hkk, hTv⟩ := RUs.at_ hj hUs
    have hsub := hrc.sub (j * 2) he hk
    refine cd_rowshape (i := 0) rfl (fun ad2 cp hv hle2 hpos => ?_)
    subst hv
    refine cd_sr ?_
    refine ln_pv (pv_ixN Tryd.underlying33 tispec_Tag.size rfl rfl (by omega)) rfl ?_
    refine ln_pv (pv_ldR hsub Tryd.underlying57 rfl (tispec_Tag).size rfl rfl) rfl ?_
    refine ln_alloc tispec_Tag rfl rfl (fun b1 => ?_)
    refine ln_storeW (i := 0) rfl rfl rfl rfl (tispec_Tag).size rfl (by simp [(RS.one hTv)]) ?_
    refine ln_cd ?_
    refine cd_sr ?_
    refine ln_pv (pv_assign rfl) rfl ?_
    refine ln_cd ?_
    refine cd_seq ?_
    refine cd_block ?_
    refine cd_loop (⟨fun (z : Nat) => [(5, .int .u32 (known fs)), (6, .slice ad2 out.length cp), (8, .pointer (some ⟨b1, 0, none⟩)), (9, .int .i64 ((z : Nat) : Int)), (17, .slice (some ⟨b0, o0, none⟩) (min ul.length 32767) c), (18, .int .i64 ((min ul.length 32767 : Nat) : Int)), (19, .int .i64 ((j : Nat) : Int))], fun (z : Nat) => [.obj b1 (.cells [.int .u32 (ul[j].1 : Int), tv].toArray 57), .row (.slice ad2 out.length cp) 57 2 out.length (ys)], fun (z : Nat) s => z ≤ out.length ∧ ∀ q, (h : q < out.length) → q < z → (out[q]).1 < ul[j].1, fun (z : Nat) => out.length - z⟩ : Lp (Nat)) 0 ?_ ?_ ?_ ?_
    · intro s0 hs0
      exact ⟨Nat.zero_le _, fun q _ h => absurd h (by omega)⟩
    · exact ⟨rfl, rfl, rfl, rfl, rfl, rfl, rfl,  trivial⟩
    · exact (.cons_cons _ (.cons_cons _ .slnil))
    intro i s2 hl2 hI
    dsimp only at hI ⊢
    have hF := hF.mv hl2
    have hFs := hFs.mv hl2
    have hV := hV.mv hl2
    have hUs := hUs.mv hl2
    have hRU := hRU.mv hl2
    have hTv := hTv.mv hl2
    obtain ⟨hI1, hI2⟩ := hI
    refine cd_seq ?_
    by_cases hii : i < out.length
    · skip
      obtain ⟨gg, rfl⟩ := hpos (by omega)
      
      refine cd_dr' [0, 1] [0, 1, 2, 3, 4, 5, 6, 7, 8, 9, 10, 11, 12, 13] [0, 1, 2, 3, 4, 5, 6, 7, 8, 9, 10, 11, 12, 13] mixed (by kernel_rfl) ?_
      refine lo_pv rfl rfl (sk_js (Tr.refl _) [0, 1] rfl) (pv_move rfl) rfl ?_
      refine lo_pv rfl rfl (sk_js (Tr.refl _) [0, 1] rfl) (pv_move rfl) rfl ?_
      refine lo_pv rfl rfl (sk_js (Tr.refl _) [0, 1] rfl) (pv_len_slice Tryd.underlying33 rfl) rfl ?_
      refine lo_pv rfl rfl (sk_js (Tr.refl _) [0, 1] rfl) (pv_tt (pv_lss rfl rfl) (by omega)) rfl ?_
      refine lo_pv rfl rfl (sk_js (Tr.refl _) [0, 1] rfl) (pv_move rfl) rfl ?_
      refine lo_gt rfl rfl (sk_js (Tr.refl _) [0, 1] rfl) rfl rfl rfl (pv_move rfl) rfl ?_
      refine lo_gt rfl rfl (sk_js (Tr.refl _) [0, 1] rfl) rfl rfl rfl (pv_move rfl) rfl ?_
      refine lo_gt rfl rfl (sk_js (Tr.refl _) [0, 1] rfl) rfl rfl rfl (pv_ixN Tryd.underlying33 tispec_Tag.size rfl rfl hii) rfl ?_
      refine lo_gt rfl rfl (sk_js (Tr.refl _) [0, 1] rfl) rfl rfl rfl (pv_fieldAddr (off := 0) (r := i * 2) Tryd.underlying57 rfl tiuint32.size rfl rfl (by omega)) rfl ?_
      refine lo_gt rfl rfl (sk_js (Tr.refl _) [0, 1] rfl) rfl rfl rfl (pv_ldw1 (i := 1) rfl Tryd.underlying55 rfl rfl (RUs.key hii hRU)) rfl ?_
      refine lo_gt rfl rfl (sk_js (Tr.refl _) [0, 1] rfl) rfl rfl rfl (pv_fieldAddr (off := 0) (r := 0) Tryd.underlying57 rfl (tiuint32).size rfl rfl rfl) rfl ?_
      refine lo_gt rfl rfl (sk_js (Tr.refl _) [0, 1] rfl) rfl rfl rfl (pv_ldo (i := 0) rfl Tryd.underlying55 rfl rfl rfl) rfl ?_
      refine lo_gt rfl rfl (sk_js (Tr.refl _) [0, 1] rfl) rfl rfl rfl (pv_lss rfl rfl) rfl ?_
      refine lo_pv rfl rfl (sk_js (Tr.refl _) [0, 1] rfl) (pv_pick rfl (fun _ => rfl) (fun _ => rfl)) rfl ?_
      refine lo_cd ?_
      refine cd_if rfl (fun hc2 => ?_) (fun hc2 => ?_)
      · -- yes
        refine cd_skip ?_
        refine at_cd ?_
        refine cd_block ?_
        refine cd_region ?_
        refine ln_pv (pv_move rfl) rfl ?_
        refine ln_pv (pv_add' rfl rfl (wrap_succ (by omega))) rfl ?_
        refine ln_pv (pv_assign rfl) rfl ?_
        refine ln_nil ?_
        refine at_rnd (i + 1) hl2 ?_ ?_ ⟨rfl, rfl, rfl, rfl, rfl, rfl, rfl,  trivial⟩ (.cons_cons _ (.cons_cons _ .slnil))
        · intro s9 hs9
          refine ⟨by first | omega | (dsimp only; omega), fun q hq hq2 => ?_⟩
          rcases Nat.lt_or_ge q i with h | h
          · exact hI2 q hq h
          · have e : q = i := by omega
            subst e
            omega
        · dsimp only; omega
      · -- no
        refine cd_exit rfl ?_
        refine at_cd ?_
        refine cd_seq ?_
        rcases Classical.em ((ul[j].1 : Int) < known fs) with hkl | hkl
        rotate_left
        rcases Classical.em (out[i].1 = ul[j].1) with hee9 | hee9
        · skip
          have hp9 : pre out ul[j].1 = i := pre_eq hI1 hI2 (fun h => by omega)
          refine cd_dr' [0, 1] [0, 1, 2, 3, 4, 5, 6, 7, 8, 9, 10, 11, 12, 13, 14, 15, 16, 17, 18, 19] [0, 1, 2, 3, 4, 5, 6, 7, 8, 9, 10, 11, 12, 13, 14, 15, 16, 17, 18, 19] mixed (by kernel_rfl) ?_
          refine lo_pv rfl rfl (sk_js (Tr.refl _) [0, 1] rfl) (pv_fieldAddr (off := 0) (r := 0) Tryd.underlying57 rfl (tiuint32).size rfl rfl rfl) rfl ?_
          refine lo_pv rfl rfl (sk_js (Tr.refl _) [0, 1] rfl) (pv_ldo (i := 0) rfl Tryd.underlying55 rfl rfl rfl) rfl ?_
          refine lo_pv rfl rfl (sk_js (Tr.refl _) [0, 1] rfl) (pv_move rfl) rfl ?_
          refine lo_pv rfl rfl (sk_js (Tr.refl _) [0, 1] rfl) (pv_ff (pv_lss rfl rfl) hkl) rfl ?_
          refine lo_pv rfl rfl (sk_js (Tr.refl _) [0, 1] rfl) (pv_move rfl) rfl ?_
          refine lo_gt rfl rfl (sk_js (Tr.refl _) [0, 1] rfl) rfl rfl rfl (pv_move rfl) rfl ?_
          refine lo_gt rfl rfl (sk_js (Tr.refl _) [0, 1] rfl) rfl rfl rfl (pv_move rfl) rfl ?_
          refine lo_gt rfl rfl (sk_js (Tr.refl _) [0, 1] rfl) rfl rfl rfl (pv_len_slice Tryd.underlying33 rfl) rfl ?_
          refine lo_gt rfl rfl (sk_js (Tr.refl _) [0, 1] rfl) rfl rfl rfl (pv_tt (pv_lss rfl rfl) (by omega)) rfl ?_
          refine lo_gt rfl rfl (sk_js (Tr.refl _) [0, 1] rfl) rfl rfl rfl (pv_move rfl) rfl ?_
          refine lo_gt rfl rfl (sk_js (Tr.refl _) [0, 1] rfl) rfl rfl rfl (pv_move rfl) rfl ?_
          refine lo_gt rfl rfl (sk_js (Tr.refl _) [0, 1] rfl) rfl rfl rfl (pv_move rfl) rfl ?_
          refine lo_gt rfl rfl (sk_js (Tr.refl _) [0, 1] rfl) rfl rfl rfl (pv_ixN Tryd.underlying33 tispec_Tag.size rfl rfl hii) rfl ?_
          refine lo_gt rfl rfl (sk_js (Tr.refl _) [0, 1] rfl) rfl rfl rfl (pv_fieldAddr (off := 0) (r := i * 2) Tryd.underlying57 rfl tiuint32.size rfl rfl (by omega)) rfl ?_
          refine lo_gt rfl rfl (sk_js (Tr.refl _) [0, 1] rfl) rfl rfl rfl (pv_ldw1 (i := 1) rfl Tryd.underlying55 rfl rfl (RUs.key hii hRU)) rfl ?_
          refine lo_gt rfl rfl (sk_js (Tr.refl _) [0, 1] rfl) rfl rfl rfl (pv_fieldAddr (off := 0) (r := 0) Tryd.underlying57 rfl (tiuint32).size rfl rfl rfl) rfl ?_
          refine lo_gt rfl rfl (sk_js (Tr.refl _) [0, 1] rfl) rfl rfl rfl (pv_ldo (i := 0) rfl Tryd.underlying55 rfl rfl rfl) rfl ?_
          refine lo_gt rfl rfl (sk_js (Tr.refl _) [0, 1] rfl) rfl rfl rfl (pv_tt (pv_eql rfl rfl) (by omega)) rfl ?_
          refine lo_gt rfl rfl (sk_js (Tr.refl _) [0, 1] rfl) rfl rfl rfl (pv_pick rfl (fun _ => rfl) (fun _ => rfl)) rfl ?_
          refine lo_pv rfl rfl (sk_js (Tr.refl _) [0, 1] rfl) (pv_pick rfl (fun _ => rfl) (fun _ => rfl)) rfl ?_
          refine lo_cd ?_
          refine cd_tt rfl ?_
          refine cd_exit rfl ?_
          refine at_cd ?_
          refine cd_region ?_
          refine ln_pv (pv_add' rfl rfl (wrap_succ (by omega))) rfl ?_
          refine ln_pv (pv_move rfl) rfl ?_
          refine ln_nil ?_
          refine at_rnd (j + 1, out, ys, .slice (some ⟨gg, 0, none⟩) out.length cp) (hl1.trans hl2) ?_ ?_ ⟨rfl, rfl, rfl, rfl, rfl,  trivial⟩ (.cons _ (.cons_cons _ .slnil))
          · intro s9 hs9
            refine ⟨by first | omega | (dsimp only; omega), hRU.mv hs9, ?_, by first | omega | (dsimp only; omega)⟩
            rw [unkn_snoc _ _ (by omega), ← hEq]
            exact (insT_same hp9 hii hee9).symm
          · dsimp only; omega
        · skip
          have hp9 : pre out ul[j].1 = i := pre_eq hI1 hI2 (fun h => by omega)
          refine cd_dr' [0, 1] [0, 1, 2, 3, 4, 5, 6, 7, 8, 9, 10, 11, 12, 13, 14, 15, 16, 17, 18, 19] [0, 1, 2, 3, 4, 5, 6, 7, 8, 9, 10, 11, 12, 13, 14, 15, 16, 17, 18, 19] mixed (by kernel_rfl) ?_
          refine lo_pv rfl rfl (sk_js (Tr.refl _) [0, 1] rfl) (pv_fieldAddr (off := 0) (r := 0) Tryd.underlying57 rfl (tiuint32).size rfl rfl rfl) rfl ?_
          refine lo_pv rfl rfl (sk_js (Tr.refl _) [0, 1] rfl) (pv_ldo (i := 0) rfl Tryd.underlying55 rfl rfl rfl) rfl ?_
          refine lo_pv rfl rfl (sk_js (Tr.refl _) [0, 1] rfl) (pv_move rfl) rfl ?_
          refine lo_pv rfl rfl (sk_js (Tr.refl _) [0, 1] rfl) (pv_ff (pv_lss rfl rfl) hkl) rfl ?_
          refine lo_pv rfl rfl (sk_js (Tr.refl _) [0, 1] rfl) (pv_move rfl) rfl ?_
          refine lo_gt rfl rfl (sk_js (Tr.refl _) [0, 1] rfl) rfl rfl rfl (pv_move rfl) rfl ?_
          refine lo_gt rfl rfl (sk_js (Tr.refl _) [0, 1] rfl) rfl rfl rfl (pv_move rfl) rfl ?_
          refine lo_gt rfl rfl (sk_js (Tr.refl _) [0, 1] rfl) rfl rfl rfl (pv_len_slice Tryd.underlying33 rfl) rfl ?_
          refine lo_gt rfl rfl (sk_js (Tr.refl _) [0, 1] rfl) rfl rfl rfl (pv_tt (pv_lss rfl rfl) (by omega)) rfl ?_
          refine lo_gt rfl rfl (sk_js (Tr.refl _) [0, 1] rfl) rfl rfl rfl (pv_move rfl) rfl ?_
          refine lo_gt rfl rfl (sk_js (Tr.refl _) [0, 1] rfl) rfl rfl rfl (pv_move rfl) rfl ?_
          refine lo_gt rfl rfl (sk_js (Tr.refl _) [0, 1] rfl) rfl rfl rfl (pv_move rfl) rfl ?_
          refine lo_gt rfl rfl (sk_js (Tr.refl _) [0, 1] rfl) rfl rfl rfl (pv_ixN Tryd.underlying33 tispec_Tag.size rfl rfl hii) rfl ?_
          refine lo_gt rfl rfl (sk_js (Tr.refl _) [0, 1] rfl) rfl rfl rfl (pv_fieldAddr (off := 0) (r := i * 2) Tryd.underlying57 rfl tiuint32.size rfl rfl (by omega)) rfl ?_
          refine lo_gt rfl rfl (sk_js (Tr.refl _) [0, 1] rfl) rfl rfl rfl (pv_ldw1 (i := 1) rfl Tryd.underlying55 rfl rfl (RUs.key hii hRU)) rfl ?_
          refine lo_gt rfl rfl (sk_js (Tr.refl _) [0, 1] rfl) rfl rfl rfl (pv_fieldAddr (off := 0) (r := 0) Tryd.underlying57 rfl (tiuint32).size rfl rfl rfl) rfl ?_
          refine lo_gt rfl rfl (sk_js (Tr.refl _) [0, 1] rfl) rfl rfl rfl (pv_ldo (i := 0) rfl Tryd.underlying55 rfl rfl rfl) rfl ?_
          refine lo_gt rfl rfl (sk_js (Tr.refl _) [0, 1] rfl) rfl rfl rfl (pv_ff (pv_eql rfl rfl) (by omega)) rfl ?_
          refine lo_gt rfl rfl (sk_js (Tr.refl _) [0, 1] rfl) rfl rfl rfl (pv_pick rfl (fun _ => rfl) (fun _ => rfl)) rfl ?_
          refine lo_pv rfl rfl (sk_js (Tr.refl _) [0, 1] rfl) (pv_pick rfl (fun _ => rfl) (fun _ => rfl)) rfl ?_
          refine lo_cd ?_
          refine cd_ff rfl ?_
          refine cd_skip ?_
          refine at_cd ?_
          refine cd_sr ?_
          refine ln_pv (pv_move rfl) rfl ?_
          refine ln_pv (pv_struct [(0, 1), (1, 1)] (l := [_, _]) rfl Tryd.underlying57 tispec_Tag (by kernel_rfl) rfl rfl) rfl ?_
          refine ln_lit (vs := [_]) Tryd.underlying33 tispec_Tag rfl (by decide) rfl rfl rfl rfl rfl rfl (fun b2 => ?_)
          refine ln_append (i := 2) rfl Tryd.underlying33 tispec_Tag rfl (by decide) rfl rfl (src_obj (j := 0) rfl rfl rfl) (by first | omega | (simp only [maxLen]; omega)) (by first | omega | (simp only [maxLen]; omega)) rfl (k' := out.length + 1) (xs' := ys.take (out.length * 2) ++ [.int .u32 0, .slice none 0 0] ++ ys.drop (out.length * 2)) rfl (by rw [← hyl, List.take_length, List.drop_length, List.append_nil]; rfl) (fun v1 hv1 => ?_)
          refine ln_pv (pv_assign rfl) rfl ?_
          refine ln_cd ?_
          refine cd_seq ?_
          refine cd_rowshape (i := 2) rfl (fun ad3 cp3 hv hle3 hpos3 => ?_)
          subst hv
          obtain ⟨g3, rfl⟩ := hpos3 (by omega)
          refine cd_sr ?_
          refine ln_pv (pv_move rfl) rfl ?_
          refine ln_pv (pv_len_slice Tryd.underlying33 rfl) rfl ?_
          refine ln_pv (pv_sub' rfl rfl (r := ((out.length : Nat) : Int)) (by rw [wrap_i64 (by omega) (by omega)]; omega)) rfl ?_
          refine ln_pv (pv_assign rfl) rfl ?_
          refine ln_cd ?_
          refine cd_block ?_
          refine cd_loop (⟨fun (z : Nat × List Value) => [(5, .int .u32 (known fs)), (6, .slice (some ⟨g3, 0, none⟩) (out.length + 1) cp3), (8, .pointer (some ⟨b1, 0, none⟩)), (9, .int .i64 ((i : Nat) : Int)), (10, .int .i64 ((z.1 : Nat) : Int)), (17, .slice (some ⟨b0, o0, none⟩) (min ul.length 32767) c), (18, .int .i64 ((min ul.length 32767 : Nat) : Int)), (19, .int .i64 ((j : Nat) : Int))], fun (z : Nat × List Value) => [.obj b1 (.cells [.int .u32 (ul[j].1 : Int), tv].toArray 57), .row (.slice (some ⟨g3, 0, none⟩) (out.length + 1) cp3) 57 2 (out.length + 1) (ys.take (z.1 * 2) ++ z.2 ++ ys.drop (z.1 * 2))], fun (z : Nat × List Value) s => i ≤ z.1 ∧ z.1 ≤ out.length ∧ z.2.length = 2, fun (z : Nat × List Value) => z.1⟩ : Lp (Nat × List Value)) (out.length, [.int .u32 0, .slice none 0 0]) ?_ ?_ ?_ ?_
          · intro s0 hs0
            exact ⟨hI1, Nat.le_refl _, rfl⟩
          · exact ⟨rfl, rfl, rfl, rfl, rfl, rfl, rfl, rfl,  trivial⟩
          · exact (.cons _ (.cons_cons _ (.cons_cons _ .slnil)))
          intro z s3 hl3 hI
          obtain ⟨k, J⟩ := z
          dsimp only at hI ⊢
          have hF := hF.mv hl3
          have hFs := hFs.mv hl3
          have hV := hV.mv hl3
          have hUs := hUs.mv hl3
          have hRU := hRU.mv hl3
          have hTv := hTv.mv hl3
          obtain ⟨hI3, hI4, hJ⟩ := hI
          refine cd_seq ?_
          refine cd_sr ?_
          refine ln_pv (pv_move rfl) rfl ?_
          refine ln_pv (pv_move rfl) rfl ?_
          refine ln_pv (pv_gtr rfl rfl) rfl ?_
          refine ln_cd ?_
          refine cd_if rfl (fun hc4 => ?_) (fun hc4 => ?_)
          · -- yes
            refine cd_skip ?_
            refine at_cd ?_
            refine cd_seq ?_
            refine cd_block ?_
            have hC2 : ((ys.drop ((k - 1) * 2)).take 2).length = 2 := by simp; omega
            have hC1 : ∀ u ∈ (ys.drop ((k - 1) * 2)).take 2, u.oneCell' = true := fun u hu => hRU.cells.2 u (List.mem_of_mem_drop (List.mem_of_mem_take hu))
            refine cd_region ?_
            refine ln_pv (pv_move rfl) rfl ?_
            refine ln_pv (pv_move rfl) rfl ?_
            refine ln_pv (pv_move rfl) rfl ?_
            refine ln_pv (pv_move rfl) rfl ?_
            refine ln_pv (pv_sub' rfl rfl (r := ((k - 1 : Nat) : Int)) (by rw [wrap_i64 (by omega) (by omega)]; omega)) rfl ?_
            refine ln_pv (pv_ixN (i := k - 1) Tryd.underlying33 tispec_Tag.size rfl rfl (by omega)) rfl ?_
            refine ln_pv (pv_ldwA (i := 1) (cs := (ys.drop ((k - 1) * 2)).take 2) rfl Tryd.underlying57 rfl tispec_Tag.size hC2 rfl (fun _ _ h => shift_load (by omega) (by omega) h)) rfl ?_
            refine ln_pv (pv_ixN (i := k) Tryd.underlying33 tispec_Tag.size rfl rfl (by omega)) rfl ?_
            refine ln_storeR (i := 1) (vs := (ys.drop ((k - 1) * 2)).take 2) rfl rfl rfl rfl (by rw [hC2]; exact tispec_Tag.size) (by rw [hC2]; omega) hC1 (shift_step0 (by omega) (by omega) hJ) ?_
            refine ln_nil ?_
            refine at_cd ?_
            refine cd_region ?_
            refine ln_pv (pv_move rfl) rfl ?_
            refine ln_pv (pv_sub' rfl rfl (wrap_i64 (by omega) (by omega))) rfl ?_
            refine ln_pv (pv_assign rfl) rfl ?_
            refine ln_nil ?_
            refine at_rnd (k - 1, (ys.drop ((k - 1) * 2)).take 2) hl3 ?_ ?_ ⟨rfl, rfl, rfl, rfl, (congrArg (fun q : Int => some (Value.int .i64 q)) (by omega)), rfl, rfl, rfl,  trivial⟩ (.cons_cons _ (.cons_cons _ .slnil))
            · intro s9 hs9
              exact ⟨by first | omega | (dsimp only; omega), by first | omega | (dsimp only; omega), hC2⟩
            · dsimp only; omega
          · -- no
            refine cd_exit rfl ?_
            refine at_cd ?_
            have eK : i = k := by omega
            subst eK
            refine cd_region ?_
            refine ln_pv (pv_move rfl) rfl ?_
            refine ln_pv (pv_move rfl) rfl ?_
            refine ln_pv (pv_ldO (i := 0) rfl Tryd.underlying57 rfl (tispec_Tag).size rfl rfl) rfl ?_
            refine ln_pv (pv_ixN (i := i) Tryd.underlying33 tispec_Tag.size rfl rfl (by omega)) rfl ?_
            refine ln_storeR (i := 1) (vs := [.int .u32 (ul[j].1 : Int), tv]) rfl rfl rfl rfl tispec_Tag.size (by simp only [List.length_cons, List.length_nil]; omega) (by simp [RS.one hTv]) (shift_last (by omega) hJ rfl) ?_
            refine ln_nil ?_
            refine at_cd ?_
            refine cd_region ?_
            refine ln_pv (pv_add' rfl rfl (wrap_succ (by omega))) rfl ?_
            refine ln_pv (pv_move rfl) rfl ?_
            refine ln_nil ?_
            have eL : (out.take i ++ ul[j] :: out.drop i).length = out.length + 1 := by simp; omega
            refine at_row (i := 1) (m' := (out.take i ++ ul[j] :: out.drop i).length) rfl eL.symm rfl ?_
            refine at_rnd (j + 1, out.take i ++ ul[j] :: out.drop i, ys.take (i * 2) ++ [.int .u32 (ul[j].1 : Int), tv] ++ ys.drop (i * 2), .slice (some ⟨g3, 0, none⟩) (out.length + 1) cp3) ((hl1.trans hl2).trans hl3) ?_ ?_ ⟨rfl, rfl, rfl, rfl, rfl,  trivial⟩ (.cons _ (.cons_cons _ .slnil))
            · intro s9 hs9
              refine ⟨by first | omega | (dsimp only; omega), ?_, ?_, by first | omega | (dsimp only; omega)⟩
              · dsimp only
                rw [List.append_assoc]
                exact RUs.append ((RUs.take i hRU).mv hs9) (RUs.cons hkk (hTv.mv hs9) ((RUs.drop i hRU).mv hs9))
              · dsimp only
                rw [unkn_snoc _ _ (by omega), ← hEq]
                exact (insT_put hkl hp9 (fun h => by first | exact hee9 | omega)).symm
            · dsimp only; omega
        · skip
          have hp9 : pre out ul[j].1 = i := pre_eq hI1 hI2 (fun h => by omega)
          refine cd_dr' [0, 1] [0, 1, 2, 3, 4, 5, 6, 7, 8, 9, 10, 11, 12, 13, 14, 15, 16, 17, 18, 19] [0, 1, 2, 3, 4, 5, 6, 7, 8, 9, 10, 11, 12, 13, 14, 15, 16, 17, 18, 19] mixed (by kernel_rfl) ?_
          refine lo_pv rfl rfl (sk_js (Tr.refl _) [0, 1] rfl) (pv_fieldAddr (off := 0) (r := 0) Tryd.underlying57 rfl (tiuint32).size rfl rfl rfl) rfl ?_
          refine lo_pv rfl rfl (sk_js (Tr.refl _) [0, 1] rfl) (pv_ldo (i := 0) rfl Tryd.underlying55 rfl rfl rfl) rfl ?_
          refine lo_pv rfl rfl (sk_js (Tr.refl _) [0, 1] rfl) (pv_move rfl) rfl ?_
          refine lo_pv rfl rfl (sk_js (Tr.refl _) [0, 1] rfl) (pv_tt (pv_lss rfl rfl) hkl) rfl ?_
          refine lo_pv rfl rfl (sk_js (Tr.refl _) [0, 1] rfl) (pv_move rfl) rfl ?_
          refine lo_gf rfl rfl (sk_js (Tr.refl _) [0, 1] rfl) rfl rfl rfl rfl rfl ?_
          refine lo_gf rfl rfl (sk_js (Tr.refl _) [0, 1] rfl) rfl rfl rfl rfl rfl ?_
          refine lo_gf rfl rfl (sk_js (Tr.refl _) [0, 1] rfl) rfl rfl rfl rfl rfl ?_
          refine lo_gf rfl rfl (sk_js (Tr.refl _) [0, 1] rfl) rfl rfl rfl rfl rfl ?_
          refine lo_gf rfl rfl (sk_js (Tr.refl _) [0, 1] rfl) rfl rfl rfl rfl rfl ?_
          refine lo_gu rfl rfl (sk_js (Tr.refl _) [0, 1] rfl) rfl rfl rfl rfl ?_
          refine lo_gu rfl rfl (sk_js (Tr.refl _) [0, 1] rfl) rfl rfl rfl rfl ?_
          refine lo_gu rfl rfl (sk_js (Tr.refl _) [0, 1] rfl) rfl rfl rfl rfl ?_
          refine lo_gu rfl rfl (sk_js (Tr.refl _) [0, 1] rfl) rfl rfl rfl rfl ?_
          refine lo_gu rfl rfl (sk_js (Tr.refl _) [0, 1] rfl) rfl rfl rfl rfl ?_
          refine lo_gu rfl rfl (sk_js (Tr.refl _) [0, 1] rfl) rfl rfl rfl rfl ?_
          refine lo_gu rfl rfl (sk_js (Tr.refl _) [0, 1] rfl) rfl rfl rfl rfl ?_
          refine lo_gu rfl rfl (sk_js (Tr.refl _) [0, 1] rfl) rfl rfl rfl rfl ?_
          refine lo_gf rfl rfl (sk_js (Tr.refl _) [0, 1] rfl) rfl rfl rfl rfl rfl ?_
          refine lo_pv rfl rfl (sk_js (Tr.refl _) [0, 1] rfl) (pv_pick rfl (fun _ => rfl) (fun _ => rfl)) rfl ?_
          refine lo_cd ?_
          refine cd_tt rfl ?_
          refine cd_exit rfl ?_
          refine at_cd ?_
          refine cd_region ?_
          refine ln_pv (pv_add' rfl rfl (wrap_succ (by omega))) rfl ?_
          refine ln_pv (pv_move rfl) rfl ?_
          refine ln_nil ?_
          refine at_rnd (j + 1, out, ys, .slice (some ⟨gg, 0, none⟩) out.length cp) (hl1.trans hl2) ?_ ?_ ⟨rfl, rfl, rfl, rfl, rfl,  trivial⟩ (.cons _ (.cons_cons _ .slnil))
          · intro s9 hs9
            refine ⟨by first | omega | (dsimp only; omega), hRU.mv hs9, ?_, by first | omega | (dsimp only; omega)⟩
            rw [unkn_snoc _ _ (by omega), ← hEq]
            exact (insT_skip (by omega)).symm
          · dsimp only; omega
    · skip
      
      refine cd_dr' [0, 1] [0, 1, 2, 3, 4, 5, 6, 7, 8, 9, 10, 11, 12, 13] [0, 1, 2, 3, 4, 5, 6, 7, 8, 9, 10, 11, 12, 13] mixed (by kernel_rfl) ?_
      refine lo_pv rfl rfl (sk_js (Tr.refl _) [0, 1] rfl) (pv_move rfl) rfl ?_
      refine lo_pv rfl rfl (sk_js (Tr.refl _) [0, 1] rfl) (pv_move rfl) rfl ?_
      refine lo_pv rfl rfl (sk_js (Tr.refl _) [0, 1] rfl) (pv_len_slice Tryd.underlying33 rfl) rfl ?_
      refine lo_pv rfl rfl (sk_js (Tr.refl _) [0, 1] rfl) (pv_ff (pv_lss rfl rfl) (by omega)) rfl ?_
      refine lo_pv rfl rfl (sk_js (Tr.refl _) [0, 1] rfl) (pv_move rfl) rfl ?_
      refine lo_gf rfl rfl (sk_js (Tr.refl _) [0, 1] rfl) rfl rfl rfl rfl rfl ?_
      refine lo_gf rfl rfl (sk_js (Tr.refl _) [0, 1] rfl) rfl rfl rfl rfl rfl ?_
      refine lo_gf rfl rfl (sk_js (Tr.refl _) [0, 1] rfl) rfl rfl rfl rfl rfl ?_
      refine lo_gf rfl rfl (sk_js (Tr.refl _) [0, 1] rfl) rfl rfl rfl rfl rfl ?_
      refine lo_gf rfl rfl (sk_js (Tr.refl _) [0, 1] rfl) rfl rfl rfl rfl rfl ?_
      refine lo_gf rfl rfl (sk_js (Tr.refl _) [0, 1] rfl) rfl rfl rfl rfl rfl ?_
      refine lo_gf rfl rfl (sk_js (Tr.refl _) [0, 1] rfl) rfl rfl rfl rfl rfl ?_
      refine lo_gf rfl rfl (sk_js (Tr.refl _) [0, 1] rfl) rfl rfl rfl rfl rfl ?_
      refine lo_pv rfl rfl (sk_js (Tr.refl _) [0, 1] rfl) (pv_pick rfl (fun _ => rfl) (fun _ => rfl)) rfl ?_
      refine lo_cd ?_
      refine cd_ff rfl ?_
      refine cd_exit rfl ?_
      refine at_cd ?_
      refine cd_seq ?_
      rcases Classical.em ((ul[j].1 : Int) < known fs) with hkl | hkl
      rotate_left
      · skip
        have hp9 : pre out ul[j].1 = i := pre_eq hI1 hI2 (fun h => by omega)
        refine cd_dr' [0, 1] [0, 1, 2, 3, 4, 5, 6, 7, 8, 9, 10, 11, 12, 13, 14, 15, 16, 17, 18, 19] [0, 1, 2, 3, 4, 5, 6, 7, 8, 9, 10, 11, 12, 13, 14, 15, 16, 17, 18, 19] mixed (by kernel_rfl) ?_
        refine lo_pv rfl rfl (sk_js (Tr.refl _) [0, 1] rfl) (pv_fieldAddr (off := 0) (r := 0) Tryd.underlying57 rfl (tiuint32).size rfl rfl rfl) rfl ?_
        refine lo_pv rfl rfl (sk_js (Tr.refl _) [0, 1] rfl) (pv_ldo (i := 0) rfl Tryd.underlying55 rfl rfl rfl) rfl ?_
        refine lo_pv rfl rfl (sk_js (Tr.refl _) [0, 1] rfl) (pv_move rfl) rfl ?_
        refine lo_pv rfl rfl (sk_js (Tr.refl _) [0, 1] rfl) (pv_ff (pv_lss rfl rfl) hkl) rfl ?_
        refine lo_pv rfl rfl (sk_js (Tr.refl _) [0, 1] rfl) (pv_move rfl) rfl ?_
        refine lo_gt rfl rfl (sk_js (Tr.refl _) [0, 1] rfl) rfl rfl rfl (pv_move rfl) rfl ?_
        refine lo_gt rfl rfl (sk_js (Tr.refl _) [0, 1] rfl) rfl rfl rfl (pv_move rfl) rfl ?_
        refine lo_gt rfl rfl (sk_js (Tr.refl _) [0, 1] rfl) rfl rfl rfl (pv_len_slice Tryd.underlying33 rfl) rfl ?_
        refine lo_gt rfl rfl (sk_js (Tr.refl _) [0, 1] rfl) rfl rfl rfl (pv_ff (pv_lss rfl rfl) (by omega)) rfl ?_
        refine lo_gt rfl rfl (sk_js (Tr.refl _) [0, 1] rfl) rfl rfl rfl (pv_move rfl) rfl ?_
        refine lo_gf rfl rfl (sk_js (Tr.refl _) [0, 1] rfl) rfl rfl rfl rfl rfl ?_
        refine lo_gf rfl rfl (sk_js (Tr.refl _) [0, 1] rfl) rfl rfl rfl rfl rfl ?_
        refine lo_gf rfl rfl (sk_js (Tr.refl _) [0, 1] rfl) rfl rfl rfl rfl rfl ?_
        refine lo_gf rfl rfl (sk_js (Tr.refl _) [0, 1] rfl) rfl rfl rfl rfl rfl ?_
        refine lo_gf rfl rfl (sk_js (Tr.refl _) [0, 1] rfl) rfl rfl rfl rfl rfl ?_
        refine lo_gf rfl rfl (sk_js (Tr.refl _) [0, 1] rfl) rfl rfl rfl rfl rfl ?_
        refine lo_gf rfl rfl (sk_js (Tr.refl _) [0, 1] rfl) rfl rfl rfl rfl rfl ?_
        refine lo_gf rfl rfl (sk_js (Tr.refl _) [0, 1] rfl) rfl rfl rfl rfl rfl ?_
        refine lo_gt rfl rfl (sk_js (Tr.refl _) [0, 1] rfl) rfl rfl rfl (pv_pick rfl (fun _ => rfl) (fun _ => rfl)) rfl ?_
        refine lo_pv rfl rfl (sk_js (Tr.refl _) [0, 1] rfl) (pv_pick rfl (fun _ => rfl) (fun _ => rfl)) rfl ?_
        refine lo_cd ?_
        refine cd_ff rfl ?_
        refine cd_skip ?_
        refine at_cd ?_
        refine cd_sr ?_
        refine ln_pv (pv_move rfl) rfl ?_
        refine ln_pv (pv_struct [(0, 1), (1, 1)] (l := [_, _]) rfl Tryd.underlying57 tispec_Tag (by kernel_rfl) rfl rfl) rfl ?_
        refine ln_lit (vs := [_]) Tryd.underlying33 tispec_Tag rfl (by decide) rfl rfl rfl rfl rfl rfl (fun b3 => ?_)
        refine ln_append (i := 2) rfl Tryd.underlying33 tispec_Tag rfl (by decide) rfl rfl (src_obj (j := 0) rfl rfl rfl) (by first | omega | (simp only [maxLen]; omega)) (by first | omega | (simp only [maxLen]; omega)) rfl (k' := out.length + 1) (xs' := ys.take (out.length * 2) ++ [.int .u32 0, .slice none 0 0] ++ ys.drop (out.length * 2)) rfl (by rw [← hyl, List.take_length, List.drop_length, List.append_nil]; rfl) (fun v2 hv2 => ?_)
        refine ln_pv (pv_assign rfl) rfl ?_
        refine ln_cd ?_
        refine cd_seq ?_
        refine cd_rowshape (i := 2) rfl (fun ad3 cp3 hv hle3 hpos3 => ?_)
        subst hv
        obtain ⟨g3, rfl⟩ := hpos3 (by omega)
        refine cd_sr ?_
        refine ln_pv (pv_move rfl) rfl ?_
        refine ln_pv (pv_len_slice Tryd.underlying33 rfl) rfl ?_
        refine ln_pv (pv_sub' rfl rfl (r := ((out.length : Nat) : Int)) (by rw [wrap_i64 (by omega) (by omega)]; omega)) rfl ?_
        refine ln_pv (pv_assign rfl) rfl ?_
        refine ln_cd ?_
        refine cd_block ?_
        refine cd_loop (⟨fun (z : Nat × List Value) => [(5, .int .u32 (known fs)), (6, .slice (some ⟨g3, 0, none⟩) (out.length + 1) cp3), (8, .pointer (some ⟨b1, 0, none⟩)), (9, .int .i64 ((i : Nat) : Int)), (10, .int .i64 ((z.1 : Nat) : Int)), (17, .slice (some ⟨b0, o0, none⟩) (min ul.length 32767) c), (18, .int .i64 ((min ul.length 32767 : Nat) : Int)), (19, .int .i64 ((j : Nat) : Int))], fun (z : Nat × List Value) => [.obj b1 (.cells [.int .u32 (ul[j].1 : Int), tv].toArray 57), .row (.slice (some ⟨g3, 0, none⟩) (out.length + 1) cp3) 57 2 (out.length + 1) (ys.take (z.1 * 2) ++ z.2 ++ ys.drop (z.1 * 2))], fun (z : Nat × List Value) s => i ≤ z.1 ∧ z.1 ≤ out.length ∧ z.2.length = 2, fun (z : Nat × List Value) => z.1⟩ : Lp (Nat × List Value)) (out.length, [.int .u32 0, .slice none 0 0]) ?_ ?_ ?_ ?_
        · intro s0 hs0
          exact ⟨hI1, Nat.le_refl _, rfl⟩
        · exact ⟨rfl, rfl, rfl, rfl, rfl, rfl, rfl, rfl,  trivial⟩
        · exact (.cons _ (.cons_cons _ (.cons_cons _ .slnil)))
        intro z s4 hl4 hI
        obtain ⟨k, J⟩ := z
        dsimp only at hI ⊢
        have hF := hF.mv hl4
        have hFs := hFs.mv hl4
        have hV := hV.mv hl4
        have hUs := hUs.mv hl4
        have hRU := hRU.mv hl4
        have hTv := hTv.mv hl4
        obtain ⟨hI3, hI4, hJ⟩ := hI
        refine cd_seq ?_
        refine cd_sr ?_
        refine ln_pv (pv_move rfl) rfl ?_
        refine ln_pv (pv_move rfl) rfl ?_
        refine ln_pv (pv_gtr rfl rfl) rfl ?_
        refine ln_cd ?_
        refine cd_if rfl (fun hc4 => ?_) (fun hc4 => ?_)
        · -- yes
          refine cd_skip ?_
          refine at_cd ?_
          refine cd_seq ?_
          refine cd_block ?_
          have hC2 : ((ys.drop ((k - 1) * 2)).take 2).length = 2 := by simp; omega
          have hC1 : ∀ u ∈ (ys.drop ((k - 1) * 2)).take 2, u.oneCell' = true := fun u hu => hRU.cells.2 u (List.mem_of_mem_drop (List.mem_of_mem_take hu))
          refine cd_region ?_
          refine ln_pv (pv_move rfl) rfl ?_
          refine ln_pv (pv_move rfl) rfl ?_
          refine ln_pv (pv_move rfl) rfl ?_
          refine ln_pv (pv_move rfl) rfl ?_
          refine ln_pv (pv_sub' rfl rfl (r := ((k - 1 : Nat) : Int)) (by rw [wrap_i64 (by omega) (by omega)]; omega)) rfl ?_
          refine ln_pv (pv_ixN (i := k - 1) Tryd.underlying33 tispec_Tag.size rfl rfl (by omega)) rfl ?_
          refine ln_pv (pv_ldwA (i := 1) (cs := (ys.drop ((k - 1) * 2)).take 2) rfl Tryd.underlying57 rfl tispec_Tag.size hC2 rfl (fun _ _ h => shift_load (by omega) (by omega) h)) rfl ?_
          refine ln_pv (pv_ixN (i := k) Tryd.underlying33 tispec_Tag.size rfl rfl (by omega)) rfl ?_
          refine ln_storeR (i := 1) (vs := (ys.drop ((k - 1) * 2)).take 2) rfl rfl rfl rfl (by rw [hC2]; exact tispec_Tag.size) (by rw [hC2]; omega) hC1 (shift_step0 (by omega) (by omega) hJ) ?_
          refine ln_nil ?_
          refine at_cd ?_
          refine cd_region ?_
          refine ln_pv (pv_move rfl) rfl ?_
          refine ln_pv (pv_sub' rfl rfl (wrap_i64 (by omega) (by omega))) rfl ?_
          refine ln_pv (pv_assign rfl) rfl ?_
          refine ln_nil ?_
          refine at_rnd (k - 1, (ys.drop ((k - 1) * 2)).take 2) hl4 ?_ ?_ ⟨rfl, rfl, rfl, rfl, (congrArg (fun q : Int => some (Value.int .i64 q)) (by omega)), rfl, rfl, rfl,  trivial⟩ (.cons_cons _ (.cons_cons _ .slnil))
          · intro s9 hs9
            exact ⟨by first | omega | (dsimp only; omega), by first | omega | (dsimp only; omega), hC2⟩
          · dsimp only; omega
        · -- no
          refine cd_exit rfl ?_
          refine at_cd ?_
          have eK : i = k := by omega
          subst eK
          refine cd_region ?_
          refine ln_pv (pv_move rfl) rfl ?_
          refine ln_pv (pv_move rfl) rfl ?_
          refine ln_pv (pv_ldO (i := 0) rfl Tryd.underlying57 rfl (tispec_Tag).size rfl rfl) rfl ?_
          refine ln_pv (pv_ixN (i := i) Tryd.underlying33 tispec_Tag.size rfl rfl (by omega)) rfl ?_
          refine ln_storeR (i := 1) (vs := [.int .u32 (ul[j].1 : Int), tv]) rfl rfl rfl rfl tispec_Tag.size (by simp only [List.length_cons, List.length_nil]; omega) (by simp [RS.one hTv]) (shift_last (by omega) hJ rfl) ?_
          refine ln_nil ?_
          refine at_cd ?_
          refine cd_region ?_
          refine ln_pv (pv_add' rfl rfl (wrap_succ (by omega))) rfl ?_
          refine ln_pv (pv_move rfl) rfl ?_
          refine ln_nil ?_
          have eL : (out.take i ++ ul[j] :: out.drop i).length = out.length + 1 := by simp; omega
          refine at_row (i := 1) (m' := (out.take i ++ ul[j] :: out.drop i).length) rfl eL.symm rfl ?_
          refine at_rnd (j + 1, out.take i ++ ul[j] :: out.drop i, ys.take (i * 2) ++ [.int .u32 (ul[j].1 : Int), tv] ++ ys.drop (i * 2), .slice (some ⟨g3, 0, none⟩) (out.length + 1) cp3) ((hl1.trans hl2).trans hl4) ?_ ?_ ⟨rfl, rfl, rfl, rfl, rfl,  trivial⟩ (.cons _ (.cons_cons _ .slnil))
          · intro s9 hs9
            refine ⟨by first | omega | (dsimp only; omega), ?_, ?_, by first | omega | (dsimp only; omega)⟩
            · dsimp only
              rw [List.append_assoc]
              exact RUs.append ((RUs.take i hRU).mv hs9) (RUs.cons hkk (hTv.mv hs9) ((RUs.drop i hRU).mv hs9))
            · dsimp only
              rw [unkn_snoc _ _ (by omega), ← hEq]
              exact (insT_put hkl hp9 (fun h => by first | exact hee9 | omega)).symm
          · dsimp only; omega
      · skip
        have hp9 : pre out ul[j].1 = i := pre_eq hI1 hI2 (fun h => by omega)
        refine cd_dr' [0, 1] [0, 1, 2, 3, 4, 5, 6, 7, 8, 9, 10, 11, 12, 13, 14, 15, 16, 17, 18, 19] [0, 1, 2, 3, 4, 5, 6, 7, 8, 9, 10, 11, 12, 13, 14, 15, 16, 17, 18, 19] mixed (by kernel_rfl) ?_
        refine lo_pv rfl rfl (sk_js (Tr.refl _) [0, 1] rfl) (pv_fieldAddr (off := 0) (r := 0) Tryd.underlying57 rfl (tiuint32).size rfl rfl rfl) rfl ?_
        refine lo_pv rfl rfl (sk_js (Tr.refl _) [0, 1] rfl) (pv_ldo (i := 0) rfl Tryd.underlying55 rfl rfl rfl) rfl ?_
        refine lo_pv rfl rfl (sk_js (Tr.refl _) [0, 1] rfl) (pv_move rfl) rfl ?_
        refine lo_pv rfl rfl (sk_js (Tr.refl _) [0, 1] rfl) (pv_tt (pv_lss rfl rfl) hkl) rfl ?_
        refine lo_pv rfl rfl (sk_js (Tr.refl _) [0, 1] rfl) (pv_move rfl) rfl ?_
        refine lo_gf rfl rfl (sk_js (Tr.refl _) [0, 1] rfl) rfl rfl rfl rfl rfl ?_
        refine lo_gf rfl rfl (sk_js (Tr.refl _) [0, 1] rfl) rfl rfl rfl rfl rfl ?_
        refine lo_gf rfl rfl (sk_js (Tr.refl _) [0, 1] rfl) rfl rfl rfl rfl rfl ?_
        refine lo_gf rfl rfl (sk_js (Tr.refl _) [0, 1] rfl) rfl rfl rfl rfl rfl ?_
        refine lo_gf rfl rfl (sk_js (Tr.refl _) [0, 1] rfl) rfl rfl rfl rfl rfl ?_
        refine lo_gu rfl rfl (sk_js (Tr.refl _) [0, 1] rfl) rfl rfl rfl rfl ?_
        refine lo_gu rfl rfl (sk_js (Tr.refl _) [0, 1] rfl) rfl rfl rfl rfl ?_
        refine lo_gu rfl rfl (sk_js (Tr.refl _) [0, 1] rfl) rfl rfl rfl rfl ?_
        refine lo_gu rfl rfl (sk_js (Tr.refl _) [0, 1] rfl) rfl rfl rfl rfl ?_
        refine lo_gu rfl rfl (sk_js (Tr.refl _) [0, 1] rfl) rfl rfl rfl rfl ?_
        refine lo_gu rfl rfl (sk_js (Tr.refl _) [0, 1] rfl) rfl rfl rfl rfl ?_
        refine lo_gu rfl rfl (sk_js (Tr.refl _) [0, 1] rfl) rfl rfl rfl rfl ?_
        refine lo_gu rfl rfl (sk_js (Tr.refl _) [0, 1] rfl) rfl rfl rfl rfl ?_
        refine lo_gf rfl rfl (sk_js (Tr.refl _) [0, 1] rfl) rfl rfl rfl rfl rfl ?_
        refine lo_pv rfl rfl (sk_js (Tr.refl _) [0, 1] rfl) (pv_pick rfl (fun _ => rfl) (fun _ => rfl)) rfl ?_
        refine lo_cd ?_
        refine cd_tt rfl ?_
        refine cd_exit rfl ?_
        refine at_cd ?_
        refine cd_region ?_
        refine ln_pv (pv_add' rfl rfl (wrap_succ (by omega))) rfl ?_
        refine ln_pv (pv_move rfl) rfl ?_
        refine ln_nil ?_
        refine at_rnd (j + 1, out, ys, .slice ad2 out.length cp) (hl1.trans hl2) ?_ ?_ ⟨rfl, rfl, rfl, rfl, rfl,  trivial⟩ (.cons _ (.cons_cons _ .slnil))
        · intro s9 hs9
          refine ⟨by first | omega | (dsimp only; omega), hRU.mv hs9, ?_, by first | omega | (dsimp only; omega)⟩
          rw [unkn_snoc _ _ (by omega), ← hEq]
          exact (insT_skip (by omega)).symm
        · dsimp only; omega
  · -- no
    refine cd_exit rfl ?_
    refine at_cd ?_
    refine cd_sr ?_
    refine ln_pv (pv_move rfl) rfl ?_
    refine ln_pv (pv_assign rfl) rfl ?_
    refine ln_cd ?_
    refine cd_ret ?_
    have hj : j = min ul.length 32767 := by omega
    refine at_retA rfl rfl (fun w hS => ?_)
    have hown := hS.hf _ (List.mem_cons_self)
    have h := Row.rs (t := hS.fin) hown (fun b hb => fresh hS (i := 0) rfl hb) hRU.cells.2
    have e : unkn (known fs) ul = out := by
      rw [hEq, hj]
      unfold unkn
      congr 1
      rw [List.take_eq_take_iff]
      omega
    rw [e]
    exact ⟨ys, h, hRU.mv hS.trFin⟩
end K
end Go.Proofs.YtjjfpdofkdolnaaDoor
