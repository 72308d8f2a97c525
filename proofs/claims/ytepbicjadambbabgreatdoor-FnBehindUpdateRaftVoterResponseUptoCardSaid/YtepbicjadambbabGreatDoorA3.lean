import Derived.Test.YtepbicjadambbabGreatDoorA2
import Derived.Test.YtepbicjadambbabGreatDoorK3
import Derived.Test.YtepbicjadambbabGreatDoorP3
set_option linter.unusedVariables false
set_option linter.unusedSimpArgs false
namespace Go.Proofs.YtepbicjadambbabGreatDoor
namespace K
open Go Go.Lib
/-! ### What is appended of a field, in the reference's words -/
theorem fixw8 (y : Tre) : fixed (IntKind.i8.wrap y.n) 1 = fixed y.n 1 := fixw .i8 1 y.n rfl
theorem as_i16 (t : Vw) (y : Tre) (null fl : Bool) : AppC 31 [.int .i16 (IntKind.i16.wrap y.n)] (scalarB 2 null fl y) t := by
  have e : scalarB 2 null fl y = fixed (IntKind.i16.wrap y.n) 2 := by rw [fixw .i16 2 y.n rfl]; simp [scalarB, widthN]
  rw [e]
  exact kbin_AppendInt16 t _
theorem as_u16 (t : Vw) (y : Tre) (null fl : Bool) : AppC 58 [.int .u16 (IntKind.u16.wrap y.n)] (scalarB 5 null fl y) t := by
  have e : scalarB 5 null fl y = fixed (IntKind.u16.wrap y.n) 2 := by rw [fixw .u16 2 y.n rfl]; simp [scalarB, widthN]
  rw [e]
  exact kbin_AppendUint16 t _
theorem as_i32 (t : Vw) (y : Tre) (null fl : Bool) : AppC 30 [.int .i32 (IntKind.i32.wrap y.n)] (scalarB 3 null fl y) t := by
  have e : scalarB 3 null fl y = fixed (IntKind.i32.wrap y.n) 4 := by rw [fixw .i32 4 y.n rfl]; simp [scalarB, widthN]
  rw [e]
  exact kbin_AppendInt32 t _
theorem sc8_t {y : Tre} (hl : y.s.length ≤ 32767) : scalarB 8 false true y = uvar (y.s.length + 1) ++ y.s := by simp [scalarB, counted, List.take_of_length_le hl]
theorem sc8_f {y : Tre} (hl : y.s.length ≤ 32767) : scalarB 8 false false y = fixed y.s.length 2 ++ y.s := by simp [scalarB, counted, List.take_of_length_le hl]
theorem sc9_t {y : Tre} (hl : y.s.length ≤ 32767) : scalarB 9 false true y = uvar (y.s.length + 1) ++ y.s := by simp [scalarB, counted, List.take_of_length_le hl]
theorem sc9_f {y : Tre} (hl : y.s.length ≤ 32767) : scalarB 9 false false y = fixed y.s.length 4 ++ y.s := by simp [scalarB, counted, List.take_of_length_le hl]
theorem sc8_tn {y : Tre} (hl : y.s.length ≤ 32767) : scalarB 8 y.z true y = if y.z then uvar 0 else uvar (y.s.length + 1) ++ y.s := by
  cases h : y.z
  · rw [sc8_t hl]; rfl
  · simp [scalarB, counted, uvar_zero]
theorem sc8_fn {y : Tre} (hl : y.s.length ≤ 32767) : scalarB 8 y.z false y = if y.z then fixed (-1) 2 else fixed y.s.length 2 ++ y.s := by
  cases h : y.z
  · rw [sc8_f hl]; rfl
  · simp [scalarB, counted]
theorem sc9_tn {y : Tre} (hl : y.s.length ≤ 32767) : scalarB 9 y.z true y = if y.z then uvar 0 else uvar (y.s.length + 1) ++ y.s := by
  cases h : y.z
  · rw [sc9_t hl]; rfl
  · simp [scalarB, counted, uvar_zero]
theorem sc9_fn {y : Tre} (hl : y.s.length ≤ 32767) : scalarB 9 y.z false y = if y.z then fixed (-1) 4 else fixed y.s.length 4 ++ y.s := by
  cases h : y.z
  · rw [sc9_f hl]; rfl
  · simp [scalarB, counted]
theorem as_cstr (t : Vw) (y : Tre) (hl : y.s.length ≤ 32767) : AppC 37 [.string ⟨y.s.toArray⟩] (scalarB 8 false true y) t := by
  rw [sc8_t hl]; exact kbin_AppendCompactString t ⟨y.s.toArray⟩ hl
theorem as_str (t : Vw) (y : Tre) (hl : y.s.length ≤ 32767) : AppC 38 [.string ⟨y.s.toArray⟩] (scalarB 8 false false y) t := by
  rw [sc8_f hl]; exact kbin_AppendString t ⟨y.s.toArray⟩ hl
section
variable {Lc T Full : List UInt8} {f : Fld} {r : List Fld} {v : Int} {q : Bool} {y : Tre} {i : Nat}
theorem pl_all (ht : f.tag < 0) (hh : hasB f v = true) (hE : Lc ++ (plainB (f :: r) v q y i ++ T) = Full) : Lc ++ (fieldB f v q (y.at_ i) ++ (plainB r v q y (i + 1) ++ T)) = Full := by
  rw [plainB, hh, decide_eq_true ht] at hE
  simpa [List.append_assoc] using hE
theorem pl_if {p : Prop} [Decidable p] (ht : f.tag < 0) (hh : hasB f v = decide p) (hE : Lc ++ (plainB (f :: r) v q y i ++ T) = Full) : Lc ++ ((if p then fieldB f v q (y.at_ i) else []) ++ (plainB r v q y (i + 1) ++ T)) = Full := by
  rw [plainB, hh, decide_eq_true ht] at hE
  simpa [List.append_assoc] using hE
theorem pl_tag (ht : ¬ f.tag < 0) (hE : Lc ++ (plainB (f :: r) v q y i ++ T) = Full) : Lc ++ (plainB r v q y (i + 1) ++ T) = Full := by
  rw [plainB, decide_eq_false ht] at hE
  simpa using hE
theorem pl_nil (hE : Lc ++ (plainB [] v q y i ++ T) = Full) : Lc ++ T = Full := by simpa [plainB] using hE
theorem pt_open {fs : List Fld} (hk : known fs = 0) (ho : okU (known fs) q y.u) (hE : Lc ++ (partB fs v q y ++ T) = Full) : Lc ++ (plainB fs v q y 0 ++ ((if q then uvar y.u.length ++ y.u.flatMap tagB else []) ++ T)) = Full := by
  have e : partB fs v q y = plainB fs v q y 0 ++ (if q then uvar y.u.length ++ y.u.flatMap tagB else []) := by
    cases q with
    | false => rw [partB_false]; simp
    | true =>
      have h := (ho rfl).1
      rw [partB_true, h, hk]
      simp [TGs]
  rw [e, List.append_assoc] at hE
  exact hE
theorem fieldB_sc {k a b nul tag d o : Int} {sub : List Fld} (h11 : k ≠ 11) (h10 : k ≠ 10) : fieldB (.mk k a b nul tag d o sub) v q y = scalarB k (y.z && decide (nul ≥ 0) && decide (v ≥ nul)) q y := by
  simp only [fieldB, if_neg h11, if_neg h10]
theorem fieldB_s0 {k a b nul tag d o : Int} {sub : List Fld} (h11 : k ≠ 11) (h10 : k ≠ 10) (hn : ¬ nul ≥ 0) : fieldB (.mk k a b nul tag d o sub) v q y = scalarB k false q y := by
  rw [fieldB_sc h11 h10, decide_eq_false hn]
  simp
theorem fieldB_sz {k a b nul tag d o : Int} {sub : List Fld} (h11 : k ≠ 11) (h10 : k ≠ 10) (hn : nul ≥ 0) (hv : v ≥ nul) : fieldB (.mk k a b nul tag d o sub) v q y = scalarB k y.z q y := by
  rw [fieldB_sc h11 h10, decide_eq_true hn, decide_eq_true hv]
  simp
def els (y : Tre) : List Tre := if y.z then [] else y.l
theorem fieldB_l0 {a b nul tag d o : Int} {sub : List Fld} (hn : ¬ nul ≥ 0) (hl : y.l.length ≤ 32767) (hz : y.z = true → (nul ≥ 0 ∧ v ≥ nul) ∨ y.l = []) : fieldB (.mk 11 a b nul tag d o sub) v q y = counted q false (els y).length 4 ++ (els y).flatMap (valueB o sub false v q) := by
  have e : els y = y.l := by
    unfold els
    cases h : y.z
    · rfl
    · rcases hz h with h1 | h1
      · exact absurd h1.1 hn
      · rw [h1]; rfl
  rw [fieldB_mk, if_pos rfl, nullB_mk, decide_eq_false hn, e]
  simp [List.take_of_length_le hl]
theorem fieldB_lz {a b nul tag d o : Int} {sub : List Fld} (hn : nul ≥ 0) (hv : v ≥ nul) (hl : y.l.length ≤ 32767) : fieldB (.mk 11 a b nul tag d o sub) v q y = counted q y.z (els y).length 4 ++ (els y).flatMap (valueB o sub false v q) := by
  rw [fieldB_mk, if_pos rfl, nullB_mk, decide_eq_true hn, decide_eq_true hv]
  unfold els
  cases h : y.z
  · simp [List.take_of_length_le hl]
  · simp
theorem els_len (hl : y.l.length ≤ 32767) : (els y).length ≤ 32767 := by
  unfold els
  split
  · simp
  · exact hl
end
/-- a list that is read: its things, each where it lies -/
theorem RLs.els {s : Vw} {o : Int} {sub : List Fld} {y : Tre} {c : Value} (h : RLs s o sub y c) : ∃ ad cap, c = .slice ad (els y).length cap ∧ (ad.isNone = y.z) ∧ ((els y).length = 0 ∨ ∃ g off lc, ad = some ⟨g, off, none⟩ ∧ RC s g off lc ∧ lc.length = (els y).length * (if o = 7 then 16 else if o = 10 then fszs sub + 1 else 1) ∧
    ∀ i, (hi : i < (els y).length) → REl s o sub (els y)[i] (seg lc i (if o = 7 then 16 else if o = 10 then fszs sub + 1 else 1))) := by
  rcases h with ⟨hz, rfl⟩ | ⟨hz, g, off, cap, lc, rfl, hR, hE⟩
  · have e : K.els y = [] := by simp [K.els, hz]
    exact ⟨none, 0, by rw [e]; rfl, by simp [hz], .inl (by rw [e]; rfl)⟩
  · have e : K.els y = y.l := by simp [K.els, hz]
    refine ⟨some ⟨g, off, none⟩, cap, by rw [e], by simp [hz], ?_⟩
    rw [e]
    by_cases hm : y.l.length = 0
    · exact .inl hm
    · refine .inr ⟨g, off, lc, rfl, ?_, hR.1, hE⟩
      have hpos : 0 < (if o = 7 then 16 else if o = 10 then fszs sub + 1 else 1) := by
        split
        · omega
        · split <;> omega
      obtain ⟨b, o', he, hrc⟩ := hR.pos (by omega) hpos
      simp only [Option.some.injEq, Addr.mk.injEq] at he
      obtain ⟨rfl, rfl, _⟩ := he
      exact hrc
theorem okFl_cons {f : Fld} {r : List Fld} {v : Int} {q : Bool} {y : Tre} {i : Nat} (h : okFl (f :: r) v q y i) : ((if f.tag < 0 then hasB f v = true else q = true) → okV f v q (y.at_ i)) ∧ okFl r v q y (i + 1) := by simpa only [okFl] using h
theorem okV_s {k a b nul tag d o : Int} {sub : List Fld} {v : Int} {q : Bool} {y : Tre} (h11 : k ≠ 11) (h10 : k ≠ 10) (h : okV (.mk k a b nul tag d o sub) v q y) : okS k nul v y := by simpa only [okV, if_neg h11, if_neg h10] using h
theorem okV_l {a b nul tag d o : Int} {sub : List Fld} {v : Int} {q : Bool} {y : Tre} (h : okV (.mk 11 a b nul tag d o sub) v q y) : y.l.length ≤ 32767 ∧ (y.z = true → (nul ≥ 0 ∧ v ≥ nul) ∨ y.l = []) ∧ ∀ i, (hi : i < (els y).length) → if o = 10 then okP sub v q (els y)[i] else okS o (-1) v (els y)[i] := by
  simp only [okV, if_true] at h
  refine ⟨h.1, h.2.1, ?_⟩
  unfold els
  cases hz : y.z
  · exact fun i hi => h.2.2 i hi
  · exact fun i hi => by simp at hi
theorem drop_enc {l : List Tre} {f : Tre → List UInt8} {i : Nat} (hi : i < l.length) {T : List UInt8} : (l.drop i).flatMap f ++ T = f l[i] ++ ((l.drop (i + 1)).flatMap f ++ T) := by
  rw [List.drop_eq_getElem_cons hi, List.flatMap_cons, List.append_assoc]
theorem hasB_all {k nul tag d o v : Int} {sub : List Fld} (h0 : 0 ≤ v) : hasB (.mk k 0 (-1) nul tag d o sub) v = true := by simp [hasB, Fld.frm, Fld.to, h0]
theorem hasB_from {k a nul tag d o v : Int} {sub : List Fld} : hasB (.mk k a (-1) nul tag d o sub) v = decide (v ≥ a) := by
  have e : hasB (.mk k a (-1) nul tag d o sub) v = (decide (a ≤ v) && (decide ((-1 : Int) < 0) || decide (v ≤ -1))) := rfl
  rw [e]
  simp
theorem hasB_to {k a b nul tag d o v : Int} {sub : List Fld} (hb : ¬ b < 0) : hasB (.mk k a b nul tag d o sub) v = decide (v ≥ a ∧ v ≤ b) := by
  have e : hasB (.mk k a b nul tag d o sub) v = (decide (a ≤ v) && (decide (b < 0) || decide (v ≤ b))) := rfl
  rw [e, decide_eq_false hb, Bool.eq_iff_iff]
  simp
theorem okV_get {f : Fld} {v : Int} {q : Bool} {y : Tre} (k : (if f.tag < 0 then hasB f v = true else q = true) → okV f v q y) (ht : f.tag < 0) (hh : hasB f v = true) : okV f v q y := k (by rw [if_pos ht]; exact hh)
section
variable {Lc T Full : List UInt8} {v : Int} {q : Bool} {y : Tre}
theorem vt_open {fs : List Fld} {nl : Bool} (hk : known fs = 0) (ho : okU (known fs) q y.u) (hE : Lc ++ (valueB 10 fs nl v q y ++ T) = Full) : Lc ++ (plainB fs v q y 0 ++ ((if q then uvar y.u.length ++ y.u.flatMap tagB else []) ++ T)) = Full := pt_open hk ho (by simpa only [valueB, if_true] using hE)
theorem ls_open {a b nul tag d o : Int} {sub : List Fld} (hn : ¬ nul ≥ 0) (hl : y.l.length ≤ 32767) (hz : y.z = true → (nul ≥ 0 ∧ v ≥ nul) ∨ y.l = []) (hE : Lc ++ (fieldB (.mk 11 a b nul tag d o sub) v q y ++ T) = Full) : Lc ++ (counted q false (els y).length 4 ++ (((els y).drop 0).flatMap (valueB o sub false v q) ++ T)) = Full := by
  rw [fieldB_l0 hn hl hz, List.append_assoc] at hE
  exact hE
theorem lz_open {a b nul tag d o : Int} {sub : List Fld} (hn : nul ≥ 0) (hv : v ≥ nul) (hl : y.l.length ≤ 32767) (hE : Lc ++ (fieldB (.mk 11 a b nul tag d o sub) v q y ++ T) = Full) : Lc ++ (counted q y.z (els y).length 4 ++ (((els y).drop 0).flatMap (valueB o sub false v q) ++ T)) = Full := by
  rw [fieldB_lz hn hv hl, List.append_assoc] at hE
  exact hE
theorem ls_step {l : List Tre} {f : Tre → List UInt8} {i : Nat} (hi : i < l.length) (hE : Lc ++ ((l.drop i).flatMap f ++ T) = Full) : Lc ++ (f l[i] ++ ((l.drop (i + 1)).flatMap f ++ T)) = Full := by rwa [drop_enc hi] at hE
theorem ls_end {l : List Tre} {f : Tre → List UInt8} (hE : Lc ++ ((l.drop l.length).flatMap f ++ T) = Full) : Lc ++ T = Full := by simpa using hE
end
section
variable {s : Vw} {sub : List Fld} {y : Tre} {cs : List Value}
theorem RE_part (h : REl s 10 sub y cs) : RMp s sub y cs := by simpa [REl] using h
theorem RE_i8 (h : REl s 1 sub y cs) : cs = [.int .i8 (IntKind.i8.wrap y.n)] := by simpa [REl, RS1] using h
theorem RE_i16 (h : REl s 2 sub y cs) : cs = [.int .i16 (IntKind.i16.wrap y.n)] := by simpa [REl, RS1] using h
theorem RE_i32 (h : REl s 3 sub y cs) : cs = [.int .i32 (IntKind.i32.wrap y.n)] := by simpa [REl, RS1] using h
theorem RE_i64 (h : REl s 4 sub y cs) : cs = [.int .i64 y.n] ∧ I64 y.n := by simpa [REl, RS1] using h
theorem RE_uuid (h : REl s 7 sub y cs) : cs = u8s (uuid y.s) := by simpa [REl, RS1] using h
theorem RE_str (h : REl s 8 sub y cs) : cs = [.string ⟨y.s.toArray⟩] := by simpa [REl, RS1] using h
end
theorem val_sc {k v : Int} {sub : List Fld} {q : Bool} {y : Tre} (h : k ≠ 10) : valueB k sub false v q y = scalarB k false q y := by simp only [valueB, if_neg h]
theorem sub.nil {L : Env} : sub [] L := fun t v h => by simp [lk] at h
theorem uuid16 (l : List UInt8) : ∃ a b c d e f g h i j k m n o p q : Value, u8s (uuid l) = [a, b, c, d, e, f, g, h, i, j, k, m, n, o, p, q] := by
  have h1 : (u8s (uuid l)).length = 16 := by rw [u8s_length, uuid_length]
  match u8s (uuid l), h1 with
  | [a, b, c, d, e, f, g, h, i, j, k, m, n, o, p, q], _ => exact ⟨a, b, c, d, e, f, g, h, i, j, k, m, n, o, p, q, rfl⟩
end K
end Go.Proofs.YtepbicjadambbabGreatDoor
