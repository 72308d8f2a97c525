import Derived.Test.YtjjfpdofkdolnaaDoorV4
import Derived.Test.YtjjfpdofkdolnaaDoorA8
set_option linter.unusedVariables false
set_option linter.unusedSimpArgs false
namespace Go.Proofs.YtjjfpdofkdolnaaDoor
namespace K
open Go Go.Lib
/-! ### Octets as numbers, the highest first -/
def beN : List UInt8 → Nat
  | [] => 0
  | x :: r => x.toNat * 256 ^ r.length + beN r
theorem beN_lt : ∀ l : List UInt8, beN l < 256 ^ l.length
  | [] => by simp [beN]
  | x :: r => by
    have h := beN_lt r
    have hx := x.toNat_lt
    simp only [beN, List.length_cons, Nat.pow_succ]
    have h1 : x.toNat * 256 ^ r.length ≤ 255 * 256 ^ r.length := Nat.mul_le_mul_right _ (by omega)
    omega
theorem fixed_be : ∀ l : List UInt8, fixed (beN l : Int) l.length = l
  | [] => rfl
  | x :: r => by
    have ih := fixed_be r
    have h := beN_lt r
    have hp : 0 < 256 ^ r.length := Nat.pow_pos (by decide)
    have hx := x.toNat_lt
    have e8 : (2 : Int) ^ (8 * r.length) = ((256 ^ r.length : Nat) : Int) := by
      rw [Int.natCast_pow, Int.pow_mul]
      rfl
    rw [List.length_cons, fixed, e8]
    congr 1
    · rw [← Int.natCast_ediv]
      have e : beN (x :: r) / 256 ^ r.length = x.toNat := by
        simp only [beN]
        rw [Nat.add_comm, Nat.add_mul_div_right _ _ hp, Nat.div_eq_of_lt h, Nat.zero_add]
      rw [e]
      apply UInt8.toNat_inj.1
      have := b8_val (x := (x.toNat : Int)) (by omega) (by omega)
      omega
    · rw [← fixed_mod _ _ _ (Nat.le_refl _), e8, ← Int.natCast_emod]
      have e : beN (x :: r) % 256 ^ r.length = beN r := by
        simp only [beN]
        rw [Nat.add_comm, Nat.add_mul_mod_self_right, Nat.mod_eq_of_lt h]
      rw [e]
      exact ih
/-! ### The reader, good or bad -/
abbrev RdX (b : Nat) (v : Value) (bad : Bool) : Ent := .obj b (.cells [v, .bool bad].toArray 142)
def RxC (f : FuncId) (bs : List UInt8) (Rr : Vw → Value → Prop) (t : Vw) : Prop := ∀ (b : Nat) (v : Value) (bad : Bool) (rest : List UInt8), RSv t v (bs ++ rest) → (RdX b v bad).ok t.w → (∀ q ∈ (RdX b v bad).blk, t.av q) →
  CT Tryd.prog f [.pointer (some ⟨b, 0, none⟩)] t (RdX b v bad) fun u r e' => Rr u r ∧ ∃ v', e' = RdX b v' bad ∧ RSn u v' rest
/-- what a function of the reader does with any octets: g tells the value, what is left, and whether it failed -/
def GxC {α : Type} (f : FuncId) (g : List UInt8 → α × List UInt8 × Bool) (Rr : Vw → Value → α → Prop) (t : Vw) : Prop := ∀ (b : Nat) (v : Value) (bad : Bool) (bs : List UInt8), RSv t v bs → (RdX b v bad).ok t.w → (∀ q ∈ (RdX b v bad).blk, t.av q) →
  CT Tryd.prog f [.pointer (some ⟨b, 0, none⟩)] t (RdX b v bad) fun u r e' => Rr u r (g bs).1 ∧ ∃ v', e' = RdX b v' (bad || (g bs).2.2) ∧ RSv u v' (g bs).2.1
def gN (k : Nat) (bs : List UInt8) : Nat × List UInt8 × Bool := if bs.length < k then (0, [], true) else (beN (bs.take k), bs.drop k, false)
theorem gN_ok {k : Nat} {bs : List UInt8} (h : ¬ bs.length < k) : gN k bs = (beN (bs.take k), bs.drop k, false) ∧ fixed (beN (bs.take k) : Int) k ++ bs.drop k = bs := by
  have e := fixed_be (bs.take k)
  rw [List.length_take, Nat.min_eq_left (by omega)] at e
  rw [e, List.take_append_drop]
  exact ⟨if_neg h, rfl⟩
theorem gN_no {k : Nat} {bs : List UInt8} (h : bs.length < k) : gN k bs = (0, [], true) := if_pos h
theorem CT.mono {P : Program} {f : FuncId} {vals : List Value} {t : Vw} {e : Ent} {R R' : Vw → Value → Ent → Prop} (h : CT P f vals t e R) (hr : ∀ u r e', R u r e' → R' u r e') : CT P f vals t e R' :=
  Calls.mono h fun x w' ⟨r, e', he, g1, g2, g3, g4, g5, g6⟩ => ⟨r, e', he, g1, g2, g3, g4, g5, hr _ _ _ g6⟩
theorem RS_nil1 {s : Vw} : RSv s (.slice none 0 0) [] := ⟨by simp, by simp, .inl ⟨rfl, rfl⟩⟩
theorem rx_Int16 (t : Vw) (x : Int) : RxC 125 (fixed x 2) (fun _ r => r = .int .i16 (IntKind.i16.wrap x)) t := by
  intro b v bad rest hv hok hav
  obtain ⟨_, g, o, c, rfl⟩ := RSv.pos hv (by simp <;> omega)
  have hc : (fixed x 2 ++ rest).length ≤ c := by obtain ⟨_, c9, e9, h9⟩ := RSv.shape hv; simp only [Value.slice.injEq] at e9; omega
  refine ct_enter Tryd.func125 rfl Tryd.ntmps125 rfl hok hav (by simp [Ent.blk]) ?_
  refine cd_sr ?_
  refine ln_pv (pv_assign rfl) rfl ?_
  refine ln_cd ?_
  refine cd_seq ?_
  refine cd_sr ?_
  refine ln_pv (pv_move rfl) rfl ?_
  refine ln_pv (pv_nilCheck rfl) rfl ?_
  refine ln_pv (pv_fieldAddr (off := 0) (r := 0) Tryd.underlying142 rfl tiSl_uint8.size rfl rfl rfl) rfl ?_
  refine ln_pv (pv_ldo (i := 0) rfl Tryd.underlying22 rfl rfl rfl) rfl ?_
  refine ln_pv (pv_len_slice Tryd.underlying22 rfl) rfl ?_
  refine ln_pv (pv_ff (pv_lss rfl rfl) (by simp <;> omega)) rfl ?_
  refine ln_cd ?_
  refine cd_ff rfl ?_
  refine cd_skip ?_
  refine at_cd ?_
  refine cd_dr' [0] [0, 1, 2, 3, 4, 6, 7] [0, 1, 2, 3, 4, 5, 6, 7] mixed (by kernel_rfl) ?_
  refine lo_pv rfl rfl (sk_js (Tr.refl _) [0] rfl) (pv_loadA (b := 1) (o := 0) (sz := 0) (cs := []) Tryd.underlying197 rfl (by kernel_rfl) rfl rfl (fun w hw j v hv => by simp at hv)) rfl ?_
  refine lo_pv rfl rfl (sk_js (Tr.refl _) [0] rfl) (pv_move rfl) rfl ?_
  refine lo_pv rfl rfl (sk_js (Tr.refl _) [0] rfl) (pv_nilCheck rfl) rfl ?_
  refine lo_pv rfl rfl (sk_js (Tr.refl _) [0] rfl) (pv_fieldAddr (off := 0) (r := 0) Tryd.underlying142 rfl tiSl_uint8.size rfl rfl rfl) rfl ?_
  refine lo_pv rfl rfl (sk_js (Tr.refl _) [0] rfl) (pv_ldo (i := 0) rfl Tryd.underlying22 rfl rfl rfl) rfl ?_
  refine lo_eff rfl rfl ?_
  refine ln_callS (v := .int .u16 (x % 65536)) en_164 rfl (fun u hu => by
    have h := be_Uint16 u _ (b8 (x / 2 ^ (8 * 1))) (b8 (x / 2 ^ (8 * 0))) rest (RSv.mv hv hu)
    have e := sum2 x
    rw [e] at h
    exact h) rfl ?_
  refine lo_back (sk_js (Tr.refl _) [0] rfl) ?_
  refine lo_pv rfl rfl (sk_js (Tr.refl _) [0] rfl) (pv_conv' (k := .u16) (i := x % 65536) Tryd.underlying199 Tryd.underlying45 rfl (r := IntKind.i16.wrap x) (by simp [IntKind.wrap, IntKind.bits, IntKind.signed])) rfl ?_
  refine lo_pv rfl rfl (sk_js (Tr.refl _) [0] rfl) (pv_assign rfl) rfl ?_
  refine lo_cd ?_
  refine cd_sr ?_
  refine ln_pv (pv_move rfl) rfl ?_
  refine ln_pv (pv_move rfl) rfl ?_
  refine ln_pv (pv_nilCheck rfl) rfl ?_
  refine ln_pv (pv_fieldAddr (off := 0) (r := 0) Tryd.underlying142 rfl tiSl_uint8.size rfl rfl rfl) rfl ?_
  refine ln_pv (pv_ldo (i := 0) rfl Tryd.underlying22 rfl rfl rfl) rfl ?_
  refine ln_pv (pv_sliceV (i := 2) Tryd.underlying22 tiuint8.size rfl rfl (by simp) hc) rfl ?_
  refine ln_pv (pv_nilCheck rfl) rfl ?_
  refine ln_pv (pv_fieldAddr (off := 0) (r := 0) Tryd.underlying142 rfl tiSl_uint8.size rfl rfl rfl) rfl ?_
  refine ln_store1 (i := 0) rfl rfl rfl rfl tiSl_uint8.size rfl ?_
  refine ln_cd ?_
  refine cd_sr ?_
  refine ln_pv (pv_move rfl) rfl ?_
  refine ln_pv (pv_assign rfl) rfl ?_
  refine ln_cd ?_
  refine cd_ret ?_
  exact at_retT (i := 0) rfl rfl rfl (fun w hS => ⟨rfl, _, rfl, (RSv.drop hv).mv (hS.trFinT _ _)⟩)
theorem rf_Int16 (t : Vw) (b : Nat) (v : Value) (bad : Bool) (bs : List UInt8) (hv : RSv t v bs) (h : bs.length < 2) (hok : (RdX b v bad).ok t.w) (hav : ∀ q ∈ (RdX b v bad).blk, t.av q) : CT Tryd.prog 125 [.pointer (some ⟨b, 0, none⟩)] t (RdX b v bad) fun u r e' => r = .int .i16 0 ∧ e' = RdX b (.slice none 0 0) true := by
  obtain ⟨ad, c, rfl, hc⟩ := RSv.shape hv
  refine ct_enter Tryd.func125 rfl Tryd.ntmps125 rfl hok hav (by simp [Ent.blk]) ?_
  refine cd_sr ?_
  refine ln_pv (pv_assign rfl) rfl ?_
  refine ln_cd ?_
  refine cd_seq ?_
  refine cd_sr ?_
  refine ln_pv (pv_move rfl) rfl ?_
  refine ln_pv (pv_nilCheck rfl) rfl ?_
  refine ln_pv (pv_fieldAddr (off := 0) (r := 0) Tryd.underlying142 rfl (tiSl_uint8).size rfl rfl rfl) rfl ?_
  refine ln_pv (pv_ldo (i := 0) rfl Tryd.underlying22 rfl rfl rfl) rfl ?_
  refine ln_pv (pv_len_slice Tryd.underlying22 rfl) rfl ?_
  refine ln_pv (pv_tt (pv_lss rfl rfl) (by omega)) rfl ?_
  refine ln_cd ?_
  refine cd_tt rfl ?_
  refine cd_sr ?_
  refine ln_pv (pv_move rfl) rfl ?_
  refine ln_pv (pv_nilCheck rfl) rfl ?_
  refine ln_pv (pv_fieldAddr (off := 1) (r := 1) Tryd.underlying142 rfl (tibool).size rfl rfl rfl) rfl ?_
  refine ln_store1 (i := 0) rfl rfl rfl rfl (tibool).size rfl ?_
  refine ln_cd ?_
  refine cd_sr ?_
  refine ln_pv (pv_move rfl) rfl ?_
  refine ln_pv (pv_nilCheck rfl) rfl ?_
  refine ln_pv (pv_fieldAddr (off := 0) (r := 0) Tryd.underlying142 rfl (tiSl_uint8).size rfl rfl rfl) rfl ?_
  refine ln_store1 (i := 0) rfl rfl rfl rfl (tiSl_uint8).size rfl ?_
  refine ln_cd ?_
  refine cd_sr ?_
  refine ln_pv (pv_assign rfl) rfl ?_
  refine ln_cd ?_
  refine cd_ret ?_
  exact at_retT (i := 0) rfl rfl rfl (fun w hS => ⟨rfl, rfl⟩)
theorem gx_Int16 (t : Vw) : GxC 125 (gN 2) (fun _ r z => r = .int .i16 (IntKind.i16.wrap (z : Int))) t := fun b v bad bs hv hok hav => by
  by_cases h : bs.length < 2
  · rw [gN_no h]
    exact CT.mono (rf_Int16 t b v bad bs hv h hok hav) fun u r e' ⟨h1, h2⟩ => ⟨h1, _, by rw [h2]; simp, RS_nil1⟩
  · obtain ⟨e1, e2⟩ := gN_ok h
    rw [e1]
    rw [← e2] at hv
    exact CT.mono (rx_Int16 t _ b v bad _ hv hok hav) fun u r e' ⟨h1, v', h2, h3⟩ => ⟨h1, v', by rw [h2]; simp, h3.1⟩
theorem rx_Int32 (t : Vw) (x : Int) : RxC 122 (fixed x 4) (fun _ r => r = .int .i32 (IntKind.i32.wrap x)) t := by
  intro b v bad rest hv hok hav
  obtain ⟨_, g, o, c, rfl⟩ := RSv.pos hv (by simp <;> omega)
  have hc : (fixed x 4 ++ rest).length ≤ c := by obtain ⟨_, c9, e9, h9⟩ := RSv.shape hv; simp only [Value.slice.injEq] at e9; omega
  refine ct_enter Tryd.func122 rfl Tryd.ntmps122 rfl hok hav (by simp [Ent.blk]) ?_
  refine cd_sr ?_
  refine ln_pv (pv_assign rfl) rfl ?_
  refine ln_cd ?_
  refine cd_seq ?_
  refine cd_sr ?_
  refine ln_pv (pv_move rfl) rfl ?_
  refine ln_pv (pv_nilCheck rfl) rfl ?_
  refine ln_pv (pv_fieldAddr (off := 0) (r := 0) Tryd.underlying142 rfl tiSl_uint8.size rfl rfl rfl) rfl ?_
  refine ln_pv (pv_ldo (i := 0) rfl Tryd.underlying22 rfl rfl rfl) rfl ?_
  refine ln_pv (pv_len_slice Tryd.underlying22 rfl) rfl ?_
  refine ln_pv (pv_ff (pv_lss rfl rfl) (by simp <;> omega)) rfl ?_
  refine ln_cd ?_
  refine cd_ff rfl ?_
  refine cd_skip ?_
  refine at_cd ?_
  refine cd_dr' [0] [0, 1, 2, 3, 4, 6, 7] [0, 1, 2, 3, 4, 5, 6, 7] mixed (by kernel_rfl) ?_
  refine lo_pv rfl rfl (sk_js (Tr.refl _) [0] rfl) (pv_loadA (b := 1) (o := 0) (sz := 0) (cs := []) Tryd.underlying197 rfl (by kernel_rfl) rfl rfl (fun w hw j v hv => by simp at hv)) rfl ?_
  refine lo_pv rfl rfl (sk_js (Tr.refl _) [0] rfl) (pv_move rfl) rfl ?_
  refine lo_pv rfl rfl (sk_js (Tr.refl _) [0] rfl) (pv_nilCheck rfl) rfl ?_
  refine lo_pv rfl rfl (sk_js (Tr.refl _) [0] rfl) (pv_fieldAddr (off := 0) (r := 0) Tryd.underlying142 rfl tiSl_uint8.size rfl rfl rfl) rfl ?_
  refine lo_pv rfl rfl (sk_js (Tr.refl _) [0] rfl) (pv_ldo (i := 0) rfl Tryd.underlying22 rfl rfl rfl) rfl ?_
  refine lo_eff rfl rfl ?_
  refine ln_callS (v := .int .u32 (x % 4294967296)) en_163 rfl (fun u hu => by
    have h := be_Uint32 u _ (b8 (x / 2 ^ (8 * 3))) (b8 (x / 2 ^ (8 * 2))) (b8 (x / 2 ^ (8 * 1))) (b8 (x / 2 ^ (8 * 0))) rest (RSv.mv hv hu)
    have e := sum4 x
    rw [e] at h
    exact h) rfl ?_
  refine lo_back (sk_js (Tr.refl _) [0] rfl) ?_
  refine lo_pv rfl rfl (sk_js (Tr.refl _) [0] rfl) (pv_conv' (k := .u32) (i := x % 4294967296) Tryd.underlying55 Tryd.underlying21 rfl (r := IntKind.i32.wrap x) (by simp [IntKind.wrap, IntKind.bits, IntKind.signed])) rfl ?_
  refine lo_pv rfl rfl (sk_js (Tr.refl _) [0] rfl) (pv_assign rfl) rfl ?_
  refine lo_cd ?_
  refine cd_sr ?_
  refine ln_pv (pv_move rfl) rfl ?_
  refine ln_pv (pv_move rfl) rfl ?_
  refine ln_pv (pv_nilCheck rfl) rfl ?_
  refine ln_pv (pv_fieldAddr (off := 0) (r := 0) Tryd.underlying142 rfl tiSl_uint8.size rfl rfl rfl) rfl ?_
  refine ln_pv (pv_ldo (i := 0) rfl Tryd.underlying22 rfl rfl rfl) rfl ?_
  refine ln_pv (pv_sliceV (i := 4) Tryd.underlying22 tiuint8.size rfl rfl (by simp) hc) rfl ?_
  refine ln_pv (pv_nilCheck rfl) rfl ?_
  refine ln_pv (pv_fieldAddr (off := 0) (r := 0) Tryd.underlying142 rfl tiSl_uint8.size rfl rfl rfl) rfl ?_
  refine ln_store1 (i := 0) rfl rfl rfl rfl tiSl_uint8.size rfl ?_
  refine ln_cd ?_
  refine cd_sr ?_
  refine ln_pv (pv_move rfl) rfl ?_
  refine ln_pv (pv_assign rfl) rfl ?_
  refine ln_cd ?_
  refine cd_ret ?_
  exact at_retT (i := 0) rfl rfl rfl (fun w hS => ⟨rfl, _, rfl, (RSv.drop hv).mv (hS.trFinT _ _)⟩)
theorem rf_Int32 (t : Vw) (b : Nat) (v : Value) (bad : Bool) (bs : List UInt8) (hv : RSv t v bs) (h : bs.length < 4) (hok : (RdX b v bad).ok t.w) (hav : ∀ q ∈ (RdX b v bad).blk, t.av q) : CT Tryd.prog 122 [.pointer (some ⟨b, 0, none⟩)] t (RdX b v bad) fun u r e' => r = .int .i32 0 ∧ e' = RdX b (.slice none 0 0) true := by
  obtain ⟨ad, c, rfl, hc⟩ := RSv.shape hv
  refine ct_enter Tryd.func122 rfl Tryd.ntmps122 rfl hok hav (by simp [Ent.blk]) ?_
  refine cd_sr ?_
  refine ln_pv (pv_assign rfl) rfl ?_
  refine ln_cd ?_
  refine cd_seq ?_
  refine cd_sr ?_
  refine ln_pv (pv_move rfl) rfl ?_
  refine ln_pv (pv_nilCheck rfl) rfl ?_
  refine ln_pv (pv_fieldAddr (off := 0) (r := 0) Tryd.underlying142 rfl (tiSl_uint8).size rfl rfl rfl) rfl ?_
  refine ln_pv (pv_ldo (i := 0) rfl Tryd.underlying22 rfl rfl rfl) rfl ?_
  refine ln_pv (pv_len_slice Tryd.underlying22 rfl) rfl ?_
  refine ln_pv (pv_tt (pv_lss rfl rfl) (by omega)) rfl ?_
  refine ln_cd ?_
  refine cd_tt rfl ?_
  refine cd_sr ?_
  refine ln_pv (pv_move rfl) rfl ?_
  refine ln_pv (pv_nilCheck rfl) rfl ?_
  refine ln_pv (pv_fieldAddr (off := 1) (r := 1) Tryd.underlying142 rfl (tibool).size rfl rfl rfl) rfl ?_
  refine ln_store1 (i := 0) rfl rfl rfl rfl (tibool).size rfl ?_
  refine ln_cd ?_
  refine cd_sr ?_
  refine ln_pv (pv_move rfl) rfl ?_
  refine ln_pv (pv_nilCheck rfl) rfl ?_
  refine ln_pv (pv_fieldAddr (off := 0) (r := 0) Tryd.underlying142 rfl (tiSl_uint8).size rfl rfl rfl) rfl ?_
  refine ln_store1 (i := 0) rfl rfl rfl rfl (tiSl_uint8).size rfl ?_
  refine ln_cd ?_
  refine cd_sr ?_
  refine ln_pv (pv_assign rfl) rfl ?_
  refine ln_cd ?_
  refine cd_ret ?_
  exact at_retT (i := 0) rfl rfl rfl (fun w hS => ⟨rfl, rfl⟩)
theorem gx_Int32 (t : Vw) : GxC 122 (gN 4) (fun _ r z => r = .int .i32 (IntKind.i32.wrap (z : Int))) t := fun b v bad bs hv hok hav => by
  by_cases h : bs.length < 4
  · rw [gN_no h]
    exact CT.mono (rf_Int32 t b v bad bs hv h hok hav) fun u r e' ⟨h1, h2⟩ => ⟨h1, _, by rw [h2]; simp, RS_nil1⟩
  · obtain ⟨e1, e2⟩ := gN_ok h
    rw [e1]
    rw [← e2] at hv
    exact CT.mono (rx_Int32 t _ b v bad _ hv hok hav) fun u r e' ⟨h1, v', h2, h3⟩ => ⟨h1, v', by rw [h2]; simp, h3.1⟩
theorem rx_readUint64 (t : Vw) (x : Int) : RxC 165 (fixed x 8) (fun _ r => r = .int .u64 (x % 18446744073709551616)) t := by
  intro b v bad rest hv hok hav
  obtain ⟨_, g, o, c, rfl⟩ := RSv.pos hv (by simp <;> omega)
  have hc : (fixed x 8 ++ rest).length ≤ c := by obtain ⟨_, c9, e9, h9⟩ := RSv.shape hv; simp only [Value.slice.injEq] at e9; omega
  refine ct_enter Tryd.func165 rfl Tryd.ntmps165 rfl hok hav (by simp [Ent.blk]) ?_
  refine cd_sr ?_
  refine ln_pv (pv_assign rfl) rfl ?_
  refine ln_cd ?_
  refine cd_seq ?_
  refine cd_sr ?_
  refine ln_pv (pv_move rfl) rfl ?_
  refine ln_pv (pv_nilCheck rfl) rfl ?_
  refine ln_pv (pv_fieldAddr (off := 0) (r := 0) Tryd.underlying142 rfl tiSl_uint8.size rfl rfl rfl) rfl ?_
  refine ln_pv (pv_ldo (i := 0) rfl Tryd.underlying22 rfl rfl rfl) rfl ?_
  refine ln_pv (pv_len_slice Tryd.underlying22 rfl) rfl ?_
  refine ln_pv (pv_ff (pv_lss rfl rfl) (by simp <;> omega)) rfl ?_
  refine ln_cd ?_
  refine cd_ff rfl ?_
  refine cd_skip ?_
  refine at_cd ?_
  refine cd_dr' [0] [0, 1, 2, 3, 4, 6] [0, 1, 2, 3, 4, 5, 6] mixed (by kernel_rfl) ?_
  refine lo_pv rfl rfl (sk_js (Tr.refl _) [0] rfl) (pv_loadA (b := 1) (o := 0) (sz := 0) (cs := []) Tryd.underlying197 rfl (by kernel_rfl) rfl rfl (fun w hw j v hv => by simp at hv)) rfl ?_
  refine lo_pv rfl rfl (sk_js (Tr.refl _) [0] rfl) (pv_move rfl) rfl ?_
  refine lo_pv rfl rfl (sk_js (Tr.refl _) [0] rfl) (pv_nilCheck rfl) rfl ?_
  refine lo_pv rfl rfl (sk_js (Tr.refl _) [0] rfl) (pv_fieldAddr (off := 0) (r := 0) Tryd.underlying142 rfl tiSl_uint8.size rfl rfl rfl) rfl ?_
  refine lo_pv rfl rfl (sk_js (Tr.refl _) [0] rfl) (pv_ldo (i := 0) rfl Tryd.underlying22 rfl rfl rfl) rfl ?_
  refine lo_eff rfl rfl ?_
  refine ln_callS (v := .int .u64 (x % 18446744073709551616)) en_195 rfl (fun u hu => by
    have h := be_Uint64 u _ (b8 (x / 2 ^ (8 * 7))) (b8 (x / 2 ^ (8 * 6))) (b8 (x / 2 ^ (8 * 5))) (b8 (x / 2 ^ (8 * 4))) (b8 (x / 2 ^ (8 * 3))) (b8 (x / 2 ^ (8 * 2))) (b8 (x / 2 ^ (8 * 1))) (b8 (x / 2 ^ (8 * 0))) rest (RSv.mv hv hu)
    have e := sum8 x
    rw [e] at h
    exact h) rfl ?_
  refine lo_back (sk_js (Tr.refl _) [0] rfl) ?_
  refine lo_pv rfl rfl (sk_js (Tr.refl _) [0] rfl) (pv_assign rfl) rfl ?_
  refine lo_cd ?_
  refine cd_sr ?_
  refine ln_pv (pv_move rfl) rfl ?_
  refine ln_pv (pv_move rfl) rfl ?_
  refine ln_pv (pv_nilCheck rfl) rfl ?_
  refine ln_pv (pv_fieldAddr (off := 0) (r := 0) Tryd.underlying142 rfl tiSl_uint8.size rfl rfl rfl) rfl ?_
  refine ln_pv (pv_ldo (i := 0) rfl Tryd.underlying22 rfl rfl rfl) rfl ?_
  refine ln_pv (pv_sliceV (i := 8) Tryd.underlying22 tiuint8.size rfl rfl (by simp) hc) rfl ?_
  refine ln_pv (pv_nilCheck rfl) rfl ?_
  refine ln_pv (pv_fieldAddr (off := 0) (r := 0) Tryd.underlying142 rfl tiSl_uint8.size rfl rfl rfl) rfl ?_
  refine ln_store1 (i := 0) rfl rfl rfl rfl tiSl_uint8.size rfl ?_
  refine ln_cd ?_
  refine cd_sr ?_
  refine ln_pv (pv_move rfl) rfl ?_
  refine ln_pv (pv_assign rfl) rfl ?_
  refine ln_cd ?_
  refine cd_ret ?_
  exact at_retT (i := 0) rfl rfl rfl (fun w hS => ⟨rfl, _, rfl, (RSv.drop hv).mv (hS.trFinT _ _)⟩)
theorem rf_readUint64 (t : Vw) (b : Nat) (v : Value) (bad : Bool) (bs : List UInt8) (hv : RSv t v bs) (h : bs.length < 8) (hok : (RdX b v bad).ok t.w) (hav : ∀ q ∈ (RdX b v bad).blk, t.av q) : CT Tryd.prog 165 [.pointer (some ⟨b, 0, none⟩)] t (RdX b v bad) fun u r e' => r = .int .u64 0 ∧ e' = RdX b (.slice none 0 0) true := by
  obtain ⟨ad, c, rfl, hc⟩ := RSv.shape hv
  refine ct_enter Tryd.func165 rfl Tryd.ntmps165 rfl hok hav (by simp [Ent.blk]) ?_
  refine cd_sr ?_
  refine ln_pv (pv_assign rfl) rfl ?_
  refine ln_cd ?_
  refine cd_seq ?_
  refine cd_sr ?_
  refine ln_pv (pv_move rfl) rfl ?_
  refine ln_pv (pv_nilCheck rfl) rfl ?_
  refine ln_pv (pv_fieldAddr (off := 0) (r := 0) Tryd.underlying142 rfl (tiSl_uint8).size rfl rfl rfl) rfl ?_
  refine ln_pv (pv_ldo (i := 0) rfl Tryd.underlying22 rfl rfl rfl) rfl ?_
  refine ln_pv (pv_len_slice Tryd.underlying22 rfl) rfl ?_
  refine ln_pv (pv_tt (pv_lss rfl rfl) (by omega)) rfl ?_
  refine ln_cd ?_
  refine cd_tt rfl ?_
  refine cd_sr ?_
  refine ln_pv (pv_move rfl) rfl ?_
  refine ln_pv (pv_nilCheck rfl) rfl ?_
  refine ln_pv (pv_fieldAddr (off := 1) (r := 1) Tryd.underlying142 rfl (tibool).size rfl rfl rfl) rfl ?_
  refine ln_store1 (i := 0) rfl rfl rfl rfl (tibool).size rfl ?_
  refine ln_cd ?_
  refine cd_sr ?_
  refine ln_pv (pv_move rfl) rfl ?_
  refine ln_pv (pv_nilCheck rfl) rfl ?_
  refine ln_pv (pv_fieldAddr (off := 0) (r := 0) Tryd.underlying142 rfl (tiSl_uint8).size rfl rfl rfl) rfl ?_
  refine ln_store1 (i := 0) rfl rfl rfl rfl (tiSl_uint8).size rfl ?_
  refine ln_cd ?_
  refine cd_sr ?_
  refine ln_pv (pv_assign rfl) rfl ?_
  refine ln_cd ?_
  refine cd_ret ?_
  exact at_retT (i := 0) rfl rfl rfl (fun w hS => ⟨rfl, rfl⟩)
theorem gx_readUint64 (t : Vw) : GxC 165 (gN 8) (fun _ r z => r = .int .u64 ((z : Int) % 18446744073709551616)) t := fun b v bad bs hv hok hav => by
  by_cases h : bs.length < 8
  · rw [gN_no h]
    exact CT.mono (rf_readUint64 t b v bad bs hv h hok hav) fun u r e' ⟨h1, h2⟩ => ⟨h1, _, by rw [h2]; simp, RS_nil1⟩
  · obtain ⟨e1, e2⟩ := gN_ok h
    rw [e1]
    rw [← e2] at hv
    exact CT.mono (rx_readUint64 t _ b v bad _ hv hok hav) fun u r e' ⟨h1, v', h2, h3⟩ => ⟨h1, v', by rw [h2]; simp, h3.1⟩
theorem gx_Int64 (t : Vw) : GxC 128 (gN 8) (fun _ r z => r = .int .i64 (IntKind.i64.wrap (z : Int))) t := by
  intro b v bad bs hv hok hav
  refine ct_enter Tryd.func128 rfl Tryd.ntmps128 rfl hok hav (by simp [Ent.blk]) ?_
  refine cd_sr ?_
  refine ln_pv (pv_assign rfl) rfl ?_
  refine ln_cd ?_
  refine cd_sr ?_
  refine ln_pv (pv_move rfl) rfl ?_
  refine ln_callT (i := 0) en_165 rfl rfl (fun u hu hok hav => gx_readUint64 u b v bad bs (RSv.mv hv hu) hok hav) rfl ?_
  rintro u1 r1 _ ht1 ⟨ux1, ⟨rfl, v1, rfl, hv1⟩, hx1⟩
  have hv1 := RSv.mv hv1 hx1
  refine ln_pv (pv_conv' (k := .u64) (i := ((gN 8 bs).1 : Int) % 18446744073709551616) Tryd.underlying180 Tryd.underlying2 rfl (r := IntKind.i64.wrap ((gN 8 bs).1 : Int)) (by simp [IntKind.wrap, IntKind.bits, IntKind.signed])) rfl ?_
  refine ln_pv (pv_assign rfl) rfl ?_
  refine ln_cd ?_
  refine cd_ret ?_
  exact at_retT (i := 0) rfl rfl rfl (fun w hS => ⟨rfl, _, rfl, RSv.mv hv1 (hS.trFinT _ _)⟩)
theorem rx_Int8 (t : Vw) (x : UInt8) : RxC 141 [x] (fun _ r => r = .int .i8 (IntKind.i8.wrap (x.toNat : Int))) t := by
  intro b v bad rest hv hok hav
  obtain ⟨_, g, o, c, rfl⟩ := RSv.pos hv (by simp <;> omega)
  have hc : ([x] ++ rest).length ≤ c := by obtain ⟨_, c9, e9, h9⟩ := RSv.shape hv; simp only [Value.slice.injEq] at e9; omega
  obtain ⟨g1, o1, e1, hrc⟩ := RS.pos hv (by simp) (by decide)
  simp only [Option.some.injEq, Addr.mk.injEq, and_true] at e1
  obtain ⟨rfl, rfl⟩ := e1
  refine ct_enter Tryd.func141 rfl Tryd.ntmps141 rfl hok hav (by simp [Ent.blk]) ?_
  refine cd_sr ?_
  refine ln_pv (pv_assign rfl) rfl ?_
  refine ln_cd ?_
  refine cd_seq ?_
  refine cd_sr ?_
  refine ln_pv (pv_move rfl) rfl ?_
  refine ln_pv (pv_nilCheck rfl) rfl ?_
  refine ln_pv (pv_fieldAddr (off := 0) (r := 0) Tryd.underlying142 rfl tiSl_uint8.size rfl rfl rfl) rfl ?_
  refine ln_pv (pv_ldo (i := 0) rfl Tryd.underlying22 rfl rfl rfl) rfl ?_
  refine ln_pv (pv_len_slice Tryd.underlying22 rfl) rfl ?_
  refine ln_pv (pv_ff (pv_lss rfl rfl) (by simp <;> omega)) rfl ?_
  refine ln_cd ?_
  refine cd_ff rfl ?_
  refine cd_skip ?_
  refine at_cd ?_
  refine cd_sr ?_
  refine ln_pv (pv_move rfl) rfl ?_
  refine ln_pv (pv_nilCheck rfl) rfl ?_
  refine ln_pv (pv_fieldAddr (off := 0) (r := 0) Tryd.underlying142 rfl tiSl_uint8.size rfl rfl rfl) rfl ?_
  refine ln_pv (pv_ldo (i := 0) rfl Tryd.underlying22 rfl rfl rfl) rfl ?_
  refine ln_pv (pv_ix8 (i := 0) Tryd.underlying22 tiuint8.size rfl rfl (by simp)) rfl ?_
  refine ln_pv (pv_ldr (j := 0) (v := u8v x) hrc Tryd.underlying5 rfl rfl rfl) rfl ?_
  refine ln_pv (pv_assign rfl) rfl ?_
  refine ln_cd ?_
  refine cd_sr ?_
  refine ln_pv (pv_move rfl) rfl ?_
  refine ln_pv (pv_move rfl) rfl ?_
  refine ln_pv (pv_nilCheck rfl) rfl ?_
  refine ln_pv (pv_fieldAddr (off := 0) (r := 0) Tryd.underlying142 rfl tiSl_uint8.size rfl rfl rfl) rfl ?_
  refine ln_pv (pv_ldo (i := 0) rfl Tryd.underlying22 rfl rfl rfl) rfl ?_
  refine ln_pv (pv_sliceV (i := 1) Tryd.underlying22 tiuint8.size rfl rfl (by simp) hc) rfl ?_
  refine ln_pv (pv_nilCheck rfl) rfl ?_
  refine ln_pv (pv_fieldAddr (off := 0) (r := 0) Tryd.underlying142 rfl tiSl_uint8.size rfl rfl rfl) rfl ?_
  refine ln_store1 (i := 0) rfl rfl rfl rfl tiSl_uint8.size rfl ?_
  refine ln_cd ?_
  refine cd_sr ?_
  refine ln_pv (pv_move rfl) rfl ?_
  refine ln_pv (pv_conv' (k := .u8) (i := (x.toNat : Int)) Tryd.underlying5 Tryd.underlying74 rfl (r := IntKind.i8.wrap (x.toNat : Int)) rfl) rfl ?_
  refine ln_pv (pv_assign rfl) rfl ?_
  refine ln_cd ?_
  refine cd_ret ?_
  exact at_retT (i := 0) rfl rfl rfl (fun w hS => ⟨rfl, _, rfl, (RSv.drop hv).mv (hS.trFinT _ _)⟩)
theorem rf_Int8 (t : Vw) (b : Nat) (v : Value) (bad : Bool) (bs : List UInt8) (hv : RSv t v bs) (h : bs.length < 1) (hok : (RdX b v bad).ok t.w) (hav : ∀ q ∈ (RdX b v bad).blk, t.av q) : CT Tryd.prog 141 [.pointer (some ⟨b, 0, none⟩)] t (RdX b v bad) fun u r e' => r = .int .i8 0 ∧ e' = RdX b (.slice none 0 0) true := by
  obtain ⟨ad, c, rfl, hc⟩ := RSv.shape hv
  refine ct_enter Tryd.func141 rfl Tryd.ntmps141 rfl hok hav (by simp [Ent.blk]) ?_
  refine cd_sr ?_
  refine ln_pv (pv_assign rfl) rfl ?_
  refine ln_cd ?_
  refine cd_seq ?_
  refine cd_sr ?_
  refine ln_pv (pv_move rfl) rfl ?_
  refine ln_pv (pv_nilCheck rfl) rfl ?_
  refine ln_pv (pv_fieldAddr (off := 0) (r := 0) Tryd.underlying142 rfl (tiSl_uint8).size rfl rfl rfl) rfl ?_
  refine ln_pv (pv_ldo (i := 0) rfl Tryd.underlying22 rfl rfl rfl) rfl ?_
  refine ln_pv (pv_len_slice Tryd.underlying22 rfl) rfl ?_
  refine ln_pv (pv_tt (pv_lss rfl rfl) (by omega)) rfl ?_
  refine ln_cd ?_
  refine cd_tt rfl ?_
  refine cd_sr ?_
  refine ln_pv (pv_move rfl) rfl ?_
  refine ln_pv (pv_nilCheck rfl) rfl ?_
  refine ln_pv (pv_fieldAddr (off := 1) (r := 1) Tryd.underlying142 rfl (tibool).size rfl rfl rfl) rfl ?_
  refine ln_store1 (i := 0) rfl rfl rfl rfl (tibool).size rfl ?_
  refine ln_cd ?_
  refine cd_sr ?_
  refine ln_pv (pv_move rfl) rfl ?_
  refine ln_pv (pv_nilCheck rfl) rfl ?_
  refine ln_pv (pv_fieldAddr (off := 0) (r := 0) Tryd.underlying142 rfl (tiSl_uint8).size rfl rfl rfl) rfl ?_
  refine ln_store1 (i := 0) rfl rfl rfl rfl (tiSl_uint8).size rfl ?_
  refine ln_cd ?_
  refine cd_sr ?_
  refine ln_pv (pv_assign rfl) rfl ?_
  refine ln_cd ?_
  refine cd_ret ?_
  exact at_retT (i := 0) rfl rfl rfl (fun w hS => ⟨rfl, rfl⟩)
theorem gN_one {bs : List UInt8} (h : ¬ bs.length < 1) : ∃ (x : UInt8) (r : List UInt8), bs = [x] ++ r ∧ gN 1 bs = (x.toNat, r, false) := by
  cases bs with
  | nil => exact absurd (by decide) h
  | cons x r => exact ⟨x, r, rfl, by rw [gN, if_neg h]; simp [beN]⟩
theorem gx_Int8 (t : Vw) : GxC 141 (gN 1) (fun _ r z => r = .int .i8 (IntKind.i8.wrap (z : Int))) t := fun b v bad bs hv hok hav => by
  by_cases h : bs.length < 1
  · rw [gN_no h]
    exact CT.mono (rf_Int8 t b v bad bs hv h hok hav) fun u r e' ⟨h1, h2⟩ => ⟨h1, _, by rw [h2]; simp, RS_nil1⟩
  · obtain ⟨x, l, rfl, e1⟩ := gN_one h
    rw [e1]
    exact CT.mono (rx_Int8 t x b v bad _ hv hok hav) fun u r e' ⟨h1, v', h2, h3⟩ => ⟨h1, v', by rw [h2]; simp, h3.1⟩
def gB (bs : List UInt8) : Bool × List UInt8 × Bool := (decide (¬ (gN 1 bs).1 = 0), (gN 1 bs).2.1, (gN 1 bs).2.2)
end K
end Go.Proofs.YtjjfpdofkdolnaaDoor
namespace Go.Proofs.YtjjfpdofkdolnaaDoor
namespace K
open Go Go.Lib
section
variable {P : Program} {n : Nat} {L : Env} {H : Hp} {C : Cx} {s : Vw} {N R J : Act → World → Prop} {X : List (Nat × (Act → World → Prop))} {p : Post} {x y : Code} {l : Nat}
theorem cdG_sqJ (h : CdG P x l J ⟨y.wp P (Exit.jump l J (Post.q ⟨N, R, X⟩)), R, X⟩ n L H C s) : CdG P (.seq x y) l J ⟨N, R, X⟩ n L H C s := fun a w hF hS => by
  refine wp_seq (Code.wp_mono (fun e a w hq => ?_) (h a w hF hS))
  cases e <;> first | exact hq | exact (hq : False).elim
theorem cdG_ff {o : Operand} (hc : ev L o = some (.bool false)) (h : CdG P y l J p n L H C s) : CdG P (.cond o x y) l J p n L H C s := fun a w hF hS => wp_cond_false (hF.ev hc) (h a w hF hS)
end
theorem uvarint_s0 (t : Vw) (v : Value)  (hv : RSv t v []) : CS Tryd.prog 170 [v] t (.tuple #[.int .u32 0, .int .i64 0]) := by
  obtain ⟨ad, c, rfl, hc⟩ := RSv.shape hv
  refine CA.cs ?_
  refine ca_enter Tryd.func170 rfl Tryd.ntmps170 rfl ?_
  refine cd_sr ?_
  refine ln_pv (pv_assign rfl) rfl ?_
  refine ln_pv (pv_assign rfl) rfl ?_
  refine ln_cd ?_
  refine cd_scopeJ (S := Unit) 0 (fun _ => [(5, .int .i64 0)]) (fun _ => []) (fun _ _ => True) rfl ?_ (fun z u hu hI => ?_)
  · skip
    refine cdG_sq ?_
    refine cd_region ?_
    refine ln_pv (pv_assign rfl) rfl ?_
    refine ln_nil ?_
    refine at_cdG ?_
    refine cdG_sq ?_
    refine cd_region ?_
    refine ln_pv (pv_assign rfl) rfl ?_
    refine ln_nil ?_
    refine at_cdG ?_
    refine cdG_sqJ ?_
    refine cdG_sq ?_
    refine cd_region ?_
    refine ln_pv (pv_move rfl) rfl ?_
    refine ln_pv (pv_len_slice Tryd.underlying22 rfl) rfl ?_
    refine ln_pv (pv_tt (pv_lss rfl rfl) (by simp <;> omega)) rfl ?_
    refine ln_nil ?_
    refine at_cdG ?_
    refine cdG_tt rfl ?_
    refine cdG_goto ?_
    exact at_jump () (Tr.refl _) (fun _ _ => trivial) (by repeat (first | exact .put rfl .nil | refine .skip rfl ?_)) (List.Sublist.refl _)
  refine cd_seq ?_
  refine cd_skip ?_
  refine at_cd ?_
  refine cd_sr ?_
  refine ln_pv (pv_move rfl) rfl ?_
  refine ln_pv (pv_assign rfl) rfl ?_
  refine ln_pv (pv_assign rfl) rfl ?_
  refine ln_cd ?_
  refine cd_ret ?_
  exact at_retA2 (K := 0) rfl rfl rfl (fun w hS => rfl)
theorem uvarint_s1 (t : Vw) (v : Value) (x0 : UInt8) (g0 : 128 ≤ x0.toNat) (hv : RSv t v [x0]) : CS Tryd.prog 170 [v] t (.tuple #[.int .u32 0, .int .i64 0]) := by
  obtain ⟨ad, c, rfl, hc⟩ := RSv.shape hv
  obtain ⟨b, o, rfl, hrc⟩ := RS.pos hv (by simp) (by decide)
  simp only [u8s_cons] at hrc
  have hb0 := x0.toNat_lt
  refine CA.cs ?_
  refine ca_enter Tryd.func170 rfl Tryd.ntmps170 rfl ?_
  refine cd_sr ?_
  refine ln_pv (pv_assign rfl) rfl ?_
  refine ln_pv (pv_assign rfl) rfl ?_
  refine ln_cd ?_
  refine cd_scopeJ (S := Unit) 0 (fun _ => [(5, .int .i64 0)]) (fun _ => []) (fun _ _ => True) rfl ?_ (fun z u hu hI => ?_)
  · skip
    refine cdG_sq ?_
    refine cd_region ?_
    refine ln_pv (pv_assign rfl) rfl ?_
    refine ln_nil ?_
    refine at_cdG ?_
    refine cdG_sq ?_
    refine cd_region ?_
    refine ln_pv (pv_assign rfl) rfl ?_
    refine ln_nil ?_
    refine at_cdG ?_
    refine cdG_sq ?_
    refine cd_sr ?_
    refine ln_pv (pv_move rfl) rfl ?_
    refine ln_pv (pv_len_slice Tryd.underlying22 rfl) rfl ?_
    refine ln_pv (pv_ff (pv_lss rfl rfl) (by simp <;> omega)) rfl ?_
    refine ln_cd ?_
    refine cd_ff rfl ?_
    refine cd_skip ?_
    refine at_cdG ?_
    refine cdG_sq ?_
    refine cd_region ?_
    refine ln_pv (pv_move rfl) rfl ?_
    refine ln_pv (pv_ix8 (i := 0) Tryd.underlying22 tiuint8.size rfl rfl (by simp <;> omega)) rfl ?_
    refine ln_pv (pv_ldr (j := 0) (v := u8v x0) hrc Tryd.underlying5 rfl rfl rfl) rfl ?_
    refine ln_pv (pv_and' (k := .u8) (i := (x0.toNat : Int)) (j := 127) rfl rfl (r := ((x0.toNat : Int) % 128)) (and127_u8 (by omega) (by omega))) rfl ?_
    refine ln_pv (pv_conv' (k := .u8) (i := ((x0.toNat : Int) % 128)) Tryd.underlying5 Tryd.underlying55 rfl (r := ((x0.toNat : Int) % 128)) (by rw [wrap_u32_eq]; omega)) rfl ?_
    refine ln_pv (pv_assign rfl) rfl ?_
    refine ln_nil ?_
    refine at_cdG ?_
    refine cdG_sqJ ?_
    refine cdG_sq ?_
    refine cd_region ?_
    refine ln_pv (pv_move rfl) rfl ?_
    refine ln_pv (pv_ix8 (i := 0) Tryd.underlying22 tiuint8.size rfl rfl (by simp <;> omega)) rfl ?_
    refine ln_pv (pv_ldr (j := 0) (v := u8v x0) hrc Tryd.underlying5 rfl rfl rfl) rfl ?_
    refine ln_pv (pv_and' (k := .u8) (i := (x0.toNat : Int)) (j := 128) rfl rfl (r := 128) (by rw [and128_u8 (by omega) (by omega)]; rw [if_neg (by omega)])) rfl ?_
    refine ln_pv (pv_ff (pv_eql rfl rfl) (by decide)) rfl ?_
    refine ln_nil ?_
    refine at_cdG ?_
    refine cdG_ff rfl ?_
    refine cdG_sq ?_
    refine cd_region ?_
    refine ln_pv (pv_move rfl) rfl ?_
    refine ln_pv (pv_len_slice Tryd.underlying22 rfl) rfl ?_
    refine ln_pv (pv_tt (pv_lss rfl rfl) (by simp <;> omega)) rfl ?_
    refine ln_nil ?_
    refine at_cdG ?_
    refine cdG_tt rfl ?_
    refine cdG_goto ?_
    exact at_jump () (Tr.refl _) (fun _ _ => trivial) (by repeat (first | exact .put rfl .nil | refine .skip rfl ?_)) (List.Sublist.refl _)
  refine cd_seq ?_
  refine cd_skip ?_
  refine at_cd ?_
  refine cd_sr ?_
  refine ln_pv (pv_move rfl) rfl ?_
  refine ln_pv (pv_assign rfl) rfl ?_
  refine ln_pv (pv_assign rfl) rfl ?_
  refine ln_cd ?_
  refine cd_ret ?_
  exact at_retA2 (K := 0) rfl rfl rfl (fun w hS => rfl)
theorem uvarint_s2 (t : Vw) (v : Value) (x0 x1 : UInt8) (g0 : 128 ≤ x0.toNat) (g1 : 128 ≤ x1.toNat) (hv : RSv t v [x0, x1]) : CS Tryd.prog 170 [v] t (.tuple #[.int .u32 0, .int .i64 0]) := by
  obtain ⟨ad, c, rfl, hc⟩ := RSv.shape hv
  obtain ⟨b, o, rfl, hrc⟩ := RS.pos hv (by simp) (by decide)
  simp only [u8s_cons] at hrc
  have hb0 := x0.toNat_lt
  have hb1 := x1.toNat_lt
  refine CA.cs ?_
  refine ca_enter Tryd.func170 rfl Tryd.ntmps170 rfl ?_
  refine cd_sr ?_
  refine ln_pv (pv_assign rfl) rfl ?_
  refine ln_pv (pv_assign rfl) rfl ?_
  refine ln_cd ?_
  refine cd_scopeJ (S := Unit) 0 (fun _ => [(5, .int .i64 0)]) (fun _ => []) (fun _ _ => True) rfl ?_ (fun z u hu hI => ?_)
  · skip
    refine cdG_sq ?_
    refine cd_region ?_
    refine ln_pv (pv_assign rfl) rfl ?_
    refine ln_nil ?_
    refine at_cdG ?_
    refine cdG_sq ?_
    refine cd_region ?_
    refine ln_pv (pv_assign rfl) rfl ?_
    refine ln_nil ?_
    refine at_cdG ?_
    refine cdG_sq ?_
    refine cd_sr ?_
    refine ln_pv (pv_move rfl) rfl ?_
    refine ln_pv (pv_len_slice Tryd.underlying22 rfl) rfl ?_
    refine ln_pv (pv_ff (pv_lss rfl rfl) (by simp <;> omega)) rfl ?_
    refine ln_cd ?_
    refine cd_ff rfl ?_
    refine cd_skip ?_
    refine at_cdG ?_
    refine cdG_sq ?_
    refine cd_region ?_
    refine ln_pv (pv_move rfl) rfl ?_
    refine ln_pv (pv_ix8 (i := 0) Tryd.underlying22 tiuint8.size rfl rfl (by simp <;> omega)) rfl ?_
    refine ln_pv (pv_ldr (j := 0) (v := u8v x0) hrc Tryd.underlying5 rfl rfl rfl) rfl ?_
    refine ln_pv (pv_and' (k := .u8) (i := (x0.toNat : Int)) (j := 127) rfl rfl (r := ((x0.toNat : Int) % 128)) (and127_u8 (by omega) (by omega))) rfl ?_
    refine ln_pv (pv_conv' (k := .u8) (i := ((x0.toNat : Int) % 128)) Tryd.underlying5 Tryd.underlying55 rfl (r := ((x0.toNat : Int) % 128)) (by rw [wrap_u32_eq]; omega)) rfl ?_
    refine ln_pv (pv_assign rfl) rfl ?_
    refine ln_nil ?_
    refine at_cdG ?_
    refine cdG_sq ?_
    refine cd_sr ?_
    refine ln_pv (pv_move rfl) rfl ?_
    refine ln_pv (pv_ix8 (i := 0) Tryd.underlying22 tiuint8.size rfl rfl (by simp <;> omega)) rfl ?_
    refine ln_pv (pv_ldr (j := 0) (v := u8v x0) hrc Tryd.underlying5 rfl rfl rfl) rfl ?_
    refine ln_pv (pv_and' (k := .u8) (i := (x0.toNat : Int)) (j := 128) rfl rfl (r := 128) (by rw [and128_u8 (by omega) (by omega)]; rw [if_neg (by omega)])) rfl ?_
    refine ln_pv (pv_ff (pv_eql rfl rfl) (by decide)) rfl ?_
    refine ln_cd ?_
    refine cd_ff rfl ?_
    refine cd_sr ?_
    refine ln_pv (pv_move rfl) rfl ?_
    refine ln_pv (pv_len_slice Tryd.underlying22 rfl) rfl ?_
    refine ln_pv (pv_ff (pv_lss rfl rfl) (by simp <;> omega)) rfl ?_
    refine ln_cd ?_
    refine cd_ff rfl ?_
    refine cd_skip ?_
    refine at_cdG ?_
    refine cdG_sq ?_
    refine cd_region ?_
    refine ln_pv (pv_move rfl) rfl ?_
    refine ln_pv (pv_move rfl) rfl ?_
    refine ln_pv (pv_ix8 (i := 1) Tryd.underlying22 tiuint8.size rfl rfl (by simp <;> omega)) rfl ?_
    refine ln_pv (pv_ldr (j := 1) (v := u8v x1) hrc Tryd.underlying5 rfl rfl rfl) rfl ?_
    refine ln_pv (pv_and' (k := .u8) (i := (x1.toNat : Int)) (j := 127) rfl rfl (r := ((x1.toNat : Int) % 128)) (and127_u8 (by omega) (by omega))) rfl ?_
    refine ln_pv (pv_conv' (k := .u8) (i := ((x1.toNat : Int) % 128)) Tryd.underlying5 Tryd.underlying55 rfl (r := ((x1.toNat : Int) % 128)) (by rw [wrap_u32_eq]; omega)) rfl ?_
    refine ln_pv (pv_shl' (k := .u32) (i := ((x1.toNat : Int) % 128)) (j := 7) rfl rfl (by decide) (by decide) (r := (((x1.toNat : Int) % 128) * 128)) (by rw [wrap_u32_eq]; simp <;> omega)) rfl ?_
    refine ln_pv (pv_or' (k := .u32) (i := ((x0.toNat : Int) % 128)) (j := (((x1.toNat : Int) % 128) * 128)) rfl rfl (r := (((x0.toNat : Int) % 128) + (((x1.toNat : Int) % 128) * 128))) (or32 7 (by decide) _ _ (by omega) (by simp <;> omega) (by omega) (by omega) (by simp <;> omega))) rfl ?_
    refine ln_pv (pv_assign rfl) rfl ?_
    refine ln_nil ?_
    refine at_cdG ?_
    refine cdG_sqJ ?_
    refine cdG_sq ?_
    refine cd_region ?_
    refine ln_pv (pv_move rfl) rfl ?_
    refine ln_pv (pv_ix8 (i := 1) Tryd.underlying22 tiuint8.size rfl rfl (by simp <;> omega)) rfl ?_
    refine ln_pv (pv_ldr (j := 1) (v := u8v x1) hrc Tryd.underlying5 rfl rfl rfl) rfl ?_
    refine ln_pv (pv_and' (k := .u8) (i := (x1.toNat : Int)) (j := 128) rfl rfl (r := 128) (by rw [and128_u8 (by omega) (by omega)]; rw [if_neg (by omega)])) rfl ?_
    refine ln_pv (pv_ff (pv_eql rfl rfl) (by decide)) rfl ?_
    refine ln_nil ?_
    refine at_cdG ?_
    refine cdG_ff rfl ?_
    refine cdG_sq ?_
    refine cd_region ?_
    refine ln_pv (pv_move rfl) rfl ?_
    refine ln_pv (pv_len_slice Tryd.underlying22 rfl) rfl ?_
    refine ln_pv (pv_tt (pv_lss rfl rfl) (by simp <;> omega)) rfl ?_
    refine ln_nil ?_
    refine at_cdG ?_
    refine cdG_tt rfl ?_
    refine cdG_goto ?_
    exact at_jump () (Tr.refl _) (fun _ _ => trivial) (by repeat (first | exact .put rfl .nil | refine .skip rfl ?_)) (List.Sublist.refl _)
  refine cd_seq ?_
  refine cd_skip ?_
  refine at_cd ?_
  refine cd_sr ?_
  refine ln_pv (pv_move rfl) rfl ?_
  refine ln_pv (pv_assign rfl) rfl ?_
  refine ln_pv (pv_assign rfl) rfl ?_
  refine ln_cd ?_
  refine cd_ret ?_
  exact at_retA2 (K := 0) rfl rfl rfl (fun w hS => rfl)
theorem uvarint_s3 (t : Vw) (v : Value) (x0 x1 x2 : UInt8) (g0 : 128 ≤ x0.toNat) (g1 : 128 ≤ x1.toNat) (g2 : 128 ≤ x2.toNat) (hv : RSv t v [x0, x1, x2]) : CS Tryd.prog 170 [v] t (.tuple #[.int .u32 0, .int .i64 0]) := by
  obtain ⟨ad, c, rfl, hc⟩ := RSv.shape hv
  obtain ⟨b, o, rfl, hrc⟩ := RS.pos hv (by simp) (by decide)
  simp only [u8s_cons] at hrc
  have hb0 := x0.toNat_lt
  have hb1 := x1.toNat_lt
  have hb2 := x2.toNat_lt
  refine CA.cs ?_
  refine ca_enter Tryd.func170 rfl Tryd.ntmps170 rfl ?_
  refine cd_sr ?_
  refine ln_pv (pv_assign rfl) rfl ?_
  refine ln_pv (pv_assign rfl) rfl ?_
  refine ln_cd ?_
  refine cd_scopeJ (S := Unit) 0 (fun _ => [(5, .int .i64 0)]) (fun _ => []) (fun _ _ => True) rfl ?_ (fun z u hu hI => ?_)
  · skip
    refine cdG_sq ?_
    refine cd_region ?_
    refine ln_pv (pv_assign rfl) rfl ?_
    refine ln_nil ?_
    refine at_cdG ?_
    refine cdG_sq ?_
    refine cd_region ?_
    refine ln_pv (pv_assign rfl) rfl ?_
    refine ln_nil ?_
    refine at_cdG ?_
    refine cdG_sq ?_
    refine cd_sr ?_
    refine ln_pv (pv_move rfl) rfl ?_
    refine ln_pv (pv_len_slice Tryd.underlying22 rfl) rfl ?_
    refine ln_pv (pv_ff (pv_lss rfl rfl) (by simp <;> omega)) rfl ?_
    refine ln_cd ?_
    refine cd_ff rfl ?_
    refine cd_skip ?_
    refine at_cdG ?_
    refine cdG_sq ?_
    refine cd_region ?_
    refine ln_pv (pv_move rfl) rfl ?_
    refine ln_pv (pv_ix8 (i := 0) Tryd.underlying22 tiuint8.size rfl rfl (by simp <;> omega)) rfl ?_
    refine ln_pv (pv_ldr (j := 0) (v := u8v x0) hrc Tryd.underlying5 rfl rfl rfl) rfl ?_
    refine ln_pv (pv_and' (k := .u8) (i := (x0.toNat : Int)) (j := 127) rfl rfl (r := ((x0.toNat : Int) % 128)) (and127_u8 (by omega) (by omega))) rfl ?_
    refine ln_pv (pv_conv' (k := .u8) (i := ((x0.toNat : Int) % 128)) Tryd.underlying5 Tryd.underlying55 rfl (r := ((x0.toNat : Int) % 128)) (by rw [wrap_u32_eq]; omega)) rfl ?_
    refine ln_pv (pv_assign rfl) rfl ?_
    refine ln_nil ?_
    refine at_cdG ?_
    refine cdG_sq ?_
    refine cd_sr ?_
    refine ln_pv (pv_move rfl) rfl ?_
    refine ln_pv (pv_ix8 (i := 0) Tryd.underlying22 tiuint8.size rfl rfl (by simp <;> omega)) rfl ?_
    refine ln_pv (pv_ldr (j := 0) (v := u8v x0) hrc Tryd.underlying5 rfl rfl rfl) rfl ?_
    refine ln_pv (pv_and' (k := .u8) (i := (x0.toNat : Int)) (j := 128) rfl rfl (r := 128) (by rw [and128_u8 (by omega) (by omega)]; rw [if_neg (by omega)])) rfl ?_
    refine ln_pv (pv_ff (pv_eql rfl rfl) (by decide)) rfl ?_
    refine ln_cd ?_
    refine cd_ff rfl ?_
    refine cd_sr ?_
    refine ln_pv (pv_move rfl) rfl ?_
    refine ln_pv (pv_len_slice Tryd.underlying22 rfl) rfl ?_
    refine ln_pv (pv_ff (pv_lss rfl rfl) (by simp <;> omega)) rfl ?_
    refine ln_cd ?_
    refine cd_ff rfl ?_
    refine cd_skip ?_
    refine at_cdG ?_
    refine cdG_sq ?_
    refine cd_region ?_
    refine ln_pv (pv_move rfl) rfl ?_
    refine ln_pv (pv_move rfl) rfl ?_
    refine ln_pv (pv_ix8 (i := 1) Tryd.underlying22 tiuint8.size rfl rfl (by simp <;> omega)) rfl ?_
    refine ln_pv (pv_ldr (j := 1) (v := u8v x1) hrc Tryd.underlying5 rfl rfl rfl) rfl ?_
    refine ln_pv (pv_and' (k := .u8) (i := (x1.toNat : Int)) (j := 127) rfl rfl (r := ((x1.toNat : Int) % 128)) (and127_u8 (by omega) (by omega))) rfl ?_
    refine ln_pv (pv_conv' (k := .u8) (i := ((x1.toNat : Int) % 128)) Tryd.underlying5 Tryd.underlying55 rfl (r := ((x1.toNat : Int) % 128)) (by rw [wrap_u32_eq]; omega)) rfl ?_
    refine ln_pv (pv_shl' (k := .u32) (i := ((x1.toNat : Int) % 128)) (j := 7) rfl rfl (by decide) (by decide) (r := (((x1.toNat : Int) % 128) * 128)) (by rw [wrap_u32_eq]; simp <;> omega)) rfl ?_
    refine ln_pv (pv_or' (k := .u32) (i := ((x0.toNat : Int) % 128)) (j := (((x1.toNat : Int) % 128) * 128)) rfl rfl (r := (((x0.toNat : Int) % 128) + (((x1.toNat : Int) % 128) * 128))) (or32 7 (by decide) _ _ (by omega) (by simp <;> omega) (by omega) (by omega) (by simp <;> omega))) rfl ?_
    refine ln_pv (pv_assign rfl) rfl ?_
    refine ln_nil ?_
    refine at_cdG ?_
    refine cdG_sq ?_
    refine cd_sr ?_
    refine ln_pv (pv_move rfl) rfl ?_
    refine ln_pv (pv_ix8 (i := 1) Tryd.underlying22 tiuint8.size rfl rfl (by simp <;> omega)) rfl ?_
    refine ln_pv (pv_ldr (j := 1) (v := u8v x1) hrc Tryd.underlying5 rfl rfl rfl) rfl ?_
    refine ln_pv (pv_and' (k := .u8) (i := (x1.toNat : Int)) (j := 128) rfl rfl (r := 128) (by rw [and128_u8 (by omega) (by omega)]; rw [if_neg (by omega)])) rfl ?_
    refine ln_pv (pv_ff (pv_eql rfl rfl) (by decide)) rfl ?_
    refine ln_cd ?_
    refine cd_ff rfl ?_
    refine cd_sr ?_
    refine ln_pv (pv_move rfl) rfl ?_
    refine ln_pv (pv_len_slice Tryd.underlying22 rfl) rfl ?_
    refine ln_pv (pv_ff (pv_lss rfl rfl) (by simp <;> omega)) rfl ?_
    refine ln_cd ?_
    refine cd_ff rfl ?_
    refine cd_skip ?_
    refine at_cdG ?_
    refine cdG_sq ?_
    refine cd_region ?_
    refine ln_pv (pv_move rfl) rfl ?_
    refine ln_pv (pv_move rfl) rfl ?_
    refine ln_pv (pv_ix8 (i := 2) Tryd.underlying22 tiuint8.size rfl rfl (by simp <;> omega)) rfl ?_
    refine ln_pv (pv_ldr (j := 2) (v := u8v x2) hrc Tryd.underlying5 rfl rfl rfl) rfl ?_
    refine ln_pv (pv_and' (k := .u8) (i := (x2.toNat : Int)) (j := 127) rfl rfl (r := ((x2.toNat : Int) % 128)) (and127_u8 (by omega) (by omega))) rfl ?_
    refine ln_pv (pv_conv' (k := .u8) (i := ((x2.toNat : Int) % 128)) Tryd.underlying5 Tryd.underlying55 rfl (r := ((x2.toNat : Int) % 128)) (by rw [wrap_u32_eq]; omega)) rfl ?_
    refine ln_pv (pv_shl' (k := .u32) (i := ((x2.toNat : Int) % 128)) (j := 14) rfl rfl (by decide) (by decide) (r := (((x2.toNat : Int) % 128) * 16384)) (by rw [wrap_u32_eq]; simp <;> omega)) rfl ?_
    refine ln_pv (pv_or' (k := .u32) (i := (((x0.toNat : Int) % 128) + (((x1.toNat : Int) % 128) * 128))) (j := (((x2.toNat : Int) % 128) * 16384)) rfl rfl (r := ((((x0.toNat : Int) % 128) + (((x1.toNat : Int) % 128) * 128)) + (((x2.toNat : Int) % 128) * 16384))) (or32 14 (by decide) _ _ (by omega) (by simp <;> omega) (by omega) (by omega) (by simp <;> omega))) rfl ?_
    refine ln_pv (pv_assign rfl) rfl ?_
    refine ln_nil ?_
    refine at_cdG ?_
    refine cdG_sqJ ?_
    refine cdG_sq ?_
    refine cd_region ?_
    refine ln_pv (pv_move rfl) rfl ?_
    refine ln_pv (pv_ix8 (i := 2) Tryd.underlying22 tiuint8.size rfl rfl (by simp <;> omega)) rfl ?_
    refine ln_pv (pv_ldr (j := 2) (v := u8v x2) hrc Tryd.underlying5 rfl rfl rfl) rfl ?_
    refine ln_pv (pv_and' (k := .u8) (i := (x2.toNat : Int)) (j := 128) rfl rfl (r := 128) (by rw [and128_u8 (by omega) (by omega)]; rw [if_neg (by omega)])) rfl ?_
    refine ln_pv (pv_ff (pv_eql rfl rfl) (by decide)) rfl ?_
    refine ln_nil ?_
    refine at_cdG ?_
    refine cdG_ff rfl ?_
    refine cdG_sq ?_
    refine cd_region ?_
    refine ln_pv (pv_move rfl) rfl ?_
    refine ln_pv (pv_len_slice Tryd.underlying22 rfl) rfl ?_
    refine ln_pv (pv_tt (pv_lss rfl rfl) (by simp <;> omega)) rfl ?_
    refine ln_nil ?_
    refine at_cdG ?_
    refine cdG_tt rfl ?_
    refine cdG_goto ?_
    exact at_jump () (Tr.refl _) (fun _ _ => trivial) (by repeat (first | exact .put rfl .nil | refine .skip rfl ?_)) (List.Sublist.refl _)
  refine cd_seq ?_
  refine cd_skip ?_
  refine at_cd ?_
  refine cd_sr ?_
  refine ln_pv (pv_move rfl) rfl ?_
  refine ln_pv (pv_assign rfl) rfl ?_
  refine ln_pv (pv_assign rfl) rfl ?_
  refine ln_cd ?_
  refine cd_ret ?_
  exact at_retA2 (K := 0) rfl rfl rfl (fun w hS => rfl)
theorem uvarint_s4 (t : Vw) (v : Value) (x0 x1 x2 x3 : UInt8) (g0 : 128 ≤ x0.toNat) (g1 : 128 ≤ x1.toNat) (g2 : 128 ≤ x2.toNat) (g3 : 128 ≤ x3.toNat) (hv : RSv t v [x0, x1, x2, x3]) : CS Tryd.prog 170 [v] t (.tuple #[.int .u32 0, .int .i64 0]) := by
  obtain ⟨ad, c, rfl, hc⟩ := RSv.shape hv
  obtain ⟨b, o, rfl, hrc⟩ := RS.pos hv (by simp) (by decide)
  simp only [u8s_cons] at hrc
  have hb0 := x0.toNat_lt
  have hb1 := x1.toNat_lt
  have hb2 := x2.toNat_lt
  have hb3 := x3.toNat_lt
  refine CA.cs ?_
  refine ca_enter Tryd.func170 rfl Tryd.ntmps170 rfl ?_
  refine cd_sr ?_
  refine ln_pv (pv_assign rfl) rfl ?_
  refine ln_pv (pv_assign rfl) rfl ?_
  refine ln_cd ?_
  refine cd_scopeJ (S := Unit) 0 (fun _ => [(5, .int .i64 0)]) (fun _ => []) (fun _ _ => True) rfl ?_ (fun z u hu hI => ?_)
  · skip
    refine cdG_sq ?_
    refine cd_region ?_
    refine ln_pv (pv_assign rfl) rfl ?_
    refine ln_nil ?_
    refine at_cdG ?_
    refine cdG_sq ?_
    refine cd_region ?_
    refine ln_pv (pv_assign rfl) rfl ?_
    refine ln_nil ?_
    refine at_cdG ?_
    refine cdG_sq ?_
    refine cd_sr ?_
    refine ln_pv (pv_move rfl) rfl ?_
    refine ln_pv (pv_len_slice Tryd.underlying22 rfl) rfl ?_
    refine ln_pv (pv_ff (pv_lss rfl rfl) (by simp <;> omega)) rfl ?_
    refine ln_cd ?_
    refine cd_ff rfl ?_
    refine cd_skip ?_
    refine at_cdG ?_
    refine cdG_sq ?_
    refine cd_region ?_
    refine ln_pv (pv_move rfl) rfl ?_
    refine ln_pv (pv_ix8 (i := 0) Tryd.underlying22 tiuint8.size rfl rfl (by simp <;> omega)) rfl ?_
    refine ln_pv (pv_ldr (j := 0) (v := u8v x0) hrc Tryd.underlying5 rfl rfl rfl) rfl ?_
    refine ln_pv (pv_and' (k := .u8) (i := (x0.toNat : Int)) (j := 127) rfl rfl (r := ((x0.toNat : Int) % 128)) (and127_u8 (by omega) (by omega))) rfl ?_
    refine ln_pv (pv_conv' (k := .u8) (i := ((x0.toNat : Int) % 128)) Tryd.underlying5 Tryd.underlying55 rfl (r := ((x0.toNat : Int) % 128)) (by rw [wrap_u32_eq]; omega)) rfl ?_
    refine ln_pv (pv_assign rfl) rfl ?_
    refine ln_nil ?_
    refine at_cdG ?_
    refine cdG_sq ?_
    refine cd_sr ?_
    refine ln_pv (pv_move rfl) rfl ?_
    refine ln_pv (pv_ix8 (i := 0) Tryd.underlying22 tiuint8.size rfl rfl (by simp <;> omega)) rfl ?_
    refine ln_pv (pv_ldr (j := 0) (v := u8v x0) hrc Tryd.underlying5 rfl rfl rfl) rfl ?_
    refine ln_pv (pv_and' (k := .u8) (i := (x0.toNat : Int)) (j := 128) rfl rfl (r := 128) (by rw [and128_u8 (by omega) (by omega)]; rw [if_neg (by omega)])) rfl ?_
    refine ln_pv (pv_ff (pv_eql rfl rfl) (by decide)) rfl ?_
    refine ln_cd ?_
    refine cd_ff rfl ?_
    refine cd_sr ?_
    refine ln_pv (pv_move rfl) rfl ?_
    refine ln_pv (pv_len_slice Tryd.underlying22 rfl) rfl ?_
    refine ln_pv (pv_ff (pv_lss rfl rfl) (by simp <;> omega)) rfl ?_
    refine ln_cd ?_
    refine cd_ff rfl ?_
    refine cd_skip ?_
    refine at_cdG ?_
    refine cdG_sq ?_
    refine cd_region ?_
    refine ln_pv (pv_move rfl) rfl ?_
    refine ln_pv (pv_move rfl) rfl ?_
    refine ln_pv (pv_ix8 (i := 1) Tryd.underlying22 tiuint8.size rfl rfl (by simp <;> omega)) rfl ?_
    refine ln_pv (pv_ldr (j := 1) (v := u8v x1) hrc Tryd.underlying5 rfl rfl rfl) rfl ?_
    refine ln_pv (pv_and' (k := .u8) (i := (x1.toNat : Int)) (j := 127) rfl rfl (r := ((x1.toNat : Int) % 128)) (and127_u8 (by omega) (by omega))) rfl ?_
    refine ln_pv (pv_conv' (k := .u8) (i := ((x1.toNat : Int) % 128)) Tryd.underlying5 Tryd.underlying55 rfl (r := ((x1.toNat : Int) % 128)) (by rw [wrap_u32_eq]; omega)) rfl ?_
    refine ln_pv (pv_shl' (k := .u32) (i := ((x1.toNat : Int) % 128)) (j := 7) rfl rfl (by decide) (by decide) (r := (((x1.toNat : Int) % 128) * 128)) (by rw [wrap_u32_eq]; simp <;> omega)) rfl ?_
    refine ln_pv (pv_or' (k := .u32) (i := ((x0.toNat : Int) % 128)) (j := (((x1.toNat : Int) % 128) * 128)) rfl rfl (r := (((x0.toNat : Int) % 128) + (((x1.toNat : Int) % 128) * 128))) (or32 7 (by decide) _ _ (by omega) (by simp <;> omega) (by omega) (by omega) (by simp <;> omega))) rfl ?_
    refine ln_pv (pv_assign rfl) rfl ?_
    refine ln_nil ?_
    refine at_cdG ?_
    refine cdG_sq ?_
    refine cd_sr ?_
    refine ln_pv (pv_move rfl) rfl ?_
    refine ln_pv (pv_ix8 (i := 1) Tryd.underlying22 tiuint8.size rfl rfl (by simp <;> omega)) rfl ?_
    refine ln_pv (pv_ldr (j := 1) (v := u8v x1) hrc Tryd.underlying5 rfl rfl rfl) rfl ?_
    refine ln_pv (pv_and' (k := .u8) (i := (x1.toNat : Int)) (j := 128) rfl rfl (r := 128) (by rw [and128_u8 (by omega) (by omega)]; rw [if_neg (by omega)])) rfl ?_
    refine ln_pv (pv_ff (pv_eql rfl rfl) (by decide)) rfl ?_
    refine ln_cd ?_
    refine cd_ff rfl ?_
    refine cd_sr ?_
    refine ln_pv (pv_move rfl) rfl ?_
    refine ln_pv (pv_len_slice Tryd.underlying22 rfl) rfl ?_
    refine ln_pv (pv_ff (pv_lss rfl rfl) (by simp <;> omega)) rfl ?_
    refine ln_cd ?_
    refine cd_ff rfl ?_
    refine cd_skip ?_
    refine at_cdG ?_
    refine cdG_sq ?_
    refine cd_region ?_
    refine ln_pv (pv_move rfl) rfl ?_
    refine ln_pv (pv_move rfl) rfl ?_
    refine ln_pv (pv_ix8 (i := 2) Tryd.underlying22 tiuint8.size rfl rfl (by simp <;> omega)) rfl ?_
    refine ln_pv (pv_ldr (j := 2) (v := u8v x2) hrc Tryd.underlying5 rfl rfl rfl) rfl ?_
    refine ln_pv (pv_and' (k := .u8) (i := (x2.toNat : Int)) (j := 127) rfl rfl (r := ((x2.toNat : Int) % 128)) (and127_u8 (by omega) (by omega))) rfl ?_
    refine ln_pv (pv_conv' (k := .u8) (i := ((x2.toNat : Int) % 128)) Tryd.underlying5 Tryd.underlying55 rfl (r := ((x2.toNat : Int) % 128)) (by rw [wrap_u32_eq]; omega)) rfl ?_
    refine ln_pv (pv_shl' (k := .u32) (i := ((x2.toNat : Int) % 128)) (j := 14) rfl rfl (by decide) (by decide) (r := (((x2.toNat : Int) % 128) * 16384)) (by rw [wrap_u32_eq]; simp <;> omega)) rfl ?_
    refine ln_pv (pv_or' (k := .u32) (i := (((x0.toNat : Int) % 128) + (((x1.toNat : Int) % 128) * 128))) (j := (((x2.toNat : Int) % 128) * 16384)) rfl rfl (r := ((((x0.toNat : Int) % 128) + (((x1.toNat : Int) % 128) * 128)) + (((x2.toNat : Int) % 128) * 16384))) (or32 14 (by decide) _ _ (by omega) (by simp <;> omega) (by omega) (by omega) (by simp <;> omega))) rfl ?_
    refine ln_pv (pv_assign rfl) rfl ?_
    refine ln_nil ?_
    refine at_cdG ?_
    refine cdG_sq ?_
    refine cd_sr ?_
    refine ln_pv (pv_move rfl) rfl ?_
    refine ln_pv (pv_ix8 (i := 2) Tryd.underlying22 tiuint8.size rfl rfl (by simp <;> omega)) rfl ?_
    refine ln_pv (pv_ldr (j := 2) (v := u8v x2) hrc Tryd.underlying5 rfl rfl rfl) rfl ?_
    refine ln_pv (pv_and' (k := .u8) (i := (x2.toNat : Int)) (j := 128) rfl rfl (r := 128) (by rw [and128_u8 (by omega) (by omega)]; rw [if_neg (by omega)])) rfl ?_
    refine ln_pv (pv_ff (pv_eql rfl rfl) (by decide)) rfl ?_
    refine ln_cd ?_
    refine cd_ff rfl ?_
    refine cd_sr ?_
    refine ln_pv (pv_move rfl) rfl ?_
    refine ln_pv (pv_len_slice Tryd.underlying22 rfl) rfl ?_
    refine ln_pv (pv_ff (pv_lss rfl rfl) (by simp <;> omega)) rfl ?_
    refine ln_cd ?_
    refine cd_ff rfl ?_
    refine cd_skip ?_
    refine at_cdG ?_
    refine cdG_sq ?_
    refine cd_region ?_
    refine ln_pv (pv_move rfl) rfl ?_
    refine ln_pv (pv_move rfl) rfl ?_
    refine ln_pv (pv_ix8 (i := 3) Tryd.underlying22 tiuint8.size rfl rfl (by simp <;> omega)) rfl ?_
    refine ln_pv (pv_ldr (j := 3) (v := u8v x3) hrc Tryd.underlying5 rfl rfl rfl) rfl ?_
    refine ln_pv (pv_and' (k := .u8) (i := (x3.toNat : Int)) (j := 127) rfl rfl (r := ((x3.toNat : Int) % 128)) (and127_u8 (by omega) (by omega))) rfl ?_
    refine ln_pv (pv_conv' (k := .u8) (i := ((x3.toNat : Int) % 128)) Tryd.underlying5 Tryd.underlying55 rfl (r := ((x3.toNat : Int) % 128)) (by rw [wrap_u32_eq]; omega)) rfl ?_
    refine ln_pv (pv_shl' (k := .u32) (i := ((x3.toNat : Int) % 128)) (j := 21) rfl rfl (by decide) (by decide) (r := (((x3.toNat : Int) % 128) * 2097152)) (by rw [wrap_u32_eq]; simp <;> omega)) rfl ?_
    refine ln_pv (pv_or' (k := .u32) (i := ((((x0.toNat : Int) % 128) + (((x1.toNat : Int) % 128) * 128)) + (((x2.toNat : Int) % 128) * 16384))) (j := (((x3.toNat : Int) % 128) * 2097152)) rfl rfl (r := (((((x0.toNat : Int) % 128) + (((x1.toNat : Int) % 128) * 128)) + (((x2.toNat : Int) % 128) * 16384)) + (((x3.toNat : Int) % 128) * 2097152))) (or32 21 (by decide) _ _ (by omega) (by simp <;> omega) (by omega) (by omega) (by simp <;> omega))) rfl ?_
    refine ln_pv (pv_assign rfl) rfl ?_
    refine ln_nil ?_
    refine at_cdG ?_
    refine cdG_sqJ ?_
    refine cdG_sq ?_
    refine cd_region ?_
    refine ln_pv (pv_move rfl) rfl ?_
    refine ln_pv (pv_ix8 (i := 3) Tryd.underlying22 tiuint8.size rfl rfl (by simp <;> omega)) rfl ?_
    refine ln_pv (pv_ldr (j := 3) (v := u8v x3) hrc Tryd.underlying5 rfl rfl rfl) rfl ?_
    refine ln_pv (pv_and' (k := .u8) (i := (x3.toNat : Int)) (j := 128) rfl rfl (r := 128) (by rw [and128_u8 (by omega) (by omega)]; rw [if_neg (by omega)])) rfl ?_
    refine ln_pv (pv_ff (pv_eql rfl rfl) (by decide)) rfl ?_
    refine ln_nil ?_
    refine at_cdG ?_
    refine cdG_ff rfl ?_
    refine cdG_sq ?_
    refine cd_region ?_
    refine ln_pv (pv_move rfl) rfl ?_
    refine ln_pv (pv_len_slice Tryd.underlying22 rfl) rfl ?_
    refine ln_pv (pv_tt (pv_lss rfl rfl) (by simp <;> omega)) rfl ?_
    refine ln_nil ?_
    refine at_cdG ?_
    refine cdG_tt rfl ?_
    refine cdG_goto ?_
    exact at_jump () (Tr.refl _) (fun _ _ => trivial) (by repeat (first | exact .put rfl .nil | refine .skip rfl ?_)) (List.Sublist.refl _)
  refine cd_seq ?_
  refine cd_skip ?_
  refine at_cd ?_
  refine cd_sr ?_
  refine ln_pv (pv_move rfl) rfl ?_
  refine ln_pv (pv_assign rfl) rfl ?_
  refine ln_pv (pv_assign rfl) rfl ?_
  refine ln_cd ?_
  refine cd_ret ?_
  exact at_retA2 (K := 0) rfl rfl rfl (fun w hS => rfl)
theorem uvarint_s5 (t : Vw) (v : Value) (x0 x1 x2 x3 x4 : UInt8) (rest : List UInt8) (g0 : 128 ≤ x0.toNat) (g1 : 128 ≤ x1.toNat) (g2 : 128 ≤ x2.toNat) (g3 : 128 ≤ x3.toNat) (g4 : 15 < x4.toNat) (hv : RSv t v (x0 :: x1 :: x2 :: x3 :: x4 :: rest)) : CS Tryd.prog 170 [v] t (.tuple #[.int .u32 0, .int .i64 (-5)]) := by
  obtain ⟨ad, c, rfl, hc⟩ := RSv.shape hv
  obtain ⟨b, o, rfl, hrc⟩ := RS.pos hv (by simp) (by decide)
  simp only [u8s_cons] at hrc
  have hb0 := x0.toNat_lt
  have hb1 := x1.toNat_lt
  have hb2 := x2.toNat_lt
  have hb3 := x3.toNat_lt
  have hb4 := x4.toNat_lt
  refine CA.cs ?_
  refine ca_enter Tryd.func170 rfl Tryd.ntmps170 rfl ?_
  refine cd_sr ?_
  refine ln_pv (pv_assign rfl) rfl ?_
  refine ln_pv (pv_assign rfl) rfl ?_
  refine ln_cd ?_
  refine cd_scope0 ?_
  refine cd_sr ?_
  refine ln_pv (pv_assign rfl) rfl ?_
  refine ln_cd ?_
  refine cd_sr ?_
  refine ln_pv (pv_assign rfl) rfl ?_
  refine ln_cd ?_
  refine cd_seq ?_
  refine cd_sr ?_
  refine ln_pv (pv_move rfl) rfl ?_
  refine ln_pv (pv_len_slice Tryd.underlying22 rfl) rfl ?_
  refine ln_pv (pv_ff (pv_lss rfl rfl) (by simp <;> omega)) rfl ?_
  refine ln_cd ?_
  refine cd_ff rfl ?_
  refine cd_skip ?_
  refine at_cd ?_
  refine cd_sr ?_
  refine ln_pv (pv_move rfl) rfl ?_
  refine ln_pv (pv_ix8 (i := 0) Tryd.underlying22 tiuint8.size rfl rfl (by simp <;> omega)) rfl ?_
  refine ln_pv (pv_ldr (j := 0) (v := u8v x0) hrc Tryd.underlying5 rfl rfl rfl) rfl ?_
  refine ln_pv (pv_and' (k := .u8) (i := (x0.toNat : Int)) (j := 127) rfl rfl (r := ((x0.toNat : Int) % 128)) (and127_u8 (by omega) (by omega))) rfl ?_
  refine ln_pv (pv_conv' (k := .u8) (i := ((x0.toNat : Int) % 128)) Tryd.underlying5 Tryd.underlying55 rfl (r := ((x0.toNat : Int) % 128)) (by rw [wrap_u32_eq]; omega)) rfl ?_
  refine ln_pv (pv_assign rfl) rfl ?_
  refine ln_cd ?_
  refine cd_seq ?_
  refine cd_sr ?_
  refine ln_pv (pv_move rfl) rfl ?_
  refine ln_pv (pv_ix8 (i := 0) Tryd.underlying22 tiuint8.size rfl rfl (by simp <;> omega)) rfl ?_
  refine ln_pv (pv_ldr (j := 0) (v := u8v x0) hrc Tryd.underlying5 rfl rfl rfl) rfl ?_
  refine ln_pv (pv_and' (k := .u8) (i := (x0.toNat : Int)) (j := 128) rfl rfl (r := 128) (by rw [and128_u8 (by omega) (by omega)]; rw [if_neg (by omega)])) rfl ?_
  refine ln_pv (pv_ff (pv_eql rfl rfl) (by decide)) rfl ?_
  refine ln_cd ?_
  refine cd_ff rfl ?_
  refine cd_sr ?_
  refine ln_pv (pv_move rfl) rfl ?_
  refine ln_pv (pv_len_slice Tryd.underlying22 rfl) rfl ?_
  refine ln_pv (pv_ff (pv_lss rfl rfl) (by simp <;> omega)) rfl ?_
  refine ln_cd ?_
  refine cd_ff rfl ?_
  refine cd_skip ?_
  refine at_cd ?_
  refine cd_sr ?_
  refine ln_pv (pv_move rfl) rfl ?_
  refine ln_pv (pv_move rfl) rfl ?_
  refine ln_pv (pv_ix8 (i := 1) Tryd.underlying22 tiuint8.size rfl rfl (by simp <;> omega)) rfl ?_
  refine ln_pv (pv_ldr (j := 1) (v := u8v x1) hrc Tryd.underlying5 rfl rfl rfl) rfl ?_
  refine ln_pv (pv_and' (k := .u8) (i := (x1.toNat : Int)) (j := 127) rfl rfl (r := ((x1.toNat : Int) % 128)) (and127_u8 (by omega) (by omega))) rfl ?_
  refine ln_pv (pv_conv' (k := .u8) (i := ((x1.toNat : Int) % 128)) Tryd.underlying5 Tryd.underlying55 rfl (r := ((x1.toNat : Int) % 128)) (by rw [wrap_u32_eq]; omega)) rfl ?_
  refine ln_pv (pv_shl' (k := .u32) (i := ((x1.toNat : Int) % 128)) (j := 7) rfl rfl (by decide) (by decide) (r := (((x1.toNat : Int) % 128) * 128)) (by rw [wrap_u32_eq]; simp <;> omega)) rfl ?_
  refine ln_pv (pv_or' (k := .u32) (i := ((x0.toNat : Int) % 128)) (j := (((x1.toNat : Int) % 128) * 128)) rfl rfl (r := (((x0.toNat : Int) % 128) + (((x1.toNat : Int) % 128) * 128))) (or32 7 (by decide) _ _ (by omega) (by simp <;> omega) (by omega) (by omega) (by simp <;> omega))) rfl ?_
  refine ln_pv (pv_assign rfl) rfl ?_
  refine ln_cd ?_
  refine cd_seq ?_
  refine cd_sr ?_
  refine ln_pv (pv_move rfl) rfl ?_
  refine ln_pv (pv_ix8 (i := 1) Tryd.underlying22 tiuint8.size rfl rfl (by simp <;> omega)) rfl ?_
  refine ln_pv (pv_ldr (j := 1) (v := u8v x1) hrc Tryd.underlying5 rfl rfl rfl) rfl ?_
  refine ln_pv (pv_and' (k := .u8) (i := (x1.toNat : Int)) (j := 128) rfl rfl (r := 128) (by rw [and128_u8 (by omega) (by omega)]; rw [if_neg (by omega)])) rfl ?_
  refine ln_pv (pv_ff (pv_eql rfl rfl) (by decide)) rfl ?_
  refine ln_cd ?_
  refine cd_ff rfl ?_
  refine cd_sr ?_
  refine ln_pv (pv_move rfl) rfl ?_
  refine ln_pv (pv_len_slice Tryd.underlying22 rfl) rfl ?_
  refine ln_pv (pv_ff (pv_lss rfl rfl) (by simp <;> omega)) rfl ?_
  refine ln_cd ?_
  refine cd_ff rfl ?_
  refine cd_skip ?_
  refine at_cd ?_
  refine cd_sr ?_
  refine ln_pv (pv_move rfl) rfl ?_
  refine ln_pv (pv_move rfl) rfl ?_
  refine ln_pv (pv_ix8 (i := 2) Tryd.underlying22 tiuint8.size rfl rfl (by simp <;> omega)) rfl ?_
  refine ln_pv (pv_ldr (j := 2) (v := u8v x2) hrc Tryd.underlying5 rfl rfl rfl) rfl ?_
  refine ln_pv (pv_and' (k := .u8) (i := (x2.toNat : Int)) (j := 127) rfl rfl (r := ((x2.toNat : Int) % 128)) (and127_u8 (by omega) (by omega))) rfl ?_
  refine ln_pv (pv_conv' (k := .u8) (i := ((x2.toNat : Int) % 128)) Tryd.underlying5 Tryd.underlying55 rfl (r := ((x2.toNat : Int) % 128)) (by rw [wrap_u32_eq]; omega)) rfl ?_
  refine ln_pv (pv_shl' (k := .u32) (i := ((x2.toNat : Int) % 128)) (j := 14) rfl rfl (by decide) (by decide) (r := (((x2.toNat : Int) % 128) * 16384)) (by rw [wrap_u32_eq]; simp <;> omega)) rfl ?_
  refine ln_pv (pv_or' (k := .u32) (i := (((x0.toNat : Int) % 128) + (((x1.toNat : Int) % 128) * 128))) (j := (((x2.toNat : Int) % 128) * 16384)) rfl rfl (r := ((((x0.toNat : Int) % 128) + (((x1.toNat : Int) % 128) * 128)) + (((x2.toNat : Int) % 128) * 16384))) (or32 14 (by decide) _ _ (by omega) (by simp <;> omega) (by omega) (by omega) (by simp <;> omega))) rfl ?_
  refine ln_pv (pv_assign rfl) rfl ?_
  refine ln_cd ?_
  refine cd_seq ?_
  refine cd_sr ?_
  refine ln_pv (pv_move rfl) rfl ?_
  refine ln_pv (pv_ix8 (i := 2) Tryd.underlying22 tiuint8.size rfl rfl (by simp <;> omega)) rfl ?_
  refine ln_pv (pv_ldr (j := 2) (v := u8v x2) hrc Tryd.underlying5 rfl rfl rfl) rfl ?_
  refine ln_pv (pv_and' (k := .u8) (i := (x2.toNat : Int)) (j := 128) rfl rfl (r := 128) (by rw [and128_u8 (by omega) (by omega)]; rw [if_neg (by omega)])) rfl ?_
  refine ln_pv (pv_ff (pv_eql rfl rfl) (by decide)) rfl ?_
  refine ln_cd ?_
  refine cd_ff rfl ?_
  refine cd_sr ?_
  refine ln_pv (pv_move rfl) rfl ?_
  refine ln_pv (pv_len_slice Tryd.underlying22 rfl) rfl ?_
  refine ln_pv (pv_ff (pv_lss rfl rfl) (by simp <;> omega)) rfl ?_
  refine ln_cd ?_
  refine cd_ff rfl ?_
  refine cd_skip ?_
  refine at_cd ?_
  refine cd_sr ?_
  refine ln_pv (pv_move rfl) rfl ?_
  refine ln_pv (pv_move rfl) rfl ?_
  refine ln_pv (pv_ix8 (i := 3) Tryd.underlying22 tiuint8.size rfl rfl (by simp <;> omega)) rfl ?_
  refine ln_pv (pv_ldr (j := 3) (v := u8v x3) hrc Tryd.underlying5 rfl rfl rfl) rfl ?_
  refine ln_pv (pv_and' (k := .u8) (i := (x3.toNat : Int)) (j := 127) rfl rfl (r := ((x3.toNat : Int) % 128)) (and127_u8 (by omega) (by omega))) rfl ?_
  refine ln_pv (pv_conv' (k := .u8) (i := ((x3.toNat : Int) % 128)) Tryd.underlying5 Tryd.underlying55 rfl (r := ((x3.toNat : Int) % 128)) (by rw [wrap_u32_eq]; omega)) rfl ?_
  refine ln_pv (pv_shl' (k := .u32) (i := ((x3.toNat : Int) % 128)) (j := 21) rfl rfl (by decide) (by decide) (r := (((x3.toNat : Int) % 128) * 2097152)) (by rw [wrap_u32_eq]; simp <;> omega)) rfl ?_
  refine ln_pv (pv_or' (k := .u32) (i := ((((x0.toNat : Int) % 128) + (((x1.toNat : Int) % 128) * 128)) + (((x2.toNat : Int) % 128) * 16384))) (j := (((x3.toNat : Int) % 128) * 2097152)) rfl rfl (r := (((((x0.toNat : Int) % 128) + (((x1.toNat : Int) % 128) * 128)) + (((x2.toNat : Int) % 128) * 16384)) + (((x3.toNat : Int) % 128) * 2097152))) (or32 21 (by decide) _ _ (by omega) (by simp <;> omega) (by omega) (by omega) (by simp <;> omega))) rfl ?_
  refine ln_pv (pv_assign rfl) rfl ?_
  refine ln_cd ?_
  refine cd_seq ?_
  refine cd_sr ?_
  refine ln_pv (pv_move rfl) rfl ?_
  refine ln_pv (pv_ix8 (i := 3) Tryd.underlying22 tiuint8.size rfl rfl (by simp <;> omega)) rfl ?_
  refine ln_pv (pv_ldr (j := 3) (v := u8v x3) hrc Tryd.underlying5 rfl rfl rfl) rfl ?_
  refine ln_pv (pv_and' (k := .u8) (i := (x3.toNat : Int)) (j := 128) rfl rfl (r := 128) (by rw [and128_u8 (by omega) (by omega)]; rw [if_neg (by omega)])) rfl ?_
  refine ln_pv (pv_ff (pv_eql rfl rfl) (by decide)) rfl ?_
  refine ln_cd ?_
  refine cd_ff rfl ?_
  refine cd_sr ?_
  refine ln_pv (pv_move rfl) rfl ?_
  refine ln_pv (pv_len_slice Tryd.underlying22 rfl) rfl ?_
  refine ln_pv (pv_ff (pv_lss rfl rfl) (by simp <;> omega)) rfl ?_
  refine ln_cd ?_
  refine cd_ff rfl ?_
  refine cd_skip ?_
  refine at_cd ?_
  refine cd_sr ?_
  refine ln_pv (pv_move rfl) rfl ?_
  refine ln_pv (pv_move rfl) rfl ?_
  refine ln_pv (pv_ix8 (i := 4) Tryd.underlying22 tiuint8.size rfl rfl (by simp <;> omega)) rfl ?_
  refine ln_pv (pv_ldr (j := 4) (v := u8v x4) hrc Tryd.underlying5 rfl rfl rfl) rfl ?_
  refine ln_pv (pv_conv' (k := .u8) (i := (x4.toNat : Int)) Tryd.underlying5 Tryd.underlying55 rfl (r := (x4.toNat : Int)) (by rw [wrap_u32_eq]; omega)) rfl ?_
  refine ln_pv (pv_shl (k := .u32) rfl rfl (by decide) (by decide)) rfl ?_
  refine ln_pv (pv_or rfl rfl) rfl ?_
  refine ln_pv (pv_assign rfl) rfl ?_
  refine ln_cd ?_
  refine cd_seq ?_
  refine cd_sr ?_
  refine ln_pv (pv_move rfl) rfl ?_
  refine ln_pv (pv_ix8 (i := 4) Tryd.underlying22 tiuint8.size rfl rfl (by simp <;> omega)) rfl ?_
  refine ln_pv (pv_ldr (j := 4) (v := u8v x4) hrc Tryd.underlying5 rfl rfl rfl) rfl ?_
  refine ln_pv (pv_ff (pv_leq (k := .u8) (i := (x4.toNat : Int)) (j := 15) rfl rfl) (by omega)) rfl ?_
  refine ln_cd ?_
  refine cd_ff rfl ?_
  refine cd_skip ?_
  refine at_cd ?_
  refine cd_sr ?_
  refine ln_pv (pv_assign rfl) rfl ?_
  refine ln_cd ?_
  refine cd_label ?_
  refine cd_sr ?_
  refine ln_pv (pv_move rfl) rfl ?_
  refine ln_pv (pv_assign rfl) rfl ?_
  refine ln_pv (pv_assign rfl) rfl ?_
  refine ln_cd ?_
  refine cd_ret ?_
  exact at_retA2 (K := 0) rfl rfl rfl (fun w hS => rfl)
theorem uvarint_any (l : List UInt8) : ∃ (x : Nat) (m : Int), x < 4294967296 ∧ (m ≤ 0 ∨ (0 < m ∧ m ≤ l.length)) ∧ ∀ (t : Vw) (v : Value), RSv t v l → CS Tryd.prog 170 [v] t (.tuple #[.int .u32 (x : Int), .int .i64 m]) := by
  rcases l with _ | ⟨x0, l⟩
  · exact ⟨0, 0, by omega, .inl (by omega), fun t v hv => uvarint_s0 t v   hv⟩
  · skip
    by_cases g0 : x0.toNat < 128
    · have hb0 := x0.toNat_lt
      exact ⟨(((x0.toNat : Int) % 128)).toNat, 1, by omega, .inr ⟨by omega, by simp only [List.length_cons]; omega⟩, fun t v hv => by have h := uvarint_1 t v  x0 l  g0 hv; rwa [Int.toNat_of_nonneg (by omega)]⟩
    · have g0 : 128 ≤ x0.toNat := by omega
      rcases l with _ | ⟨x1, l⟩
      · exact ⟨0, 0, by omega, .inl (by omega), fun t v hv => uvarint_s1 t v x0 g0 hv⟩
      · skip
        by_cases g1 : x1.toNat < 128
        · have hb0 := x0.toNat_lt
          have hb1 := x1.toNat_lt
          exact ⟨((((x0.toNat : Int) % 128) + (((x1.toNat : Int) % 128) * 128))).toNat, 2, by omega, .inr ⟨by omega, by simp only [List.length_cons]; omega⟩, fun t v hv => by have h := uvarint_2 t v x0 x1 l g0 g1 hv; rwa [Int.toNat_of_nonneg (by omega)]⟩
        · have g1 : 128 ≤ x1.toNat := by omega
          rcases l with _ | ⟨x2, l⟩
          · exact ⟨0, 0, by omega, .inl (by omega), fun t v hv => uvarint_s2 t v x0 x1 g0 g1 hv⟩
          · skip
            by_cases g2 : x2.toNat < 128
            · have hb0 := x0.toNat_lt
              have hb1 := x1.toNat_lt
              have hb2 := x2.toNat_lt
              exact ⟨(((((x0.toNat : Int) % 128) + (((x1.toNat : Int) % 128) * 128)) + (((x2.toNat : Int) % 128) * 16384))).toNat, 3, by omega, .inr ⟨by omega, by simp only [List.length_cons]; omega⟩, fun t v hv => by have h := uvarint_3 t v x0 x1 x2 l g0 g1 g2 hv; rwa [Int.toNat_of_nonneg (by omega)]⟩
            · have g2 : 128 ≤ x2.toNat := by omega
              rcases l with _ | ⟨x3, l⟩
              · exact ⟨0, 0, by omega, .inl (by omega), fun t v hv => uvarint_s3 t v x0 x1 x2 g0 g1 g2 hv⟩
              · skip
                by_cases g3 : x3.toNat < 128
                · have hb0 := x0.toNat_lt
                  have hb1 := x1.toNat_lt
                  have hb2 := x2.toNat_lt
                  have hb3 := x3.toNat_lt
                  exact ⟨((((((x0.toNat : Int) % 128) + (((x1.toNat : Int) % 128) * 128)) + (((x2.toNat : Int) % 128) * 16384)) + (((x3.toNat : Int) % 128) * 2097152))).toNat, 4, by omega, .inr ⟨by omega, by simp only [List.length_cons]; omega⟩, fun t v hv => by have h := uvarint_4 t v x0 x1 x2 x3 l g0 g1 g2 g3 hv; rwa [Int.toNat_of_nonneg (by omega)]⟩
                · have g3 : 128 ≤ x3.toNat := by omega
                  rcases l with _ | ⟨x4, l⟩
                  · exact ⟨0, 0, by omega, .inl (by omega), fun t v hv => uvarint_s4 t v x0 x1 x2 x3 g0 g1 g2 g3 hv⟩
                  · skip
                    by_cases g4 : x4.toNat ≤ 15
                    · have hb0 := x0.toNat_lt
                      have hb1 := x1.toNat_lt
                      have hb2 := x2.toNat_lt
                      have hb3 := x3.toNat_lt
                      have hb4 := x4.toNat_lt
                      exact ⟨(((((((x0.toNat : Int) % 128) + (((x1.toNat : Int) % 128) * 128)) + (((x2.toNat : Int) % 128) * 16384)) + (((x3.toNat : Int) % 128) * 2097152)) + ((x4.toNat : Int) * 268435456))).toNat, 5, by omega, .inr ⟨by omega, by simp only [List.length_cons]; omega⟩, fun t v hv => by have h := uvarint_5 t v x0 x1 x2 x3 x4 l g0 g1 g2 g3 g4 hv; rwa [Int.toNat_of_nonneg (by omega)]⟩
                    · exact ⟨0, -5, by omega, .inl (by omega), fun t v hv => uvarint_s5 t v x0 x1 x2 x3 x4 l g0 g1 g2 g3 (by omega) hv⟩
noncomputable def uvV (l : List UInt8) : Nat := (uvarint_any l).choose
noncomputable def uvM (l : List UInt8) : Int := (uvarint_any l).choose_spec.choose
theorem uv_spec (l : List UInt8) : uvV l < 4294967296 ∧ (uvM l ≤ 0 ∨ (0 < uvM l ∧ uvM l ≤ l.length)) ∧ ∀ (t : Vw) (v : Value), RSv t v l → CS Tryd.prog 170 [v] t (.tuple #[.int .u32 (uvV l : Int), .int .i64 (uvM l)]) := (uvarint_any l).choose_spec.choose_spec
noncomputable def gUv (l : List UInt8) : Nat × List UInt8 × Bool := if uvM l ≤ 0 then (0, [], true) else (uvV l, l.drop (uvM l).toNat, false)
theorem rx_Uvarint (t : Vw) (x : Nat) (p rest : List UInt8) (hp : 0 < p.length) (hU : ∀ (u : Vw) (v : Value), RSv u v (p ++ rest) → CS Tryd.prog 170 [v] u (.tuple #[.int .u32 (x : Int), .int .i64 (p.length : Int)])) (b : Nat) (v : Value) (bad : Bool) (hv : RSv t v (p ++ rest)) (hok : (RdX b v bad).ok t.w) (hav : ∀ q ∈ (RdX b v bad).blk, t.av q) : CT Tryd.prog 145 [.pointer (some ⟨b, 0, none⟩)] t (RdX b v bad) fun u r e' => r = .int .u32 (x : Int) ∧ ∃ v', e' = RdX b v' bad ∧ RSn u v' rest := by
  obtain ⟨_, g, o, c, rfl⟩ := RSv.pos hv (by simp <;> omega)
  have hc : (p ++ rest).length ≤ c := by obtain ⟨_, c9, e9, h9⟩ := RSv.shape hv; simp only [Value.slice.injEq] at e9; omega
  refine ct_enter Tryd.func145 rfl Tryd.ntmps145 rfl hok hav (by simp [Ent.blk]) ?_
  refine cd_sr ?_
  refine ln_pv (pv_assign rfl) rfl ?_
  refine ln_cd ?_
  refine cd_sr ?_
  refine ln_pv (pv_move rfl) rfl ?_
  refine ln_pv (pv_nilCheck rfl) rfl ?_
  refine ln_pv (pv_fieldAddr (off := 0) (r := 0) Tryd.underlying142 rfl tiSl_uint8.size rfl rfl rfl) rfl ?_
  refine ln_pv (pv_ldo (i := 0) rfl Tryd.underlying22 rfl rfl rfl) rfl ?_
  refine ln_callS en_170 rfl (fun u hu => hU u _ (RSv.mv hv hu)) rfl ?_
  refine ln_pv (pv_move rfl) rfl ?_
  refine ln_pv (pv_extract rfl rfl) rfl ?_
  refine ln_pv (pv_extract rfl rfl) rfl ?_
  refine ln_pv (pv_assign rfl) rfl ?_
  refine ln_pv (pv_assign rfl) rfl ?_
  refine ln_cd ?_
  refine cd_seq ?_
  refine cd_sr ?_
  refine ln_pv (pv_move rfl) rfl ?_
  refine ln_pv (pv_ff (pv_leq rfl rfl) (by omega)) rfl ?_
  refine ln_cd ?_
  refine cd_ff rfl ?_
  refine cd_skip ?_
  refine at_cd ?_
  refine cd_sr ?_
  refine ln_pv (pv_move rfl) rfl ?_
  refine ln_pv (pv_move rfl) rfl ?_
  refine ln_pv (pv_nilCheck rfl) rfl ?_
  refine ln_pv (pv_fieldAddr (off := 0) (r := 0) Tryd.underlying142 rfl tiSl_uint8.size rfl rfl rfl) rfl ?_
  refine ln_pv (pv_ldo (i := 0) rfl Tryd.underlying22 rfl rfl rfl) rfl ?_
  refine ln_pv (pv_move rfl) rfl ?_
  refine ln_pv (pv_sliceV (i := (p).length) Tryd.underlying22 tiuint8.size rfl rfl (by simp) hc) rfl ?_
  refine ln_pv (pv_nilCheck rfl) rfl ?_
  refine ln_pv (pv_fieldAddr (off := 0) (r := 0) Tryd.underlying142 rfl tiSl_uint8.size rfl rfl rfl) rfl ?_
  refine ln_store1 (i := 0) rfl rfl rfl rfl tiSl_uint8.size rfl ?_
  refine ln_cd ?_
  refine cd_sr ?_
  refine ln_pv (pv_move rfl) rfl ?_
  refine ln_pv (pv_assign rfl) rfl ?_
  refine ln_cd ?_
  refine cd_ret ?_
  exact at_retT (i := 0) rfl rfl rfl (fun w hS => ⟨rfl, _, rfl, (RSv.drop hv).mv (hS.trFinT _ _)⟩)
theorem rf_Uvarint (t : Vw) (b : Nat) (v : Value) (bad : Bool) (bs : List UInt8) (hv : RSv t v bs) (hm : uvM bs ≤ 0) (hok : (RdX b v bad).ok t.w) (hav : ∀ q ∈ (RdX b v bad).blk, t.av q) : CT Tryd.prog 145 [.pointer (some ⟨b, 0, none⟩)] t (RdX b v bad) fun u r e' => r = .int .u32 0 ∧ e' = RdX b (.slice none 0 0) true := by
  refine ct_enter Tryd.func145 rfl Tryd.ntmps145 rfl hok hav (by simp [Ent.blk]) ?_
  refine cd_sr ?_
  refine ln_pv (pv_assign rfl) rfl ?_
  refine ln_cd ?_
  refine cd_sr ?_
  refine ln_pv (pv_move rfl) rfl ?_
  refine ln_pv (pv_nilCheck rfl) rfl ?_
  refine ln_pv (pv_fieldAddr (off := 0) (r := 0) Tryd.underlying142 rfl (tiSl_uint8).size rfl rfl rfl) rfl ?_
  refine ln_pv (pv_ldo (i := 0) rfl Tryd.underlying22 rfl rfl rfl) rfl ?_
  refine ln_callS en_170 rfl (fun u hu => (uv_spec bs).2.2 u _ (RSv.mv hv hu)) rfl ?_
  refine ln_pv (pv_move rfl) rfl ?_
  refine ln_pv (pv_extract rfl rfl) rfl ?_
  refine ln_pv (pv_extract rfl rfl) rfl ?_
  refine ln_pv (pv_assign rfl) rfl ?_
  refine ln_pv (pv_assign rfl) rfl ?_
  refine ln_cd ?_
  refine cd_seq ?_
  refine cd_sr ?_
  refine ln_pv (pv_move rfl) rfl ?_
  refine ln_pv (pv_tt (pv_leq rfl rfl) hm) rfl ?_
  refine ln_cd ?_
  refine cd_tt rfl ?_
  refine cd_sr ?_
  refine ln_pv (pv_move rfl) rfl ?_
  refine ln_pv (pv_nilCheck rfl) rfl ?_
  refine ln_pv (pv_fieldAddr (off := 1) (r := 1) Tryd.underlying142 rfl (tibool).size rfl rfl rfl) rfl ?_
  refine ln_store1 (i := 0) rfl rfl rfl rfl (tibool).size rfl ?_
  refine ln_cd ?_
  refine cd_sr ?_
  refine ln_pv (pv_move rfl) rfl ?_
  refine ln_pv (pv_nilCheck rfl) rfl ?_
  refine ln_pv (pv_fieldAddr (off := 0) (r := 0) Tryd.underlying142 rfl (tiSl_uint8).size rfl rfl rfl) rfl ?_
  refine ln_store1 (i := 0) rfl rfl rfl rfl (tiSl_uint8).size rfl ?_
  refine ln_cd ?_
  refine cd_sr ?_
  refine ln_pv (pv_assign rfl) rfl ?_
  refine ln_cd ?_
  refine cd_ret ?_
  exact at_retT (i := 0) rfl rfl rfl (fun w hS => ⟨rfl, rfl⟩)
theorem gx_Uvarint (t : Vw) : GxC 145 gUv (fun _ r z => r = .int .u32 (z : Int)) t := fun b v bad bs hv hok hav => by
  obtain ⟨hs1, hs2, hs3⟩ := uv_spec bs
  by_cases h : uvM bs ≤ 0
  · rw [show gUv bs = (0, [], true) from if_pos h]
    exact CT.mono (rf_Uvarint t b v bad bs hv h hok hav) fun u r e' ⟨h1, h2⟩ => ⟨h1, _, by rw [h2]; simp, RS_nil1⟩
  · rw [show gUv bs = (uvV bs, bs.drop (uvM bs).toNat, false) from if_neg h]
    have hp : (bs.take (uvM bs).toNat).length = (uvM bs).toNat := by rw [List.length_take]; omega
    have e : bs.take (uvM bs).toNat ++ bs.drop (uvM bs).toNat = bs := List.take_append_drop _ _
    exact CT.mono (rx_Uvarint t (uvV bs) (bs.take (uvM bs).toNat) (bs.drop (uvM bs).toNat) (by rw [hp]; omega) (fun u v hv => by
      have h3 := hs3 u v (by rwa [e] at hv)
      rwa [hp, Int.toNat_of_nonneg (by omega)]) b v bad (by rwa [e]) hok hav) fun u r e' ⟨h1, v', h2, h3⟩ => ⟨h1, v', by rw [h2]; simp, h3.1⟩
theorem rx_Span (t : Vw) (b : Nat) (v : Value) (bad : Bool) (bs rest : List UInt8) (hv : RSn t v (bs ++ rest)) (hok : (RdX b v bad).ok t.w) (hav : ∀ q ∈ (RdX b v bad).blk, t.av q) : CT Tryd.prog 147 [.pointer (some ⟨b, 0, none⟩), .int .i64 (bs.length : Int)] t (RdX b v bad) fun u r e' => RSn u r bs ∧ ∃ v', e' = RdX b v' bad ∧ RSn u v' rest := by
  obtain ⟨hv, g, o, c, rfl⟩ := hv
  have hc : (bs ++ rest).length ≤ c := by obtain ⟨_, c9, e9, h9⟩ := RSv.shape hv; simp only [Value.slice.injEq] at e9; omega
  refine ct_enter Tryd.func147 rfl Tryd.ntmps147 rfl hok hav (by simp [Ent.blk]) ?_
  refine cd_sr ?_
  refine ln_pv (pv_assign rfl) rfl ?_
  refine ln_cd ?_
  refine cd_seq ?_
  refine cd_sr ?_
  refine ln_pv (pv_move rfl) rfl ?_
  refine ln_pv (pv_nilCheck rfl) rfl ?_
  refine ln_pv (pv_fieldAddr (off := 0) (r := 0) Tryd.underlying142 rfl tiSl_uint8.size rfl rfl rfl) rfl ?_
  refine ln_pv (pv_ldo (i := 0) rfl Tryd.underlying22 rfl rfl rfl) rfl ?_
  refine ln_pv (pv_len_slice Tryd.underlying22 rfl) rfl ?_
  refine ln_pv (pv_move rfl) rfl ?_
  refine ln_pv (pv_ff (pv_lss rfl rfl) (by simp <;> omega)) rfl ?_
  refine ln_pv (pv_move rfl) rfl ?_
  refine ln_gt rfl rfl rfl (pv_move rfl) rfl ?_
  refine ln_gt rfl rfl rfl (pv_ff (pv_lss rfl rfl) (by omega)) rfl ?_
  refine ln_pv (pv_pick rfl (fun _ => rfl) (fun _ => rfl)) rfl ?_
  refine ln_cd ?_
  refine cd_ff rfl ?_
  refine cd_skip ?_
  refine at_cd ?_
  refine cd_sr ?_
  refine ln_pv (pv_move rfl) rfl ?_
  refine ln_pv (pv_nilCheck rfl) rfl ?_
  refine ln_pv (pv_fieldAddr (off := 0) (r := 0) Tryd.underlying142 rfl tiSl_uint8.size rfl rfl rfl) rfl ?_
  refine ln_pv (pv_ldo (i := 0) rfl Tryd.underlying22 rfl rfl rfl) rfl ?_
  refine ln_pv (pv_move rfl) rfl ?_
  refine ln_pv (pv_move rfl) rfl ?_
  refine ln_pv (pv_slice_3 (i := bs.length) Tryd.underlying22 (by rw [Option.isSome_iff_exists]; exact (Option.map_eq_some_iff.1 tiuint8.size).imp fun _ h => h.1) rfl rfl rfl (by simp at hc; omega)) rfl ?_
  refine ln_pv (pv_assign rfl) rfl ?_
  refine ln_cd ?_
  refine cd_sr ?_
  refine ln_pv (pv_move rfl) rfl ?_
  refine ln_pv (pv_move rfl) rfl ?_
  refine ln_pv (pv_nilCheck rfl) rfl ?_
  refine ln_pv (pv_fieldAddr (off := 0) (r := 0) Tryd.underlying142 rfl tiSl_uint8.size rfl rfl rfl) rfl ?_
  refine ln_pv (pv_ldo (i := 0) rfl Tryd.underlying22 rfl rfl rfl) rfl ?_
  refine ln_pv (pv_move rfl) rfl ?_
  refine ln_pv (pv_sliceV (i := bs.length) Tryd.underlying22 tiuint8.size rfl rfl (by simp) hc) rfl ?_
  refine ln_pv (pv_nilCheck rfl) rfl ?_
  refine ln_pv (pv_fieldAddr (off := 0) (r := 0) Tryd.underlying142 rfl tiSl_uint8.size rfl rfl rfl) rfl ?_
  refine ln_store1 (i := 0) rfl rfl rfl rfl tiSl_uint8.size rfl ?_
  refine ln_cd ?_
  refine cd_sr ?_
  refine ln_pv (pv_move rfl) rfl ?_
  refine ln_pv (pv_assign rfl) rfl ?_
  refine ln_cd ?_
  refine cd_ret ?_
  exact at_retT (i := 0) rfl rfl rfl (fun w hS => ⟨(RSv.take hv).mv (hS.trFinT _ _), _, rfl, (RSv.drop hv).mv (hS.trFinT _ _)⟩)
theorem rf_Span (t : Vw) (b : Nat) (v : Value) (bad : Bool) (bs : List UInt8) (l : Int) (hv : RSv t v bs) (hf : l < 0 ∨ (bs.length : Int) < l) (hok : (RdX b v bad).ok t.w) (hav : ∀ q ∈ (RdX b v bad).blk, t.av q) : CT Tryd.prog 147 [.pointer (some ⟨b, 0, none⟩), .int .i64 l] t (RdX b v bad) fun u r e' => r = .slice none 0 0 ∧ e' = RdX b (.slice none 0 0) true := by
  obtain ⟨ad, c, rfl, hc⟩ := RSv.shape hv
  refine ct_enter Tryd.func147 rfl Tryd.ntmps147 rfl hok hav (by simp [Ent.blk]) ?_
  by_cases hl : (bs.length : Int) < l
  · skip
    refine cd_sr ?_
    refine ln_pv (pv_assign rfl) rfl ?_
    refine ln_cd ?_
    refine cd_seq ?_
    refine cd_sr ?_
    refine ln_pv (pv_move rfl) rfl ?_
    refine ln_pv (pv_nilCheck rfl) rfl ?_
    refine ln_pv (pv_fieldAddr (off := 0) (r := 0) Tryd.underlying142 rfl (tiSl_uint8).size rfl rfl rfl) rfl ?_
    refine ln_pv (pv_ldo (i := 0) rfl Tryd.underlying22 rfl rfl rfl) rfl ?_
    refine ln_pv (pv_len_slice Tryd.underlying22 rfl) rfl ?_
    refine ln_pv (pv_move rfl) rfl ?_
    refine ln_pv (pv_tt (pv_lss rfl rfl) hl) rfl ?_
    refine ln_pv (pv_move rfl) rfl ?_
    refine ln_gf rfl rfl rfl rfl rfl ?_
    refine ln_gf rfl rfl rfl rfl rfl ?_
    refine ln_pv (pv_pick rfl (fun _ => rfl) (fun _ => rfl)) rfl ?_
    refine ln_cd ?_
    refine cd_tt rfl ?_
    refine cd_sr ?_
    refine ln_pv (pv_move rfl) rfl ?_
    refine ln_pv (pv_nilCheck rfl) rfl ?_
    refine ln_pv (pv_fieldAddr (off := 1) (r := 1) Tryd.underlying142 rfl (tibool).size rfl rfl rfl) rfl ?_
    refine ln_store1 (i := 0) rfl rfl rfl rfl (tibool).size rfl ?_
    refine ln_cd ?_
    refine cd_sr ?_
    refine ln_pv (pv_move rfl) rfl ?_
    refine ln_pv (pv_nilCheck rfl) rfl ?_
    refine ln_pv (pv_fieldAddr (off := 0) (r := 0) Tryd.underlying142 rfl (tiSl_uint8).size rfl rfl rfl) rfl ?_
    refine ln_store1 (i := 0) rfl rfl rfl rfl (tiSl_uint8).size rfl ?_
    refine ln_cd ?_
    refine cd_sr ?_
    refine ln_pv (pv_assign rfl) rfl ?_
    refine ln_cd ?_
    refine cd_ret ?_
    exact at_retT (i := 0) rfl rfl rfl (fun w hS => ⟨rfl, rfl⟩)
  · skip
    refine cd_sr ?_
    refine ln_pv (pv_assign rfl) rfl ?_
    refine ln_cd ?_
    refine cd_seq ?_
    refine cd_sr ?_
    refine ln_pv (pv_move rfl) rfl ?_
    refine ln_pv (pv_nilCheck rfl) rfl ?_
    refine ln_pv (pv_fieldAddr (off := 0) (r := 0) Tryd.underlying142 rfl (tiSl_uint8).size rfl rfl rfl) rfl ?_
    refine ln_pv (pv_ldo (i := 0) rfl Tryd.underlying22 rfl rfl rfl) rfl ?_
    refine ln_pv (pv_len_slice Tryd.underlying22 rfl) rfl ?_
    refine ln_pv (pv_move rfl) rfl ?_
    refine ln_pv (pv_ff (pv_lss rfl rfl) (by omega)) rfl ?_
    refine ln_pv (pv_move rfl) rfl ?_
    refine ln_gt rfl rfl rfl (pv_move rfl) rfl ?_
    refine ln_gt rfl rfl rfl (pv_tt (pv_lss rfl rfl) (by omega)) rfl ?_
    refine ln_pv (pv_pick rfl (fun _ => rfl) (fun _ => rfl)) rfl ?_
    refine ln_cd ?_
    refine cd_tt rfl ?_
    refine cd_sr ?_
    refine ln_pv (pv_move rfl) rfl ?_
    refine ln_pv (pv_nilCheck rfl) rfl ?_
    refine ln_pv (pv_fieldAddr (off := 1) (r := 1) Tryd.underlying142 rfl (tibool).size rfl rfl rfl) rfl ?_
    refine ln_store1 (i := 0) rfl rfl rfl rfl (tibool).size rfl ?_
    refine ln_cd ?_
    refine cd_sr ?_
    refine ln_pv (pv_move rfl) rfl ?_
    refine ln_pv (pv_nilCheck rfl) rfl ?_
    refine ln_pv (pv_fieldAddr (off := 0) (r := 0) Tryd.underlying142 rfl (tiSl_uint8).size rfl rfl rfl) rfl ?_
    refine ln_store1 (i := 0) rfl rfl rfl rfl (tiSl_uint8).size rfl ?_
    refine ln_cd ?_
    refine cd_sr ?_
    refine ln_pv (pv_assign rfl) rfl ?_
    refine ln_cd ?_
    refine cd_ret ?_
    exact at_retT (i := 0) rfl rfl rfl (fun w hS => ⟨rfl, rfl⟩)
theorem rz_Span (t : Vw) (b : Nat) (bad : Bool) (ad : Option Addr) (c : Nat) (hv : RSv t (.slice ad 0 c) []) (hok : (RdX b (.slice ad 0 c) bad).ok t.w) (hav : ∀ q ∈ (RdX b (.slice ad 0 c) bad).blk, t.av q) : CT Tryd.prog 147 [.pointer (some ⟨b, 0, none⟩), .int .i64 0] t (RdX b (.slice ad 0 c) bad) fun u r e' => r = .slice ad 0 0 ∧ e' = RdX b (.slice (if c = 0 then ad else ad.map (·.add 0)) (0 - 0) (c - 0)) bad := by
  refine ct_enter Tryd.func147 rfl Tryd.ntmps147 rfl hok hav (by simp [Ent.blk]) ?_
  refine cd_sr ?_
  refine ln_pv (pv_assign rfl) rfl ?_
  refine ln_cd ?_
  refine cd_seq ?_
  refine cd_sr ?_
  refine ln_pv (pv_move rfl) rfl ?_
  refine ln_pv (pv_nilCheck rfl) rfl ?_
  refine ln_pv (pv_fieldAddr (off := 0) (r := 0) Tryd.underlying142 rfl (tiSl_uint8).size rfl rfl rfl) rfl ?_
  refine ln_pv (pv_ldo (i := 0) rfl Tryd.underlying22 rfl rfl rfl) rfl ?_
  refine ln_pv (pv_len_slice Tryd.underlying22 rfl) rfl ?_
  refine ln_pv (pv_move rfl) rfl ?_
  refine ln_pv (pv_ff (pv_lss rfl rfl) (by decide)) rfl ?_
  refine ln_pv (pv_move rfl) rfl ?_
  refine ln_gt rfl rfl rfl (pv_move rfl) rfl ?_
  refine ln_gt rfl rfl rfl (pv_ff (pv_lss rfl rfl) (by decide)) rfl ?_
  refine ln_pv (pv_pick rfl (fun _ => rfl) (fun _ => rfl)) rfl ?_
  refine ln_cd ?_
  refine cd_ff rfl ?_
  refine cd_skip ?_
  refine at_cd ?_
  refine cd_sr ?_
  refine ln_pv (pv_move rfl) rfl ?_
  refine ln_pv (pv_nilCheck rfl) rfl ?_
  refine ln_pv (pv_fieldAddr (off := 0) (r := 0) Tryd.underlying142 rfl (tiSl_uint8).size rfl rfl rfl) rfl ?_
  refine ln_pv (pv_ldo (i := 0) rfl Tryd.underlying22 rfl rfl rfl) rfl ?_
  refine ln_pv (pv_move rfl) rfl ?_
  refine ln_pv (pv_move rfl) rfl ?_
  refine ln_pv (pv_slice_3 (i := 0) Tryd.underlying22 (by rw [Option.isSome_iff_exists]; exact (Option.map_eq_some_iff.1 tiuint8.size).imp fun _ h => h.1) rfl rfl rfl (by omega)) rfl ?_
  refine ln_pv (pv_assign rfl) rfl ?_
  refine ln_cd ?_
  refine cd_sr ?_
  refine ln_pv (pv_move rfl) rfl ?_
  refine ln_pv (pv_move rfl) rfl ?_
  refine ln_pv (pv_nilCheck rfl) rfl ?_
  refine ln_pv (pv_fieldAddr (off := 0) (r := 0) Tryd.underlying142 rfl (tiSl_uint8).size rfl rfl rfl) rfl ?_
  refine ln_pv (pv_ldo (i := 0) rfl Tryd.underlying22 rfl rfl rfl) rfl ?_
  refine ln_pv (pv_move rfl) rfl ?_
  refine ln_pv (pv_sliceV (i := 0) Tryd.underlying22 tiuint8.size rfl rfl (by omega) (by omega)) rfl ?_
  refine ln_pv (pv_nilCheck rfl) rfl ?_
  refine ln_pv (pv_fieldAddr (off := 0) (r := 0) Tryd.underlying142 rfl (tiSl_uint8).size rfl rfl rfl) rfl ?_
  refine ln_store1 (i := 0) rfl rfl rfl rfl (tiSl_uint8).size rfl ?_
  refine ln_cd ?_
  refine cd_sr ?_
  refine ln_pv (pv_move rfl) rfl ?_
  refine ln_pv (pv_assign rfl) rfl ?_
  refine ln_cd ?_
  refine cd_ret ?_
  exact at_retT (i := 0) rfl rfl rfl (fun w hS => ⟨rfl, rfl⟩)
def gSp (l : Int) (bs : List UInt8) : List UInt8 × List UInt8 × Bool := if l < 0 ∨ (bs.length : Int) < l then ([], [], true) else (bs.take l.toNat, bs.drop l.toNat, false)
theorem gx_Span (t : Vw) (l : Int) (b : Nat) (v : Value) (bad : Bool) (bs : List UInt8) (hv : RSv t v bs) (hok : (RdX b v bad).ok t.w) (hav : ∀ q ∈ (RdX b v bad).blk, t.av q) : CT Tryd.prog 147 [.pointer (some ⟨b, 0, none⟩), .int .i64 l] t (RdX b v bad) fun u r e' => RSv u r (gSp l bs).1 ∧ ∃ v', e' = RdX b v' (bad || (gSp l bs).2.2) ∧ RSv u v' (gSp l bs).2.1 := by
  by_cases h : l < 0 ∨ (bs.length : Int) < l
  · rw [show gSp l bs = ([], [], true) from if_pos h]
    exact CT.mono (rf_Span t b v bad bs l hv h hok hav) fun u r e' ⟨h1, h2⟩ => ⟨by rw [h1]; exact RS_nil1, _, by rw [h2]; simp, RS_nil1⟩
  · rw [show gSp l bs = (bs.take l.toNat, bs.drop l.toNat, false) from if_neg h]
    obtain ⟨k, rfl⟩ : ∃ k : Nat, l = (k : Int) := ⟨l.toNat, by omega⟩
    rw [Int.toNat_natCast]
    have e : bs.take k ++ bs.drop k = bs := List.take_append_drop _ _
    have hk : (bs.take k).length = k := by rw [List.length_take]; omega
    by_cases hb0 : bs.length = 0
    · have hb0 := List.eq_nil_of_length_eq_zero hb0
      subst hb0
      obtain rfl : k = 0 := by simp at h; omega
      obtain ⟨ad, c, rfl, hc⟩ := RSv.shape hv
      have hz : ∀ u, RSv u (.slice ad 0 0) [] ∧ RSv u (.slice (if c = 0 then ad else ad.map (·.add 0)) (0 - 0) (c - 0)) [] := fun u => by
        obtain ⟨_, _, h4⟩ := hv
        rcases h4 with ⟨hv1, _⟩ | ⟨a, c', hv1, _, _⟩
        · simp only [Value.slice.injEq] at hv1
          obtain ⟨rfl, _, rfl⟩ := hv1
          exact ⟨RS_nil1, RS_nil1⟩
        · simp only [Value.slice.injEq] at hv1
          obtain ⟨rfl, _, rfl⟩ := hv1
          refine ⟨⟨by simp, by simp, .inr ⟨a, 0, rfl, by simp, fun hn => absurd rfl hn⟩⟩, ?_⟩
          by_cases hc0 : c = 0
          · rw [if_pos hc0]; exact ⟨by simp, by simp, .inr ⟨a, _, rfl, by simp, fun hn => absurd rfl hn⟩⟩
          · rw [if_neg hc0]; exact ⟨by simp, by simp, .inr ⟨a.add 0, _, rfl, by simp, fun hn => absurd rfl hn⟩⟩
      exact CT.mono (rz_Span t b bad ad c hv hok hav) fun u r e' ⟨h1, h2⟩ => ⟨by rw [h1]; exact (hz u).1, _, by rw [h2]; simp, (hz u).2⟩
    · have hn := RSv.pos hv (by omega)
      have h5 := rx_Span t b v bad (bs.take k) (bs.drop k) (by rwa [e]) hok hav
      rw [hk] at h5
      exact CT.mono h5 fun u r e' ⟨h1, v', h2, h3⟩ => ⟨h1.1, v', by rw [h2]; simp, h3.1⟩
end K
end Go.Proofs.YtjjfpdofkdolnaaDoor
namespace Go.Proofs.YtjjfpdofkdolnaaDoor
namespace K
open Go Go.Lib
def gStr (bs : List UInt8) : List UInt8 × List UInt8 × Bool := ((gSp (IntKind.i64.wrap (IntKind.i16.wrap ((gN 2 bs).1 : Int))) (gN 2 bs).2.1).1, (gSp (IntKind.i64.wrap (IntKind.i16.wrap ((gN 2 bs).1 : Int))) (gN 2 bs).2.1).2.1, (gN 2 bs).2.2 || (gSp (IntKind.i64.wrap (IntKind.i16.wrap ((gN 2 bs).1 : Int))) (gN 2 bs).2.1).2.2)
noncomputable def uvL (bs : List UInt8) : Int := IntKind.i64.wrap (IntKind.i64.wrap ((gUv bs).1 : Int) - 1)
noncomputable def gCStr (bs : List UInt8) : List UInt8 × List UInt8 × Bool := ((gSp (uvL bs) (gUv bs).2.1).1, (gSp (uvL bs) (gUv bs).2.1).2.1, (gUv bs).2.2 || (gSp (uvL bs) (gUv bs).2.1).2.2)
theorem kbin_UnsafeString (t : Vw) (v : Value) (bs : List UInt8) (hv : RSv t v bs) : CS Tryd.prog 157 [v] t (.string ⟨bs.toArray⟩) := by
  refine CA.cs ?_
  refine ca_enter Tryd.func157 rfl Tryd.ntmps157 rfl ?_
  refine cd_sr ?_
  refine ln_pv (pv_assign rfl) rfl ?_
  refine ln_cd ?_
  refine cd_sr ?_
  refine ln_pv (pv_move rfl) rfl ?_
  refine ln_pv (pv_b2s hv Tryd.underlying22 Tryd.underlying5 Tryd.underlying9 rfl) rfl ?_
  refine ln_pv (pv_assign rfl) rfl ?_
  refine ln_cd ?_
  refine cd_ret ?_
  exact at_retA rfl rfl (fun w hS => rfl)
theorem gx_String (t : Vw) : GxC 117 gStr (fun _ r z => r = .string ⟨z.toArray⟩) t := by
  intro b v bad bs hv hok hav
  refine ct_enter Tryd.func117 rfl Tryd.ntmps117 rfl hok hav (by simp [Ent.blk]) ?_
  refine cd_sr ?_
  refine ln_pv (pv_assign rfl) rfl ?_
  refine ln_cd ?_
  refine cd_sr ?_
  refine ln_pv (pv_move rfl) rfl ?_
  refine ln_callT (i := 0) en_125 rfl rfl (fun u hu hok hav => gx_Int16 u b v bad bs (RSv.mv hv hu) hok hav) rfl ?_
  rintro u1 _ _ ht1 ⟨ux1, ⟨rfl, v1, rfl, hv1⟩, hx1⟩
  have hv1 := RSv.mv hv1 hx1
  refine ln_pv (pv_assign rfl) rfl ?_
  refine ln_cd ?_
  refine cd_sr ?_
  refine ln_pv (pv_move rfl) rfl ?_
  refine ln_pv (pv_move rfl) rfl ?_
  refine ln_pv (pv_conv Tryd.underlying45 Tryd.underlying3 rfl) rfl ?_
  refine ln_callT (i := 0) (vals := [.pointer (some ⟨b, 0, none⟩), .int .i64 (IntKind.i64.wrap (IntKind.i16.wrap ((gN 2 bs).1 : Int)))]) en_147 rfl rfl (fun u hu hok hav => gx_Span u _ b v1 _ _ (RSv.mv hv1 hu) hok hav) rfl ?_
  rintro u2 r2 _ ht2 ⟨ux2, ⟨hr2, v2, rfl, hv2⟩, hx2⟩
  have hv2 := RSv.mv hv2 hx2
  have hr2 := RSv.mv hr2 hx2
  refine ln_pv (pv_b2s hr2 Tryd.underlying22 Tryd.underlying5 Tryd.underlying9 rfl) rfl ?_
  refine ln_pv (pv_assign rfl) rfl ?_
  refine ln_cd ?_
  refine cd_ret ?_
  exact at_retT (i := 0) rfl rfl rfl (fun w hS => ⟨rfl, _, by rw [Bool.or_assoc]; rfl, RSv.mv hv2 (hS.trFinT _ _)⟩)
theorem gx_UnsafeString (t : Vw) : GxC 115 gStr (fun _ r z => r = .string ⟨z.toArray⟩) t := by
  intro b v bad bs hv hok hav
  refine ct_enter Tryd.func115 rfl Tryd.ntmps115 rfl hok hav (by simp [Ent.blk]) ?_
  refine cd_sr ?_
  refine ln_pv (pv_assign rfl) rfl ?_
  refine ln_cd ?_
  refine cd_sr ?_
  refine ln_pv (pv_move rfl) rfl ?_
  refine ln_callT (i := 0) en_125 rfl rfl (fun u hu hok hav => gx_Int16 u b v bad bs (RSv.mv hv hu) hok hav) rfl ?_
  rintro u1 _ _ ht1 ⟨ux1, ⟨rfl, v1, rfl, hv1⟩, hx1⟩
  have hv1 := RSv.mv hv1 hx1
  refine ln_pv (pv_assign rfl) rfl ?_
  refine ln_cd ?_
  refine cd_sr ?_
  refine ln_pv (pv_move rfl) rfl ?_
  refine ln_pv (pv_move rfl) rfl ?_
  refine ln_pv (pv_conv Tryd.underlying45 Tryd.underlying3 rfl) rfl ?_
  refine ln_callT (i := 0) (vals := [.pointer (some ⟨b, 0, none⟩), .int .i64 (IntKind.i64.wrap (IntKind.i16.wrap ((gN 2 bs).1 : Int)))]) en_147 rfl rfl (fun u hu hok hav => gx_Span u _ b v1 _ _ (RSv.mv hv1 hu) hok hav) rfl ?_
  rintro u2 r2 _ ht2 ⟨ux2, ⟨hr2, v2, rfl, hv2⟩, hx2⟩
  have hv2 := RSv.mv hv2 hx2
  have hr2 := RSv.mv hr2 hx2
  refine ln_callS en_157 rfl (fun u hu => kbin_UnsafeString u _ _ (RSv.mv hr2 hu)) rfl ?_
  refine ln_pv (pv_assign rfl) rfl ?_
  refine ln_cd ?_
  refine cd_ret ?_
  exact at_retT (i := 0) rfl rfl rfl (fun w hS => ⟨rfl, _, by rw [Bool.or_assoc]; rfl, RSv.mv hv2 (hS.trFinT _ _)⟩)
theorem gx_CompactString (t : Vw) : GxC 116 gCStr (fun _ r z => r = .string ⟨z.toArray⟩) t := by
  intro b v bad bs hv hok hav
  refine ct_enter Tryd.func116 rfl Tryd.ntmps116 rfl hok hav (by simp [Ent.blk]) ?_
  refine cd_sr ?_
  refine ln_pv (pv_assign rfl) rfl ?_
  refine ln_cd ?_
  refine cd_sr ?_
  refine ln_pv (pv_move rfl) rfl ?_
  refine ln_callT (i := 0) en_145 rfl rfl (fun u hu hok hav => gx_Uvarint u b v bad bs (RSv.mv hv hu) hok hav) rfl ?_
  rintro u1 _ _ ht1 ⟨ux1, ⟨rfl, v1, rfl, hv1⟩, hx1⟩
  have hv1 := RSv.mv hv1 hx1
  refine ln_pv (pv_conv Tryd.underlying55 Tryd.underlying3 rfl) rfl ?_
  refine ln_pv (pv_sub rfl rfl) rfl ?_
  refine ln_pv (pv_assign rfl) rfl ?_
  refine ln_cd ?_
  refine cd_sr ?_
  refine ln_pv (pv_move rfl) rfl ?_
  refine ln_pv (pv_move rfl) rfl ?_
  refine ln_callT (i := 0) (vals := [.pointer (some ⟨b, 0, none⟩), .int .i64 (uvL bs)]) en_147 rfl rfl (fun u hu hok hav => gx_Span u _ b v1 _ _ (RSv.mv hv1 hu) hok hav) rfl ?_
  rintro u2 r2 _ ht2 ⟨ux2, ⟨hr2, v2, rfl, hv2⟩, hx2⟩
  have hv2 := RSv.mv hv2 hx2
  have hr2 := RSv.mv hr2 hx2
  refine ln_pv (pv_b2s hr2 Tryd.underlying22 Tryd.underlying5 Tryd.underlying9 rfl) rfl ?_
  refine ln_pv (pv_assign rfl) rfl ?_
  refine ln_cd ?_
  refine cd_ret ?_
  exact at_retT (i := 0) rfl rfl rfl (fun w hS => ⟨rfl, _, by rw [Bool.or_assoc]; rfl, RSv.mv hv2 (hS.trFinT _ _)⟩)
theorem gx_UnsafeCompactString (t : Vw) : GxC 114 gCStr (fun _ r z => r = .string ⟨z.toArray⟩) t := by
  intro b v bad bs hv hok hav
  refine ct_enter Tryd.func114 rfl Tryd.ntmps114 rfl hok hav (by simp [Ent.blk]) ?_
  refine cd_sr ?_
  refine ln_pv (pv_assign rfl) rfl ?_
  refine ln_cd ?_
  refine cd_sr ?_
  refine ln_pv (pv_move rfl) rfl ?_
  refine ln_callT (i := 0) en_145 rfl rfl (fun u hu hok hav => gx_Uvarint u b v bad bs (RSv.mv hv hu) hok hav) rfl ?_
  rintro u1 _ _ ht1 ⟨ux1, ⟨rfl, v1, rfl, hv1⟩, hx1⟩
  have hv1 := RSv.mv hv1 hx1
  refine ln_pv (pv_conv Tryd.underlying55 Tryd.underlying3 rfl) rfl ?_
  refine ln_pv (pv_sub rfl rfl) rfl ?_
  refine ln_pv (pv_assign rfl) rfl ?_
  refine ln_cd ?_
  refine cd_sr ?_
  refine ln_pv (pv_move rfl) rfl ?_
  refine ln_pv (pv_move rfl) rfl ?_
  refine ln_callT (i := 0) (vals := [.pointer (some ⟨b, 0, none⟩), .int .i64 (uvL bs)]) en_147 rfl rfl (fun u hu hok hav => gx_Span u _ b v1 _ _ (RSv.mv hv1 hu) hok hav) rfl ?_
  rintro u2 r2 _ ht2 ⟨ux2, ⟨hr2, v2, rfl, hv2⟩, hx2⟩
  have hv2 := RSv.mv hv2 hx2
  have hr2 := RSv.mv hr2 hx2
  refine ln_callS en_157 rfl (fun u hu => kbin_UnsafeString u _ _ (RSv.mv hr2 hu)) rfl ?_
  refine ln_pv (pv_assign rfl) rfl ?_
  refine ln_cd ?_
  refine cd_ret ?_
  exact at_retT (i := 0) rfl rfl rfl (fun w hS => ⟨rfl, _, by rw [Bool.or_assoc]; rfl, RSv.mv hv2 (hS.trFinT _ _)⟩)
def gLen (n : Int) (bs : List UInt8) (bad : Bool) : Int × List UInt8 × Bool := if (bs.length : Int) < IntKind.i64.wrap n then (0, [], true) else (n, bs, bad)
def gAL (bs : List UInt8) : Int × List UInt8 × Bool := gLen (IntKind.i32.wrap ((gN 4 bs).1 : Int)) (gN 4 bs).2.1 (gN 4 bs).2.2
noncomputable def gCAL (bs : List UInt8) : Int × List UInt8 × Bool := gLen (IntKind.i32.wrap (IntKind.i32.wrap ((gUv bs).1 : Int) - 1)) (gUv bs).2.1 (gUv bs).2.2
theorem gLen_ok {n : Int} {bs : List UInt8} {b : Bool} (h : ¬ (bs.length : Int) < IntKind.i64.wrap n) : gLen n bs b = (n, bs, b) := if_neg h
theorem gLen_no {n : Int} {bs : List UInt8} {b : Bool} (h : (bs.length : Int) < IntKind.i64.wrap n) : gLen n bs b = (0, [], true) := if_pos h
theorem gx_ArrayLen (t : Vw) : GxC 111 gAL (fun _ r z => r = .int .i32 z) t := by
  intro b v bad bs hv hok hav
  refine ct_enter Tryd.func111 rfl Tryd.ntmps111 rfl hok hav (by simp [Ent.blk]) ?_
  refine cd_sr ?_
  refine ln_pv (pv_assign rfl) rfl ?_
  refine ln_cd ?_
  refine cd_sr ?_
  refine ln_pv (pv_move rfl) rfl ?_
  refine ln_callT (i := 0) en_122 rfl rfl (fun u hu hok hav => gx_Int32 u b v bad bs (RSv.mv hv hu) hok hav) rfl ?_
  rintro u1 _ _ ht1 ⟨ux1, ⟨rfl, v1, rfl, hv1⟩, hx1⟩
  have hv1 := RSv.mv hv1 hx1
  obtain ⟨ad1, c1, rfl, hc1⟩ := RSv.shape hv1
  refine ln_pv (pv_assign rfl) rfl ?_
  refine ln_cd ?_
  refine cd_seq ?_
  refine cd_sr ?_
  refine ln_pv (pv_move rfl) rfl ?_
  refine ln_pv (pv_nilCheck rfl) rfl ?_
  refine ln_pv (pv_fieldAddr (off := 0) (r := 0) Tryd.underlying142 rfl tiSl_uint8.size rfl rfl rfl) rfl ?_
  refine ln_pv (pv_ldo (i := 0) rfl Tryd.underlying22 rfl rfl rfl) rfl ?_
  refine ln_pv (pv_len_slice Tryd.underlying22 rfl) rfl ?_
  refine ln_pv (pv_move rfl) rfl ?_
  refine ln_pv (pv_conv Tryd.underlying21 Tryd.underlying3 rfl) rfl ?_
  by_cases hl : (((gN 4 bs).2.1.length : Nat) : Int) < IntKind.i64.wrap (IntKind.i32.wrap ((gN 4 bs).1 : Int))
  · rw [show gAL bs = _ from gLen_no hl]
    refine ln_pv (pv_tt (pv_lss rfl rfl) hl) rfl ?_
    refine ln_cd ?_
    refine cd_tt rfl ?_
    refine cd_sr ?_
    refine ln_pv (pv_move rfl) rfl ?_
    refine ln_pv (pv_nilCheck rfl) rfl ?_
    refine ln_pv (pv_fieldAddr (off := 1) (r := 1) Tryd.underlying142 rfl tibool.size rfl rfl rfl) rfl ?_
    refine ln_store1 (i := 0) rfl rfl rfl rfl tibool.size rfl ?_
    refine ln_cd ?_
    refine cd_sr ?_
    refine ln_pv (pv_move rfl) rfl ?_
    refine ln_pv (pv_nilCheck rfl) rfl ?_
    refine ln_pv (pv_fieldAddr (off := 0) (r := 0) Tryd.underlying142 rfl tiSl_uint8.size rfl rfl rfl) rfl ?_
    refine ln_store1 (i := 0) rfl rfl rfl rfl tiSl_uint8.size rfl ?_
    refine ln_cd ?_
    refine cd_sr ?_
    refine ln_pv (pv_assign rfl) rfl ?_
    refine ln_cd ?_
    refine cd_ret ?_
    exact at_retT (i := 0) rfl rfl rfl (fun w hS => ⟨rfl, _, by simp, RS_nil1⟩)
  · rw [show gAL bs = _ from gLen_ok hl]
    refine ln_pv (pv_ff (pv_lss rfl rfl) hl) rfl ?_
    refine ln_cd ?_
    refine cd_ff rfl ?_
    refine cd_skip ?_
    refine at_cd ?_
    refine cd_sr ?_
    refine ln_pv (pv_move rfl) rfl ?_
    refine ln_pv (pv_assign rfl) rfl ?_
    refine ln_cd ?_
    refine cd_ret ?_
    exact at_retT (i := 0) rfl rfl rfl (fun w hS => ⟨rfl, _, rfl, RSv.mv hv1 (hS.trFinT _ _)⟩)
theorem gx_CompactArrayLen (t : Vw) : GxC 110 gCAL (fun _ r z => r = .int .i32 z) t := by
  intro b v bad bs hv hok hav
  refine ct_enter Tryd.func110 rfl Tryd.ntmps110 rfl hok hav (by simp [Ent.blk]) ?_
  refine cd_sr ?_
  refine ln_pv (pv_assign rfl) rfl ?_
  refine ln_cd ?_
  refine cd_sr ?_
  refine ln_pv (pv_move rfl) rfl ?_
  refine ln_callT (i := 0) en_145 rfl rfl (fun u hu hok hav => gx_Uvarint u b v bad bs (RSv.mv hv hu) hok hav) rfl ?_
  rintro u1 _ _ ht1 ⟨ux1, ⟨rfl, v1, rfl, hv1⟩, hx1⟩
  have hv1 := RSv.mv hv1 hx1
  obtain ⟨ad1, c1, rfl, hc1⟩ := RSv.shape hv1
  refine ln_pv (pv_conv Tryd.underlying55 Tryd.underlying21 rfl) rfl ?_
  refine ln_pv (pv_sub rfl rfl) rfl ?_
  refine ln_pv (pv_assign rfl) rfl ?_
  refine ln_cd ?_
  refine cd_seq ?_
  refine cd_sr ?_
  refine ln_pv (pv_move rfl) rfl ?_
  refine ln_pv (pv_nilCheck rfl) rfl ?_
  refine ln_pv (pv_fieldAddr (off := 0) (r := 0) Tryd.underlying142 rfl tiSl_uint8.size rfl rfl rfl) rfl ?_
  refine ln_pv (pv_ldo (i := 0) rfl Tryd.underlying22 rfl rfl rfl) rfl ?_
  refine ln_pv (pv_len_slice Tryd.underlying22 rfl) rfl ?_
  refine ln_pv (pv_move rfl) rfl ?_
  refine ln_pv (pv_conv Tryd.underlying21 Tryd.underlying3 rfl) rfl ?_
  by_cases hl : (((gUv bs).2.1.length : Nat) : Int) < IntKind.i64.wrap (IntKind.i32.wrap (IntKind.i32.wrap ((gUv bs).1 : Int) - 1))
  · rw [show gCAL bs = _ from gLen_no hl]
    refine ln_pv (pv_tt (pv_lss rfl rfl) hl) rfl ?_
    refine ln_cd ?_
    refine cd_tt rfl ?_
    refine cd_sr ?_
    refine ln_pv (pv_move rfl) rfl ?_
    refine ln_pv (pv_nilCheck rfl) rfl ?_
    refine ln_pv (pv_fieldAddr (off := 1) (r := 1) Tryd.underlying142 rfl tibool.size rfl rfl rfl) rfl ?_
    refine ln_store1 (i := 0) rfl rfl rfl rfl tibool.size rfl ?_
    refine ln_cd ?_
    refine cd_sr ?_
    refine ln_pv (pv_move rfl) rfl ?_
    refine ln_pv (pv_nilCheck rfl) rfl ?_
    refine ln_pv (pv_fieldAddr (off := 0) (r := 0) Tryd.underlying142 rfl tiSl_uint8.size rfl rfl rfl) rfl ?_
    refine ln_store1 (i := 0) rfl rfl rfl rfl tiSl_uint8.size rfl ?_
    refine ln_cd ?_
    refine cd_sr ?_
    refine ln_pv (pv_assign rfl) rfl ?_
    refine ln_cd ?_
    refine cd_ret ?_
    exact at_retT (i := 0) rfl rfl rfl (fun w hS => ⟨rfl, _, by simp, RS_nil1⟩)
  · rw [show gCAL bs = _ from gLen_ok hl]
    refine ln_pv (pv_ff (pv_lss rfl rfl) hl) rfl ?_
    refine ln_cd ?_
    refine cd_ff rfl ?_
    refine cd_skip ?_
    refine at_cd ?_
    refine cd_sr ?_
    refine ln_pv (pv_move rfl) rfl ?_
    refine ln_pv (pv_assign rfl) rfl ?_
    refine ln_cd ?_
    refine cd_ret ?_
    exact at_retT (i := 0) rfl rfl rfl (fun w hS => ⟨rfl, _, rfl, RSv.mv hv1 (hS.trFinT _ _)⟩)
theorem gx_Ok (t : Vw) (b : Nat) (v : Value) (bad : Bool) (hok : (RdX b v bad).ok t.w) (hav : ∀ q ∈ (RdX b v bad).blk, t.av q) : CT Tryd.prog 112 [.pointer (some ⟨b, 0, none⟩)] t (RdX b v bad) fun u r e' => r = .bool (!bad) ∧ e' = RdX b v bad := by
  refine ct_enter Tryd.func112 rfl Tryd.ntmps112 rfl hok hav (by simp [Ent.blk]) ?_
  refine cd_sr ?_
  refine ln_pv (pv_assign rfl) rfl ?_
  refine ln_cd ?_
  refine cd_sr ?_
  refine ln_pv (pv_move rfl) rfl ?_
  refine ln_pv (pv_nilCheck rfl) rfl ?_
  refine ln_pv (pv_fieldAddr (off := 1) (r := 1) Tryd.underlying142 rfl tibool.size rfl rfl rfl) rfl ?_
  refine ln_pv (pv_ldo (i := 0) rfl Tryd.underlying4 rfl rfl rfl) rfl ?_
  refine ln_pv (pv_not rfl) rfl ?_
  refine ln_pv (pv_assign rfl) rfl ?_
  refine ln_cd ?_
  refine cd_ret ?_
  exact at_retT (i := 0) rfl rfl rfl (fun w hS => ⟨rfl, rfl⟩)
end K
end Go.Proofs.YtjjfpdofkdolnaaDoor
