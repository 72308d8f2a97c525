import Derived.Test.YtepbicjadambbabGreatDoorS10
set_option linter.unusedVariables false
set_option linter.unusedSimpArgs false
namespace Go.Proofs.YtepbicjadambbabGreatDoor
namespace K
open Go Go.Lib
theorem pv_indexS {P : Program} {S : World → Prop} {n : Nat} {L : Env} {d : Option Nat} {g : Option (Nat × Bool)} {ty : TypeId} {pos : String} {af : Array Edge} {t : TypeId} {x y : Operand} {z : ByteArray} {k : IntKind} {i : Nat} {r : UInt8} (hu : P.underlying t = some .string) (hx : ev L x = some (.string z)) (hy : ev L y = some (.int k (i : Int))) (hr : z[i]? = some r) :
    PV P S ⟨d, .index t x y, ty, pos, af, g⟩ n L (.int .u8 (r.toNat : Int)) := fun a w hF _ => by
  simp [execOp, hF.ev hx, hF.ev hy, Instr.index, asIntOf, run_underlying hu, hr]
def len8 (y : Nat) : Nat := if y = 0 then 0 else if y < 2 then 1 else if y < 4 then 2 else if y < 8 then 3 else if y < 16 then 4 else if y < 32 then 5 else if y < 64 then 6 else if y < 128 then 7 else 8
def ulen (x : Nat) : Nat := if x < 128 then 1 else if x < 16384 then 2 else if x < 2097152 then 3 else if x < 268435456 then 4 else 5
def ltab (r : Nat) : Nat := if r < 8 then 1 else if r < 15 then 2 else if r < 22 then 3 else if r < 29 then 4 else 5
def len32 (x : Nat) : Nat := if x ≥ 65536 then (if x / 65536 ≥ 256 then 24 + len8 (x / 16777216) else 16 + len8 (x / 65536)) else if x ≥ 256 then 8 + len8 (x / 256) else len8 x
theorem tab_at {z : ByteArray} {g : Nat → Nat} {m : Nat} (h : (List.range m).all (fun i => z[i]? == some (UInt8.ofNat (g i))) = true) {i : Nat} (hi : i < m) : z[i]? = some (UInt8.ofNat (g i)) := by
  have := List.all_eq_true.1 h i (List.mem_range.2 hi)
  simpa using this
theorem len8_le (y : Nat) : len8 y ≤ 8 := by unfold len8; ((repeat' split) <;> omega)
theorem len32_le (x : Nat) : len32 x ≤ 32 := by
  unfold len32
  have h1 := len8_le (x / 16777216)
  have h2 := len8_le (x / 65536)
  have h3 := len8_le (x / 256)
  have h4 := len8_le x
  (repeat' split) <;> omega
theorem len8_cases {y : Nat} (h : y < 256) : (y = 0 ∧ len8 y = 0) ∨ (y = 1 ∧ len8 y = 1) ∨ (2 ≤ y ∧ y < 4 ∧ len8 y = 2) ∨ (4 ≤ y ∧ y < 8 ∧ len8 y = 3) ∨ (8 ≤ y ∧ y < 16 ∧ len8 y = 4) ∨ (16 ≤ y ∧ y < 32 ∧ len8 y = 5) ∨ (32 ≤ y ∧ y < 64 ∧ len8 y = 6) ∨ (64 ≤ y ∧ y < 128 ∧ len8 y = 7) ∨ (128 ≤ y ∧ len8 y = 8) := by
  unfold len8
  (repeat' split) <;> omega
theorem ltab_cases (r : Nat) : (r < 8 ∧ ltab r = 1) ∨ (8 ≤ r ∧ r < 15 ∧ ltab r = 2) ∨ (15 ≤ r ∧ r < 22 ∧ ltab r = 3) ∨ (22 ≤ r ∧ r < 29 ∧ ltab r = 4) ∨ (29 ≤ r ∧ ltab r = 5) := by
  unfold ltab
  (repeat' split) <;> omega
theorem ulen_cases (x : Nat) : (x < 128 ∧ ulen x = 1) ∨ (128 ≤ x ∧ x < 16384 ∧ ulen x = 2) ∨ (16384 ≤ x ∧ x < 2097152 ∧ ulen x = 3) ∨ (2097152 ≤ x ∧ x < 268435456 ∧ ulen x = 4) ∨ (268435456 ≤ x ∧ ulen x = 5) := by
  unfold ulen
  (repeat' split) <;> omega
theorem ulen_eq {x : Nat} (hx : x < 4294967296) : ltab (len32 x) = ulen x := by
  have h1 := ltab_cases (len32 x)
  have h2 := ulen_cases x
  unfold len32 at h1 ⊢
  split at h1
  · rename_i ha
    rw [if_pos ha]
    split at h1
    · rename_i hb
      rw [if_pos hb]
      rcases len8_cases (y := x / 16777216) (by omega) with h | h | h | h | h | h | h | h | h <;> omega
    · rename_i hb
      rw [if_neg hb]
      rcases len8_cases (y := x / 65536) (by omega) with h | h | h | h | h | h | h | h | h <;> omega
  · rename_i ha
    rw [if_neg ha]
    split at h1
    · rename_i hb
      rw [if_pos hb]
      rcases len8_cases (y := x / 256) (by omega) with h | h | h | h | h | h | h | h | h <;> omega
    · rename_i hb
      rw [if_neg hb]
      rcases len8_cases (y := x) (by omega) with h | h | h | h | h | h | h | h | h <;> omega
theorem ulen_conv {x : Nat} (hx : x < 4294967296) : IntKind.i64.wrap (((UInt8.ofNat (ltab (len32 x))).toNat : Nat) : Int) = ((ulen x : Nat) : Int) := by
  have h := ulen_cases x
  rw [ulen_eq hx, UInt8.toNat_ofNat', Nat.mod_eq_of_lt (by omega), wrap_i64 (by omega) (by omega)]
def AppC (f : FuncId) (args : List Value) (bs : List UInt8) (t : Vw) : Prop := ∀ (v : Value) (L : List UInt8), L.length + bs.length ≤ 4398046511104 → (Ent.row v 5 1 L.length (u8s L)).ok t.w → (∀ b ∈ (Ent.row v 5 1 L.length (u8s L)).blk, t.av b) →
  CT Tryz.prog f (v :: args) t (.row v 5 1 L.length (u8s L)) fun _ r e' => e' = .row r 5 1 (L ++ bs).length (u8s (L ++ bs)) ∧ r.oneCell' = true
theorem uvar_u8 (x : Nat) : b8 ((x : Int) % 128 + 128) = b8 (x % 128 + 128 : Nat) := by congr 1
theorem b8_nat (x : Nat) : b8 ((x : Nat) : Int) = UInt8.ofNat x := by
  apply UInt8.toNat_inj.1
  have h := b8_val (x := ((x % 256 : Nat) : Int)) (by omega) (by omega)
  rw [show b8 ((x : Nat) : Int) = b8 ((x % 256 : Nat) : Int) from b8_congr (by omega)]
  simp only [UInt8.toNat_ofNat']
  omega
theorem bits_Len32 (t : Vw) (x : Nat) (hx : x < 4294967296) : CS Tryz.prog 67 [.int .u32 (x : Int)] t (.int .i64 ((len32 x : Nat) : Int)) := by
  refine CA.cs ?_
  refine ca_enter Tryz.func67 rfl Tryz.ntmps67 rfl ?_
  by_cases h1 : (x : Int) ≥ 65536
  · by_cases h2 : ((x / 65536 : Nat) : Int) ≥ 256
    · skip
      refine cd_sr ?_
      refine ln_pv (pv_assign rfl) rfl ?_
      refine ln_cd ?_
      refine cd_seq ?_
      refine cd_sr ?_
      refine ln_pv (pv_move rfl) rfl ?_
      refine ln_pv (pv_tt (pv_geq rfl rfl) h1) rfl ?_
      refine ln_cd ?_
      refine cd_tt rfl ?_
      refine cd_sr ?_
      refine ln_pv (pv_move rfl) rfl ?_
      refine ln_pv (pv_shr' rfl rfl (by decide) (by decide) (r := ((x / 65536 : Nat) : Int)) (by simp)) rfl ?_
      refine ln_pv (pv_assign rfl) rfl ?_
      refine ln_cd ?_
      refine cd_region ?_
      refine ln_pv (pv_assign rfl) rfl ?_
      refine ln_nil ?_
      refine at_cd ?_
      refine cd_seq ?_
      refine cd_sr ?_
      refine ln_pv (pv_move rfl) rfl ?_
      refine ln_pv (pv_tt (pv_geq rfl rfl) h2) rfl ?_
      refine ln_cd ?_
      refine cd_tt rfl ?_
      refine cd_sr ?_
      refine ln_pv (pv_move rfl) rfl ?_
      refine ln_pv (pv_shr' rfl rfl (by decide) (by decide) (r := ((x / 16777216 : Nat) : Int)) (by simp; omega)) rfl ?_
      refine ln_pv (pv_assign rfl) rfl ?_
      refine ln_cd ?_
      refine cd_region ?_
      refine ln_pv (pv_move rfl) rfl ?_
      refine ln_pv (pv_add' rfl rfl (r := 24) (by rw [wrap_i64 (by omega) (by omega)]; rfl)) rfl ?_
      refine ln_pv (pv_assign rfl) rfl ?_
      refine ln_nil ?_
      refine at_cd ?_
      refine cd_sr ?_
      refine ln_pv (pv_move rfl) rfl ?_
      refine ln_pv (pv_move rfl) rfl ?_
      refine ln_pv (pv_conv' Tryz.underlying53 Tryz.underlying5 rfl (r := ((x / 16777216 : Nat) : Int)) (wrap_u8_in (by omega) (by omega))) rfl ?_
      refine ln_pv (pv_indexS (i := x / 16777216) Tryz.underlying9 rfl rfl (tab_at (g := len8) (m := 256) (by kernel_rfl) (by omega))) rfl ?_
      refine ln_pv (pv_conv' Tryz.underlying5 Tryz.underlying3 rfl (r := ((len8 (x / 16777216) : Nat) : Int)) (by have := len8_le (x / 16777216); rw [UInt8.toNat_ofNat']; rw [wrap_i64 (by omega) (by omega)]; omega)) rfl ?_
      refine ln_pv (pv_add' rfl rfl (r := ((len32 x : Nat) : Int)) (by have := len8_le (x / 16777216); rw [wrap_i64 (by omega) (by omega)]; simp only [len32]; rw [if_pos (by omega), if_pos (by omega)]; omega)) rfl ?_
      refine ln_pv (pv_assign rfl) rfl ?_
      refine ln_cd ?_
      refine cd_ret ?_
      exact at_retA rfl rfl (fun w hS => rfl)
    · skip
      refine cd_sr ?_
      refine ln_pv (pv_assign rfl) rfl ?_
      refine ln_cd ?_
      refine cd_seq ?_
      refine cd_sr ?_
      refine ln_pv (pv_move rfl) rfl ?_
      refine ln_pv (pv_tt (pv_geq rfl rfl) h1) rfl ?_
      refine ln_cd ?_
      refine cd_tt rfl ?_
      refine cd_sr ?_
      refine ln_pv (pv_move rfl) rfl ?_
      refine ln_pv (pv_shr' rfl rfl (by decide) (by decide) (r := ((x / 65536 : Nat) : Int)) (by simp)) rfl ?_
      refine ln_pv (pv_assign rfl) rfl ?_
      refine ln_cd ?_
      refine cd_region ?_
      refine ln_pv (pv_assign rfl) rfl ?_
      refine ln_nil ?_
      refine at_cd ?_
      refine cd_seq ?_
      refine cd_sr ?_
      refine ln_pv (pv_move rfl) rfl ?_
      refine ln_pv (pv_ff (pv_geq rfl rfl) h2) rfl ?_
      refine ln_cd ?_
      refine cd_ff rfl ?_
      refine cd_skip ?_
      refine at_cd ?_
      refine cd_sr ?_
      refine ln_pv (pv_move rfl) rfl ?_
      refine ln_pv (pv_move rfl) rfl ?_
      refine ln_pv (pv_conv' Tryz.underlying53 Tryz.underlying5 rfl (r := ((x / 65536 : Nat) : Int)) (wrap_u8_in (by omega) (by omega))) rfl ?_
      refine ln_pv (pv_indexS (i := x / 65536) Tryz.underlying9 rfl rfl (tab_at (g := len8) (m := 256) (by kernel_rfl) (by omega))) rfl ?_
      refine ln_pv (pv_conv' Tryz.underlying5 Tryz.underlying3 rfl (r := ((len8 (x / 65536) : Nat) : Int)) (by have := len8_le (x / 65536); rw [UInt8.toNat_ofNat']; rw [wrap_i64 (by omega) (by omega)]; omega)) rfl ?_
      refine ln_pv (pv_add' rfl rfl (r := ((len32 x : Nat) : Int)) (by have := len8_le (x / 65536); rw [wrap_i64 (by omega) (by omega)]; simp only [len32]; rw [if_pos (by omega), if_neg (by omega)]; omega)) rfl ?_
      refine ln_pv (pv_assign rfl) rfl ?_
      refine ln_cd ?_
      refine cd_ret ?_
      exact at_retA rfl rfl (fun w hS => rfl)
  · by_cases h2 : (x : Int) ≥ 256
    · skip
      refine cd_sr ?_
      refine ln_pv (pv_assign rfl) rfl ?_
      refine ln_cd ?_
      refine cd_seq ?_
      refine cd_sr ?_
      refine ln_pv (pv_move rfl) rfl ?_
      refine ln_pv (pv_ff (pv_geq rfl rfl) h1) rfl ?_
      refine ln_cd ?_
      refine cd_ff rfl ?_
      refine cd_skip ?_
      refine at_cd ?_
      refine cd_seq ?_
      refine cd_sr ?_
      refine ln_pv (pv_move rfl) rfl ?_
      refine ln_pv (pv_tt (pv_geq rfl rfl) h2) rfl ?_
      refine ln_cd ?_
      refine cd_tt rfl ?_
      refine cd_sr ?_
      refine ln_pv (pv_move rfl) rfl ?_
      refine ln_pv (pv_shr' rfl rfl (by decide) (by decide) (r := ((x / 256 : Nat) : Int)) (by simp)) rfl ?_
      refine ln_pv (pv_assign rfl) rfl ?_
      refine ln_cd ?_
      refine cd_region ?_
      refine ln_pv (pv_move rfl) rfl ?_
      refine ln_pv (pv_add' rfl rfl (r := 8) (by rw [wrap_i64 (by omega) (by omega)]; rfl)) rfl ?_
      refine ln_pv (pv_assign rfl) rfl ?_
      refine ln_nil ?_
      refine at_cd ?_
      refine cd_sr ?_
      refine ln_pv (pv_move rfl) rfl ?_
      refine ln_pv (pv_move rfl) rfl ?_
      refine ln_pv (pv_conv' Tryz.underlying53 Tryz.underlying5 rfl (r := ((x / 256 : Nat) : Int)) (wrap_u8_in (by omega) (by omega))) rfl ?_
      refine ln_pv (pv_indexS (i := x / 256) Tryz.underlying9 rfl rfl (tab_at (g := len8) (m := 256) (by kernel_rfl) (by omega))) rfl ?_
      refine ln_pv (pv_conv' Tryz.underlying5 Tryz.underlying3 rfl (r := ((len8 (x / 256) : Nat) : Int)) (by have := len8_le (x / 256); rw [UInt8.toNat_ofNat']; rw [wrap_i64 (by omega) (by omega)]; omega)) rfl ?_
      refine ln_pv (pv_add' rfl rfl (r := ((len32 x : Nat) : Int)) (by have := len8_le (x / 256); rw [wrap_i64 (by omega) (by omega)]; simp only [len32]; rw [if_neg (by omega), if_pos (by omega)]; omega)) rfl ?_
      refine ln_pv (pv_assign rfl) rfl ?_
      refine ln_cd ?_
      refine cd_ret ?_
      exact at_retA rfl rfl (fun w hS => rfl)
    · skip
      refine cd_sr ?_
      refine ln_pv (pv_assign rfl) rfl ?_
      refine ln_cd ?_
      refine cd_seq ?_
      refine cd_sr ?_
      refine ln_pv (pv_move rfl) rfl ?_
      refine ln_pv (pv_ff (pv_geq rfl rfl) h1) rfl ?_
      refine ln_cd ?_
      refine cd_ff rfl ?_
      refine cd_skip ?_
      refine at_cd ?_
      refine cd_seq ?_
      refine cd_sr ?_
      refine ln_pv (pv_move rfl) rfl ?_
      refine ln_pv (pv_ff (pv_geq rfl rfl) h2) rfl ?_
      refine ln_cd ?_
      refine cd_ff rfl ?_
      refine cd_skip ?_
      refine at_cd ?_
      refine cd_sr ?_
      refine ln_pv (pv_move rfl) rfl ?_
      refine ln_pv (pv_move rfl) rfl ?_
      refine ln_pv (pv_conv' Tryz.underlying53 Tryz.underlying5 rfl (r := ((x : Nat) : Int)) (wrap_u8_in (by omega) (by omega))) rfl ?_
      refine ln_pv (pv_indexS (i := x) Tryz.underlying9 rfl rfl (tab_at (g := len8) (m := 256) (by kernel_rfl) (by omega))) rfl ?_
      refine ln_pv (pv_conv' Tryz.underlying5 Tryz.underlying3 rfl (r := ((len8 (x) : Nat) : Int)) (by have := len8_le (x); rw [UInt8.toNat_ofNat']; rw [wrap_i64 (by omega) (by omega)]; omega)) rfl ?_
      refine ln_pv (pv_add' rfl rfl (r := ((len32 x : Nat) : Int)) (by have := len8_le (x); rw [wrap_i64 (by omega) (by omega)]; simp only [len32]; rw [if_neg (by omega), if_neg (by omega)]; omega)) rfl ?_
      refine ln_pv (pv_assign rfl) rfl ?_
      refine ln_cd ?_
      refine cd_ret ?_
      exact at_retA rfl rfl (fun w hS => rfl)
theorem kbin_UvarintLen (t : Vw) (x : Nat) (hx : x < 4294967296) : CS Tryz.prog 60 [.int .u32 (x : Int)] t (.int .i64 ((ulen x : Nat) : Int)) := by
  have hl := len32_le x
  refine CA.cs ?_
  refine ca_enter Tryz.func60 rfl Tryz.ntmps60 rfl ?_
  refine cd_sr ?_
  refine ln_pv (pv_assign rfl) rfl ?_
  refine ln_cd ?_
  refine cd_sr ?_
  refine ln_pv (pv_move rfl) rfl ?_
  refine ln_callS en_67 rfl (fun u hu => bits_Len32 u x hx) rfl ?_
  refine ln_pv (pv_conv' Tryz.underlying3 Tryz.underlying5 rfl (r := ((len32 x : Nat) : Int)) (wrap_u8_in (by omega) (by omega))) rfl ?_
  refine ln_pv (pv_indexS (i := len32 x) Tryz.underlying9 rfl rfl (tab_at (g := ltab) (m := 33) (by kernel_rfl) (by omega))) rfl ?_
  refine ln_pv (pv_conv' Tryz.underlying5 Tryz.underlying3 rfl (r := ((ulen x : Nat) : Int)) (ulen_conv hx)) rfl ?_
  refine ln_pv (pv_assign rfl) rfl ?_
  refine ln_cd ?_
  refine cd_ret ?_
  exact at_retA rfl rfl (fun w hS => rfl)
theorem kbin_AppendUint16 (t : Vw) (x : Int) : AppC 58 [.int .u16 x] (fixed x 2) t := by
  intro v L hB hrow hav
  refine ct_enter Tryz.func58 rfl Tryz.ntmps58 rfl hrow hav (by simp only [Ent.blk]; cases v.ownBlock <;> simp) ?_
  have hB2 : L.length + 2 ≤ 4398046511104 := by rw [fixed_length] at hB; exact hB
  refine cd_sr ?_
  refine ln_pv (pv_assign rfl) rfl ?_
  refine ln_cd ?_
  refine cd_sr ?_
  refine ln_pv (pv_move rfl) rfl ?_
  refine ln_pv (pv_move rfl) rfl ?_
  refine ln_pv (pv_shr' rfl rfl (by decide) (by decide) (r := x / 2 ^ (8 * 1)) rfl) rfl ?_
  refine ln_pv (pv_conv' Tryz.underlying99 Tryz.underlying5 rfl (wrap_u8 _)) rfl ?_
  refine ln_pv (pv_move rfl) rfl ?_
  refine ln_pv (pv_conv' Tryz.underlying99 Tryz.underlying5 rfl (r := ((b8 (x / 2 ^ (8 * 0))).toNat : Int)) (by simp only [Nat.mul_zero, Int.pow_zero, Int.ediv_one]; exact wrap_u8 _)) rfl ?_
  refine ln_lit (vs := [_, _]) Tryz.underlying22 tiuint8 rfl (by decide) rfl rfl rfl rfl rfl rfl (fun b1 => ?_)
  refine ln_append (i := 1) rfl Tryz.underlying22 tiuint8 rfl (by decide) rfl rfl (src_obj (j := 0) rfl rfl rfl) (by first | omega | (simp only [maxLen]; omega)) (by first | omega | (simp only [maxLen]; omega)) rfl (k' := (L ++ fixed x 2).length) (xs' := u8s (L ++ fixed x 2)) (by simp [fixed]) (by simp [u8s, u8v, fixed, flat, Value.cells]) (fun v1 hv1 => ?_)
  refine ln_pv (pv_assign rfl) rfl ?_
  refine ln_cd ?_
  refine cd_ret ?_
  exact at_retT (i := 1) rfl rfl rfl (fun w hS => ⟨rfl, hv1.2⟩)
theorem kbin_AppendUint32 (t : Vw) (x : Int) : AppC 57 [.int .u32 x] (fixed x 4) t := by
  intro v L hB hrow hav
  refine ct_enter Tryz.func57 rfl Tryz.ntmps57 rfl hrow hav (by simp only [Ent.blk]; cases v.ownBlock <;> simp) ?_
  have hB2 : L.length + 4 ≤ 4398046511104 := by rw [fixed_length] at hB; exact hB
  refine cd_sr ?_
  refine ln_pv (pv_assign rfl) rfl ?_
  refine ln_cd ?_
  refine cd_sr ?_
  refine ln_pv (pv_move rfl) rfl ?_
  refine ln_pv (pv_move rfl) rfl ?_
  refine ln_pv (pv_shr' rfl rfl (by decide) (by decide) (r := x / 2 ^ (8 * 3)) rfl) rfl ?_
  refine ln_pv (pv_conv' Tryz.underlying53 Tryz.underlying5 rfl (wrap_u8 _)) rfl ?_
  refine ln_pv (pv_move rfl) rfl ?_
  refine ln_pv (pv_shr' rfl rfl (by decide) (by decide) (r := x / 2 ^ (8 * 2)) rfl) rfl ?_
  refine ln_pv (pv_conv' Tryz.underlying53 Tryz.underlying5 rfl (wrap_u8 _)) rfl ?_
  refine ln_pv (pv_move rfl) rfl ?_
  refine ln_pv (pv_shr' rfl rfl (by decide) (by decide) (r := x / 2 ^ (8 * 1)) rfl) rfl ?_
  refine ln_pv (pv_conv' Tryz.underlying53 Tryz.underlying5 rfl (wrap_u8 _)) rfl ?_
  refine ln_pv (pv_move rfl) rfl ?_
  refine ln_pv (pv_conv' Tryz.underlying53 Tryz.underlying5 rfl (r := ((b8 (x / 2 ^ (8 * 0))).toNat : Int)) (by simp only [Nat.mul_zero, Int.pow_zero, Int.ediv_one]; exact wrap_u8 _)) rfl ?_
  refine ln_lit (vs := [_, _, _, _]) Tryz.underlying22 tiuint8 rfl (by decide) rfl rfl rfl rfl rfl rfl (fun b1 => ?_)
  refine ln_append (i := 1) rfl Tryz.underlying22 tiuint8 rfl (by decide) rfl rfl (src_obj (j := 0) rfl rfl rfl) (by first | omega | (simp only [maxLen]; omega)) (by first | omega | (simp only [maxLen]; omega)) rfl (k' := (L ++ fixed x 4).length) (xs' := u8s (L ++ fixed x 4)) (by simp [fixed]) (by simp [u8s, u8v, fixed, flat, Value.cells]) (fun v1 hv1 => ?_)
  refine ln_pv (pv_assign rfl) rfl ?_
  refine ln_cd ?_
  refine cd_ret ?_
  exact at_retT (i := 1) rfl rfl rfl (fun w hS => ⟨rfl, hv1.2⟩)
theorem kbin_AppendInt16 (t : Vw) (x : Int) : AppC 31 [.int .i16 x] (fixed x 2) t := by
  intro v L hB hrow hav
  refine ct_enter Tryz.func31 rfl Tryz.ntmps31 rfl hrow hav (by simp only [Ent.blk]; cases v.ownBlock <;> simp) ?_
  have e : fixed (x % 2 ^ (8 * 2)) 2 = fixed x 2 := fixed_mod x 2 2 (Nat.le_refl _)
  refine cd_sr ?_
  refine ln_pv (pv_assign rfl) rfl ?_
  refine ln_cd ?_
  refine cd_sr ?_
  refine ln_pv (pv_move rfl) rfl ?_
  refine ln_pv (pv_move rfl) rfl ?_
  refine ln_pv (pv_conv' Tryz.underlying40 Tryz.underlying99 rfl (r := x % 2 ^ (8 * 2)) (by rw [wrap_u16_eq]; rfl)) rfl ?_
  refine ln_callT (i := 0) en_58 rfl rfl (fun u hu hok hav => (e ▸ kbin_AppendUint16 u (x % 2 ^ (8 * 2))) _ _ (by first | exact hB | omega | (simp only [List.length_append] at *; omega)) hok hav) rfl ?_
  rintro u1 v1 _ ht1 ⟨_, ⟨rfl, h1v1⟩, _⟩
  refine ln_pv (pv_assign rfl) rfl ?_
  refine ln_cd ?_
  refine cd_ret ?_
  exact at_retT (i := 0) rfl rfl rfl (fun w hS => ⟨rfl, h1v1⟩)
theorem kbin_AppendInt32 (t : Vw) (x : Int) : AppC 30 [.int .i32 x] (fixed x 4) t := by
  intro v L hB hrow hav
  refine ct_enter Tryz.func30 rfl Tryz.ntmps30 rfl hrow hav (by simp only [Ent.blk]; cases v.ownBlock <;> simp) ?_
  have e : fixed (x % 2 ^ (8 * 4)) 4 = fixed x 4 := fixed_mod x 4 4 (Nat.le_refl _)
  refine cd_sr ?_
  refine ln_pv (pv_assign rfl) rfl ?_
  refine ln_cd ?_
  refine cd_sr ?_
  refine ln_pv (pv_move rfl) rfl ?_
  refine ln_pv (pv_move rfl) rfl ?_
  refine ln_pv (pv_conv' Tryz.underlying21 Tryz.underlying53 rfl (r := x % 2 ^ (8 * 4)) (by rw [wrap_u32_eq]; rfl)) rfl ?_
  refine ln_callT (i := 0) en_57 rfl rfl (fun u hu hok hav => (e ▸ kbin_AppendUint32 u (x % 2 ^ (8 * 4))) _ _ (by first | exact hB | omega | (simp only [List.length_append] at *; omega)) hok hav) rfl ?_
  rintro u1 v1 _ ht1 ⟨_, ⟨rfl, h1v1⟩, _⟩
  refine ln_pv (pv_assign rfl) rfl ?_
  refine ln_cd ?_
  refine cd_ret ?_
  exact at_retT (i := 0) rfl rfl rfl (fun w hS => ⟨rfl, h1v1⟩)
theorem kbin_AppendUvarint (t : Vw) (x : Nat) (hx : x < 4294967296) : AppC 35 [.int .u32 (x : Int)] (uvar x) t := by
  intro v L hB hrow hav
  refine ct_enter Tryz.func35 rfl Tryz.ntmps35 rfl hrow hav (by simp only [Ent.blk]; cases v.ownBlock <;> simp) ?_
  by_cases h1 : x < 128
  · skip
    have hul : ulen x = 1 := by unfold ulen; ((repeat' split) <;> omega)
    have hu : uvar x = [b8 ((x : Nat) : Int)] := by
      rw [uvar_lo (by omega)]
      try rfl
    rw [hu] at hB ⊢
    simp only [List.length_cons, List.length_nil] at hB
    refine cd_sr ?_
    refine ln_pv (pv_assign rfl) rfl ?_
    refine ln_cd ?_
    refine cd_seq ?_
    refine cd_sr ?_
    refine ln_pv (pv_move rfl) rfl ?_
    refine ln_callS en_60 rfl (fun u hu => hul ▸ kbin_UvarintLen u x hx) rfl ?_
    refine ln_cd ?_
    refine cd_block ?_
    refine cd_sr ?_
    refine ln_pv (pv_ff (pv_eql rfl rfl) (by omega)) rfl ?_
    refine ln_pv (pv_assign rfl) rfl ?_
    refine ln_cd ?_
    refine cd_ff rfl ?_
    refine cd_sr ?_
    refine ln_pv (pv_ff (pv_eql rfl rfl) (by omega)) rfl ?_
    refine ln_pv (pv_assign rfl) rfl ?_
    refine ln_cd ?_
    refine cd_ff rfl ?_
    refine cd_sr ?_
    refine ln_pv (pv_ff (pv_eql rfl rfl) (by omega)) rfl ?_
    refine ln_pv (pv_assign rfl) rfl ?_
    refine ln_cd ?_
    refine cd_ff rfl ?_
    refine cd_sr ?_
    refine ln_pv (pv_ff (pv_eql rfl rfl) (by omega)) rfl ?_
    refine ln_pv (pv_assign rfl) rfl ?_
    refine ln_cd ?_
    refine cd_ff rfl ?_
    refine cd_sr ?_
    refine ln_pv (pv_tt (pv_eql rfl rfl) (by omega)) rfl ?_
    refine ln_pv (pv_assign rfl) rfl ?_
    refine ln_cd ?_
    refine cd_tt rfl ?_
    refine cd_sr ?_
    refine ln_pv (pv_move rfl) rfl ?_
    refine ln_pv (pv_move rfl) rfl ?_
    refine ln_pv (pv_conv' Tryz.underlying53 Tryz.underlying5 rfl (wrap_u8 _)) rfl ?_
    refine ln_lit (vs := [_]) Tryz.underlying22 tiuint8 rfl (by decide) rfl rfl rfl rfl rfl rfl (fun b1 => ?_)
    refine ln_append (i := 1) rfl Tryz.underlying22 tiuint8 rfl (by decide) rfl rfl (src_obj (j := 0) rfl rfl rfl) (by first | omega | (simp only [maxLen]; omega)) (by first | omega | (simp only [maxLen]; omega)) rfl (k' := (L ++ [b8 ((x : Nat) : Int)]).length) (xs' := u8s (L ++ [b8 ((x : Nat) : Int)])) (by simp) (by simp [u8s, u8v, flat, Value.cells]) (fun v1 hv1 => ?_)
    refine ln_pv (pv_assign rfl) rfl ?_
    refine ln_cd ?_
    refine cd_ret ?_
    exact at_retT (i := 1) rfl rfl rfl (fun w hS => ⟨rfl, hv1.2⟩)
  by_cases h2 : x < 16384
  · skip
    have hul : ulen x = 2 := by unfold ulen; ((repeat' split) <;> omega)
    have hu : uvar x = [b8 (((x : Nat) : Int) % 128 + 128), b8 (((x / 128 : Nat) : Int) : Int)] := by
      rw [uvar_hi (n := x) (by omega)]
      rw [uvar_lo (by omega)]
      try rfl
    rw [hu] at hB ⊢
    simp only [List.length_cons, List.length_nil] at hB
    refine cd_sr ?_
    refine ln_pv (pv_assign rfl) rfl ?_
    refine ln_cd ?_
    refine cd_seq ?_
    refine cd_sr ?_
    refine ln_pv (pv_move rfl) rfl ?_
    refine ln_callS en_60 rfl (fun u hu => hul ▸ kbin_UvarintLen u x hx) rfl ?_
    refine ln_cd ?_
    refine cd_block ?_
    refine cd_sr ?_
    refine ln_pv (pv_ff (pv_eql rfl rfl) (by omega)) rfl ?_
    refine ln_pv (pv_assign rfl) rfl ?_
    refine ln_cd ?_
    refine cd_ff rfl ?_
    refine cd_sr ?_
    refine ln_pv (pv_ff (pv_eql rfl rfl) (by omega)) rfl ?_
    refine ln_pv (pv_assign rfl) rfl ?_
    refine ln_cd ?_
    refine cd_ff rfl ?_
    refine cd_sr ?_
    refine ln_pv (pv_ff (pv_eql rfl rfl) (by omega)) rfl ?_
    refine ln_pv (pv_assign rfl) rfl ?_
    refine ln_cd ?_
    refine cd_ff rfl ?_
    refine cd_sr ?_
    refine ln_pv (pv_tt (pv_eql rfl rfl) (by omega)) rfl ?_
    refine ln_pv (pv_assign rfl) rfl ?_
    refine ln_cd ?_
    refine cd_tt rfl ?_
    refine cd_sr ?_
    refine ln_pv (pv_move rfl) rfl ?_
    refine ln_pv (pv_move rfl) rfl ?_
    refine ln_pv (pv_and' rfl rfl (and127_u32 (by omega) (by omega))) rfl ?_
    refine ln_pv (pv_or' rfl rfl (or128_u32 (by omega) (by omega))) rfl ?_
    refine ln_pv (pv_conv' Tryz.underlying53 Tryz.underlying5 rfl (wrap_u8 _)) rfl ?_
    refine ln_pv (pv_move rfl) rfl ?_
    refine ln_pv (pv_shr' rfl rfl (by decide) (by decide) (r := ((x / 128 : Nat) : Int)) (by simp)) rfl ?_
    refine ln_pv (pv_conv' Tryz.underlying53 Tryz.underlying5 rfl (wrap_u8 _)) rfl ?_
    refine ln_lit (vs := [_, _]) Tryz.underlying22 tiuint8 rfl (by decide) rfl rfl rfl rfl rfl rfl (fun b1 => ?_)
    refine ln_append (i := 1) rfl Tryz.underlying22 tiuint8 rfl (by decide) rfl rfl (src_obj (j := 0) rfl rfl rfl) (by first | omega | (simp only [maxLen]; omega)) (by first | omega | (simp only [maxLen]; omega)) rfl (k' := (L ++ [b8 (((x : Nat) : Int) % 128 + 128), b8 (((x / 128 : Nat) : Int) : Int)]).length) (xs' := u8s (L ++ [b8 (((x : Nat) : Int) % 128 + 128), b8 (((x / 128 : Nat) : Int) : Int)])) (by simp) (by simp [u8s, u8v, flat, Value.cells]) (fun v1 hv1 => ?_)
    refine ln_pv (pv_assign rfl) rfl ?_
    refine ln_cd ?_
    refine cd_ret ?_
    exact at_retT (i := 1) rfl rfl rfl (fun w hS => ⟨rfl, hv1.2⟩)
  by_cases h3 : x < 2097152
  · skip
    have hul : ulen x = 3 := by unfold ulen; ((repeat' split) <;> omega)
    have hu : uvar x = [b8 (((x : Nat) : Int) % 128 + 128), b8 ((((x / 128 : Nat) : Int) : Int) % 128 + 128), b8 (((x / 16384 : Nat) : Int) : Int)] := by
      rw [uvar_hi (n := x) (by omega)]
      rw [show x / 128 = x / 128 by omega, uvar_hi (n := x / 128) (by omega)]
      rw [show x / 128 / 128 = x / 16384 by omega, uvar_lo (by omega)]
      try rfl
    rw [hu] at hB ⊢
    simp only [List.length_cons, List.length_nil] at hB
    refine cd_sr ?_
    refine ln_pv (pv_assign rfl) rfl ?_
    refine ln_cd ?_
    refine cd_seq ?_
    refine cd_sr ?_
    refine ln_pv (pv_move rfl) rfl ?_
    refine ln_callS en_60 rfl (fun u hu => hul ▸ kbin_UvarintLen u x hx) rfl ?_
    refine ln_cd ?_
    refine cd_block ?_
    refine cd_sr ?_
    refine ln_pv (pv_ff (pv_eql rfl rfl) (by omega)) rfl ?_
    refine ln_pv (pv_assign rfl) rfl ?_
    refine ln_cd ?_
    refine cd_ff rfl ?_
    refine cd_sr ?_
    refine ln_pv (pv_ff (pv_eql rfl rfl) (by omega)) rfl ?_
    refine ln_pv (pv_assign rfl) rfl ?_
    refine ln_cd ?_
    refine cd_ff rfl ?_
    refine cd_sr ?_
    refine ln_pv (pv_tt (pv_eql rfl rfl) (by omega)) rfl ?_
    refine ln_pv (pv_assign rfl) rfl ?_
    refine ln_cd ?_
    refine cd_tt rfl ?_
    refine cd_sr ?_
    refine ln_pv (pv_move rfl) rfl ?_
    refine ln_pv (pv_move rfl) rfl ?_
    refine ln_pv (pv_and' rfl rfl (and127_u32 (by omega) (by omega))) rfl ?_
    refine ln_pv (pv_or' rfl rfl (or128_u32 (by omega) (by omega))) rfl ?_
    refine ln_pv (pv_conv' Tryz.underlying53 Tryz.underlying5 rfl (wrap_u8 _)) rfl ?_
    refine ln_pv (pv_move rfl) rfl ?_
    refine ln_pv (pv_shr' rfl rfl (by decide) (by decide) (r := ((x / 128 : Nat) : Int)) (by simp)) rfl ?_
    refine ln_pv (pv_and' rfl rfl (and127_u32 (by omega) (by omega))) rfl ?_
    refine ln_pv (pv_or' rfl rfl (or128_u32 (by omega) (by omega))) rfl ?_
    refine ln_pv (pv_conv' Tryz.underlying53 Tryz.underlying5 rfl (wrap_u8 _)) rfl ?_
    refine ln_pv (pv_move rfl) rfl ?_
    refine ln_pv (pv_shr' rfl rfl (by decide) (by decide) (r := ((x / 16384 : Nat) : Int)) (by simp)) rfl ?_
    refine ln_pv (pv_conv' Tryz.underlying53 Tryz.underlying5 rfl (wrap_u8 _)) rfl ?_
    refine ln_lit (vs := [_, _, _]) Tryz.underlying22 tiuint8 rfl (by decide) rfl rfl rfl rfl rfl rfl (fun b1 => ?_)
    refine ln_append (i := 1) rfl Tryz.underlying22 tiuint8 rfl (by decide) rfl rfl (src_obj (j := 0) rfl rfl rfl) (by first | omega | (simp only [maxLen]; omega)) (by first | omega | (simp only [maxLen]; omega)) rfl (k' := (L ++ [b8 (((x : Nat) : Int) % 128 + 128), b8 ((((x / 128 : Nat) : Int) : Int) % 128 + 128), b8 (((x / 16384 : Nat) : Int) : Int)]).length) (xs' := u8s (L ++ [b8 (((x : Nat) : Int) % 128 + 128), b8 ((((x / 128 : Nat) : Int) : Int) % 128 + 128), b8 (((x / 16384 : Nat) : Int) : Int)])) (by simp) (by simp [u8s, u8v, flat, Value.cells]) (fun v1 hv1 => ?_)
    refine ln_pv (pv_assign rfl) rfl ?_
    refine ln_cd ?_
    refine cd_ret ?_
    exact at_retT (i := 1) rfl rfl rfl (fun w hS => ⟨rfl, hv1.2⟩)
  by_cases h4 : x < 268435456
  · skip
    have hul : ulen x = 4 := by unfold ulen; ((repeat' split) <;> omega)
    have hu : uvar x = [b8 (((x : Nat) : Int) % 128 + 128), b8 ((((x / 128 : Nat) : Int) : Int) % 128 + 128), b8 ((((x / 16384 : Nat) : Int) : Int) % 128 + 128), b8 (((x / 2097152 : Nat) : Int) : Int)] := by
      rw [uvar_hi (n := x) (by omega)]
      rw [show x / 128 = x / 128 by omega, uvar_hi (n := x / 128) (by omega)]
      rw [show x / 128 / 128 = x / 16384 by omega, uvar_hi (n := x / 16384) (by omega)]
      rw [show x / 16384 / 128 = x / 2097152 by omega, uvar_lo (by omega)]
      try rfl
    rw [hu] at hB ⊢
    simp only [List.length_cons, List.length_nil] at hB
    refine cd_sr ?_
    refine ln_pv (pv_assign rfl) rfl ?_
    refine ln_cd ?_
    refine cd_seq ?_
    refine cd_sr ?_
    refine ln_pv (pv_move rfl) rfl ?_
    refine ln_callS en_60 rfl (fun u hu => hul ▸ kbin_UvarintLen u x hx) rfl ?_
    refine ln_cd ?_
    refine cd_block ?_
    refine cd_sr ?_
    refine ln_pv (pv_ff (pv_eql rfl rfl) (by omega)) rfl ?_
    refine ln_pv (pv_assign rfl) rfl ?_
    refine ln_cd ?_
    refine cd_ff rfl ?_
    refine cd_sr ?_
    refine ln_pv (pv_tt (pv_eql rfl rfl) (by omega)) rfl ?_
    refine ln_pv (pv_assign rfl) rfl ?_
    refine ln_cd ?_
    refine cd_tt rfl ?_
    refine cd_sr ?_
    refine ln_pv (pv_move rfl) rfl ?_
    refine ln_pv (pv_move rfl) rfl ?_
    refine ln_pv (pv_and' rfl rfl (and127_u32 (by omega) (by omega))) rfl ?_
    refine ln_pv (pv_or' rfl rfl (or128_u32 (by omega) (by omega))) rfl ?_
    refine ln_pv (pv_conv' Tryz.underlying53 Tryz.underlying5 rfl (wrap_u8 _)) rfl ?_
    refine ln_pv (pv_move rfl) rfl ?_
    refine ln_pv (pv_shr' rfl rfl (by decide) (by decide) (r := ((x / 128 : Nat) : Int)) (by simp)) rfl ?_
    refine ln_pv (pv_and' rfl rfl (and127_u32 (by omega) (by omega))) rfl ?_
    refine ln_pv (pv_or' rfl rfl (or128_u32 (by omega) (by omega))) rfl ?_
    refine ln_pv (pv_conv' Tryz.underlying53 Tryz.underlying5 rfl (wrap_u8 _)) rfl ?_
    refine ln_pv (pv_move rfl) rfl ?_
    refine ln_pv (pv_shr' rfl rfl (by decide) (by decide) (r := ((x / 16384 : Nat) : Int)) (by simp)) rfl ?_
    refine ln_pv (pv_and' rfl rfl (and127_u32 (by omega) (by omega))) rfl ?_
    refine ln_pv (pv_or' rfl rfl (or128_u32 (by omega) (by omega))) rfl ?_
    refine ln_pv (pv_conv' Tryz.underlying53 Tryz.underlying5 rfl (wrap_u8 _)) rfl ?_
    refine ln_pv (pv_move rfl) rfl ?_
    refine ln_pv (pv_shr' rfl rfl (by decide) (by decide) (r := ((x / 2097152 : Nat) : Int)) (by simp)) rfl ?_
    refine ln_pv (pv_conv' Tryz.underlying53 Tryz.underlying5 rfl (wrap_u8 _)) rfl ?_
    refine ln_lit (vs := [_, _, _, _]) Tryz.underlying22 tiuint8 rfl (by decide) rfl rfl rfl rfl rfl rfl (fun b1 => ?_)
    refine ln_append (i := 1) rfl Tryz.underlying22 tiuint8 rfl (by decide) rfl rfl (src_obj (j := 0) rfl rfl rfl) (by first | omega | (simp only [maxLen]; omega)) (by first | omega | (simp only [maxLen]; omega)) rfl (k' := (L ++ [b8 (((x : Nat) : Int) % 128 + 128), b8 ((((x / 128 : Nat) : Int) : Int) % 128 + 128), b8 ((((x / 16384 : Nat) : Int) : Int) % 128 + 128), b8 (((x / 2097152 : Nat) : Int) : Int)]).length) (xs' := u8s (L ++ [b8 (((x : Nat) : Int) % 128 + 128), b8 ((((x / 128 : Nat) : Int) : Int) % 128 + 128), b8 ((((x / 16384 : Nat) : Int) : Int) % 128 + 128), b8 (((x / 2097152 : Nat) : Int) : Int)])) (by simp) (by simp [u8s, u8v, flat, Value.cells]) (fun v1 hv1 => ?_)
    refine ln_pv (pv_assign rfl) rfl ?_
    refine ln_cd ?_
    refine cd_ret ?_
    exact at_retT (i := 1) rfl rfl rfl (fun w hS => ⟨rfl, hv1.2⟩)
  have hul : ulen x = 5 := by unfold ulen; ((repeat' split) <;> omega)
  have hu : uvar x = [b8 (((x : Nat) : Int) % 128 + 128), b8 ((((x / 128 : Nat) : Int) : Int) % 128 + 128), b8 ((((x / 16384 : Nat) : Int) : Int) % 128 + 128), b8 ((((x / 2097152 : Nat) : Int) : Int) % 128 + 128), b8 (((x / 268435456 : Nat) : Int) : Int)] := by
    rw [uvar_hi (n := x) (by omega)]
    rw [show x / 128 = x / 128 by omega, uvar_hi (n := x / 128) (by omega)]
    rw [show x / 128 / 128 = x / 16384 by omega, uvar_hi (n := x / 16384) (by omega)]
    rw [show x / 16384 / 128 = x / 2097152 by omega, uvar_hi (n := x / 2097152) (by omega)]
    rw [show x / 2097152 / 128 = x / 268435456 by omega, uvar_lo (by omega)]
    try rfl
  rw [hu] at hB ⊢
  simp only [List.length_cons, List.length_nil] at hB
  refine cd_sr ?_
  refine ln_pv (pv_assign rfl) rfl ?_
  refine ln_cd ?_
  refine cd_seq ?_
  refine cd_sr ?_
  refine ln_pv (pv_move rfl) rfl ?_
  refine ln_callS en_60 rfl (fun u hu => hul ▸ kbin_UvarintLen u x hx) rfl ?_
  refine ln_cd ?_
  refine cd_block ?_
  refine cd_sr ?_
  refine ln_pv (pv_tt (pv_eql rfl rfl) (by omega)) rfl ?_
  refine ln_pv (pv_assign rfl) rfl ?_
  refine ln_cd ?_
  refine cd_tt rfl ?_
  refine cd_sr ?_
  refine ln_pv (pv_move rfl) rfl ?_
  refine ln_pv (pv_move rfl) rfl ?_
  refine ln_pv (pv_and' rfl rfl (and127_u32 (by omega) (by omega))) rfl ?_
  refine ln_pv (pv_or' rfl rfl (or128_u32 (by omega) (by omega))) rfl ?_
  refine ln_pv (pv_conv' Tryz.underlying53 Tryz.underlying5 rfl (wrap_u8 _)) rfl ?_
  refine ln_pv (pv_move rfl) rfl ?_
  refine ln_pv (pv_shr' rfl rfl (by decide) (by decide) (r := ((x / 128 : Nat) : Int)) (by simp)) rfl ?_
  refine ln_pv (pv_and' rfl rfl (and127_u32 (by omega) (by omega))) rfl ?_
  refine ln_pv (pv_or' rfl rfl (or128_u32 (by omega) (by omega))) rfl ?_
  refine ln_pv (pv_conv' Tryz.underlying53 Tryz.underlying5 rfl (wrap_u8 _)) rfl ?_
  refine ln_pv (pv_move rfl) rfl ?_
  refine ln_pv (pv_shr' rfl rfl (by decide) (by decide) (r := ((x / 16384 : Nat) : Int)) (by simp)) rfl ?_
  refine ln_pv (pv_and' rfl rfl (and127_u32 (by omega) (by omega))) rfl ?_
  refine ln_pv (pv_or' rfl rfl (or128_u32 (by omega) (by omega))) rfl ?_
  refine ln_pv (pv_conv' Tryz.underlying53 Tryz.underlying5 rfl (wrap_u8 _)) rfl ?_
  refine ln_pv (pv_move rfl) rfl ?_
  refine ln_pv (pv_shr' rfl rfl (by decide) (by decide) (r := ((x / 2097152 : Nat) : Int)) (by simp)) rfl ?_
  refine ln_pv (pv_and' rfl rfl (and127_u32 (by omega) (by omega))) rfl ?_
  refine ln_pv (pv_or' rfl rfl (or128_u32 (by omega) (by omega))) rfl ?_
  refine ln_pv (pv_conv' Tryz.underlying53 Tryz.underlying5 rfl (wrap_u8 _)) rfl ?_
  refine ln_pv (pv_move rfl) rfl ?_
  refine ln_pv (pv_shr' rfl rfl (by decide) (by decide) (r := ((x / 268435456 : Nat) : Int)) (by simp)) rfl ?_
  refine ln_pv (pv_conv' Tryz.underlying53 Tryz.underlying5 rfl (wrap_u8 _)) rfl ?_
  refine ln_lit (vs := [_, _, _, _, _]) Tryz.underlying22 tiuint8 rfl (by decide) rfl rfl rfl rfl rfl rfl (fun b1 => ?_)
  refine ln_append (i := 1) rfl Tryz.underlying22 tiuint8 rfl (by decide) rfl rfl (src_obj (j := 0) rfl rfl rfl) (by first | omega | (simp only [maxLen]; omega)) (by first | omega | (simp only [maxLen]; omega)) rfl (k' := (L ++ [b8 (((x : Nat) : Int) % 128 + 128), b8 ((((x / 128 : Nat) : Int) : Int) % 128 + 128), b8 ((((x / 16384 : Nat) : Int) : Int) % 128 + 128), b8 ((((x / 2097152 : Nat) : Int) : Int) % 128 + 128), b8 (((x / 268435456 : Nat) : Int) : Int)]).length) (xs' := u8s (L ++ [b8 (((x : Nat) : Int) % 128 + 128), b8 ((((x / 128 : Nat) : Int) : Int) % 128 + 128), b8 ((((x / 16384 : Nat) : Int) : Int) % 128 + 128), b8 ((((x / 2097152 : Nat) : Int) : Int) % 128 + 128), b8 (((x / 268435456 : Nat) : Int) : Int)])) (by simp) (by simp [u8s, u8v, flat, Value.cells]) (fun v1 hv1 => ?_)
  refine ln_pv (pv_assign rfl) rfl ?_
  refine ln_cd ?_
  refine cd_ret ?_
  exact at_retT (i := 1) rfl rfl rfl (fun w hS => ⟨rfl, hv1.2⟩)
end K
end Go.Proofs.YtepbicjadambbabGreatDoor
