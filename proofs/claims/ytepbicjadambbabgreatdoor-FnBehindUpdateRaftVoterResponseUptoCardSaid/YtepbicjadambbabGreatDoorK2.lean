import Derived.Test.YtepbicjadambbabGreatDoorK1
set_option linter.unusedVariables false
set_option linter.unusedSimpArgs false
namespace Go.Proofs.YtepbicjadambbabGreatDoor
namespace K
open Go Go.Lib
section eqnil
variable {P : Program} {S : World → Prop} {n : Nat} {L : Env} {d : Option Nat} {g : Option (Nat × Bool)} {ty : TypeId} {pos : String} {af : Array Edge} {t u : TypeId} {x y : Operand}
theorem in_eqS {e : TypeId} {b : Option Addr} {m c : Nat} (q : Nat) (w : World) (hu : P.underlying t = some (.slice e)) : (Op.equalIn (q + 1) t (.slice b m c) (.slice none 0 0)).run P w = .ok b.isNone w := by
  cases b <;> simp [Op.equalIn, run_underlying hu]
theorem run_eqS {e : TypeId} {b : Option Addr} {m c : Nat} (w : World) (hu : P.underlying t = some (.slice e)) : (Op.equal t (.slice b m c) (.slice none 0 0)).run P w = .ok b.isNone w := in_eqS 9999 w hu
theorem in_eqP {e : TypeId} {b : Option Addr} (q : Nat) (w : World) (hu : P.underlying t = some (.pointer e)) : (Op.equalIn (q + 1) t (.pointer b) (.pointer none)).run P w = .ok b.isNone w := by
  cases b <;> simp [Op.equalIn, run_underlying hu]
theorem run_eqP {e : TypeId} {b : Option Addr} (w : World) (hu : P.underlying t = some (.pointer e)) : (Op.equal t (.pointer b) (.pointer none)).run P w = .ok b.isNone w := in_eqP 9999 w hu
theorem in_eqM {k e : TypeId} {b : Option Nat} (q : Nat) (w : World) (hu : P.underlying t = some (.map k e)) : (Op.equalIn (q + 1) t (.map b) (.map none)).run P w = .ok b.isNone w := by
  cases b <;> simp [Op.equalIn, run_underlying hu]
theorem run_eqM {k e : TypeId} {b : Option Nat} (w : World) (hu : P.underlying t = some (.map k e)) : (Op.equal t (.map b) (.map none)).run P w = .ok b.isNone w := in_eqM 9999 w hu
theorem pv_eqS {e : TypeId} {b : Option Addr} {m c : Nat} (hu : P.underlying t = some (.slice e)) (hx : ev L x = some (.slice b m c)) (hy : ev L y = some (.slice none 0 0)) :
    PV P S ⟨d, .binOp .eql t x y u, ty, pos, af, g⟩ n L (.bool b.isNone) := fun a w hF _ => by
  simp [execOp, hF.ev hx, hF.ev hy, eqGuard, binOp, run_eqS w hu]
theorem pv_eqP {e : TypeId} {b : Option Addr} (hu : P.underlying t = some (.pointer e)) (hx : ev L x = some (.pointer b)) (hy : ev L y = some (.pointer none)) :
    PV P S ⟨d, .binOp .eql t x y u, ty, pos, af, g⟩ n L (.bool b.isNone) := fun a w hF _ => by
  simp [execOp, hF.ev hx, hF.ev hy, eqGuard, binOp, run_eqP w hu]
theorem pv_eqM {k e : TypeId} {b : Option Nat} (hu : P.underlying t = some (.map k e)) (hx : ev L x = some (.map b)) (hy : ev L y = some (.map none)) :
    PV P S ⟨d, .binOp .eql t x y u, ty, pos, af, g⟩ n L (.bool b.isNone) := fun a w hF _ => by
  simp [execOp, hF.ev hx, hF.ev hy, eqGuard, binOp, run_eqM w hu]
end eqnil
theorem wrap_i16_in {x : Int} (h0 : -32768 ≤ x) (h1 : x ≤ 32767) : IntKind.i16.wrap x = x := by
  have e : IntKind.i16.wrap x = if (true && decide (x % 65536 ≥ 32768)) = true then x % 65536 - 65536 else x % 65536 := rfl
  rw [e]
  by_cases h : x % 65536 ≥ 32768
  · rw [if_pos (by simpa using h)]; omega
  · rw [if_neg (by simpa using h)]; omega
def strB (z : ByteArray) : List UInt8 := z.data.toList
theorem strB_len (z : ByteArray) : (strB z).length = z.size := by unfold strB; exact Array.length_toList
def nullBytesC (null : Bool) (b : List UInt8) : List UInt8 := if null then [0] else uvar (b.length + 1) ++ b
theorem uvar_zero : uvar 0 = [0] := by rw [uvar_lo (by omega)]; rfl
theorem kbin_AppendString (t : Vw) (z : ByteArray) (hz : (strB z).length ≤ 32767) : AppC 38 [.string z] (fixed ((strB z).length : Int) 2 ++ strB z) t := by
  intro v L hB hrow hav
  simp only [List.length_append] at hB
  have hsz : (z.size : Int) = ((strB z).length : Int) := by rw [strB_len]
  simp only [fixed_length] at hB
  refine ct_enter Tryz.func38 rfl Tryz.ntmps38 rfl hrow hav (by simp only [Ent.blk]; cases v.ownBlock <;> simp) ?_
  refine cd_sr ?_
  refine ln_pv (pv_assign rfl) rfl ?_
  refine ln_cd ?_
  refine cd_sr ?_
  refine ln_pv (pv_move rfl) rfl ?_
  refine ln_pv (pv_move rfl) rfl ?_
  refine ln_pv (hsz ▸ pv_len_str Tryz.underlying9 rfl) rfl ?_
  refine ln_pv (pv_conv' Tryz.underlying3 Tryz.underlying40 rfl (r := ((strB z).length : Int)) (wrap_i16_in (by omega) (by omega))) rfl ?_
  refine ln_callT (i := 0) en_31 rfl rfl (fun u hu hok hav => (kbin_AppendInt16 u (((strB z).length : Int))) _ _ (by first | omega | (simp only [fixed_length]; omega)) hok hav) rfl ?_
  rintro u1 v1 _ ht1 ⟨_, ⟨rfl, h1v1⟩, _⟩
  refine ln_pv (pv_assign rfl) rfl ?_
  refine ln_cd ?_
  refine cd_sr ?_
  refine ln_pv (pv_move rfl) rfl ?_
  refine ln_pv (pv_move rfl) rfl ?_
  refine ln_appendS (i := 0) rfl Tryz.underlying22 Tryz.underlying9 tiuint8 rfl rfl (by simp only [List.length_append, fixed_length, maxLen, strB_len] at *; omega) (by simp only [List.length_append, fixed_length, maxLen, strB_len] at *; omega) rfl (k' := (L ++ (fixed ((strB z).length : Int) 2 ++ strB z)).length) (xs' := u8s (L ++ (fixed ((strB z).length : Int) 2 ++ strB z))) (by simp only [List.length_append, strB_len]; omega) (by rw [strCells_u8s]; simp only [u8s, strB, List.map_append, List.append_assoc]) (fun v2 hv2 => ?_)
  refine ln_pv (pv_assign rfl) rfl ?_
  refine ln_cd ?_
  refine cd_ret ?_
  refine at_retT (i := 0) rfl rfl rfl (fun w hS => ⟨rfl, hv2.2⟩)
theorem kbin_AppendCompactString (t : Vw) (z : ByteArray) (hz : (strB z).length ≤ 32767) : AppC 37 [.string z] (uvar ((strB z).length + 1) ++ strB z) t := by
  intro v L hB hrow hav
  simp only [List.length_append] at hB
  have hsz : (z.size : Int) = ((strB z).length : Int) := by rw [strB_len]
  have hpl := uvar_length_le ((strB z).length + 1) 4 (by omega)
  refine ct_enter Tryz.func37 rfl Tryz.ntmps37 rfl hrow hav (by simp only [Ent.blk]; cases v.ownBlock <;> simp) ?_
  refine cd_sr ?_
  refine ln_pv (pv_assign rfl) rfl ?_
  refine ln_cd ?_
  refine cd_sr ?_
  refine ln_pv (pv_move rfl) rfl ?_
  refine ln_pv (pv_move rfl) rfl ?_
  refine ln_pv (hsz ▸ pv_len_str Tryz.underlying9 rfl) rfl ?_
  refine ln_pv (pv_conv' Tryz.underlying3 Tryz.underlying53 rfl (r := ((strB z).length : Int)) (by rw [IntKind.wrap_u32]; omega)) rfl ?_
  refine ln_pv (pv_add' rfl rfl (r := (((strB z).length + 1 : Nat) : Int)) (by rw [IntKind.wrap_u32]; omega)) rfl ?_
  refine ln_callT (i := 0) en_35 rfl rfl (fun u hu hok hav => (kbin_AppendUvarint u ((strB z).length + 1) (by omega)) _ _ (by first | omega | (simp only [fixed_length]; omega)) hok hav) rfl ?_
  rintro u1 v1 _ ht1 ⟨_, ⟨rfl, h1v1⟩, _⟩
  refine ln_pv (pv_assign rfl) rfl ?_
  refine ln_cd ?_
  refine cd_sr ?_
  refine ln_pv (pv_move rfl) rfl ?_
  refine ln_pv (pv_move rfl) rfl ?_
  refine ln_appendS (i := 0) rfl Tryz.underlying22 Tryz.underlying9 tiuint8 rfl rfl (by simp only [List.length_append, fixed_length, maxLen, strB_len] at *; omega) (by simp only [List.length_append, fixed_length, maxLen, strB_len] at *; omega) rfl (k' := (L ++ (uvar ((strB z).length + 1) ++ strB z)).length) (xs' := u8s (L ++ (uvar ((strB z).length + 1) ++ strB z))) (by simp only [List.length_append, strB_len]; omega) (by rw [strCells_u8s]; simp only [u8s, strB, List.map_append, List.append_assoc]) (fun v2 hv2 => ?_)
  refine ln_pv (pv_assign rfl) rfl ?_
  refine ln_cd ?_
  refine cd_ret ?_
  refine at_retT (i := 0) rfl rfl rfl (fun w hS => ⟨rfl, hv2.2⟩)
end K
end Go.Proofs.YtepbicjadambbabGreatDoor
