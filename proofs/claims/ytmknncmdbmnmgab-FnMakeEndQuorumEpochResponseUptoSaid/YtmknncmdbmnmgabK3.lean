import Derived.Test.YtmknncmdbmnmgabK2
import Derived.Laws.Slices
set_option linter.unusedVariables false
set_option linter.unusedSimpArgs false
namespace Go.Proofs.Ytmknncmdbmnmgab
namespace K
open Go Go.Lib
theorem u8v_lit {x : Int} (h0 : 0 ≤ x) (h1 : x < 256) : Value.int .u8 x = u8v (b8 x) := by rw [u8v, b8_val h0 h1]
section
variable {P : Program} {n : Nat} {L : Env} {S : World → Prop} {d : Option Nat} {g : Option (Nat × Bool)} {ty : TypeId} {pos : String} {af : Array Edge}
theorem pv_slice_arr {t e : TypeId} {m b : Nat} {x : Operand} (hu : P.underlying t = some (.array m e)) (hsz : (P.info? e).isSome = true) (hx : ev L x = some (.pointer (some ⟨b, 0, none⟩))) :
    PV P S ⟨d, .slice t x none none none, ty, pos, af, g⟩ n L (.slice (some ⟨b, 0, none⟩) m m) := fun a w hF _ => by
  obtain ⟨ii, hi⟩ := Option.isSome_iff_exists.1 hsz
  have e1 : P.arrayLen t = m := by simp [Program.arrayLen, hu]
  have e2 : P.elem t = e := by simp [Program.elem, hu]
  have h := run_sliceAt_array_all (P := P) w t ⟨b, 0, none⟩ (by rw [e1, e2]; exact hu)
  rw [e1, e2] at h
  simp only [execOp, hF.ev hx, Option.map_none]
  simp only [Sem.run_bind, h]
  simp [sizeOf, typeInfo, hi, Result.andThen, slicedAt]
  exact fun _ => Addr.add_zero' _
end
theorem kbin_AppendUuid (t : Vw) (l : List UInt8) (hl : l.length = 16) : AppC 77 [.agg (u8s l).toArray] l t := by
  intro v L hB hrow hav
  refine ct_enter Try.func77 rfl Try.ntmps77 rfl hrow hav (by simp only [Ent.blk]; cases v.ownBlock <;> simp) ?_
  refine cd_sr ?_
  refine ln_box (l := u8s l) rfl rfl rfl (fun b1 => ?_)
  refine ln_pv (pv_assign rfl) rfl ?_
  refine ln_cd ?_
  refine cd_sr ?_
  refine ln_pv (pv_move rfl) rfl ?_
  refine ln_pv (pv_slice_arr Try.underlying115 (by have := (tiuint8 : TI Try.prog _ _ _ _).size; obtain ⟨ii, h, _⟩ := Option.map_eq_some_iff.1 this; exact Option.isSome_iff_exists.2 ⟨ii, h⟩) rfl) rfl ?_
  refine ln_append (i := 1) (m := 16) (news := u8s l) rfl Try.underlying22 tiuint8 rfl (by decide) rfl rfl (src_obj (j := 0) rfl (by simp [hl]) (List.all_eq_true.2 (u8s_one _))) (by simp only [maxLen]; omega) (by omega) rfl (k' := (L ++ l).length) (xs' := u8s (L ++ l)) (by simp [hl]) (by simp [u8s]) (fun v3 hv3 => ?_)
  refine ln_pv (pv_assign rfl) rfl ?_
  refine ln_cd ?_
  refine cd_ret ?_
  exact at_retT (i := 1) rfl rfl rfl (fun w hS => ⟨rfl, hv3.2⟩)
theorem kbin_AppendArrayLen (t : Vw) (m : Nat) (hm : m ≤ 32767) : AppC 55 [.int .i64 (m : Int)] (fixed (m : Int) 4) t := by
  intro v L hB hrow hav
  refine ct_enter Try.func55 rfl Try.ntmps55 rfl hrow hav (by simp only [Ent.blk]; cases v.ownBlock <;> simp) ?_
  refine cd_sr ?_
  refine ln_pv (pv_assign rfl) rfl ?_
  refine ln_cd ?_
  refine cd_sr ?_
  refine ln_pv (pv_move rfl) rfl ?_
  refine ln_pv (pv_move rfl) rfl ?_
  refine ln_pv (pv_conv' Try.underlying3 Try.underlying21 rfl (r := (m : Int)) (by rw [IntKind.wrap_i32]; omega)) rfl ?_
  refine ln_callT (i := 0) en_58 rfl rfl (fun u hu hok hav => (kbin_AppendInt32 u (m : Int)) _ _ hB hok hav) rfl ?_
  rintro u1 v1 _ ht1 ⟨_, ⟨rfl, h1v1⟩, _⟩
  refine ln_pv (pv_assign rfl) rfl ?_
  refine ln_cd ?_
  refine cd_ret ?_
  refine at_retT (i := 0) rfl rfl rfl (fun w hS => ⟨rfl, h1v1⟩)
theorem kbin_AppendCompactArrayLen (t : Vw) (m : Nat) (hm : m ≤ 32767) : AppC 54 [.int .i64 (m : Int)] (uvar (m + 1)) t := by
  intro v L hB hrow hav
  refine ct_enter Try.func54 rfl Try.ntmps54 rfl hrow hav (by simp only [Ent.blk]; cases v.ownBlock <;> simp) ?_
  refine cd_sr ?_
  refine ln_pv (pv_assign rfl) rfl ?_
  refine ln_cd ?_
  refine cd_sr ?_
  refine ln_pv (pv_move rfl) rfl ?_
  refine ln_pv (pv_move rfl) rfl ?_
  refine ln_pv (pv_conv' Try.underlying3 Try.underlying62 rfl (r := (m : Int)) (by rw [IntKind.wrap_u32]; omega)) rfl ?_
  refine ln_pv (pv_add' rfl rfl (r := ((m + 1 : Nat) : Int)) (by rw [IntKind.wrap_u32]; omega)) rfl ?_
  refine ln_callT (i := 0) en_59 rfl rfl (fun u hu hok hav => (kbin_AppendUvarint u (m + 1) (by omega)) _ _ hB hok hav) rfl ?_
  rintro u1 v1 _ ht1 ⟨_, ⟨rfl, h1v1⟩, _⟩
  refine ln_pv (pv_assign rfl) rfl ?_
  refine ln_cd ?_
  refine cd_ret ?_
  refine at_retT (i := 0) rfl rfl rfl (fun w hS => ⟨rfl, h1v1⟩)
end K
end Go.Proofs.Ytmknncmdbmnmgab
