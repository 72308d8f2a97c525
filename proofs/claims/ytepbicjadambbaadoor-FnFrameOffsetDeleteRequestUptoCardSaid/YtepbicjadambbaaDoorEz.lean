import Derived.Test.YtepbicjadambbaaDoorDz
import Derived.Test.YtepbicjadambbaaDoorD3
set_option linter.unusedVariables false
set_option linter.unusedSimpArgs false
namespace Go.Proofs.YtepbicjadambbaaDoor
namespace K
open Go Go.RowKit
theorem wants_id : Tryd.prog.wantsStandIn 23 = false := by kernel_rfl
theorem wants_i32 : Tryd.prog.wantsStandIn 21 = false := by kernel_rfl
section
variable {H : Type} {enc : TypeId × Value → H} {W : World}
theorem cells_strg : Tryd.prog.cellsOf 9 = 1 := by kernel_rfl
theorem trod_str {P : Program} {fuel : Nat} {t : TypeId} {v : Value} {y : DataW H × List MemPlace} (hu : P.underlying t = some .string) (h : DataW.trod enc P W 0 (fun _ => true) true fuel t [v] = some y) : ∃ z : ByteArray, v = .string z ∧ y.1 = .lit (.string z.data.toList) := by
  cases fuel with
  | zero => simp [DataW.trod] at h
  | succ fuel =>
    unfold DataW.trod at h
    rw [hu] at h
    cases v with
    | string z =>
      simp only at h
      split at h
      · simp only [Option.some.injEq] at h
        exact ⟨z, rfl, by rw [← h]⟩
      · cases h
    | _ => simp at h
theorem cells_id : Tryd.prog.cellsOf 23 = 2 := by kernel_rfl
theorem dec_id {fuel : Nat} {cs : List Value} {d : DataW H} {ps : List MemPlace} (h : DataW.trod enc Tryd.prog W 0 (fun _ => true) true fuel 23 cs = some (d, ps)) :
    ∃ (has : Bool) (z : ByteArray), cs = [.bool has, .string z] ∧ z.size ≤ Rows.uptoBulk d := by
  cases fuel with
  | zero => simp [DataW.trod] at h
  | succ fuel =>
    obtain ⟨hc, xs, hd, _, hx⟩ := trod_st Tryd.underlying23 h
    rw [cells_id] at hc
    obtain ⟨c0, c1, rfl⟩ := two_of hc
    obtain ⟨y0, _, h0⟩ := hx 0 (by decide)
    obtain ⟨y1, g1, h1⟩ := hx 1 (by decide)
    have h0' : DataW.trod enc Tryd.prog W 0 (fun _ => true) true fuel 4 [c0] = some y0 := by simpa [cells_bool] using h0
    have h1' : DataW.trod enc Tryd.prog W 0 (fun _ => true) true fuel 9 [c1] = some y1 := by simpa [cells_strg] using h1
    obtain ⟨has, rfl⟩ := trod_bool Tryd.underlying4 h0'
    obtain ⟨z, rfl, hy⟩ := trod_str Tryd.underlying9 h1'
    refine ⟨has, z, rfl, ?_⟩
    have h3 := bulk_agg (List.mem_map_of_mem (f := (·.1)) (List.mem_of_getElem? g1))
    rw [← hd, hy] at h3
    simp only [Rows.uptoBulk, Array.length_toList] at h3 ⊢
    have e : z.size = z.data.size := rfl
    omega
end
end K
end Go.Proofs.YtepbicjadambbaaDoor
