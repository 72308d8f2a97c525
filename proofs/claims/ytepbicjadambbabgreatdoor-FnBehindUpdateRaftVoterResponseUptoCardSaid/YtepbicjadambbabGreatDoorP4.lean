import Derived.Test.YtepbicjadambbabGreatDoorP3
set_option linter.unusedVariables false
set_option linter.unusedSimpArgs false
namespace Go.Proofs.YtepbicjadambbabGreatDoor
namespace K
open Go Go.Lib
theorem okFs_mem : ∀ {fs : List Fld}, okFs fs = true → ∀ f ∈ fs, okF f = true
  | [], _, f, h => by simp at h
  | g :: r, h, f, hf => by
    simp only [okFs, Bool.and_eq_true] at h
    rcases List.mem_cons.1 hf with rfl | hf
    · exact h.1
    · exact okFs_mem h.2 f hf
/-- what is written of one field of a fitted tree: 32 bits tell how long it is -/
theorem tag32 (fs : List Fld) (fx v : Int) (x : Tre) (j : Nat) (hj : j < fs.length) (ho : ofOks fs = true) (hu : nuFs fx fs = true) (hok : okFs fs = true) (hk : keysT x) (hw : wt x ≤ 1048576) (hK : KF fs[j] ≤ 4095) : (fieldB fs[j] v (flexB fx v) ((fitT fs v x).at_ j)).length ≤ 4294967295 := by
  have e1 : (fitT fs v x).at_ j = fitF fs[j] v (x.at_ j) := fitT_at' fs v x false _ j hj
  rw [e1, (fieldsB_fit fx fs v (flexB fx v) x ho hu (fun h => by simp only [flexB, Bool.and_eq_true, decide_eq_true_eq] at h; exact h.2) j hj).1]
  have h1 := wt_at x j
  have h2 : KF fs[j] * wt (x.at_ j) ≤ 4095 * 1048576 := Nat.mul_le_mul hK (by omega)
  have h3 := fieldB_len fs[j] v (flexB fx v) (x.at_ j) (okFs_mem hok _ (List.getElem_mem hj)) (hk.at_ j) (by unfold BIG; omega)
  omega
end K
end Go.Proofs.YtepbicjadambbabGreatDoor
