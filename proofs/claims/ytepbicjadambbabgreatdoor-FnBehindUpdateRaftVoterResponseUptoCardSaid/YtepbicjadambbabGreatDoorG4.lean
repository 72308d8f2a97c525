import Derived.Test.YtepbicjadambbabGreatDoorG3
set_option linter.unusedVariables false
set_option linter.unusedSimpArgs false
namespace Go.Proofs.YtepbicjadambbabGreatDoor
namespace K
open Go Go.Lib
theorem tags_AppendEach : TagsEachC := by
  intro t b off mv l us v L hr hm hrk hsrt hbd hB hok hav
  have hr1 : RC1 t b off mv := hr
  have hvd : v.oneCell' = true := ownsRow_one hok
  refine ct_enter Tryz.func39 rfl Tryz.ntmps39 rfl hok hav (by simp only [Ent.blk]; cases v.ownBlock <;> simp) ?_
  refine cd_sr ?_
  refine ln_box rfl (one_cells hvd) rfl (fun b1 => ?_)
  refine ln_pv (pv_assign rfl) rfl ?_
  refine ln_cd ?_
  refine cd_sr ?_
  refine ln_pv (pv_move rfl) rfl ?_
  refine ln_pv (pv_makeFunc (vf := #[]) (vc := #[.pointer (some ⟨b1, 0, none⟩)]) (by rw [List.map_toArray, List.map_toArray]; rfl) (by rw [List.map_toArray, List.map_toArray]; rfl)) rfl ?_
  refine ln_callH (E := CE b1 v L) (H0 := []) (List.Perm.refl _) en_61 rfl (fun u hu hok hav hnd => tags_Each u b off b1 mv v l us L (hr1.mv hu) (hm.mv hu) (RK.mv hu hrk) hsrt hbd hB hok hav hnd) rfl ?_
  rintro u1 v1 _ ht1 ⟨_, ⟨vd9, rfl, hvd9⟩, _⟩
  have hr1 := hr1.mv ht1
  have hm := hm.mv ht1
  have hrk := hrk.mv ht1
  refine ln_cd ?_
  refine cd_sr ?_
  refine ln_pv (pv_ldo (i := 0) rfl Tryz.underlying22 rfl rfl rfl) rfl ?_
  refine ln_pv (pv_assign rfl) rfl ?_
  refine ln_cd ?_
  refine cd_ret ?_
  exact at_retT (i := 1) rfl rfl rfl (fun w hS => ⟨rfl, hvd9⟩)
end K
end Go.Proofs.YtepbicjadambbabGreatDoor
