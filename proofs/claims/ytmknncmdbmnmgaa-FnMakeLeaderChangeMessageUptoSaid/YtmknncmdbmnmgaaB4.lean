import Derived.Test.YtmknncmdbmnmgaaB3
import Derived.Test.YtmknncmdbmnmgaaK3
set_option linter.unusedVariables false
set_option linter.unusedSimpArgs false
namespace Go.Proofs.Ytmknncmdbmnmgaa
namespace K
open Go Go.Lib
/-! ### What is asked of a tree that a message is filled from -/
mutual
def gT : Tre → Prop
  | .mk _ _ _ l u => (u.map (·.1)).Nodup ∧ u.length ≤ 32767 ∧ l.length ≤ 32767 ∧ gTs l
def gTs : List Tre → Prop
  | [] => True
  | x :: r => gT x ∧ gTs r
end
theorem gTs.mem : ∀ {l : List Tre}, gTs l → ∀ x ∈ l, gT x
  | [], _, f, h => by simp at h
  | g :: r, h, f, hf => by
    simp only [gTs] at h
    rcases List.mem_cons.1 hf with rfl | hf
    · exact h.1
    · exact gTs.mem h.2 f hf
theorem gTs.of : ∀ {l : List Tre}, (∀ x ∈ l, gT x) → gTs l
  | [], _ => by simp [gTs]
  | g :: r, h => by
    simp only [gTs]
    exact ⟨h g (by simp), gTs.of fun x hx => h x (by simp [hx])⟩
theorem gT.open {x : Tre} (h : gT x) : (x.u.map (·.1)).Nodup ∧ x.u.length ≤ 32767 ∧ x.l.length ≤ 32767 ∧ gTs x.l := by
  cases x
  simpa only [gT, Tre.l, Tre.u] using h
theorem gT.nul : gT .nul := by simp [Tre.nul, gT, gTs]
theorem gT.at_ {x : Tre} (h : gT x) (i : Nat) : gT (x.at_ i) := by
  unfold Tre.at_
  by_cases hi : i < x.l.length
  · rw [List.getElem?_eq_getElem hi]
    exact gTs.mem h.open.2.2.2 _ (List.getElem_mem hi)
  · rw [List.getElem?_eq_none (by omega)]
    exact gT.nul
mutual
def fewF : Fld → Bool
  | .mk _ _ _ _ _ _ _ sub => Nat.ble sub.length 32767 && fewFs sub
def fewFs : List Fld → Bool
  | [] => true
  | f :: r => fewF f && fewFs r
end
theorem gT_u (k : Int) (u : Tags) : (((unkn k u).map cut).map (·.1)).Nodup ∧ ((unkn k u).map cut).length ≤ 32767 :=
  ⟨keys_nodup (srt_cut (unkn_sorted _ _)), by rw [List.length_map]; exact unkn_le _ _⟩
theorem fitL_len : ∀ (fs : List Fld) (v : Int) (x : Tre) (i : Nat), (fitL fs v x i).length = fs.length
  | [], v, x, i => rfl
  | f :: r, v, x, i => by simp [fitL, fitL_len r v x (i + 1)]
mutual
theorem gT_fitF : ∀ (f : Fld) (v : Int) (x : Tre), fewF f = true → gT (fitF f v x)
  | .mk k a b nul tag d o sub, v, x, hok => by
    simp only [fewF, Bool.and_eq_true, Nat.ble_eq] at hok
    have hL : ∀ y, gTs (fitL sub v y 0) := fun y => gT_fitL sub v y 0 hok.2
    have hlen : ∀ y, (fitL sub v y 0).length ≤ 32767 := fun y => by rw [fitL_len]; exact hok.1
    simp only [fitF]
    split
    · simp [gT, gTs]
    · split
      · simp only [gT]
        exact ⟨(gT_u _ _).1, (gT_u _ _).2, hlen x, hL x⟩
      · split
        · simp only [gT]
          refine ⟨by simp, by simp, by rw [List.length_map, List.length_take]; omega, gTs.of fun y hy => ?_⟩
          obtain ⟨z, _, rfl⟩ := List.mem_map.1 hy
          split
          · simp [gT, gTs]
          · split
            · simp only [gT]
              exact ⟨(gT_u _ _).1, (gT_u _ _).2, hlen z, hL z⟩
            · simp [gT, gTs]
        · simp [gT, gTs]
theorem gT_fitL : ∀ (fs : List Fld) (v : Int) (x : Tre) (i : Nat), fewFs fs = true → gTs (fitL fs v x i)
  | [], v, x, i, hok => by simp [fitL, gTs]
  | f :: r, v, x, i, hok => by
    simp only [fewFs, Bool.and_eq_true] at hok
    simp only [fitL, gTs]
    exact ⟨gT_fitF f v (x.at_ i) hok.1, gT_fitL r v x (i + 1) hok.2⟩
end
theorem gT_fitT (fs : List Fld) (v : Int) (x : Tre) (hl : fs.length ≤ 32767) (hok : fewFs fs = true) : gT (fitT fs v x) := by
  simp only [fitT, gT]
  exact ⟨(gT_u _ _).1, (gT_u _ _).2, by rw [fitL_len]; exact hl, gT_fitL fs v x 0 hok⟩
section
variable {P : Program} {n : Nat} {L : Env} {H H' : Hp} {C : Cx} {s : Vw} {p : Post} {c : Code} {K : Act → World → Prop} {ops : Array Oper} {rest : List Oper} {S : World → Prop} {d : Option Nat} {g : Option (Nat × Bool)}
variable {ty : TypeId} {pos : String} {af : Array Edge}
end
theorem uuid_copied (l : List UInt8) : (u8s l).take 16 ++ (List.replicate 16 (Value.int .u8 0)).drop l.length = u8s (uuid l) := by
  have e : ∀ k, (List.replicate 16 (Value.int .u8 0)).drop k = u8s (List.replicate (16 - k) 0) := fun k => by
    rw [List.drop_replicate]
    simp only [u8s, List.map_replicate]
    rfl
  rw [e, uuid]
  simp only [u8s, List.map_append, List.map_take]
theorem impl_sixteen (t : Vw) (v : Value) (l : List UInt8) (hv : RSv t v l) : CA Try.prog 191 [v] t fun _ r => r = .agg (u8s (uuid l)).toArray := by
  refine ca_enter Try.func191 rfl Try.ntmps191 rfl ?_
  refine cd_sr ?_
  refine ln_alloc (l := List.replicate 16 (Value.int .u8 0)) ti_16_uint8 rfl rfl (fun b1 => ?_)
  refine ln_cd ?_
  refine cd_sr ?_
  refine ln_pv (pv_slice_arr Try.underlying139 (by have := (tiuint8 : TI Try.prog _ _ _ _).size; obtain ⟨ii, h, _⟩ := Option.map_eq_some_iff.1 this; exact Option.isSome_iff_exists.2 ⟨ii, h⟩) rfl) rfl ?_
  refine ln_pv (pv_move (v := v) rfl) rfl ?_
  refine ln_copyO (i := 0) (l' := u8s (uuid l)) (m2 := l.length) (news := u8s l) rfl Try.underlying22 tiuint8.size rfl rfl (RS.src hv) (by simp) rfl (by exact uuid_copied l) ?_
  refine ln_cd ?_
  refine cd_sr ?_
  refine ln_pv (pv_ldO (i := 0) rfl Try.underlying139 rfl ti_16_uint8.size rfl (by simp [uuid_length])) rfl ?_
  refine ln_storeW (i := 0) (vs := u8s (uuid l)) rfl rfl rfl rfl (by rw [show (u8s (uuid l)).length = 16 by simp [uuid_length]]; exact ti_16_uint8.size) rfl (u8s_one _) ?_
  refine ln_cd ?_
  refine cd_ret ?_
  exact at_retC (i := 0) rfl rfl rfl Try.underlying139 rfl ti_16_uint8.size (by simp [uuid_length]) (fun w hS => rfl)
end K
end Go.Proofs.Ytmknncmdbmnmgaa
