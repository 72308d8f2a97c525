import Derived.Test.YtoledocfkjohhabB3
set_option linter.unusedVariables false
set_option linter.unusedSimpArgs false
namespace Go.Proofs.Ytoledocfkjohhab
namespace K
open Go Go.Lib
/-! ### What is asked of a tree that a message is filled from -/
mutual
def gT : Tre → Prop
  | .mk _ _ _ l u => (u.map (·.1)).Nodup ∧ u.length ≤ 32767 ∧ l.length ≤ 32767 ∧ gTs l
def gTs : List Tre → Prop
  | [] => True
  | x :: r => gT x ∧ gTs r
end
theorem gTs.mem : ∀ {l : List Tre}, gTs l → ∀ x ∈ l, gT x
  | [], _, f, h => by simp at h
  | g :: r, h, f, hf => by
    simp only [gTs] at h
    rcases List.mem_cons.1 hf with rfl | hf
    · exact h.1
    · exact gTs.mem h.2 f hf
theorem gTs.of : ∀ {l : List Tre}, (∀ x ∈ l, gT x) → gTs l
  | [], _ => by simp [gTs]
  | g :: r, h => by
    simp only [gTs]
    exact ⟨h g (by simp), gTs.of fun x hx => h x (by simp [hx])⟩
theorem gT.open {x : Tre} (h : gT x) : (x.u.map (·.1)).Nodup ∧ x.u.length ≤ 32767 ∧ x.l.length ≤ 32767 ∧ gTs x.l := by
  cases x
  simpa only [gT, Tre.l, Tre.u] using h
theorem gT.nul : gT .nul := by simp [Tre.nul, gT, gTs]
theorem gT.at_ {x : Tre} (h : gT x) (i : Nat) : gT (x.at_ i) := by
  unfold Tre.at_
  by_cases hi : i < x.l.length
  · rw [List.getElem?_eq_getElem hi]
    exact gTs.mem h.open.2.2.2 _ (List.getElem_mem hi)
  · rw [List.getElem?_eq_none (by omega)]
    exact gT.nul
mutual
def fewF : Fld → Bool
  | .mk _ _ _ _ _ _ _ sub => Nat.ble sub.length 32767 && fewFs sub
def fewFs : List Fld → Bool
  | [] => true
  | f :: r => fewF f && fewFs r
end
theorem gT_u (k : Int) (u : Tags) : (((unkn k u).map cut).map (·.1)).Nodup ∧ ((unkn k u).map cut).length ≤ 32767 :=
  ⟨keys_nodup (srt_cut (unkn_sorted _ _)), by rw [List.length_map]; exact unkn_le _ _⟩
theorem fitL_len : ∀ (fs : List Fld) (v : Int) (x : Tre) (i : Nat), (fitL fs v x i).length = fs.length
  | [], v, x, i => rfl
  | f :: r, v, x, i => by simp [fitL, fitL_len r v x (i + 1)]
mutual
theorem gT_fitF : ∀ (f : Fld) (v : Int) (x : Tre), fewF f = true → gT (fitF f v x)
  | .mk k a b nul tag d o sub, v, x, hok => by
    simp only [fewF, Bool.and_eq_true, Nat.ble_eq] at hok
    have hL : ∀ y, gTs (fitL sub v y 0) := fun y => gT_fitL sub v y 0 hok.2
    have hlen : ∀ y, (fitL sub v y 0).length ≤ 32767 := fun y => by rw [fitL_len]; exact hok.1
    simp only [fitF]
    split
    · simp [gT, gTs]
    · split
      · simp only [gT]
        exact ⟨(gT_u _ _).1, (gT_u _ _).2, hlen x, hL x⟩
      · split
        · simp only [gT]
          refine ⟨by simp, by simp, by rw [List.length_map, List.length_take]; omega, gTs.of fun y hy => ?_⟩
          obtain ⟨z, _, rfl⟩ := List.mem_map.1 hy
          split
          · simp [gT, gTs]
          · split
            · simp only [gT]
              exact ⟨(gT_u _ _).1, (gT_u _ _).2, hlen z, hL z⟩
            · simp [gT, gTs]
        · simp [gT, gTs]
theorem gT_fitL : ∀ (fs : List Fld) (v : Int) (x : Tre) (i : Nat), fewFs fs = true → gTs (fitL fs v x i)
  | [], v, x, i, hok => by simp [fitL, gTs]
  | f :: r, v, x, i, hok => by
    simp only [fewFs, Bool.and_eq_true] at hok
    simp only [fitL, gTs]
    exact ⟨gT_fitF f v (x.at_ i) hok.1, gT_fitL r v x (i + 1) hok.2⟩
end
theorem gT_fitT (fs : List Fld) (v : Int) (x : Tre) (hl : fs.length ≤ 32767) (hok : fewFs fs = true) : gT (fitT fs v x) := by
  simp only [fitT, gT]
  exact ⟨(gT_u _ _).1, (gT_u _ _).2, by rw [fitL_len]; exact hl, gT_fitL fs v x 0 hok⟩
section
variable {P : Program} {n : Nat} {L : Env} {H H' : Hp} {C : Cx} {s : Vw} {p : Post} {c : Code} {K : Act → World → Prop} {ops : Array Oper} {rest : List Oper} {S : World → Prop} {d : Option Nat} {g : Option (Nat × Bool)}
variable {ty : TypeId} {pos : String} {af : Array Edge}
theorem pv_slice_arr {t e : TypeId} {m b : Nat} {x : Operand} (hu : P.underlying t = some (.array m e)) (hsz : (P.info? e).isSome = true) (hx : ev L x = some (.pointer (some ⟨b, 0, none⟩))) :
    PV P S ⟨d, .slice t x none none none, ty, pos, af, g⟩ n L (.slice (some ⟨b, 0, none⟩) m m) := fun a w hF _ => by
  obtain ⟨ii, hi⟩ := Option.isSome_iff_exists.1 hsz
  have e1 : P.arrayLen t = m := by simp [Program.arrayLen, hu]
  have e2 : P.elem t = e := by simp [Program.elem, hu]
  have h := run_sliceAt_array_all (P := P) w t ⟨b, 0, none⟩ (by rw [e1, e2]; exact hu)
  rw [e1, e2] at h
  simp only [execOp, hF.ev hx, Option.map_none]
  simp only [Sem.run_bind, h]
  simp [sizeOf, typeInfo, hi, Result.andThen, slicedAt]
  exact fun _ => Addr.add_zero' _
end
theorem uuid_copied (l : List UInt8) : (u8s l).take 16 ++ (List.replicate 16 (Value.int .u8 0)).drop l.length = u8s (uuid l) := by
  have e : ∀ k, (List.replicate 16 (Value.int .u8 0)).drop k = u8s (List.replicate (16 - k) 0) := fun k => by
    rw [List.drop_replicate]
    simp only [u8s, List.map_replicate]
    rfl
  rw [e, uuid]
  simp only [u8s, List.map_append, List.map_take]
end K
end Go.Proofs.Ytoledocfkjohhab
