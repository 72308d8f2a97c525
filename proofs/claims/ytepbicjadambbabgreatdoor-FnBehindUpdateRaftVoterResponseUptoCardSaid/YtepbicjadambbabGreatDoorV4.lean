import Derived.Test.YtepbicjadambbabGreatDoorIx
import Derived.Scope
import Derived.Test.YtepbicjadambbabGreatDoorQ1
import Derived.Test.YtepbicjadambbabGreatDoorB2
set_option linter.unusedVariables false
set_option linter.unusedSimpArgs false
namespace Go.Proofs.YtepbicjadambbabGreatDoor
namespace K
open Go Go.Lib
/-! ### A window of an owned entry: cells that are read and written in place -/
structure Tgt (mk : List Value → Ent) (b o len : Nat) : Prop where
  blk : ∀ win, (mk win).blk = [b]
  rd : ∀ (win : List Value) (w : World), win.length = len → (mk win).ok w → ∀ j v, win[j]? = some v → w.cell? ⟨b, o + j, none⟩ = some v
  put : ∀ (P : Program) (win vs : List Value) (off : Nat) (w : World), win.length = len → (mk win).ok w → off + vs.length ≤ len → (∀ u ∈ vs, u.oneCell' = true) →
    ∃ w', (storeCells ⟨b, o + off, none⟩ vs 0).run P w = .ok () w' ∧ (mk (wr win off vs)).ok w' ∧ Mod (fun x => x = b) w w'
theorem Tgt.obj (b : Nat) (T : TypeId) (len : Nat) : Tgt (fun win => .obj b (.cells win.toArray T)) b 0 len := by
  refine ⟨fun _ => rfl, fun win w hl hok j v hv => cell_of_list hok _ (by simpa using hv), fun P win vs off w hl hok hle h1 => ?_⟩
  obtain ⟨w', hr, hh, hm⟩ := run_storeList (P := P) vs w b off 0 win T hok (by omega) h1
  exact ⟨w', by simpa using hr, by simpa [Ent.ok, wr] using hh, hm⟩
theorem Tgt.row (b c m sz : Nat) (e : TypeId) : Tgt (fun xs => .row (.slice (some ⟨b, 0, none⟩) m c) e sz m xs) b 0 (m * sz) := by
  refine ⟨fun _ => rfl, fun win w hl hok j v hv => ?_, fun P win vs off w hl hok hle h1 => ?_⟩
  · have h : w.ownsRow 0 e sz (.slice (some ⟨b, 0, none⟩) m c) m win := hok
    have := World.ownsRow.cells h (g := b) rfl j v hv
    rwa [Addr.add_lit] at this
  · have hown : w.ownsRow 0 e sz (.slice (some ⟨b, 0, none⟩) m c) m win := hok
    rcases hown.2 with ⟨h, _⟩ | ⟨g, cap, cur, he, hb, hg, hnc, hcm, hcs, htake⟩
    · cases h
    · simp only [Value.slice.injEq, Option.some.injEq, Addr.mk.injEq] at he
      obtain ⟨⟨rfl, _⟩, _, rfl⟩ := he
      have hcur : m * sz ≤ cur.toList.length := by
        rw [Array.length_toList, hcs]
        exact Nat.mul_le_mul_right _ hnc
      obtain ⟨w', hr, hh, hm⟩ := run_storeList (P := P) vs w b off 0 cur.toList e (by simpa using hg) (by omega) h1
      refine ⟨w', by simpa using hr, ?_, hm⟩
      have hxl : win.length = m * sz := hown.1
      refine ⟨by simp [wr, hxl]; omega, .inr ⟨b, c, _, rfl, Nat.zero_le _, hh, hnc, hcm, ?_, ?_⟩⟩
      · simp only [Nat.add_zero, List.size_toArray, List.length_append, List.length_take, List.length_drop]
        rw [Array.length_toList] at hcur ⊢
        try omega
      · simp only [Nat.add_zero, wr]
        rw [List.take_append, List.take_append, List.length_append, List.length_take, ← htake]
        have e1 : min off cur.toList.length = off := by omega
        rw [e1, List.take_take, List.take_take, List.drop_take, List.take_of_length_le (l := vs) (by omega)]
        congr 2
        all_goals first | omega | (congr 1; omega) | skip
theorem wr_mid {p win q vs : List Value} {off : Nat} (h : off + vs.length ≤ win.length) : wr (p ++ win ++ q) (p.length + off) vs = p ++ wr win off vs ++ q := by
  simp only [wr]
  have e1 : (p ++ win ++ q).take (p.length + off) = p ++ win.take off := by
    rw [List.append_assoc, List.take_length_add_append, List.take_append_of_le_length (by omega)]
  have e2 : (p ++ win ++ q).drop (p.length + off + vs.length) = win.drop (off + vs.length) ++ q := by
    rw [List.append_assoc, Nat.add_assoc, List.drop_length_add_append, List.drop_append_of_le_length (by omega)]
  rw [e1, e2]
  simp [List.append_assoc]
theorem Tgt.sub {mk : List Value → Ent} {b o len : Nat} (h : Tgt mk b o len) (p q : List Value) (len' o' : Nat) (hl : p.length + len' + q.length = len) (ho : o + p.length = o') : Tgt (fun win => mk (p ++ win ++ q)) b o' len' := by
  subst ho
  refine ⟨fun win => h.blk _, fun win w hw hok j v hv => ?_, fun P win vs off w hw hok hle h1 => ?_⟩
  · have := h.rd (p ++ win ++ q) w (by simp; omega) hok (p.length + j) v (by
      have hj := (List.getElem?_eq_some_iff.1 hv).1
      rw [List.append_assoc, List.getElem?_append_right (by omega), Nat.add_sub_cancel_left, List.getElem?_append_left hj]
      exact hv)
    rwa [← Nat.add_assoc] at this
  · obtain ⟨w', h2, h3, h4⟩ := h.put P (p ++ win ++ q) vs (p.length + off) w (by simp; omega) hok (by omega) h1
    refine ⟨w', by rw [Nat.add_assoc]; exact h2, ?_, h4⟩
    rwa [wr_mid (by omega)] at h3
section
variable {P : Program} {n : Nat} {L : Env} {H : Hp} {C : Cx} {s : Vw} {K : Act → World → Prop} {ops : Array Oper} {rest : List Oper}
variable {ty : TypeId} {pos : String} {af : Array Edge} {mk : List Value → Ent} {b o len : Nat} {win : List Value}
theorem ln_storeG {i off : Nat} {t : TypeId} {x y : Operand} {vs win' : List Value} {v : Value} (hT : Tgt mk b o len) (hi : H[i]? = some (mk win)) (hl : win.length = len) (hx : ev L x = some (.pointer (some ⟨b, o + off, none⟩))) (hy : ev L y = some v)
    (hv : v.cells = vs.toArray) (hsz : (P.info? t).map (·.size) = some vs.length) (hle : off + vs.length ≤ len) (h1 : ∀ u ∈ vs, u.oneCell' = true) (hw : wr win off vs = win')
    (k : Ln P ops rest K n L (H.set i (mk win')) C s) : Ln P ops (⟨none, .store t x y, ty, pos, af, none⟩ :: rest) K n L H C s := fun a w hF hS => by
  subst hw
  have hok : (mk win).ok w := hS.hf _ (List.mem_of_getElem? hi)
  obtain ⟨ii, hii, hsz⟩ := Option.map_eq_some_iff.1 hsz
  obtain ⟨w', hr, hh, hm⟩ := hT.put P win vs off w hl hok hle h1
  have hb : (mk win).blk = [b] := hT.blk _
  have hb' : (mk (wr win off vs)).blk = [b] := hT.blk _
  refine wpl_skip rfl (w' := w') ?_ (k _ _ hF (hS.turn hi (by simpa [hb] using hm) hh (by rw [hb, hb']; exact fun q hq => .inl hq) (by rw [hb']; simp)))
  simp only [execOp, hF.ev hx, hF.ev hy, Instr.storeAt, Instr.sureAddr, storeVar]
  simp [sizeOf, typeInfo, hii, hsz, hv, hr, Result.andThen]
/-- one cell of it -/
theorem ln_storeG1 {i off : Nat} {t : TypeId} {x y : Operand} {v : Value} (hT : Tgt mk b o len) (hi : H[i]? = some (mk win)) (hl : win.length = len) (hx : ev L x = some (.pointer (some ⟨b, o + off, none⟩))) (hy : ev L y = some v)
    (h1 : v.oneCell' = true) (hsz : (P.info? t).map (·.size) = some 1) (hle : off + 1 ≤ len)
    (k : Ln P ops rest K n L (H.set i (mk (win.set off v))) C s) : Ln P ops (⟨none, .store t x y, ty, pos, af, none⟩ :: rest) K n L H C s :=
  ln_storeG (vs := [v]) hT hi hl hx hy (one_cells h1) hsz hle (by simp [h1]) (wr_one (by omega)) k
theorem pv_ldG1 {d : Option Nat} {g : Option (Nat × Bool)} {t : TypeId} {x : Operand} {i off : Nat} {dd : TypeDesc} {v : Value} (hT : Tgt mk b o len) (hi : H[i]? = some (mk win)) (hl : win.length = len) (hd : P.underlying t = some dd) (hna : (match dd with | .struct _ | .array _ _ => true | _ => false) = false)
    (hx : ev L x = some (.pointer (some ⟨b, o + off, none⟩))) (hv : win[off]? = some v) : PV P (Sk s H) ⟨d, .load t x, ty, pos, af, g⟩ n L v :=
  pv_load1 hd hna hx fun w hw => hT.rd win w hl (hw.2 _ (List.mem_of_getElem? hi)) off v hv
/-! ### x[k:], x[:k:k] -/
theorem sliceBound_nat {w : World} {k : IntKind} {i y : Nat} {code : BoundsCode} (h1 : i ≤ y) : (Instr.sliceBound (.int k (i : Int)) y code).run P w = .ok i w := by
  have := sliceBound_run (P := P) (w := w) (k := k) (i := (i : Int)) (y := y) (code := code) (by omega) (by omega)
  simpa using this
theorem pv_sliceV {S : World → Prop} {d : Option Nat} {g : Option (Nat × Bool)} {t e : TypeId} {x y : Operand} {k : IntKind} {i : Nat} {a : Option Addr} {m c : Nat} (hu : P.underlying t = some (.slice e)) (hsz : (P.info? e).map (·.size) = some 1) (hx : ev L x = some (.slice a m c)) (hy : ev L y = some (.int k (i : Int))) (h0 : i ≤ m) (h1 : m ≤ c) :
    PV P S ⟨d, .slice t x (some y) none none, ty, pos, af, g⟩ n L (.slice (if c = i then a else a.map (·.add i)) (m - i) (c - i)) := fun a' w hF _ => by
  obtain ⟨ii, hi, hsz⟩ := Option.map_eq_some_iff.1 hsz
  simp only [execOp, hF.ev hx, hF.ev hy, Instr.sliceAt, Option.map_some, Option.map_none]
  simp [run_underlying hu, Instr.slice, Instr.sliceBounds, sliceBound_nat h0, sizeOf, typeInfo, hi, hsz, Result.andThen]
theorem pv_slice_3 {S : World → Prop} {d : Option Nat} {g : Option (Nat × Bool)} {t e : TypeId} {x y z : Operand} {k k' : IntKind} {i : Nat} {a : Option Addr} {m c : Nat} (hu : P.underlying t = some (.slice e)) (hsz : (P.info? e).isSome = true) (hx : ev L x = some (.slice a m c)) (hy : ev L y = some (.int k (i : Int))) (hz : ev L z = some (.int k' (i : Int))) (h0 : i ≤ c) :
    PV P S ⟨d, .slice t x none (some y) (some z), ty, pos, af, g⟩ n L (.slice a i i) := fun a' w hF _ => by
  obtain ⟨ii, hi⟩ := Option.isSome_iff_exists.1 hsz
  simp only [execOp, hF.ev hx, hF.ev hy, hF.ev hz, Instr.sliceAt, Option.map_some, Option.map_none]
  simp [run_underlying hu, Instr.slice, Instr.sliceBounds, sliceBound_nat h0, sliceBound_nat (Nat.le_refl i), sizeOf, typeInfo, hi, Result.andThen]
  intro _
  cases a with
  | none => rfl
  | some z => exact congrArg some (Addr.add_zero' z)
end
/-- what still lies ahead: it is there -/
def RSn (s : Vw) (v : Value) (l : List UInt8) : Prop := RSv s v l ∧ ∃ g o c, v = .slice (some ⟨g, o, none⟩) l.length c
theorem RSn.mv {s t : Vw} {v : Value} {l : List UInt8} (h : RSn s v l) (ht : Tr s t) : RSn t v l := ⟨RSv.mv h.1 ht, h.2⟩
theorem RSv.shape {s : Vw} {v : Value} {l : List UInt8} (h : RSv s v l) : ∃ ad c, v = .slice ad l.length c ∧ l.length ≤ c := RS.shape h
theorem RSv.pos {s : Vw} {v : Value} {l : List UInt8} (h : RSv s v l) (hl : 0 < l.length) : RSn s v l := by
  obtain ⟨ad, c, rfl, hc⟩ := RSv.shape h
  obtain ⟨b, o, rfl, _⟩ := RS.pos h hl (by decide)
  exact ⟨h, _, _, _, rfl⟩
theorem u8s_drop (l : List UInt8) (k : Nat) : (u8s l).drop k = u8s (l.drop k) := by simp [u8s]
theorem u8s_take (l : List UInt8) (k : Nat) : (u8s l).take k = u8s (l.take k) := by simp [u8s]
theorem u8s_ne {l : List UInt8} (h : l ≠ []) : u8s l ≠ [] := fun e => h (by simpa [u8s] using e)
theorem RSv.drop {s : Vw} {g o c : Nat} {bs rest : List UInt8} (h : RSv s (.slice (some ⟨g, o, none⟩) (bs ++ rest).length c) (bs ++ rest)) : RSn s (.slice (if c = bs.length then some ⟨g, o, none⟩ else (some ⟨g, o, none⟩ : Option Addr).map (·.add bs.length)) ((bs ++ rest).length - bs.length) (c - bs.length)) rest := by
  have hl : (bs ++ rest).length - bs.length = rest.length := by simp
  rw [hl]
  rcases h.2.2 with ⟨he, _⟩ | ⟨a', c', he, hc, hr⟩
  · cases he
  · simp only [Value.slice.injEq, Option.some.injEq, true_and] at he
    obtain ⟨rfl, rfl⟩ := he
    simp only [List.length_append] at hc
    by_cases e : c = bs.length
    · rw [if_pos e]
      have h0 : rest = [] := List.eq_nil_of_length_eq_zero (by omega)
      subst h0
      exact ⟨⟨by simp, by simp [u8s], .inr ⟨_, _, rfl, Nat.zero_le _, fun hne => by simp at hne⟩⟩, _, _, _, rfl⟩
    · rw [if_neg e, Option.map_some, Addr.add_lit]
      refine ⟨⟨by simp, u8s_one _, .inr ⟨_, _, rfl, by omega, fun hne => ?_⟩⟩, _, _, _, rfl⟩
      obtain ⟨h0, hrc⟩ := hr (u8s_ne (by rintro e0; have := congrArg List.length e0; simp only [List.length_append, List.length_nil] at this; have h0 : rest = [] := List.eq_nil_of_length_eq_zero (by omega); subst h0; simp at hne))
      refine ⟨rfl, ?_⟩
      exact hrc.sub bs.length (c1 := u8s bs) (c2 := u8s rest) (c3 := []) (by simp) (by simp)
theorem RSv.take {s : Vw} {g o c : Nat} {bs rest : List UInt8} (h : RSv s (.slice (some ⟨g, o, none⟩) (bs ++ rest).length c) (bs ++ rest)) : RSn s (.slice (some ⟨g, o, none⟩) bs.length bs.length) bs := by
  refine ⟨⟨by simp, u8s_one _, ?_⟩, _, _, _, rfl⟩
  rcases h.2.2 with ⟨he, _⟩ | ⟨a', c', he, hc, hr⟩
  · cases he
  · simp only [Value.slice.injEq, Option.some.injEq, true_and] at he
    obtain ⟨rfl, rfl⟩ := he
    refine .inr ⟨_, _, rfl, Nat.le_refl _, fun hne => ?_⟩
    obtain ⟨h0, hrc⟩ := hr (u8s_ne (by rintro e0; have := congrArg List.length e0; simp only [List.length_append, List.length_nil] at this; have h0 : bs = [] := List.eq_nil_of_length_eq_zero (by omega); subst h0; simp at hne))
    refine ⟨rfl, ?_⟩
    have := hrc.sub 0 (c1 := []) (c2 := u8s bs) (c3 := u8s rest) (by simp) rfl
    exact this
/-! ### The reader -/
abbrev RdE (b : Nat) (v : Value) : Ent := .obj b (.cells [v, .bool false].toArray 89)
/-- a function of the reader's, over octets that are there -/
def RdC (f : FuncId) (bs : List UInt8) (Rr : Vw → Value → Prop) (t : Vw) : Prop := ∀ (b : Nat) (v : Value) (rest : List UInt8), RSv t v (bs ++ rest) → (RdE b v).ok t.w → (∀ q ∈ (RdE b v).blk, t.av q) →
  CT Tryz.prog f [.pointer (some ⟨b, 0, none⟩)] t (RdE b v) fun u r e' => Rr u r ∧ ∃ v', e' = RdE b v' ∧ RSn u v' rest
theorem RdC.mono {f : FuncId} {bs : List UInt8} {Rr Rr' : Vw → Value → Prop} {t : Vw} (h : RdC f bs Rr t) (hr : ∀ u v, Rr u v → Rr' u v) : RdC f bs Rr' t := fun b v rest h1 h2 h3 =>
  Calls.mono (h b v rest h1 h2 h3) fun x w' ⟨r, e', he, g1, g2, g3, g4, g5, ⟨g6, g7⟩⟩ => ⟨r, e', he, g1, g2, g3, g4, g5, hr _ _ g6, g7⟩
end K
end Go.Proofs.YtepbicjadambbabGreatDoor
namespace Go.Proofs.YtepbicjadambbabGreatDoor
namespace K
open Go Go.Lib
theorem pv_shl' {P : Program} {S : World → Prop} {n : Nat} {L : Env} {d : Option Nat} {g : Option (Nat × Bool)} {ty : TypeId} {pos : String} {af : Array Edge} {t u : TypeId} {x y : Operand} {k yk : IntKind} {i j r : Int} (hx : ev L x = some (.int k i)) (hy : ev L y = some (.int yk j)) (h0 : 0 ≤ j) (h1 : j ≤ k.bits) (hr : k.wrap (i * 2 ^ j.toNat) = r) : PV P S ⟨d, .binOp .shl t x y u, ty, pos, af, g⟩ n L (.int k r) := hr ▸ pv_shl hx hy h0 h1
theorem orj (k : IntKind) (j : Nat) (hj : j ≤ k.bits) (hk : ∀ n : Int, 0 ≤ n → n < 2 ^ j → k.wrap n = n) (i : Nat) (hij : i ≤ j) (x y : Int) (hx0 : 0 ≤ x) (hx : x % 2 ^ i = 0) (hx1 : x < 2 ^ j) (hy0 : 0 ≤ y) (hy : y < 2 ^ i) : bits .or k y x = y + x := by
  have hy1 : y < 2 ^ j := Int.lt_of_lt_of_le hy (by exact_mod_cast Nat.pow_le_pow_right (by decide) hij)
  have h := bits_join k j hj hk i x y hx0 hx hx1 hy0 hy hy1
  obtain ⟨a, rfl⟩ := Int.eq_ofNat_of_zero_le hx0
  obtain ⟨b, rfl⟩ := Int.eq_ofNat_of_zero_le hy0
  have ha : a < 2 ^ j := by exact_mod_cast hx1
  have hb : b < 2 ^ j := by exact_mod_cast hy1
  rw [(bits_nat k j hj hk a b ha hb).2] at h
  rw [(bits_nat k j hj hk b a hb ha).2, Nat.or_comm, h]
  omega
theorem or16 (i : Nat) (hi : i ≤ 16) (x y : Int) (hx0 : 0 ≤ x) (hx : x % 2 ^ i = 0) (hx1 : x < 65536) (hy0 : 0 ≤ y) (hy : y < 2 ^ i) : bits .or .u16 y x = y + x := orj .u16 16 (by decide) (fun n h0 h1 => by rw [wrap_u16_eq]; simp at h1; omega) i hi x y hx0 hx (by simpa using hx1) hy0 hy
theorem or32 (i : Nat) (hi : i ≤ 32) (x y : Int) (hx0 : 0 ≤ x) (hx : x % 2 ^ i = 0) (hx1 : x < 4294967296) (hy0 : 0 ≤ y) (hy : y < 2 ^ i) : bits .or .u32 y x = y + x := orj .u32 32 (by decide) (fun n h0 h1 => by rw [wrap_u32_eq]; simp at h1; omega) i hi x y hx0 hx (by simpa using hx1) hy0 hy
theorem or64 (i : Nat) (hi : i ≤ 64) (x y : Int) (hx0 : 0 ≤ x) (hx : x % 2 ^ i = 0) (hx1 : x < 18446744073709551616) (hy0 : 0 ≤ y) (hy : y < 2 ^ i) : bits .or .u64 y x = y + x := orj .u64 64 (by decide) (fun n h0 h1 => by rw [wrap_u64_eq]; simp at h1; omega) i hi x y hx0 hx (by simpa using hx1) hy0 hy
theorem b8_emod (x : Int) : ((b8 x).toNat : Int) = x % 256 := by
  rw [← wrap_u8]
  simp [IntKind.wrap, IntKind.bits, IntKind.signed]
theorem and128_all : (List.range 256).all (fun y => bits .and .u8 ((y : Nat) : Int) 128 == (if y < 128 then 0 else 128)) = true := by decide +kernel
theorem and128_u8 {y : Int} (h0 : 0 ≤ y) (h1 : y < 256) : bits .and .u8 y 128 = if y < 128 then 0 else 128 := by
  obtain ⟨a, rfl⟩ := Int.eq_ofNat_of_zero_le h0
  have := List.all_eq_true.1 and128_all a (List.mem_range.2 (by omega))
  have h2 : bits .and .u8 ((a : Nat) : Int) 128 = if a < 128 then 0 else 128 := by simpa using this
  rw [h2]
  by_cases h : a < 128
  · rw [if_pos h, if_pos (by omega)]
  · rw [if_neg h, if_neg (by omega)]
section
variable {P : Program} {n : Nat} {L : Env} {H : Hp} {C : Cx} {s : Vw} {p : Post} {S : World → Prop} {d : Option Nat} {g : Option (Nat × Bool)} {ty : TypeId} {pos : String} {af : Array Edge}
theorem cd_scope {c : Code} (h : Cd P c p n L H C s) : Cd P (.scope c) p n L H C s := fun a w hF hS =>
  wp_scope_straight (Code.wp_mono (fun e a w hq => by cases e <;> first | exact hq | exact (hq : False).elim) (h a w hF hS))
theorem pv_ix8 {t e : TypeId} {x y : Operand} {k : IntKind} {b o m c i : Nat} (hu : P.underlying t = some (.slice e)) (hsz : (P.info? e).map (·.size) = some 1) (hx : ev L x = some (.slice (some ⟨b, o, none⟩) m c)) (hy : ev L y = some (.int k (i : Int))) (h1 : i < m) :
    PV P S ⟨d, .indexAddr t x y, ty, pos, af, g⟩ n L (.pointer (some ⟨b, o + i, none⟩)) := by
  have := pv_ixN (S := S) (d := d) (ty := ty) (pos := pos) (af := af) (g := g) (n := n) hu hsz hx hy h1
  simpa using this
theorem at_retA2 {fn : Func} {t : Vw} {R : Vw → Value → Prop} {K : Nat} {q1 q2 : Nat} {v1 v2 : Value} (hr : fn.results = #[.tmp q1, .tmp q2]) (h1 : lk L q1 = some v1) (h2 : lk L q2 = some v2) (h : ∀ w, ∀ hS : St ⟨t, No⟩ s H w, R hS.fin (.tuple #[v1, v2])) : At (rpA P fn t R) n L H ⟨t, No⟩ s := fun a w hF hS => by
  refine ⟨hF.df, .tuple #[v1, v2], ?_, hS.fin.lt, hS.whole, h w hS⟩
  simp [results, hr, hF.get q1 v1 h1, hF.get q2 v2 h2]
end
theorem be_Uint16 (t : Vw) (v : Value) (x0 x1 : UInt8) (rest : List UInt8) (hv : RSv t v (x0 :: x1 :: rest)) : CS Tryz.prog 64 [.agg #[], v] t (.int .u16 ((x1.toNat : Int) + ((x0.toNat : Int) * 256))) := by
  obtain ⟨ad, c, rfl, hc⟩ := RSv.shape hv
  obtain ⟨b, o, rfl, hrc⟩ := RS.pos hv (by simp) (by decide)
  simp only [u8s_cons] at hrc
  have hb0 := x0.toNat_lt
  have hb1 := x1.toNat_lt
  refine CA.cs ?_
  refine ca_enter Tryz.func64 rfl Tryz.ntmps64 rfl ?_
  refine cd_sr ?_
  refine ln_box (l := []) rfl rfl rfl (fun bb => ?_)
  refine ln_pv (pv_assign rfl) rfl ?_
  refine ln_cd ?_
  refine cd_sr ?_
  refine ln_pv (pv_move rfl) rfl ?_
  refine ln_pv (pv_ix8 (i := 1) Tryz.underlying22 tiuint8.size rfl rfl (by simp)) rfl ?_
  refine ln_pv (pv_ldr (j := 1) hrc Tryz.underlying5 rfl rfl rfl) rfl ?_
  refine ln_cd ?_
  refine cd_dr' [] [0, 1, 2, 3, 4, 5, 6, 7, 8, 9, 10] [0, 1, 2, 3, 4, 5, 6, 7, 8, 9, 10] mixed (by kernel_rfl) ?_
  refine lo_pv rfl rfl (sk_js (Tr.refl _) [] rfl) (pv_move rfl) rfl ?_
  refine lo_pv rfl rfl (sk_js (Tr.refl _) [] rfl) (pv_ix8 (i := 1) Tryz.underlying22 tiuint8.size rfl rfl (by simp)) rfl ?_
  refine lo_pv rfl rfl (sk_js (Tr.refl _) [] rfl) (pv_ldr (j := 1) hrc Tryz.underlying5 rfl rfl rfl) rfl ?_
  refine lo_pv rfl rfl (sk_js (Tr.refl _) [] rfl) (pv_conv' (k := .u8) (i := (x1.toNat : Int)) Tryz.underlying5 Tryz.underlying99 rfl (r := (x1.toNat : Int)) (by rw [wrap_u16_eq]; omega)) rfl ?_
  refine lo_pv rfl rfl (sk_js (Tr.refl _) [] rfl) (pv_move rfl) rfl ?_
  refine lo_pv rfl rfl (sk_js (Tr.refl _) [] rfl) (pv_ix8 (i := 0) Tryz.underlying22 tiuint8.size rfl rfl (by simp)) rfl ?_
  refine lo_pv rfl rfl (sk_js (Tr.refl _) [] rfl) (pv_ldr (j := 0) hrc Tryz.underlying5 rfl rfl rfl) rfl ?_
  refine lo_pv rfl rfl (sk_js (Tr.refl _) [] rfl) (pv_conv' (k := .u8) (i := (x0.toNat : Int)) Tryz.underlying5 Tryz.underlying99 rfl (r := (x0.toNat : Int)) (by rw [wrap_u16_eq]; omega)) rfl ?_
  refine lo_pv rfl rfl (sk_js (Tr.refl _) [] rfl) (pv_shl' (k := .u16) (i := (x0.toNat : Int)) (j := 8) rfl rfl (by decide) (by decide) (r := ((x0.toNat : Int) * 256)) (by rw [wrap_u16_eq]; simp; omega)) rfl ?_
  refine lo_pv rfl rfl (sk_js (Tr.refl _) [] rfl) (pv_or' (k := .u16) (i := (x1.toNat : Int)) (j := ((x0.toNat : Int) * 256)) rfl rfl (r := ((x1.toNat : Int) + ((x0.toNat : Int) * 256))) (or16 8 (by decide) _ _ (by omega) (by simp <;> omega) (by omega) (by omega) (by simp <;> omega))) rfl ?_
  refine lo_pv rfl rfl (sk_js (Tr.refl _) [] rfl) (pv_assign rfl) rfl ?_
  refine lo_cd ?_
  refine cd_ret ?_
  exact at_retA rfl rfl (fun w hS => rfl)
theorem be_Uint32 (t : Vw) (v : Value) (x0 x1 x2 x3 : UInt8) (rest : List UInt8) (hv : RSv t v (x0 :: x1 :: x2 :: x3 :: rest)) : CS Tryz.prog 63 [.agg #[], v] t (.int .u32 ((((x3.toNat : Int) + ((x2.toNat : Int) * 256)) + ((x1.toNat : Int) * 65536)) + ((x0.toNat : Int) * 16777216))) := by
  obtain ⟨ad, c, rfl, hc⟩ := RSv.shape hv
  obtain ⟨b, o, rfl, hrc⟩ := RS.pos hv (by simp) (by decide)
  simp only [u8s_cons] at hrc
  have hb0 := x0.toNat_lt
  have hb1 := x1.toNat_lt
  have hb2 := x2.toNat_lt
  have hb3 := x3.toNat_lt
  refine CA.cs ?_
  refine ca_enter Tryz.func63 rfl Tryz.ntmps63 rfl ?_
  refine cd_sr ?_
  refine ln_box (l := []) rfl rfl rfl (fun bb => ?_)
  refine ln_pv (pv_assign rfl) rfl ?_
  refine ln_cd ?_
  refine cd_sr ?_
  refine ln_pv (pv_move rfl) rfl ?_
  refine ln_pv (pv_ix8 (i := 3) Tryz.underlying22 tiuint8.size rfl rfl (by simp)) rfl ?_
  refine ln_pv (pv_ldr (j := 3) hrc Tryz.underlying5 rfl rfl rfl) rfl ?_
  refine ln_cd ?_
  refine cd_dr' [] [0, 1, 2, 3, 4, 5, 6, 7, 8, 9, 10, 11, 12, 13, 14, 15, 16, 17, 18, 19, 20, 21, 22] [0, 1, 2, 3, 4, 5, 6, 7, 8, 9, 10, 11, 12, 13, 14, 15, 16, 17, 18, 19, 20, 21, 22] mixed (by kernel_rfl) ?_
  refine lo_pv rfl rfl (sk_js (Tr.refl _) [] rfl) (pv_move rfl) rfl ?_
  refine lo_pv rfl rfl (sk_js (Tr.refl _) [] rfl) (pv_ix8 (i := 3) Tryz.underlying22 tiuint8.size rfl rfl (by simp)) rfl ?_
  refine lo_pv rfl rfl (sk_js (Tr.refl _) [] rfl) (pv_ldr (j := 3) hrc Tryz.underlying5 rfl rfl rfl) rfl ?_
  refine lo_pv rfl rfl (sk_js (Tr.refl _) [] rfl) (pv_conv' (k := .u8) (i := (x3.toNat : Int)) Tryz.underlying5 Tryz.underlying53 rfl (r := (x3.toNat : Int)) (by rw [wrap_u32_eq]; omega)) rfl ?_
  refine lo_pv rfl rfl (sk_js (Tr.refl _) [] rfl) (pv_move rfl) rfl ?_
  refine lo_pv rfl rfl (sk_js (Tr.refl _) [] rfl) (pv_ix8 (i := 2) Tryz.underlying22 tiuint8.size rfl rfl (by simp)) rfl ?_
  refine lo_pv rfl rfl (sk_js (Tr.refl _) [] rfl) (pv_ldr (j := 2) hrc Tryz.underlying5 rfl rfl rfl) rfl ?_
  refine lo_pv rfl rfl (sk_js (Tr.refl _) [] rfl) (pv_conv' (k := .u8) (i := (x2.toNat : Int)) Tryz.underlying5 Tryz.underlying53 rfl (r := (x2.toNat : Int)) (by rw [wrap_u32_eq]; omega)) rfl ?_
  refine lo_pv rfl rfl (sk_js (Tr.refl _) [] rfl) (pv_shl' (k := .u32) (i := (x2.toNat : Int)) (j := 8) rfl rfl (by decide) (by decide) (r := ((x2.toNat : Int) * 256)) (by rw [wrap_u32_eq]; simp; omega)) rfl ?_
  refine lo_pv rfl rfl (sk_js (Tr.refl _) [] rfl) (pv_or' (k := .u32) (i := (x3.toNat : Int)) (j := ((x2.toNat : Int) * 256)) rfl rfl (r := ((x3.toNat : Int) + ((x2.toNat : Int) * 256))) (or32 8 (by decide) _ _ (by omega) (by simp <;> omega) (by omega) (by omega) (by simp <;> omega))) rfl ?_
  refine lo_pv rfl rfl (sk_js (Tr.refl _) [] rfl) (pv_move rfl) rfl ?_
  refine lo_pv rfl rfl (sk_js (Tr.refl _) [] rfl) (pv_ix8 (i := 1) Tryz.underlying22 tiuint8.size rfl rfl (by simp)) rfl ?_
  refine lo_pv rfl rfl (sk_js (Tr.refl _) [] rfl) (pv_ldr (j := 1) hrc Tryz.underlying5 rfl rfl rfl) rfl ?_
  refine lo_pv rfl rfl (sk_js (Tr.refl _) [] rfl) (pv_conv' (k := .u8) (i := (x1.toNat : Int)) Tryz.underlying5 Tryz.underlying53 rfl (r := (x1.toNat : Int)) (by rw [wrap_u32_eq]; omega)) rfl ?_
  refine lo_pv rfl rfl (sk_js (Tr.refl _) [] rfl) (pv_shl' (k := .u32) (i := (x1.toNat : Int)) (j := 16) rfl rfl (by decide) (by decide) (r := ((x1.toNat : Int) * 65536)) (by rw [wrap_u32_eq]; simp; omega)) rfl ?_
  refine lo_pv rfl rfl (sk_js (Tr.refl _) [] rfl) (pv_or' (k := .u32) (i := ((x3.toNat : Int) + ((x2.toNat : Int) * 256))) (j := ((x1.toNat : Int) * 65536)) rfl rfl (r := (((x3.toNat : Int) + ((x2.toNat : Int) * 256)) + ((x1.toNat : Int) * 65536))) (or32 16 (by decide) _ _ (by omega) (by simp <;> omega) (by omega) (by omega) (by simp <;> omega))) rfl ?_
  refine lo_pv rfl rfl (sk_js (Tr.refl _) [] rfl) (pv_move rfl) rfl ?_
  refine lo_pv rfl rfl (sk_js (Tr.refl _) [] rfl) (pv_ix8 (i := 0) Tryz.underlying22 tiuint8.size rfl rfl (by simp)) rfl ?_
  refine lo_pv rfl rfl (sk_js (Tr.refl _) [] rfl) (pv_ldr (j := 0) hrc Tryz.underlying5 rfl rfl rfl) rfl ?_
  refine lo_pv rfl rfl (sk_js (Tr.refl _) [] rfl) (pv_conv' (k := .u8) (i := (x0.toNat : Int)) Tryz.underlying5 Tryz.underlying53 rfl (r := (x0.toNat : Int)) (by rw [wrap_u32_eq]; omega)) rfl ?_
  refine lo_pv rfl rfl (sk_js (Tr.refl _) [] rfl) (pv_shl' (k := .u32) (i := (x0.toNat : Int)) (j := 24) rfl rfl (by decide) (by decide) (r := ((x0.toNat : Int) * 16777216)) (by rw [wrap_u32_eq]; simp; omega)) rfl ?_
  refine lo_pv rfl rfl (sk_js (Tr.refl _) [] rfl) (pv_or' (k := .u32) (i := (((x3.toNat : Int) + ((x2.toNat : Int) * 256)) + ((x1.toNat : Int) * 65536))) (j := ((x0.toNat : Int) * 16777216)) rfl rfl (r := ((((x3.toNat : Int) + ((x2.toNat : Int) * 256)) + ((x1.toNat : Int) * 65536)) + ((x0.toNat : Int) * 16777216))) (or32 24 (by decide) _ _ (by omega) (by simp <;> omega) (by omega) (by omega) (by simp <;> omega))) rfl ?_
  refine lo_pv rfl rfl (sk_js (Tr.refl _) [] rfl) (pv_assign rfl) rfl ?_
  refine lo_cd ?_
  refine cd_ret ?_
  exact at_retA rfl rfl (fun w hS => rfl)
theorem emod_step (x : Int) (k : Nat) : x % 2 ^ (k + 8) = x / 2 ^ k % 256 * 2 ^ k + x % 2 ^ k := by
  have hp : (0 : Int) < 2 ^ k := Int.pow_pos (by decide)
  have e : (2 : Int) ^ (k + 8) = 2 ^ k * 256 := by rw [Int.pow_add]; rfl
  rw [e]
  generalize (2 : Int) ^ k = A at *
  have h1 := Int.emod_def x (A * 256)
  have h2 := Int.emod_def (x / A) 256
  have h3 := Int.emod_def x A
  rw [h1, h2, h3, Int.ediv_ediv_of_nonneg (Int.le_of_lt hp), Int.sub_mul]
  have h4 : A * 256 * (x / (A * 256)) = 256 * (x / (A * 256)) * A := by rw [Int.mul_comm A 256, Int.mul_assoc, Int.mul_comm A, ← Int.mul_assoc]
  have h5 : A * (x / A) = x / A * A := Int.mul_comm _ _
  rw [h4, h5]
  omega
theorem sum2 (x : Int) : (((b8 (x / 2 ^ (8 * 0))).toNat : Int) + ((b8 (x / 2 ^ (8 * 1))).toNat : Int) * 256) = x % 65536 := by
  rw [b8_emod, b8_emod]
  have h1 := emod_step x 8
  simp at h1 ⊢
  omega
theorem sum4 (x : Int) : (((((b8 (x / 2 ^ (8 * 0))).toNat : Int) + ((b8 (x / 2 ^ (8 * 1))).toNat : Int) * 256) + ((b8 (x / 2 ^ (8 * 2))).toNat : Int) * 65536) + ((b8 (x / 2 ^ (8 * 3))).toNat : Int) * 16777216) = x % 4294967296 := by
  rw [sum2, b8_emod, b8_emod]
  have h1 := emod_step x 16
  have h2 := emod_step x 24
  simp at h1 h2 ⊢
  omega
theorem sum8 (x : Int) : (((((((((b8 (x / 2 ^ (8 * 0))).toNat : Int) + ((b8 (x / 2 ^ (8 * 1))).toNat : Int) * 256) + ((b8 (x / 2 ^ (8 * 2))).toNat : Int) * 65536) + ((b8 (x / 2 ^ (8 * 3))).toNat : Int) * 16777216) + ((b8 (x / 2 ^ (8 * 4))).toNat : Int) * 4294967296) + ((b8 (x / 2 ^ (8 * 5))).toNat : Int) * 1099511627776) + ((b8 (x / 2 ^ (8 * 6))).toNat : Int) * 281474976710656) + ((b8 (x / 2 ^ (8 * 7))).toNat : Int) * 72057594037927936) = x % 18446744073709551616 := by
  rw [sum4, b8_emod, b8_emod, b8_emod, b8_emod]
  have h1 := emod_step x 32
  have h2 := emod_step x 40
  have h3 := emod_step x 48
  have h4 := emod_step x 56
  simp at h1 h2 h3 h4 ⊢
  omega
theorem rd_Int16 (t : Vw) (x : Int) : RdC 47 (fixed x 2) (fun _ r => r = .int .i16 (IntKind.i16.wrap x)) t := by
  intro b v rest hv hok hav
  obtain ⟨_, g, o, c, rfl⟩ := RSv.pos hv (by simp <;> omega)
  have hc : (fixed x 2 ++ rest).length ≤ c := by obtain ⟨_, c9, e9, h9⟩ := RSv.shape hv; simp only [Value.slice.injEq] at e9; omega
  refine ct_enter Tryz.func47 rfl Tryz.ntmps47 rfl hok hav (by simp [Ent.blk]) ?_
  refine cd_sr ?_
  refine ln_pv (pv_assign rfl) rfl ?_
  refine ln_cd ?_
  refine cd_seq ?_
  refine cd_sr ?_
  refine ln_pv (pv_move rfl) rfl ?_
  refine ln_pv (pv_nilCheck rfl) rfl ?_
  refine ln_pv (pv_fieldAddr (off := 0) (r := 0) Tryz.underlying89 rfl tiSl_uint8.size rfl rfl rfl) rfl ?_
  refine ln_pv (pv_ldo (i := 0) rfl Tryz.underlying22 rfl rfl rfl) rfl ?_
  refine ln_pv (pv_len_slice Tryz.underlying22 rfl) rfl ?_
  refine ln_pv (pv_ff (pv_lss rfl rfl) (by simp <;> omega)) rfl ?_
  refine ln_cd ?_
  refine cd_ff rfl ?_
  refine cd_skip ?_
  refine at_cd ?_
  refine cd_dr' [0] [0, 1, 2, 3, 4, 6, 7] [0, 1, 2, 3, 4, 5, 6, 7] mixed (by kernel_rfl) ?_
  refine lo_pv rfl rfl (sk_js (Tr.refl _) [0] rfl) (pv_loadA (b := 0) (o := 0) (sz := 0) (cs := []) Tryz.underlying105 rfl (by kernel_rfl) rfl rfl (fun w hw j v hv => by simp at hv)) rfl ?_
  refine lo_pv rfl rfl (sk_js (Tr.refl _) [0] rfl) (pv_move rfl) rfl ?_
  refine lo_pv rfl rfl (sk_js (Tr.refl _) [0] rfl) (pv_nilCheck rfl) rfl ?_
  refine lo_pv rfl rfl (sk_js (Tr.refl _) [0] rfl) (pv_fieldAddr (off := 0) (r := 0) Tryz.underlying89 rfl tiSl_uint8.size rfl rfl rfl) rfl ?_
  refine lo_pv rfl rfl (sk_js (Tr.refl _) [0] rfl) (pv_ldo (i := 0) rfl Tryz.underlying22 rfl rfl rfl) rfl ?_
  refine lo_eff rfl rfl ?_
  refine ln_callS (v := .int .u16 (x % 65536)) en_64 rfl (fun u hu => by
    have h := be_Uint16 u _ (b8 (x / 2 ^ (8 * 1))) (b8 (x / 2 ^ (8 * 0))) rest (RSv.mv hv hu)
    have e := sum2 x
    rw [e] at h
    exact h) rfl ?_
  refine lo_back (sk_js (Tr.refl _) [0] rfl) ?_
  refine lo_pv rfl rfl (sk_js (Tr.refl _) [0] rfl) (pv_conv' (k := .u16) (i := x % 65536) Tryz.underlying99 Tryz.underlying40 rfl (r := IntKind.i16.wrap x) (by simp [IntKind.wrap, IntKind.bits, IntKind.signed])) rfl ?_
  refine lo_pv rfl rfl (sk_js (Tr.refl _) [0] rfl) (pv_assign rfl) rfl ?_
  refine lo_cd ?_
  refine cd_sr ?_
  refine ln_pv (pv_move rfl) rfl ?_
  refine ln_pv (pv_move rfl) rfl ?_
  refine ln_pv (pv_nilCheck rfl) rfl ?_
  refine ln_pv (pv_fieldAddr (off := 0) (r := 0) Tryz.underlying89 rfl tiSl_uint8.size rfl rfl rfl) rfl ?_
  refine ln_pv (pv_ldo (i := 0) rfl Tryz.underlying22 rfl rfl rfl) rfl ?_
  refine ln_pv (pv_sliceV (i := 2) Tryz.underlying22 tiuint8.size rfl rfl (by simp) hc) rfl ?_
  refine ln_pv (pv_nilCheck rfl) rfl ?_
  refine ln_pv (pv_fieldAddr (off := 0) (r := 0) Tryz.underlying89 rfl tiSl_uint8.size rfl rfl rfl) rfl ?_
  refine ln_store1 (i := 0) rfl rfl rfl rfl tiSl_uint8.size rfl ?_
  refine ln_cd ?_
  refine cd_sr ?_
  refine ln_pv (pv_move rfl) rfl ?_
  refine ln_pv (pv_assign rfl) rfl ?_
  refine ln_cd ?_
  refine cd_ret ?_
  exact at_retT (i := 0) rfl rfl rfl (fun w hS => ⟨rfl, _, rfl, (RSv.drop hv).mv (hS.trFinT _ _)⟩)
theorem rd_Int32 (t : Vw) (x : Int) : RdC 46 (fixed x 4) (fun _ r => r = .int .i32 (IntKind.i32.wrap x)) t := by
  intro b v rest hv hok hav
  obtain ⟨_, g, o, c, rfl⟩ := RSv.pos hv (by simp <;> omega)
  have hc : (fixed x 4 ++ rest).length ≤ c := by obtain ⟨_, c9, e9, h9⟩ := RSv.shape hv; simp only [Value.slice.injEq] at e9; omega
  refine ct_enter Tryz.func46 rfl Tryz.ntmps46 rfl hok hav (by simp [Ent.blk]) ?_
  refine cd_sr ?_
  refine ln_pv (pv_assign rfl) rfl ?_
  refine ln_cd ?_
  refine cd_seq ?_
  refine cd_sr ?_
  refine ln_pv (pv_move rfl) rfl ?_
  refine ln_pv (pv_nilCheck rfl) rfl ?_
  refine ln_pv (pv_fieldAddr (off := 0) (r := 0) Tryz.underlying89 rfl tiSl_uint8.size rfl rfl rfl) rfl ?_
  refine ln_pv (pv_ldo (i := 0) rfl Tryz.underlying22 rfl rfl rfl) rfl ?_
  refine ln_pv (pv_len_slice Tryz.underlying22 rfl) rfl ?_
  refine ln_pv (pv_ff (pv_lss rfl rfl) (by simp <;> omega)) rfl ?_
  refine ln_cd ?_
  refine cd_ff rfl ?_
  refine cd_skip ?_
  refine at_cd ?_
  refine cd_dr' [0] [0, 1, 2, 3, 4, 6, 7] [0, 1, 2, 3, 4, 5, 6, 7] mixed (by kernel_rfl) ?_
  refine lo_pv rfl rfl (sk_js (Tr.refl _) [0] rfl) (pv_loadA (b := 0) (o := 0) (sz := 0) (cs := []) Tryz.underlying105 rfl (by kernel_rfl) rfl rfl (fun w hw j v hv => by simp at hv)) rfl ?_
  refine lo_pv rfl rfl (sk_js (Tr.refl _) [0] rfl) (pv_move rfl) rfl ?_
  refine lo_pv rfl rfl (sk_js (Tr.refl _) [0] rfl) (pv_nilCheck rfl) rfl ?_
  refine lo_pv rfl rfl (sk_js (Tr.refl _) [0] rfl) (pv_fieldAddr (off := 0) (r := 0) Tryz.underlying89 rfl tiSl_uint8.size rfl rfl rfl) rfl ?_
  refine lo_pv rfl rfl (sk_js (Tr.refl _) [0] rfl) (pv_ldo (i := 0) rfl Tryz.underlying22 rfl rfl rfl) rfl ?_
  refine lo_eff rfl rfl ?_
  refine ln_callS (v := .int .u32 (x % 4294967296)) en_63 rfl (fun u hu => by
    have h := be_Uint32 u _ (b8 (x / 2 ^ (8 * 3))) (b8 (x / 2 ^ (8 * 2))) (b8 (x / 2 ^ (8 * 1))) (b8 (x / 2 ^ (8 * 0))) rest (RSv.mv hv hu)
    have e := sum4 x
    rw [e] at h
    exact h) rfl ?_
  refine lo_back (sk_js (Tr.refl _) [0] rfl) ?_
  refine lo_pv rfl rfl (sk_js (Tr.refl _) [0] rfl) (pv_conv' (k := .u32) (i := x % 4294967296) Tryz.underlying53 Tryz.underlying21 rfl (r := IntKind.i32.wrap x) (by simp [IntKind.wrap, IntKind.bits, IntKind.signed])) rfl ?_
  refine lo_pv rfl rfl (sk_js (Tr.refl _) [0] rfl) (pv_assign rfl) rfl ?_
  refine lo_cd ?_
  refine cd_sr ?_
  refine ln_pv (pv_move rfl) rfl ?_
  refine ln_pv (pv_move rfl) rfl ?_
  refine ln_pv (pv_nilCheck rfl) rfl ?_
  refine ln_pv (pv_fieldAddr (off := 0) (r := 0) Tryz.underlying89 rfl tiSl_uint8.size rfl rfl rfl) rfl ?_
  refine ln_pv (pv_ldo (i := 0) rfl Tryz.underlying22 rfl rfl rfl) rfl ?_
  refine ln_pv (pv_sliceV (i := 4) Tryz.underlying22 tiuint8.size rfl rfl (by simp) hc) rfl ?_
  refine ln_pv (pv_nilCheck rfl) rfl ?_
  refine ln_pv (pv_fieldAddr (off := 0) (r := 0) Tryz.underlying89 rfl tiSl_uint8.size rfl rfl rfl) rfl ?_
  refine ln_store1 (i := 0) rfl rfl rfl rfl tiSl_uint8.size rfl ?_
  refine ln_cd ?_
  refine cd_sr ?_
  refine ln_pv (pv_move rfl) rfl ?_
  refine ln_pv (pv_assign rfl) rfl ?_
  refine ln_cd ?_
  refine cd_ret ?_
  exact at_retT (i := 0) rfl rfl rfl (fun w hS => ⟨rfl, _, rfl, (RSv.drop hv).mv (hS.trFinT _ _)⟩)
end K
end Go.Proofs.YtepbicjadambbabGreatDoor
namespace Go.Proofs.YtepbicjadambbabGreatDoor
namespace K
open Go Go.Lib
theorem b8_lo {x : Nat} (h : x < 256) : (b8 ((x : Nat) : Int)).toNat = x := by
  have := b8_val (x := (x : Int)) (by omega) (by omega)
  omega
theorem uv_1 {x : Nat} (h : x < 128) : uvar x = [b8 x] := uvar_lo (by omega)
theorem uv_2 {x : Nat} (h0 : 128 ≤ x) (h : x < 16384) : uvar x = [b8 (x % 128 + 128 : Nat), b8 (x / 128 : Nat)] := by rw [uvar_hi (by omega), uv_1 (by omega)]
theorem uv_3 {x : Nat} (h0 : 16384 ≤ x) (h : x < 2097152) : uvar x = [b8 (x % 128 + 128 : Nat), b8 (x / 128 % 128 + 128 : Nat), b8 (x / 128 / 128 : Nat)] := by rw [uvar_hi (by omega), uv_2 (by omega) (by omega)]
theorem uv_4 {x : Nat} (h0 : 2097152 ≤ x) (h : x < 268435456) : uvar x = [b8 (x % 128 + 128 : Nat), b8 (x / 128 % 128 + 128 : Nat), b8 (x / 128 / 128 % 128 + 128 : Nat), b8 (x / 128 / 128 / 128 : Nat)] := by rw [uvar_hi (by omega), uv_3 (by omega) (by omega)]
theorem uv_5 {x : Nat} (h0 : 268435456 ≤ x) (h : x < 4294967296) : uvar x = [b8 (x % 128 + 128 : Nat), b8 (x / 128 % 128 + 128 : Nat), b8 (x / 128 / 128 % 128 + 128 : Nat), b8 (x / 128 / 128 / 128 % 128 + 128 : Nat), b8 (x / 128 / 128 / 128 / 128 : Nat)] := by rw [uvar_hi (by omega), uv_4 (by omega) (by omega)]
theorem uvarint_1 (t : Vw) (v : Value) (x0 : UInt8) (rest : List UInt8)  (g0 : x0.toNat < 128) (hv : RSv t v (x0 :: rest)) : CS Tryz.prog 65 [v] t (.tuple #[.int .u32 ((x0.toNat : Int) % 128), .int .i64 1]) := by
  obtain ⟨ad, c, rfl, hc⟩ := RSv.shape hv
  obtain ⟨b, o, rfl, hrc⟩ := RS.pos hv (by simp) (by decide)
  simp only [u8s_cons] at hrc
  have hb0 := x0.toNat_lt
  refine CA.cs ?_
  refine ca_enter Tryz.func65 rfl Tryz.ntmps65 rfl ?_
  refine cd_sr ?_
  refine ln_pv (pv_assign rfl) rfl ?_
  refine ln_pv (pv_assign rfl) rfl ?_
  refine ln_cd ?_
  refine cd_scope ?_
  refine cd_sr ?_
  refine ln_pv (pv_assign rfl) rfl ?_
  refine ln_cd ?_
  refine cd_sr ?_
  refine ln_pv (pv_assign rfl) rfl ?_
  refine ln_cd ?_
  refine cd_seq ?_
  refine cd_sr ?_
  refine ln_pv (pv_move rfl) rfl ?_
  refine ln_pv (pv_len_slice Tryz.underlying22 rfl) rfl ?_
  refine ln_pv (pv_ff (pv_lss rfl rfl) (by simp <;> omega)) rfl ?_
  refine ln_cd ?_
  refine cd_ff rfl ?_
  refine cd_skip ?_
  refine at_cd ?_
  refine cd_sr ?_
  refine ln_pv (pv_move rfl) rfl ?_
  refine ln_pv (pv_ix8 (i := 0) Tryz.underlying22 tiuint8.size rfl rfl (by simp <;> omega)) rfl ?_
  refine ln_pv (pv_ldr (j := 0) (v := u8v x0) hrc Tryz.underlying5 rfl rfl rfl) rfl ?_
  refine ln_pv (pv_and' (k := .u8) (i := (x0.toNat : Int)) (j := 127) rfl rfl (r := ((x0.toNat : Int) % 128)) (and127_u8 (by omega) (by omega))) rfl ?_
  refine ln_pv (pv_conv' (k := .u8) (i := ((x0.toNat : Int) % 128)) Tryz.underlying5 Tryz.underlying53 rfl (r := ((x0.toNat : Int) % 128)) (by rw [wrap_u32_eq]; omega)) rfl ?_
  refine ln_pv (pv_assign rfl) rfl ?_
  refine ln_cd ?_
  refine cd_seq ?_
  refine cd_sr ?_
  refine ln_pv (pv_move rfl) rfl ?_
  refine ln_pv (pv_ix8 (i := 0) Tryz.underlying22 tiuint8.size rfl rfl (by simp <;> omega)) rfl ?_
  refine ln_pv (pv_ldr (j := 0) (v := u8v x0) hrc Tryz.underlying5 rfl rfl rfl) rfl ?_
  refine ln_pv (pv_and' (k := .u8) (i := (x0.toNat : Int)) (j := 128) rfl rfl (r := 0) (by rw [and128_u8 (by omega) (by omega)]; rw [if_pos (by omega)])) rfl ?_
  refine ln_pv (pv_tt (pv_eql rfl rfl) (by decide)) rfl ?_
  refine ln_cd ?_
  refine cd_tt rfl ?_
  refine cd_sr ?_
  refine ln_pv (pv_move rfl) rfl ?_
  refine ln_pv (pv_assign rfl) rfl ?_
  refine ln_pv (pv_assign rfl) rfl ?_
  refine ln_cd ?_
  refine cd_ret ?_
  exact at_retA2 (K := 0) rfl rfl rfl (fun w hS => rfl)
theorem uvarint_2 (t : Vw) (v : Value) (x0 x1 : UInt8) (rest : List UInt8) (g0 : 128 ≤ x0.toNat) (g1 : x1.toNat < 128) (hv : RSv t v (x0 :: x1 :: rest)) : CS Tryz.prog 65 [v] t (.tuple #[.int .u32 (((x0.toNat : Int) % 128) + (((x1.toNat : Int) % 128) * 128)), .int .i64 2]) := by
  obtain ⟨ad, c, rfl, hc⟩ := RSv.shape hv
  obtain ⟨b, o, rfl, hrc⟩ := RS.pos hv (by simp) (by decide)
  simp only [u8s_cons] at hrc
  have hb0 := x0.toNat_lt
  have hb1 := x1.toNat_lt
  refine CA.cs ?_
  refine ca_enter Tryz.func65 rfl Tryz.ntmps65 rfl ?_
  refine cd_sr ?_
  refine ln_pv (pv_assign rfl) rfl ?_
  refine ln_pv (pv_assign rfl) rfl ?_
  refine ln_cd ?_
  refine cd_scope ?_
  refine cd_sr ?_
  refine ln_pv (pv_assign rfl) rfl ?_
  refine ln_cd ?_
  refine cd_sr ?_
  refine ln_pv (pv_assign rfl) rfl ?_
  refine ln_cd ?_
  refine cd_seq ?_
  refine cd_sr ?_
  refine ln_pv (pv_move rfl) rfl ?_
  refine ln_pv (pv_len_slice Tryz.underlying22 rfl) rfl ?_
  refine ln_pv (pv_ff (pv_lss rfl rfl) (by simp <;> omega)) rfl ?_
  refine ln_cd ?_
  refine cd_ff rfl ?_
  refine cd_skip ?_
  refine at_cd ?_
  refine cd_sr ?_
  refine ln_pv (pv_move rfl) rfl ?_
  refine ln_pv (pv_ix8 (i := 0) Tryz.underlying22 tiuint8.size rfl rfl (by simp <;> omega)) rfl ?_
  refine ln_pv (pv_ldr (j := 0) (v := u8v x0) hrc Tryz.underlying5 rfl rfl rfl) rfl ?_
  refine ln_pv (pv_and' (k := .u8) (i := (x0.toNat : Int)) (j := 127) rfl rfl (r := ((x0.toNat : Int) % 128)) (and127_u8 (by omega) (by omega))) rfl ?_
  refine ln_pv (pv_conv' (k := .u8) (i := ((x0.toNat : Int) % 128)) Tryz.underlying5 Tryz.underlying53 rfl (r := ((x0.toNat : Int) % 128)) (by rw [wrap_u32_eq]; omega)) rfl ?_
  refine ln_pv (pv_assign rfl) rfl ?_
  refine ln_cd ?_
  refine cd_seq ?_
  refine cd_sr ?_
  refine ln_pv (pv_move rfl) rfl ?_
  refine ln_pv (pv_ix8 (i := 0) Tryz.underlying22 tiuint8.size rfl rfl (by simp <;> omega)) rfl ?_
  refine ln_pv (pv_ldr (j := 0) (v := u8v x0) hrc Tryz.underlying5 rfl rfl rfl) rfl ?_
  refine ln_pv (pv_and' (k := .u8) (i := (x0.toNat : Int)) (j := 128) rfl rfl (r := 128) (by rw [and128_u8 (by omega) (by omega)]; rw [if_neg (by omega)])) rfl ?_
  refine ln_pv (pv_ff (pv_eql rfl rfl) (by decide)) rfl ?_
  refine ln_cd ?_
  refine cd_ff rfl ?_
  refine cd_sr ?_
  refine ln_pv (pv_move rfl) rfl ?_
  refine ln_pv (pv_len_slice Tryz.underlying22 rfl) rfl ?_
  refine ln_pv (pv_ff (pv_lss rfl rfl) (by simp <;> omega)) rfl ?_
  refine ln_cd ?_
  refine cd_ff rfl ?_
  refine cd_skip ?_
  refine at_cd ?_
  refine cd_sr ?_
  refine ln_pv (pv_move rfl) rfl ?_
  refine ln_pv (pv_move rfl) rfl ?_
  refine ln_pv (pv_ix8 (i := 1) Tryz.underlying22 tiuint8.size rfl rfl (by simp <;> omega)) rfl ?_
  refine ln_pv (pv_ldr (j := 1) (v := u8v x1) hrc Tryz.underlying5 rfl rfl rfl) rfl ?_
  refine ln_pv (pv_and' (k := .u8) (i := (x1.toNat : Int)) (j := 127) rfl rfl (r := ((x1.toNat : Int) % 128)) (and127_u8 (by omega) (by omega))) rfl ?_
  refine ln_pv (pv_conv' (k := .u8) (i := ((x1.toNat : Int) % 128)) Tryz.underlying5 Tryz.underlying53 rfl (r := ((x1.toNat : Int) % 128)) (by rw [wrap_u32_eq]; omega)) rfl ?_
  refine ln_pv (pv_shl' (k := .u32) (i := ((x1.toNat : Int) % 128)) (j := 7) rfl rfl (by decide) (by decide) (r := (((x1.toNat : Int) % 128) * 128)) (by rw [wrap_u32_eq]; simp <;> omega)) rfl ?_
  refine ln_pv (pv_or' (k := .u32) (i := ((x0.toNat : Int) % 128)) (j := (((x1.toNat : Int) % 128) * 128)) rfl rfl (r := (((x0.toNat : Int) % 128) + (((x1.toNat : Int) % 128) * 128))) (or32 7 (by decide) _ _ (by omega) (by simp <;> omega) (by omega) (by omega) (by simp <;> omega))) rfl ?_
  refine ln_pv (pv_assign rfl) rfl ?_
  refine ln_cd ?_
  refine cd_seq ?_
  refine cd_sr ?_
  refine ln_pv (pv_move rfl) rfl ?_
  refine ln_pv (pv_ix8 (i := 1) Tryz.underlying22 tiuint8.size rfl rfl (by simp <;> omega)) rfl ?_
  refine ln_pv (pv_ldr (j := 1) (v := u8v x1) hrc Tryz.underlying5 rfl rfl rfl) rfl ?_
  refine ln_pv (pv_and' (k := .u8) (i := (x1.toNat : Int)) (j := 128) rfl rfl (r := 0) (by rw [and128_u8 (by omega) (by omega)]; rw [if_pos (by omega)])) rfl ?_
  refine ln_pv (pv_tt (pv_eql rfl rfl) (by decide)) rfl ?_
  refine ln_cd ?_
  refine cd_tt rfl ?_
  refine cd_sr ?_
  refine ln_pv (pv_move rfl) rfl ?_
  refine ln_pv (pv_assign rfl) rfl ?_
  refine ln_pv (pv_assign rfl) rfl ?_
  refine ln_cd ?_
  refine cd_ret ?_
  exact at_retA2 (K := 0) rfl rfl rfl (fun w hS => rfl)
theorem uvarint_3 (t : Vw) (v : Value) (x0 x1 x2 : UInt8) (rest : List UInt8) (g0 : 128 ≤ x0.toNat) (g1 : 128 ≤ x1.toNat) (g2 : x2.toNat < 128) (hv : RSv t v (x0 :: x1 :: x2 :: rest)) : CS Tryz.prog 65 [v] t (.tuple #[.int .u32 ((((x0.toNat : Int) % 128) + (((x1.toNat : Int) % 128) * 128)) + (((x2.toNat : Int) % 128) * 16384)), .int .i64 3]) := by
  obtain ⟨ad, c, rfl, hc⟩ := RSv.shape hv
  obtain ⟨b, o, rfl, hrc⟩ := RS.pos hv (by simp) (by decide)
  simp only [u8s_cons] at hrc
  have hb0 := x0.toNat_lt
  have hb1 := x1.toNat_lt
  have hb2 := x2.toNat_lt
  refine CA.cs ?_
  refine ca_enter Tryz.func65 rfl Tryz.ntmps65 rfl ?_
  refine cd_sr ?_
  refine ln_pv (pv_assign rfl) rfl ?_
  refine ln_pv (pv_assign rfl) rfl ?_
  refine ln_cd ?_
  refine cd_scope ?_
  refine cd_sr ?_
  refine ln_pv (pv_assign rfl) rfl ?_
  refine ln_cd ?_
  refine cd_sr ?_
  refine ln_pv (pv_assign rfl) rfl ?_
  refine ln_cd ?_
  refine cd_seq ?_
  refine cd_sr ?_
  refine ln_pv (pv_move rfl) rfl ?_
  refine ln_pv (pv_len_slice Tryz.underlying22 rfl) rfl ?_
  refine ln_pv (pv_ff (pv_lss rfl rfl) (by simp <;> omega)) rfl ?_
  refine ln_cd ?_
  refine cd_ff rfl ?_
  refine cd_skip ?_
  refine at_cd ?_
  refine cd_sr ?_
  refine ln_pv (pv_move rfl) rfl ?_
  refine ln_pv (pv_ix8 (i := 0) Tryz.underlying22 tiuint8.size rfl rfl (by simp <;> omega)) rfl ?_
  refine ln_pv (pv_ldr (j := 0) (v := u8v x0) hrc Tryz.underlying5 rfl rfl rfl) rfl ?_
  refine ln_pv (pv_and' (k := .u8) (i := (x0.toNat : Int)) (j := 127) rfl rfl (r := ((x0.toNat : Int) % 128)) (and127_u8 (by omega) (by omega))) rfl ?_
  refine ln_pv (pv_conv' (k := .u8) (i := ((x0.toNat : Int) % 128)) Tryz.underlying5 Tryz.underlying53 rfl (r := ((x0.toNat : Int) % 128)) (by rw [wrap_u32_eq]; omega)) rfl ?_
  refine ln_pv (pv_assign rfl) rfl ?_
  refine ln_cd ?_
  refine cd_seq ?_
  refine cd_sr ?_
  refine ln_pv (pv_move rfl) rfl ?_
  refine ln_pv (pv_ix8 (i := 0) Tryz.underlying22 tiuint8.size rfl rfl (by simp <;> omega)) rfl ?_
  refine ln_pv (pv_ldr (j := 0) (v := u8v x0) hrc Tryz.underlying5 rfl rfl rfl) rfl ?_
  refine ln_pv (pv_and' (k := .u8) (i := (x0.toNat : Int)) (j := 128) rfl rfl (r := 128) (by rw [and128_u8 (by omega) (by omega)]; rw [if_neg (by omega)])) rfl ?_
  refine ln_pv (pv_ff (pv_eql rfl rfl) (by decide)) rfl ?_
  refine ln_cd ?_
  refine cd_ff rfl ?_
  refine cd_sr ?_
  refine ln_pv (pv_move rfl) rfl ?_
  refine ln_pv (pv_len_slice Tryz.underlying22 rfl) rfl ?_
  refine ln_pv (pv_ff (pv_lss rfl rfl) (by simp <;> omega)) rfl ?_
  refine ln_cd ?_
  refine cd_ff rfl ?_
  refine cd_skip ?_
  refine at_cd ?_
  refine cd_sr ?_
  refine ln_pv (pv_move rfl) rfl ?_
  refine ln_pv (pv_move rfl) rfl ?_
  refine ln_pv (pv_ix8 (i := 1) Tryz.underlying22 tiuint8.size rfl rfl (by simp <;> omega)) rfl ?_
  refine ln_pv (pv_ldr (j := 1) (v := u8v x1) hrc Tryz.underlying5 rfl rfl rfl) rfl ?_
  refine ln_pv (pv_and' (k := .u8) (i := (x1.toNat : Int)) (j := 127) rfl rfl (r := ((x1.toNat : Int) % 128)) (and127_u8 (by omega) (by omega))) rfl ?_
  refine ln_pv (pv_conv' (k := .u8) (i := ((x1.toNat : Int) % 128)) Tryz.underlying5 Tryz.underlying53 rfl (r := ((x1.toNat : Int) % 128)) (by rw [wrap_u32_eq]; omega)) rfl ?_
  refine ln_pv (pv_shl' (k := .u32) (i := ((x1.toNat : Int) % 128)) (j := 7) rfl rfl (by decide) (by decide) (r := (((x1.toNat : Int) % 128) * 128)) (by rw [wrap_u32_eq]; simp <;> omega)) rfl ?_
  refine ln_pv (pv_or' (k := .u32) (i := ((x0.toNat : Int) % 128)) (j := (((x1.toNat : Int) % 128) * 128)) rfl rfl (r := (((x0.toNat : Int) % 128) + (((x1.toNat : Int) % 128) * 128))) (or32 7 (by decide) _ _ (by omega) (by simp <;> omega) (by omega) (by omega) (by simp <;> omega))) rfl ?_
  refine ln_pv (pv_assign rfl) rfl ?_
  refine ln_cd ?_
  refine cd_seq ?_
  refine cd_sr ?_
  refine ln_pv (pv_move rfl) rfl ?_
  refine ln_pv (pv_ix8 (i := 1) Tryz.underlying22 tiuint8.size rfl rfl (by simp <;> omega)) rfl ?_
  refine ln_pv (pv_ldr (j := 1) (v := u8v x1) hrc Tryz.underlying5 rfl rfl rfl) rfl ?_
  refine ln_pv (pv_and' (k := .u8) (i := (x1.toNat : Int)) (j := 128) rfl rfl (r := 128) (by rw [and128_u8 (by omega) (by omega)]; rw [if_neg (by omega)])) rfl ?_
  refine ln_pv (pv_ff (pv_eql rfl rfl) (by decide)) rfl ?_
  refine ln_cd ?_
  refine cd_ff rfl ?_
  refine cd_sr ?_
  refine ln_pv (pv_move rfl) rfl ?_
  refine ln_pv (pv_len_slice Tryz.underlying22 rfl) rfl ?_
  refine ln_pv (pv_ff (pv_lss rfl rfl) (by simp <;> omega)) rfl ?_
  refine ln_cd ?_
  refine cd_ff rfl ?_
  refine cd_skip ?_
  refine at_cd ?_
  refine cd_sr ?_
  refine ln_pv (pv_move rfl) rfl ?_
  refine ln_pv (pv_move rfl) rfl ?_
  refine ln_pv (pv_ix8 (i := 2) Tryz.underlying22 tiuint8.size rfl rfl (by simp <;> omega)) rfl ?_
  refine ln_pv (pv_ldr (j := 2) (v := u8v x2) hrc Tryz.underlying5 rfl rfl rfl) rfl ?_
  refine ln_pv (pv_and' (k := .u8) (i := (x2.toNat : Int)) (j := 127) rfl rfl (r := ((x2.toNat : Int) % 128)) (and127_u8 (by omega) (by omega))) rfl ?_
  refine ln_pv (pv_conv' (k := .u8) (i := ((x2.toNat : Int) % 128)) Tryz.underlying5 Tryz.underlying53 rfl (r := ((x2.toNat : Int) % 128)) (by rw [wrap_u32_eq]; omega)) rfl ?_
  refine ln_pv (pv_shl' (k := .u32) (i := ((x2.toNat : Int) % 128)) (j := 14) rfl rfl (by decide) (by decide) (r := (((x2.toNat : Int) % 128) * 16384)) (by rw [wrap_u32_eq]; simp <;> omega)) rfl ?_
  refine ln_pv (pv_or' (k := .u32) (i := (((x0.toNat : Int) % 128) + (((x1.toNat : Int) % 128) * 128))) (j := (((x2.toNat : Int) % 128) * 16384)) rfl rfl (r := ((((x0.toNat : Int) % 128) + (((x1.toNat : Int) % 128) * 128)) + (((x2.toNat : Int) % 128) * 16384))) (or32 14 (by decide) _ _ (by omega) (by simp <;> omega) (by omega) (by omega) (by simp <;> omega))) rfl ?_
  refine ln_pv (pv_assign rfl) rfl ?_
  refine ln_cd ?_
  refine cd_seq ?_
  refine cd_sr ?_
  refine ln_pv (pv_move rfl) rfl ?_
  refine ln_pv (pv_ix8 (i := 2) Tryz.underlying22 tiuint8.size rfl rfl (by simp <;> omega)) rfl ?_
  refine ln_pv (pv_ldr (j := 2) (v := u8v x2) hrc Tryz.underlying5 rfl rfl rfl) rfl ?_
  refine ln_pv (pv_and' (k := .u8) (i := (x2.toNat : Int)) (j := 128) rfl rfl (r := 0) (by rw [and128_u8 (by omega) (by omega)]; rw [if_pos (by omega)])) rfl ?_
  refine ln_pv (pv_tt (pv_eql rfl rfl) (by decide)) rfl ?_
  refine ln_cd ?_
  refine cd_tt rfl ?_
  refine cd_sr ?_
  refine ln_pv (pv_move rfl) rfl ?_
  refine ln_pv (pv_assign rfl) rfl ?_
  refine ln_pv (pv_assign rfl) rfl ?_
  refine ln_cd ?_
  refine cd_ret ?_
  exact at_retA2 (K := 0) rfl rfl rfl (fun w hS => rfl)
theorem uvarint_4 (t : Vw) (v : Value) (x0 x1 x2 x3 : UInt8) (rest : List UInt8) (g0 : 128 ≤ x0.toNat) (g1 : 128 ≤ x1.toNat) (g2 : 128 ≤ x2.toNat) (g3 : x3.toNat < 128) (hv : RSv t v (x0 :: x1 :: x2 :: x3 :: rest)) : CS Tryz.prog 65 [v] t (.tuple #[.int .u32 (((((x0.toNat : Int) % 128) + (((x1.toNat : Int) % 128) * 128)) + (((x2.toNat : Int) % 128) * 16384)) + (((x3.toNat : Int) % 128) * 2097152)), .int .i64 4]) := by
  obtain ⟨ad, c, rfl, hc⟩ := RSv.shape hv
  obtain ⟨b, o, rfl, hrc⟩ := RS.pos hv (by simp) (by decide)
  simp only [u8s_cons] at hrc
  have hb0 := x0.toNat_lt
  have hb1 := x1.toNat_lt
  have hb2 := x2.toNat_lt
  have hb3 := x3.toNat_lt
  refine CA.cs ?_
  refine ca_enter Tryz.func65 rfl Tryz.ntmps65 rfl ?_
  refine cd_sr ?_
  refine ln_pv (pv_assign rfl) rfl ?_
  refine ln_pv (pv_assign rfl) rfl ?_
  refine ln_cd ?_
  refine cd_scope ?_
  refine cd_sr ?_
  refine ln_pv (pv_assign rfl) rfl ?_
  refine ln_cd ?_
  refine cd_sr ?_
  refine ln_pv (pv_assign rfl) rfl ?_
  refine ln_cd ?_
  refine cd_seq ?_
  refine cd_sr ?_
  refine ln_pv (pv_move rfl) rfl ?_
  refine ln_pv (pv_len_slice Tryz.underlying22 rfl) rfl ?_
  refine ln_pv (pv_ff (pv_lss rfl rfl) (by simp <;> omega)) rfl ?_
  refine ln_cd ?_
  refine cd_ff rfl ?_
  refine cd_skip ?_
  refine at_cd ?_
  refine cd_sr ?_
  refine ln_pv (pv_move rfl) rfl ?_
  refine ln_pv (pv_ix8 (i := 0) Tryz.underlying22 tiuint8.size rfl rfl (by simp <;> omega)) rfl ?_
  refine ln_pv (pv_ldr (j := 0) (v := u8v x0) hrc Tryz.underlying5 rfl rfl rfl) rfl ?_
  refine ln_pv (pv_and' (k := .u8) (i := (x0.toNat : Int)) (j := 127) rfl rfl (r := ((x0.toNat : Int) % 128)) (and127_u8 (by omega) (by omega))) rfl ?_
  refine ln_pv (pv_conv' (k := .u8) (i := ((x0.toNat : Int) % 128)) Tryz.underlying5 Tryz.underlying53 rfl (r := ((x0.toNat : Int) % 128)) (by rw [wrap_u32_eq]; omega)) rfl ?_
  refine ln_pv (pv_assign rfl) rfl ?_
  refine ln_cd ?_
  refine cd_seq ?_
  refine cd_sr ?_
  refine ln_pv (pv_move rfl) rfl ?_
  refine ln_pv (pv_ix8 (i := 0) Tryz.underlying22 tiuint8.size rfl rfl (by simp <;> omega)) rfl ?_
  refine ln_pv (pv_ldr (j := 0) (v := u8v x0) hrc Tryz.underlying5 rfl rfl rfl) rfl ?_
  refine ln_pv (pv_and' (k := .u8) (i := (x0.toNat : Int)) (j := 128) rfl rfl (r := 128) (by rw [and128_u8 (by omega) (by omega)]; rw [if_neg (by omega)])) rfl ?_
  refine ln_pv (pv_ff (pv_eql rfl rfl) (by decide)) rfl ?_
  refine ln_cd ?_
  refine cd_ff rfl ?_
  refine cd_sr ?_
  refine ln_pv (pv_move rfl) rfl ?_
  refine ln_pv (pv_len_slice Tryz.underlying22 rfl) rfl ?_
  refine ln_pv (pv_ff (pv_lss rfl rfl) (by simp <;> omega)) rfl ?_
  refine ln_cd ?_
  refine cd_ff rfl ?_
  refine cd_skip ?_
  refine at_cd ?_
  refine cd_sr ?_
  refine ln_pv (pv_move rfl) rfl ?_
  refine ln_pv (pv_move rfl) rfl ?_
  refine ln_pv (pv_ix8 (i := 1) Tryz.underlying22 tiuint8.size rfl rfl (by simp <;> omega)) rfl ?_
  refine ln_pv (pv_ldr (j := 1) (v := u8v x1) hrc Tryz.underlying5 rfl rfl rfl) rfl ?_
  refine ln_pv (pv_and' (k := .u8) (i := (x1.toNat : Int)) (j := 127) rfl rfl (r := ((x1.toNat : Int) % 128)) (and127_u8 (by omega) (by omega))) rfl ?_
  refine ln_pv (pv_conv' (k := .u8) (i := ((x1.toNat : Int) % 128)) Tryz.underlying5 Tryz.underlying53 rfl (r := ((x1.toNat : Int) % 128)) (by rw [wrap_u32_eq]; omega)) rfl ?_
  refine ln_pv (pv_shl' (k := .u32) (i := ((x1.toNat : Int) % 128)) (j := 7) rfl rfl (by decide) (by decide) (r := (((x1.toNat : Int) % 128) * 128)) (by rw [wrap_u32_eq]; simp <;> omega)) rfl ?_
  refine ln_pv (pv_or' (k := .u32) (i := ((x0.toNat : Int) % 128)) (j := (((x1.toNat : Int) % 128) * 128)) rfl rfl (r := (((x0.toNat : Int) % 128) + (((x1.toNat : Int) % 128) * 128))) (or32 7 (by decide) _ _ (by omega) (by simp <;> omega) (by omega) (by omega) (by simp <;> omega))) rfl ?_
  refine ln_pv (pv_assign rfl) rfl ?_
  refine ln_cd ?_
  refine cd_seq ?_
  refine cd_sr ?_
  refine ln_pv (pv_move rfl) rfl ?_
  refine ln_pv (pv_ix8 (i := 1) Tryz.underlying22 tiuint8.size rfl rfl (by simp <;> omega)) rfl ?_
  refine ln_pv (pv_ldr (j := 1) (v := u8v x1) hrc Tryz.underlying5 rfl rfl rfl) rfl ?_
  refine ln_pv (pv_and' (k := .u8) (i := (x1.toNat : Int)) (j := 128) rfl rfl (r := 128) (by rw [and128_u8 (by omega) (by omega)]; rw [if_neg (by omega)])) rfl ?_
  refine ln_pv (pv_ff (pv_eql rfl rfl) (by decide)) rfl ?_
  refine ln_cd ?_
  refine cd_ff rfl ?_
  refine cd_sr ?_
  refine ln_pv (pv_move rfl) rfl ?_
  refine ln_pv (pv_len_slice Tryz.underlying22 rfl) rfl ?_
  refine ln_pv (pv_ff (pv_lss rfl rfl) (by simp <;> omega)) rfl ?_
  refine ln_cd ?_
  refine cd_ff rfl ?_
  refine cd_skip ?_
  refine at_cd ?_
  refine cd_sr ?_
  refine ln_pv (pv_move rfl) rfl ?_
  refine ln_pv (pv_move rfl) rfl ?_
  refine ln_pv (pv_ix8 (i := 2) Tryz.underlying22 tiuint8.size rfl rfl (by simp <;> omega)) rfl ?_
  refine ln_pv (pv_ldr (j := 2) (v := u8v x2) hrc Tryz.underlying5 rfl rfl rfl) rfl ?_
  refine ln_pv (pv_and' (k := .u8) (i := (x2.toNat : Int)) (j := 127) rfl rfl (r := ((x2.toNat : Int) % 128)) (and127_u8 (by omega) (by omega))) rfl ?_
  refine ln_pv (pv_conv' (k := .u8) (i := ((x2.toNat : Int) % 128)) Tryz.underlying5 Tryz.underlying53 rfl (r := ((x2.toNat : Int) % 128)) (by rw [wrap_u32_eq]; omega)) rfl ?_
  refine ln_pv (pv_shl' (k := .u32) (i := ((x2.toNat : Int) % 128)) (j := 14) rfl rfl (by decide) (by decide) (r := (((x2.toNat : Int) % 128) * 16384)) (by rw [wrap_u32_eq]; simp <;> omega)) rfl ?_
  refine ln_pv (pv_or' (k := .u32) (i := (((x0.toNat : Int) % 128) + (((x1.toNat : Int) % 128) * 128))) (j := (((x2.toNat : Int) % 128) * 16384)) rfl rfl (r := ((((x0.toNat : Int) % 128) + (((x1.toNat : Int) % 128) * 128)) + (((x2.toNat : Int) % 128) * 16384))) (or32 14 (by decide) _ _ (by omega) (by simp <;> omega) (by omega) (by omega) (by simp <;> omega))) rfl ?_
  refine ln_pv (pv_assign rfl) rfl ?_
  refine ln_cd ?_
  refine cd_seq ?_
  refine cd_sr ?_
  refine ln_pv (pv_move rfl) rfl ?_
  refine ln_pv (pv_ix8 (i := 2) Tryz.underlying22 tiuint8.size rfl rfl (by simp <;> omega)) rfl ?_
  refine ln_pv (pv_ldr (j := 2) (v := u8v x2) hrc Tryz.underlying5 rfl rfl rfl) rfl ?_
  refine ln_pv (pv_and' (k := .u8) (i := (x2.toNat : Int)) (j := 128) rfl rfl (r := 128) (by rw [and128_u8 (by omega) (by omega)]; rw [if_neg (by omega)])) rfl ?_
  refine ln_pv (pv_ff (pv_eql rfl rfl) (by decide)) rfl ?_
  refine ln_cd ?_
  refine cd_ff rfl ?_
  refine cd_sr ?_
  refine ln_pv (pv_move rfl) rfl ?_
  refine ln_pv (pv_len_slice Tryz.underlying22 rfl) rfl ?_
  refine ln_pv (pv_ff (pv_lss rfl rfl) (by simp <;> omega)) rfl ?_
  refine ln_cd ?_
  refine cd_ff rfl ?_
  refine cd_skip ?_
  refine at_cd ?_
  refine cd_sr ?_
  refine ln_pv (pv_move rfl) rfl ?_
  refine ln_pv (pv_move rfl) rfl ?_
  refine ln_pv (pv_ix8 (i := 3) Tryz.underlying22 tiuint8.size rfl rfl (by simp <;> omega)) rfl ?_
  refine ln_pv (pv_ldr (j := 3) (v := u8v x3) hrc Tryz.underlying5 rfl rfl rfl) rfl ?_
  refine ln_pv (pv_and' (k := .u8) (i := (x3.toNat : Int)) (j := 127) rfl rfl (r := ((x3.toNat : Int) % 128)) (and127_u8 (by omega) (by omega))) rfl ?_
  refine ln_pv (pv_conv' (k := .u8) (i := ((x3.toNat : Int) % 128)) Tryz.underlying5 Tryz.underlying53 rfl (r := ((x3.toNat : Int) % 128)) (by rw [wrap_u32_eq]; omega)) rfl ?_
  refine ln_pv (pv_shl' (k := .u32) (i := ((x3.toNat : Int) % 128)) (j := 21) rfl rfl (by decide) (by decide) (r := (((x3.toNat : Int) % 128) * 2097152)) (by rw [wrap_u32_eq]; simp <;> omega)) rfl ?_
  refine ln_pv (pv_or' (k := .u32) (i := ((((x0.toNat : Int) % 128) + (((x1.toNat : Int) % 128) * 128)) + (((x2.toNat : Int) % 128) * 16384))) (j := (((x3.toNat : Int) % 128) * 2097152)) rfl rfl (r := (((((x0.toNat : Int) % 128) + (((x1.toNat : Int) % 128) * 128)) + (((x2.toNat : Int) % 128) * 16384)) + (((x3.toNat : Int) % 128) * 2097152))) (or32 21 (by decide) _ _ (by omega) (by simp <;> omega) (by omega) (by omega) (by simp <;> omega))) rfl ?_
  refine ln_pv (pv_assign rfl) rfl ?_
  refine ln_cd ?_
  refine cd_seq ?_
  refine cd_sr ?_
  refine ln_pv (pv_move rfl) rfl ?_
  refine ln_pv (pv_ix8 (i := 3) Tryz.underlying22 tiuint8.size rfl rfl (by simp <;> omega)) rfl ?_
  refine ln_pv (pv_ldr (j := 3) (v := u8v x3) hrc Tryz.underlying5 rfl rfl rfl) rfl ?_
  refine ln_pv (pv_and' (k := .u8) (i := (x3.toNat : Int)) (j := 128) rfl rfl (r := 0) (by rw [and128_u8 (by omega) (by omega)]; rw [if_pos (by omega)])) rfl ?_
  refine ln_pv (pv_tt (pv_eql rfl rfl) (by decide)) rfl ?_
  refine ln_cd ?_
  refine cd_tt rfl ?_
  refine cd_sr ?_
  refine ln_pv (pv_move rfl) rfl ?_
  refine ln_pv (pv_assign rfl) rfl ?_
  refine ln_pv (pv_assign rfl) rfl ?_
  refine ln_cd ?_
  refine cd_ret ?_
  exact at_retA2 (K := 0) rfl rfl rfl (fun w hS => rfl)
theorem uvarint_5 (t : Vw) (v : Value) (x0 x1 x2 x3 x4 : UInt8) (rest : List UInt8) (g0 : 128 ≤ x0.toNat) (g1 : 128 ≤ x1.toNat) (g2 : 128 ≤ x2.toNat) (g3 : 128 ≤ x3.toNat) (g4 : x4.toNat ≤ 15) (hv : RSv t v (x0 :: x1 :: x2 :: x3 :: x4 :: rest)) : CS Tryz.prog 65 [v] t (.tuple #[.int .u32 ((((((x0.toNat : Int) % 128) + (((x1.toNat : Int) % 128) * 128)) + (((x2.toNat : Int) % 128) * 16384)) + (((x3.toNat : Int) % 128) * 2097152)) + ((x4.toNat : Int) * 268435456)), .int .i64 5]) := by
  obtain ⟨ad, c, rfl, hc⟩ := RSv.shape hv
  obtain ⟨b, o, rfl, hrc⟩ := RS.pos hv (by simp) (by decide)
  simp only [u8s_cons] at hrc
  have hb0 := x0.toNat_lt
  have hb1 := x1.toNat_lt
  have hb2 := x2.toNat_lt
  have hb3 := x3.toNat_lt
  have hb4 := x4.toNat_lt
  refine CA.cs ?_
  refine ca_enter Tryz.func65 rfl Tryz.ntmps65 rfl ?_
  refine cd_sr ?_
  refine ln_pv (pv_assign rfl) rfl ?_
  refine ln_pv (pv_assign rfl) rfl ?_
  refine ln_cd ?_
  refine cd_scope ?_
  refine cd_sr ?_
  refine ln_pv (pv_assign rfl) rfl ?_
  refine ln_cd ?_
  refine cd_sr ?_
  refine ln_pv (pv_assign rfl) rfl ?_
  refine ln_cd ?_
  refine cd_seq ?_
  refine cd_sr ?_
  refine ln_pv (pv_move rfl) rfl ?_
  refine ln_pv (pv_len_slice Tryz.underlying22 rfl) rfl ?_
  refine ln_pv (pv_ff (pv_lss rfl rfl) (by simp <;> omega)) rfl ?_
  refine ln_cd ?_
  refine cd_ff rfl ?_
  refine cd_skip ?_
  refine at_cd ?_
  refine cd_sr ?_
  refine ln_pv (pv_move rfl) rfl ?_
  refine ln_pv (pv_ix8 (i := 0) Tryz.underlying22 tiuint8.size rfl rfl (by simp <;> omega)) rfl ?_
  refine ln_pv (pv_ldr (j := 0) (v := u8v x0) hrc Tryz.underlying5 rfl rfl rfl) rfl ?_
  refine ln_pv (pv_and' (k := .u8) (i := (x0.toNat : Int)) (j := 127) rfl rfl (r := ((x0.toNat : Int) % 128)) (and127_u8 (by omega) (by omega))) rfl ?_
  refine ln_pv (pv_conv' (k := .u8) (i := ((x0.toNat : Int) % 128)) Tryz.underlying5 Tryz.underlying53 rfl (r := ((x0.toNat : Int) % 128)) (by rw [wrap_u32_eq]; omega)) rfl ?_
  refine ln_pv (pv_assign rfl) rfl ?_
  refine ln_cd ?_
  refine cd_seq ?_
  refine cd_sr ?_
  refine ln_pv (pv_move rfl) rfl ?_
  refine ln_pv (pv_ix8 (i := 0) Tryz.underlying22 tiuint8.size rfl rfl (by simp <;> omega)) rfl ?_
  refine ln_pv (pv_ldr (j := 0) (v := u8v x0) hrc Tryz.underlying5 rfl rfl rfl) rfl ?_
  refine ln_pv (pv_and' (k := .u8) (i := (x0.toNat : Int)) (j := 128) rfl rfl (r := 128) (by rw [and128_u8 (by omega) (by omega)]; rw [if_neg (by omega)])) rfl ?_
  refine ln_pv (pv_ff (pv_eql rfl rfl) (by decide)) rfl ?_
  refine ln_cd ?_
  refine cd_ff rfl ?_
  refine cd_sr ?_
  refine ln_pv (pv_move rfl) rfl ?_
  refine ln_pv (pv_len_slice Tryz.underlying22 rfl) rfl ?_
  refine ln_pv (pv_ff (pv_lss rfl rfl) (by simp <;> omega)) rfl ?_
  refine ln_cd ?_
  refine cd_ff rfl ?_
  refine cd_skip ?_
  refine at_cd ?_
  refine cd_sr ?_
  refine ln_pv (pv_move rfl) rfl ?_
  refine ln_pv (pv_move rfl) rfl ?_
  refine ln_pv (pv_ix8 (i := 1) Tryz.underlying22 tiuint8.size rfl rfl (by simp <;> omega)) rfl ?_
  refine ln_pv (pv_ldr (j := 1) (v := u8v x1) hrc Tryz.underlying5 rfl rfl rfl) rfl ?_
  refine ln_pv (pv_and' (k := .u8) (i := (x1.toNat : Int)) (j := 127) rfl rfl (r := ((x1.toNat : Int) % 128)) (and127_u8 (by omega) (by omega))) rfl ?_
  refine ln_pv (pv_conv' (k := .u8) (i := ((x1.toNat : Int) % 128)) Tryz.underlying5 Tryz.underlying53 rfl (r := ((x1.toNat : Int) % 128)) (by rw [wrap_u32_eq]; omega)) rfl ?_
  refine ln_pv (pv_shl' (k := .u32) (i := ((x1.toNat : Int) % 128)) (j := 7) rfl rfl (by decide) (by decide) (r := (((x1.toNat : Int) % 128) * 128)) (by rw [wrap_u32_eq]; simp <;> omega)) rfl ?_
  refine ln_pv (pv_or' (k := .u32) (i := ((x0.toNat : Int) % 128)) (j := (((x1.toNat : Int) % 128) * 128)) rfl rfl (r := (((x0.toNat : Int) % 128) + (((x1.toNat : Int) % 128) * 128))) (or32 7 (by decide) _ _ (by omega) (by simp <;> omega) (by omega) (by omega) (by simp <;> omega))) rfl ?_
  refine ln_pv (pv_assign rfl) rfl ?_
  refine ln_cd ?_
  refine cd_seq ?_
  refine cd_sr ?_
  refine ln_pv (pv_move rfl) rfl ?_
  refine ln_pv (pv_ix8 (i := 1) Tryz.underlying22 tiuint8.size rfl rfl (by simp <;> omega)) rfl ?_
  refine ln_pv (pv_ldr (j := 1) (v := u8v x1) hrc Tryz.underlying5 rfl rfl rfl) rfl ?_
  refine ln_pv (pv_and' (k := .u8) (i := (x1.toNat : Int)) (j := 128) rfl rfl (r := 128) (by rw [and128_u8 (by omega) (by omega)]; rw [if_neg (by omega)])) rfl ?_
  refine ln_pv (pv_ff (pv_eql rfl rfl) (by decide)) rfl ?_
  refine ln_cd ?_
  refine cd_ff rfl ?_
  refine cd_sr ?_
  refine ln_pv (pv_move rfl) rfl ?_
  refine ln_pv (pv_len_slice Tryz.underlying22 rfl) rfl ?_
  refine ln_pv (pv_ff (pv_lss rfl rfl) (by simp <;> omega)) rfl ?_
  refine ln_cd ?_
  refine cd_ff rfl ?_
  refine cd_skip ?_
  refine at_cd ?_
  refine cd_sr ?_
  refine ln_pv (pv_move rfl) rfl ?_
  refine ln_pv (pv_move rfl) rfl ?_
  refine ln_pv (pv_ix8 (i := 2) Tryz.underlying22 tiuint8.size rfl rfl (by simp <;> omega)) rfl ?_
  refine ln_pv (pv_ldr (j := 2) (v := u8v x2) hrc Tryz.underlying5 rfl rfl rfl) rfl ?_
  refine ln_pv (pv_and' (k := .u8) (i := (x2.toNat : Int)) (j := 127) rfl rfl (r := ((x2.toNat : Int) % 128)) (and127_u8 (by omega) (by omega))) rfl ?_
  refine ln_pv (pv_conv' (k := .u8) (i := ((x2.toNat : Int) % 128)) Tryz.underlying5 Tryz.underlying53 rfl (r := ((x2.toNat : Int) % 128)) (by rw [wrap_u32_eq]; omega)) rfl ?_
  refine ln_pv (pv_shl' (k := .u32) (i := ((x2.toNat : Int) % 128)) (j := 14) rfl rfl (by decide) (by decide) (r := (((x2.toNat : Int) % 128) * 16384)) (by rw [wrap_u32_eq]; simp <;> omega)) rfl ?_
  refine ln_pv (pv_or' (k := .u32) (i := (((x0.toNat : Int) % 128) + (((x1.toNat : Int) % 128) * 128))) (j := (((x2.toNat : Int) % 128) * 16384)) rfl rfl (r := ((((x0.toNat : Int) % 128) + (((x1.toNat : Int) % 128) * 128)) + (((x2.toNat : Int) % 128) * 16384))) (or32 14 (by decide) _ _ (by omega) (by simp <;> omega) (by omega) (by omega) (by simp <;> omega))) rfl ?_
  refine ln_pv (pv_assign rfl) rfl ?_
  refine ln_cd ?_
  refine cd_seq ?_
  refine cd_sr ?_
  refine ln_pv (pv_move rfl) rfl ?_
  refine ln_pv (pv_ix8 (i := 2) Tryz.underlying22 tiuint8.size rfl rfl (by simp <;> omega)) rfl ?_
  refine ln_pv (pv_ldr (j := 2) (v := u8v x2) hrc Tryz.underlying5 rfl rfl rfl) rfl ?_
  refine ln_pv (pv_and' (k := .u8) (i := (x2.toNat : Int)) (j := 128) rfl rfl (r := 128) (by rw [and128_u8 (by omega) (by omega)]; rw [if_neg (by omega)])) rfl ?_
  refine ln_pv (pv_ff (pv_eql rfl rfl) (by decide)) rfl ?_
  refine ln_cd ?_
  refine cd_ff rfl ?_
  refine cd_sr ?_
  refine ln_pv (pv_move rfl) rfl ?_
  refine ln_pv (pv_len_slice Tryz.underlying22 rfl) rfl ?_
  refine ln_pv (pv_ff (pv_lss rfl rfl) (by simp <;> omega)) rfl ?_
  refine ln_cd ?_
  refine cd_ff rfl ?_
  refine cd_skip ?_
  refine at_cd ?_
  refine cd_sr ?_
  refine ln_pv (pv_move rfl) rfl ?_
  refine ln_pv (pv_move rfl) rfl ?_
  refine ln_pv (pv_ix8 (i := 3) Tryz.underlying22 tiuint8.size rfl rfl (by simp <;> omega)) rfl ?_
  refine ln_pv (pv_ldr (j := 3) (v := u8v x3) hrc Tryz.underlying5 rfl rfl rfl) rfl ?_
  refine ln_pv (pv_and' (k := .u8) (i := (x3.toNat : Int)) (j := 127) rfl rfl (r := ((x3.toNat : Int) % 128)) (and127_u8 (by omega) (by omega))) rfl ?_
  refine ln_pv (pv_conv' (k := .u8) (i := ((x3.toNat : Int) % 128)) Tryz.underlying5 Tryz.underlying53 rfl (r := ((x3.toNat : Int) % 128)) (by rw [wrap_u32_eq]; omega)) rfl ?_
  refine ln_pv (pv_shl' (k := .u32) (i := ((x3.toNat : Int) % 128)) (j := 21) rfl rfl (by decide) (by decide) (r := (((x3.toNat : Int) % 128) * 2097152)) (by rw [wrap_u32_eq]; simp <;> omega)) rfl ?_
  refine ln_pv (pv_or' (k := .u32) (i := ((((x0.toNat : Int) % 128) + (((x1.toNat : Int) % 128) * 128)) + (((x2.toNat : Int) % 128) * 16384))) (j := (((x3.toNat : Int) % 128) * 2097152)) rfl rfl (r := (((((x0.toNat : Int) % 128) + (((x1.toNat : Int) % 128) * 128)) + (((x2.toNat : Int) % 128) * 16384)) + (((x3.toNat : Int) % 128) * 2097152))) (or32 21 (by decide) _ _ (by omega) (by simp <;> omega) (by omega) (by omega) (by simp <;> omega))) rfl ?_
  refine ln_pv (pv_assign rfl) rfl ?_
  refine ln_cd ?_
  refine cd_seq ?_
  refine cd_sr ?_
  refine ln_pv (pv_move rfl) rfl ?_
  refine ln_pv (pv_ix8 (i := 3) Tryz.underlying22 tiuint8.size rfl rfl (by simp <;> omega)) rfl ?_
  refine ln_pv (pv_ldr (j := 3) (v := u8v x3) hrc Tryz.underlying5 rfl rfl rfl) rfl ?_
  refine ln_pv (pv_and' (k := .u8) (i := (x3.toNat : Int)) (j := 128) rfl rfl (r := 128) (by rw [and128_u8 (by omega) (by omega)]; rw [if_neg (by omega)])) rfl ?_
  refine ln_pv (pv_ff (pv_eql rfl rfl) (by decide)) rfl ?_
  refine ln_cd ?_
  refine cd_ff rfl ?_
  refine cd_sr ?_
  refine ln_pv (pv_move rfl) rfl ?_
  refine ln_pv (pv_len_slice Tryz.underlying22 rfl) rfl ?_
  refine ln_pv (pv_ff (pv_lss rfl rfl) (by simp <;> omega)) rfl ?_
  refine ln_cd ?_
  refine cd_ff rfl ?_
  refine cd_skip ?_
  refine at_cd ?_
  refine cd_sr ?_
  refine ln_pv (pv_move rfl) rfl ?_
  refine ln_pv (pv_move rfl) rfl ?_
  refine ln_pv (pv_ix8 (i := 4) Tryz.underlying22 tiuint8.size rfl rfl (by simp <;> omega)) rfl ?_
  refine ln_pv (pv_ldr (j := 4) (v := u8v x4) hrc Tryz.underlying5 rfl rfl rfl) rfl ?_
  refine ln_pv (pv_conv' (k := .u8) (i := (x4.toNat : Int)) Tryz.underlying5 Tryz.underlying53 rfl (r := (x4.toNat : Int)) (by rw [wrap_u32_eq]; omega)) rfl ?_
  refine ln_pv (pv_shl' (k := .u32) (i := (x4.toNat : Int)) (j := 28) rfl rfl (by decide) (by decide) (r := ((x4.toNat : Int) * 268435456)) (by rw [wrap_u32_eq]; simp <;> omega)) rfl ?_
  refine ln_pv (pv_or' (k := .u32) (i := (((((x0.toNat : Int) % 128) + (((x1.toNat : Int) % 128) * 128)) + (((x2.toNat : Int) % 128) * 16384)) + (((x3.toNat : Int) % 128) * 2097152))) (j := ((x4.toNat : Int) * 268435456)) rfl rfl (r := ((((((x0.toNat : Int) % 128) + (((x1.toNat : Int) % 128) * 128)) + (((x2.toNat : Int) % 128) * 16384)) + (((x3.toNat : Int) % 128) * 2097152)) + ((x4.toNat : Int) * 268435456))) (or32 28 (by decide) _ _ (by omega) (by simp <;> omega) (by omega) (by omega) (by simp <;> omega))) rfl ?_
  refine ln_pv (pv_assign rfl) rfl ?_
  refine ln_cd ?_
  refine cd_seq ?_
  refine cd_sr ?_
  refine ln_pv (pv_move rfl) rfl ?_
  refine ln_pv (pv_ix8 (i := 4) Tryz.underlying22 tiuint8.size rfl rfl (by simp <;> omega)) rfl ?_
  refine ln_pv (pv_ldr (j := 4) (v := u8v x4) hrc Tryz.underlying5 rfl rfl rfl) rfl ?_
  refine ln_pv (pv_tt (pv_leq (k := .u8) (i := (x4.toNat : Int)) (j := 15) rfl rfl) (by omega)) rfl ?_
  refine ln_cd ?_
  refine cd_tt rfl ?_
  refine cd_sr ?_
  refine ln_pv (pv_move rfl) rfl ?_
  refine ln_pv (pv_assign rfl) rfl ?_
  refine ln_pv (pv_assign rfl) rfl ?_
  refine ln_cd ?_
  refine cd_ret ?_
  exact at_retA2 (K := 0) rfl rfl rfl (fun w hS => rfl)
theorem uv_cast {t : Vw} {v : Value} {a b : Int} {m : Int} (h : b = a) (hc : CS Tryz.prog 65 [v] t (.tuple #[.int .u32 b, .int .i64 m])) : CS Tryz.prog 65 [v] t (.tuple #[.int .u32 a, .int .i64 m]) := h ▸ hc
theorem kbin_Uvarint (t : Vw) (v : Value) (x : Nat) (hx : x < 4294967296) (rest : List UInt8) (hv : RSv t v (uvar x ++ rest)) : CS Tryz.prog 65 [v] t (.tuple #[.int .u32 (x : Int), .int .i64 ((uvar x).length : Int)]) := by
  by_cases h1 : x < 128
  · have e := uv_1 (x := x) (by omega)
    rw [e] at hv ⊢
    have h := uvarint_1 t v (b8 (x : Nat)) rest (by rw [b8_lo (by omega)]; omega) hv
    rw [b8_lo (x := x) (by omega)] at h
    exact uv_cast (by omega) h
  by_cases h2 : x < 16384
  · have e := uv_2 (x := x) (by omega) (by omega)
    rw [e] at hv ⊢
    have h := uvarint_2 t v (b8 (x % 128 + 128 : Nat)) (b8 (x / 128 : Nat)) rest (by rw [b8_lo (by omega)]; omega) (by rw [b8_lo (by omega)]; omega) hv
    rw [b8_lo (x := x % 128 + 128) (by omega), b8_lo (x := x / 128) (by omega)] at h
    exact uv_cast (by omega) h
  by_cases h3 : x < 2097152
  · have e := uv_3 (x := x) (by omega) (by omega)
    rw [e] at hv ⊢
    have h := uvarint_3 t v (b8 (x % 128 + 128 : Nat)) (b8 (x / 128 % 128 + 128 : Nat)) (b8 (x / 128 / 128 : Nat)) rest (by rw [b8_lo (by omega)]; omega) (by rw [b8_lo (by omega)]; omega) (by rw [b8_lo (by omega)]; omega) hv
    rw [b8_lo (x := x % 128 + 128) (by omega), b8_lo (x := x / 128 % 128 + 128) (by omega), b8_lo (x := x / 128 / 128) (by omega)] at h
    exact uv_cast (by omega) h
  by_cases h4 : x < 268435456
  · have e := uv_4 (x := x) (by omega) (by omega)
    rw [e] at hv ⊢
    have h := uvarint_4 t v (b8 (x % 128 + 128 : Nat)) (b8 (x / 128 % 128 + 128 : Nat)) (b8 (x / 128 / 128 % 128 + 128 : Nat)) (b8 (x / 128 / 128 / 128 : Nat)) rest (by rw [b8_lo (by omega)]; omega) (by rw [b8_lo (by omega)]; omega) (by rw [b8_lo (by omega)]; omega) (by rw [b8_lo (by omega)]; omega) hv
    rw [b8_lo (x := x % 128 + 128) (by omega), b8_lo (x := x / 128 % 128 + 128) (by omega), b8_lo (x := x / 128 / 128 % 128 + 128) (by omega), b8_lo (x := x / 128 / 128 / 128) (by omega)] at h
    exact uv_cast (by omega) h
  have e := uv_5 (x := x) (by omega) (by omega)
  rw [e] at hv ⊢
  have h := uvarint_5 t v (b8 (x % 128 + 128 : Nat)) (b8 (x / 128 % 128 + 128 : Nat)) (b8 (x / 128 / 128 % 128 + 128 : Nat)) (b8 (x / 128 / 128 / 128 % 128 + 128 : Nat)) (b8 (x / 128 / 128 / 128 / 128 : Nat)) rest (by rw [b8_lo (by omega)]; omega) (by rw [b8_lo (by omega)]; omega) (by rw [b8_lo (by omega)]; omega) (by rw [b8_lo (by omega)]; omega) (by rw [b8_lo (by omega)]; omega) hv
  rw [b8_lo (x := x % 128 + 128) (by omega), b8_lo (x := x / 128 % 128 + 128) (by omega), b8_lo (x := x / 128 / 128 % 128 + 128) (by omega), b8_lo (x := x / 128 / 128 / 128 % 128 + 128) (by omega), b8_lo (x := x / 128 / 128 / 128 / 128) (by omega)] at h
  exact uv_cast (by omega) h
theorem rd_Uvarint (t : Vw) (x : Nat) (hx : x < 4294967296) : RdC 48 (uvar x) (fun _ r => r = .int .u32 (x : Int)) t := by
  have hu0 := uvar_pos x
  intro b v rest hv hok hav
  obtain ⟨_, g, o, c, rfl⟩ := RSv.pos hv (by simp <;> omega)
  have hc : (uvar x ++ rest).length ≤ c := by obtain ⟨_, c9, e9, h9⟩ := RSv.shape hv; simp only [Value.slice.injEq] at e9; omega
  refine ct_enter Tryz.func48 rfl Tryz.ntmps48 rfl hok hav (by simp [Ent.blk]) ?_
  refine cd_sr ?_
  refine ln_pv (pv_assign rfl) rfl ?_
  refine ln_cd ?_
  refine cd_sr ?_
  refine ln_pv (pv_move rfl) rfl ?_
  refine ln_pv (pv_nilCheck rfl) rfl ?_
  refine ln_pv (pv_fieldAddr (off := 0) (r := 0) Tryz.underlying89 rfl tiSl_uint8.size rfl rfl rfl) rfl ?_
  refine ln_pv (pv_ldo (i := 0) rfl Tryz.underlying22 rfl rfl rfl) rfl ?_
  refine ln_callS en_65 rfl (fun u hu => kbin_Uvarint u _ x hx rest (RSv.mv hv hu)) rfl ?_
  refine ln_pv (pv_move rfl) rfl ?_
  refine ln_pv (pv_extract rfl rfl) rfl ?_
  refine ln_pv (pv_extract rfl rfl) rfl ?_
  refine ln_pv (pv_assign rfl) rfl ?_
  refine ln_pv (pv_assign rfl) rfl ?_
  refine ln_cd ?_
  refine cd_seq ?_
  refine cd_sr ?_
  refine ln_pv (pv_move rfl) rfl ?_
  refine ln_pv (pv_ff (pv_leq rfl rfl) (by omega)) rfl ?_
  refine ln_cd ?_
  refine cd_ff rfl ?_
  refine cd_skip ?_
  refine at_cd ?_
  refine cd_sr ?_
  refine ln_pv (pv_move rfl) rfl ?_
  refine ln_pv (pv_move rfl) rfl ?_
  refine ln_pv (pv_nilCheck rfl) rfl ?_
  refine ln_pv (pv_fieldAddr (off := 0) (r := 0) Tryz.underlying89 rfl tiSl_uint8.size rfl rfl rfl) rfl ?_
  refine ln_pv (pv_ldo (i := 0) rfl Tryz.underlying22 rfl rfl rfl) rfl ?_
  refine ln_pv (pv_move rfl) rfl ?_
  refine ln_pv (pv_sliceV (i := (uvar x).length) Tryz.underlying22 tiuint8.size rfl rfl (by simp) hc) rfl ?_
  refine ln_pv (pv_nilCheck rfl) rfl ?_
  refine ln_pv (pv_fieldAddr (off := 0) (r := 0) Tryz.underlying89 rfl tiSl_uint8.size rfl rfl rfl) rfl ?_
  refine ln_store1 (i := 0) rfl rfl rfl rfl tiSl_uint8.size rfl ?_
  refine ln_cd ?_
  refine cd_sr ?_
  refine ln_pv (pv_move rfl) rfl ?_
  refine ln_pv (pv_assign rfl) rfl ?_
  refine ln_cd ?_
  refine cd_ret ?_
  exact at_retT (i := 0) rfl rfl rfl (fun w hS => ⟨rfl, _, rfl, (RSv.drop hv).mv (hS.trFinT _ _)⟩)
theorem rd_Span (t : Vw) (b : Nat) (v : Value) (bs rest : List UInt8) (hv : RSn t v (bs ++ rest)) (hok : (RdE b v).ok t.w) (hav : ∀ q ∈ (RdE b v).blk, t.av q) : CT Tryz.prog 50 [.pointer (some ⟨b, 0, none⟩), .int .i64 (bs.length : Int)] t (RdE b v) fun u r e' => RSn u r bs ∧ ∃ v', e' = RdE b v' ∧ RSn u v' rest := by
  obtain ⟨hv, g, o, c, rfl⟩ := hv
  have hc : (bs ++ rest).length ≤ c := by obtain ⟨_, c9, e9, h9⟩ := RSv.shape hv; simp only [Value.slice.injEq] at e9; omega
  refine ct_enter Tryz.func50 rfl Tryz.ntmps50 rfl hok hav (by simp [Ent.blk]) ?_
  refine cd_sr ?_
  refine ln_pv (pv_assign rfl) rfl ?_
  refine ln_cd ?_
  refine cd_seq ?_
  refine cd_sr ?_
  refine ln_pv (pv_move rfl) rfl ?_
  refine ln_pv (pv_nilCheck rfl) rfl ?_
  refine ln_pv (pv_fieldAddr (off := 0) (r := 0) Tryz.underlying89 rfl tiSl_uint8.size rfl rfl rfl) rfl ?_
  refine ln_pv (pv_ldo (i := 0) rfl Tryz.underlying22 rfl rfl rfl) rfl ?_
  refine ln_pv (pv_len_slice Tryz.underlying22 rfl) rfl ?_
  refine ln_pv (pv_move rfl) rfl ?_
  refine ln_pv (pv_ff (pv_lss rfl rfl) (by simp <;> omega)) rfl ?_
  refine ln_pv (pv_move rfl) rfl ?_
  refine ln_gt rfl rfl rfl (pv_move rfl) rfl ?_
  refine ln_gt rfl rfl rfl (pv_ff (pv_lss rfl rfl) (by omega)) rfl ?_
  refine ln_pv (pv_pick rfl (fun _ => rfl) (fun _ => rfl)) rfl ?_
  refine ln_cd ?_
  refine cd_ff rfl ?_
  refine cd_skip ?_
  refine at_cd ?_
  refine cd_sr ?_
  refine ln_pv (pv_move rfl) rfl ?_
  refine ln_pv (pv_nilCheck rfl) rfl ?_
  refine ln_pv (pv_fieldAddr (off := 0) (r := 0) Tryz.underlying89 rfl tiSl_uint8.size rfl rfl rfl) rfl ?_
  refine ln_pv (pv_ldo (i := 0) rfl Tryz.underlying22 rfl rfl rfl) rfl ?_
  refine ln_pv (pv_move rfl) rfl ?_
  refine ln_pv (pv_move rfl) rfl ?_
  refine ln_pv (pv_slice_3 (i := bs.length) Tryz.underlying22 (by rw [Option.isSome_iff_exists]; exact (Option.map_eq_some_iff.1 tiuint8.size).imp fun _ h => h.1) rfl rfl rfl (by simp at hc; omega)) rfl ?_
  refine ln_pv (pv_assign rfl) rfl ?_
  refine ln_cd ?_
  refine cd_sr ?_
  refine ln_pv (pv_move rfl) rfl ?_
  refine ln_pv (pv_move rfl) rfl ?_
  refine ln_pv (pv_nilCheck rfl) rfl ?_
  refine ln_pv (pv_fieldAddr (off := 0) (r := 0) Tryz.underlying89 rfl tiSl_uint8.size rfl rfl rfl) rfl ?_
  refine ln_pv (pv_ldo (i := 0) rfl Tryz.underlying22 rfl rfl rfl) rfl ?_
  refine ln_pv (pv_move rfl) rfl ?_
  refine ln_pv (pv_sliceV (i := bs.length) Tryz.underlying22 tiuint8.size rfl rfl (by simp) hc) rfl ?_
  refine ln_pv (pv_nilCheck rfl) rfl ?_
  refine ln_pv (pv_fieldAddr (off := 0) (r := 0) Tryz.underlying89 rfl tiSl_uint8.size rfl rfl rfl) rfl ?_
  refine ln_store1 (i := 0) rfl rfl rfl rfl tiSl_uint8.size rfl ?_
  refine ln_cd ?_
  refine cd_sr ?_
  refine ln_pv (pv_move rfl) rfl ?_
  refine ln_pv (pv_assign rfl) rfl ?_
  refine ln_cd ?_
  refine cd_ret ?_
  exact at_retT (i := 0) rfl rfl rfl (fun w hS => ⟨(RSv.take hv).mv (hS.trFinT _ _), _, rfl, (RSv.drop hv).mv (hS.trFinT _ _)⟩)
theorem w16 {n : Nat} (h : n ≤ 32767) : IntKind.i16.wrap (n : Int) = (n : Int) := by simp [IntKind.wrap, IntKind.bits, IntKind.signed]; omega
theorem w32 {n : Nat} (h : n ≤ 2147483647) : IntKind.i32.wrap (n : Int) = (n : Int) := by simp [IntKind.wrap, IntKind.bits, IntKind.signed]; omega
theorem w16n : IntKind.i16.wrap (-1) = -1 := by decide
theorem w32n : IntKind.i32.wrap (-1) = -1 := by decide
theorem rd_CompactString (t : Vw) (bs : List UInt8) (hl : bs.length ≤ 32767) : RdC 53 (uvar (bs.length + 1) ++ bs) (fun _ r => r = .string ⟨bs.toArray⟩) t := by
  intro b v rest hv hok hav
  rw [List.append_assoc] at hv
  refine ct_enter Tryz.func53 rfl Tryz.ntmps53 rfl hok hav (by simp [Ent.blk]) ?_
  refine cd_sr ?_
  refine ln_pv (pv_assign rfl) rfl ?_
  refine ln_cd ?_
  refine cd_sr ?_
  refine ln_pv (pv_move rfl) rfl ?_
  refine ln_callT (i := 0) en_48 rfl rfl (fun u hu hok hav => rd_Uvarint u (bs.length + 1) (by omega) b v (bs ++ rest) (RSv.mv hv hu) hok hav) rfl ?_
  rintro u1 _ _ ht1 ⟨ux1, ⟨rfl, v1, rfl, hv1⟩, hx1⟩
  have hv1 := hv1.mv hx1
  refine ln_pv (pv_conv' (k := .u32) (i := ((bs.length + 1 : Nat) : Int)) Tryz.underlying53 Tryz.underlying3 rfl (r := ((bs.length + 1 : Nat) : Int)) (by rw [wrap_i64 (by omega) (by omega)])) rfl ?_
  refine ln_pv (pv_sub' (k := .i64) (i := ((bs.length + 1 : Nat) : Int)) (j := 1) rfl rfl (r := (bs.length : Int)) (by rw [wrap_i64 (by omega) (by omega)]; omega)) rfl ?_
  refine ln_pv (pv_assign rfl) rfl ?_
  refine ln_cd ?_
  refine cd_sr ?_
  refine ln_pv (pv_move rfl) rfl ?_
  refine ln_pv (pv_move rfl) rfl ?_
  refine ln_callT (i := 0) (vals := [.pointer (some ⟨b, 0, none⟩), .int .i64 (bs.length : Int)]) en_50 rfl rfl (fun u hu hok hav => rd_Span u b _ bs rest (hv1.mv hu) hok hav) rfl ?_
  rintro u2 r2 _ ht2 ⟨ux2, ⟨hr2, v2, rfl, hv2⟩, hx2⟩
  have hv2 := hv2.mv hx2
  have hr2 := hr2.mv hx2
  refine ln_pv (pv_b2s hr2.1 Tryz.underlying22 Tryz.underlying5 Tryz.underlying9 rfl) rfl ?_
  refine ln_pv (pv_assign rfl) rfl ?_
  refine ln_cd ?_
  refine cd_ret ?_
  exact at_retT (i := 0) rfl rfl rfl (fun w hS => ⟨rfl, _, rfl, hv2.mv (hS.trFinT _ _)⟩)
theorem rd_String (t : Vw) (bs : List UInt8) (hl : bs.length ≤ 32767) : RdC 54 (fixed (bs.length : Int) 2 ++ bs) (fun _ r => r = .string ⟨bs.toArray⟩) t := by
  intro b v rest hv hok hav
  rw [List.append_assoc] at hv
  refine ct_enter Tryz.func54 rfl Tryz.ntmps54 rfl hok hav (by simp [Ent.blk]) ?_
  refine cd_sr ?_
  refine ln_pv (pv_assign rfl) rfl ?_
  refine ln_cd ?_
  refine cd_sr ?_
  refine ln_pv (pv_move rfl) rfl ?_
  refine ln_callT (i := 0) en_47 rfl rfl (fun u hu hok hav => rd_Int16 u (bs.length : Int) b v (bs ++ rest) (RSv.mv hv hu) hok hav) rfl ?_
  rintro u1 _ _ ht1 ⟨ux1, ⟨rfl, v1, rfl, hv1⟩, hx1⟩
  have hv1 := hv1.mv hx1
  refine ln_pv (pv_assign rfl) rfl ?_
  refine ln_cd ?_
  refine cd_sr ?_
  refine ln_pv (pv_move rfl) rfl ?_
  refine ln_pv (pv_move rfl) rfl ?_
  refine ln_pv (pv_conv' (k := .i16) (i := IntKind.i16.wrap (bs.length : Int)) Tryz.underlying40 Tryz.underlying3 rfl (r := (bs.length : Int)) (by rw [w16 hl, wrap_i64 (by omega) (by omega)])) rfl ?_
  refine ln_callT (i := 0) (vals := [.pointer (some ⟨b, 0, none⟩), .int .i64 (bs.length : Int)]) en_50 rfl rfl (fun u hu hok hav => rd_Span u b _ bs rest (hv1.mv hu) hok hav) rfl ?_
  rintro u2 r2 _ ht2 ⟨ux2, ⟨hr2, v2, rfl, hv2⟩, hx2⟩
  have hv2 := hv2.mv hx2
  have hr2 := hr2.mv hx2
  refine ln_pv (pv_b2s hr2.1 Tryz.underlying22 Tryz.underlying5 Tryz.underlying9 rfl) rfl ?_
  refine ln_pv (pv_assign rfl) rfl ?_
  refine ln_cd ?_
  refine cd_ret ?_
  exact at_retT (i := 0) rfl rfl rfl (fun w hS => ⟨rfl, _, rfl, hv2.mv (hS.trFinT _ _)⟩)
/-- a function of the reader's that looks how much is left -/
def RdL (f : FuncId) (bs : List UInt8) (n : Nat) (r0 : Int) (t : Vw) : Prop := ∀ (b : Nat) (v : Value) (rest : List UInt8), n ≤ rest.length → RSv t v (bs ++ rest) → (RdE b v).ok t.w → (∀ q ∈ (RdE b v).blk, t.av q) →
  CT Tryz.prog f [.pointer (some ⟨b, 0, none⟩)] t (RdE b v) fun u r e' => r = .int .i32 r0 ∧ ∃ v', e' = RdE b v' ∧ RSn u v' rest
theorem rd_Complete (t : Vw) (b : Nat) (v : Value) (hok : (RdE b v).ok t.w) (hav : ∀ q ∈ (RdE b v).blk, t.av q) : CT Tryz.prog 56 [.pointer (some ⟨b, 0, none⟩)] t (RdE b v) fun u r e' => r = .nilIface ∧ e' = RdE b v := by
  refine ct_enter Tryz.func56 rfl Tryz.ntmps56 rfl hok hav (by simp [Ent.blk]) ?_
  refine cd_sr ?_
  refine ln_pv (pv_assign rfl) rfl ?_
  refine ln_cd ?_
  refine cd_seq ?_
  refine cd_sr ?_
  refine ln_pv (pv_move rfl) rfl ?_
  refine ln_pv (pv_nilCheck rfl) rfl ?_
  refine ln_pv (pv_fieldAddr (off := 1) (r := 1) Tryz.underlying89 rfl tibool.size rfl rfl rfl) rfl ?_
  refine ln_pv (pv_ldo (i := 0) rfl Tryz.underlying4 rfl rfl rfl) rfl ?_
  refine ln_cd ?_
  refine cd_ff rfl ?_
  refine cd_skip ?_
  refine at_cd ?_
  refine cd_sr ?_
  refine ln_pv (pv_assign rfl) rfl ?_
  refine ln_cd ?_
  refine cd_ret ?_
  exact at_retT (i := 0) rfl rfl rfl (fun w hS => ⟨rfl, rfl⟩)
theorem pv_sliceA {P : Program} {n : Nat} {L : Env} {S : World → Prop} {d : Option Nat} {g : Option (Nat × Bool)} {ty : TypeId} {pos : String} {af : Array Edge} {t e : TypeId} {m b : Nat} {x : Operand} (hu : P.underlying t = some (.array m e)) (hsz : (P.info? e).isSome = true) (hx : ev L x = some (.pointer (some ⟨b, 0, none⟩))) :
    PV P S ⟨d, .slice t x none none none, ty, pos, af, g⟩ n L (.slice (some ⟨b, 0, none⟩) m m) := fun a w hF _ => by
  obtain ⟨ii, hi⟩ := Option.isSome_iff_exists.1 hsz
  have e1 : P.arrayLen t = m := by simp [Program.arrayLen, hu]
  have e2 : P.elem t = e := by simp [Program.elem, hu]
  have h := run_sliceAt_array_all (P := P) w t ⟨b, 0, none⟩ (by rw [e1, e2]; exact hu)
  rw [e1, e2] at h
  simp only [execOp, hF.ev hx, Option.map_none]
  simp only [Sem.run_bind, h]
  simp [sizeOf, typeInfo, hi, Result.andThen, slicedAt]
  exact fun _ => Addr.add_zero' _
/-- the result lies in a variable of the call's own -/
theorem at_retTC {n : Nat} {L : Env} {H : Hp} {s : Vw} {P : Program} {fn : Func} {t : Vw} {e e' : Ent} {R : Vw → Value → Ent → Prop} {q i j b sz : Nat} {rt et : TypeId} {l : List Value} {dd : TypeDesc} (hr : fn.results = #[.cell q rt]) (hv : lk L q = some (.pointer (some ⟨b, 0, none⟩))) (hj : H[j]? = some (.obj b (.cells l.toArray et))) (hi : H[i]? = some e')
    (hd : P.underlying rt = some dd) (hna : (match dd with | .struct _ | .array _ _ => true | _ => false) = true) (hsz : (P.info? rt).map (·.size) = some sz) (hl : l.length = sz)
    (h : ∀ w, ∀ hS : St ⟨t, fun b => b ∈ e.blk⟩ s H w, R (hS.finT e' (List.mem_of_getElem? hi)) (.agg l.toArray) e') : At (rpT P fn t e R) n L H ⟨t, fun b => b ∈ e.blk⟩ s := fun a w hF hS =>
  rpT_of hi hF hS (by
    have hb := hS.sk.obj hj
    have hg := hF.get q _ hv
    have hrun := run_loadA (P := P) (w := w) (b := b) (o := 0) hd hna hsz hl (fun j v hj => cell_of_list hb _ (by simpa using hj))
    simp [results, hr, hg, asAddr, hrun, Result.andThen]) (h w hS)
end K
end Go.Proofs.YtepbicjadambbabGreatDoor
namespace Go.Proofs.YtepbicjadambbabGreatDoor
namespace K
open Go Go.Lib
/-! ### Unknown tags, read -/
theorem tagB_cons {l : Tags} {i : Nat} (hi : i < l.length) (rest : List UInt8) : (l.drop i).flatMap tagB ++ rest = uvar l[i].1 ++ (uvar l[i].2.length ++ (l[i].2 ++ ((l.drop (i + 1)).flatMap tagB ++ rest))) := by
  rw [List.drop_eq_getElem_cons hi, List.flatMap_cons]
  simp [tagB, List.append_assoc]
theorem rd_Tags (t : Vw) (l : Tags) (hk : (l.map (·.1)).Nodup) (hb : ∀ y ∈ l, y.1 < 4294967296 ∧ y.2.length ≤ 32767) (hn : l.length < 4294967296) :
    RdC 55 (uvar l.length ++ l.flatMap tagB) (fun u r => ∃ mv ml, r = .agg #[mv] ∧ MK u mv ml ∧ RK u ml l) t := by
  intro b v rest hv hok hav
  rw [List.append_assoc] at hv
  refine ct_enter Tryz.func55 rfl Tryz.ntmps55 rfl hok hav (by simp [Ent.blk]) ?_
  refine cd_sr ?_
  refine ln_alloc (l := [.map none]) tipub_kmsg_Tags rfl rfl (fun b2 => ?_)
  refine ln_cd ?_
  refine cd_sr ?_
  refine ln_alloc (l := [.map none]) tipub_kmsg_Tags rfl rfl (fun b3 => ?_)
  refine ln_cd ?_
  refine cd_seq ?_
  refine cd_sr ?_
  refine ln_pv (pv_move rfl) rfl ?_
  refine ln_callT (i := 2) en_48 rfl rfl (fun u hu hok hav => rd_Uvarint u l.length hn b v _ (RSv.mv hv hu) hok hav) rfl ?_
  rintro u1 _ _ ht1 ⟨ux1, ⟨rfl, v1, rfl, hv1⟩, hx1⟩
  have hv1 := hv1.mv hx1
  refine ln_pv (pv_assign rfl) rfl ?_
  refine ln_cd ?_
  refine cd_perm (H' := [RdE b v1, .obj b3 (.cells [Value.map none].toArray 59), .obj b2 (.cells [Value.map none].toArray 59)]) (by
    refine List.Perm.trans (List.perm_append_comm (l₁ := [Ent.obj b3 (.cells [Value.map none].toArray 59), .obj b2 (.cells [Value.map none].toArray 59)]) (l₂ := [RdE b v1])) ?_
    exact List.Perm.refl _) ?_
  refine cd_block ?_
  refine cd_loop' (S := Nat × Option Nat × List (Nat × Value) × Value) ⟨fun z => [(4, .int .u32 ((l.length - z.1 : Nat) : Int)), (3, .pointer (some ⟨b3, 0, none⟩)), (2, .pointer (some ⟨b2, 0, none⟩)), (0, .pointer (some ⟨b, 0, none⟩))],
      fun z => RdE b z.2.2.2 :: (mapE z.2.1 z.2.2.1 ++ .obj b3 (.cells [mapV z.2.1].toArray 59) :: [.obj b2 (.cells [Value.map none].toArray 59)]),
      fun z u => z.1 ≤ l.length ∧ RK u z.2.2.1 (l.take z.1) ∧ (z.2.1 = none → z.2.2.1 = []) ∧ RSn u z.2.2.2 ((l.drop z.1).flatMap tagB ++ rest), fun z => l.length - z.1⟩ (0, none, [], v1)
    (fun u hu => ⟨Nat.zero_le _, rfl, fun _ => rfl, hv1.mv hu⟩) ?_ (List.Sublist.refl _) ?_
  · exact .put rfl (.put rfl (.put rfl (.put rfl (fun _ _ h => by simp [lk] at h))))
  · rintro ⟨i, mo, ml, v2⟩ u hu ⟨hi, hRK, hmo, hv2⟩
    dsimp only at hi hRK hmo hv2 ⊢
    refine cd_seq ?_
    refine cd_sr ?_
    refine ln_pv (pv_move rfl) rfl ?_
    refine ln_pv (pv_gtr rfl rfl) rfl ?_
    refine ln_cd ?_
    refine cd_if rfl (fun hlt => ?_) (fun hge => ?_)
    · have hi' : i < l.length := by omega
      have hbi := hb _ (List.getElem_mem hi')
      rw [tagB_cons hi'] at hv2
      refine cd_skip ?_
      refine at_cd ?_
      refine cd_seq ?_
      refine cd_block ?_
      refine cd_sr ?_
      refine ln_pv (pv_move rfl) rfl ?_
      refine ln_callT (i := 0) en_48 rfl rfl (fun u hu hok hav => rd_Uvarint u _ hbi.1 b v2 _ (RSv.mv hv2.1 hu) hok hav) rfl ?_
      rintro u3 _ _ ht3 ⟨ux3, ⟨rfl, v3, rfl, hv3⟩, hx3⟩
      have hv3 := hv3.mv hx3
      refine ln_pv (pv_move rfl) rfl ?_
      refine ln_callT (i := 0) en_48 rfl rfl (fun u hu hok hav => rd_Uvarint u _ (by omega) b v3 _ (RSv.mv hv3.1 hu) hok hav) rfl ?_
      rintro u4 _ _ ht4 ⟨ux4, ⟨rfl, v4, rfl, hv4⟩, hx4⟩
      have hv4 := hv4.mv hx4
      refine ln_pv (pv_assign rfl) rfl ?_
      refine ln_pv (pv_assign rfl) rfl ?_
      refine ln_cd ?_
      refine cd_region ?_
      refine ln_pv (pv_move rfl) rfl ?_
      refine ln_pv (pv_move rfl) rfl ?_
      refine ln_pv (pv_move rfl) rfl ?_
      refine ln_pv (pv_conv' (k := .u32) (i := (l[i].2.length : Int)) Tryz.underlying53 Tryz.underlying3 rfl (r := (l[i].2.length : Int)) (by rw [wrap_i64 (by omega) (by omega)])) rfl ?_
      refine ln_callT (i := 0) (vals := [.pointer (some ⟨b, 0, none⟩), .int .i64 (l[i].2.length : Int)]) en_50 rfl rfl (fun u hu hok hav => rd_Span u b _ l[i].2 _ (hv4.mv hu) hok hav) rfl ?_
      rintro u5 r5 _ ht5 ⟨ux5, ⟨hr5, v5, rfl, hv5⟩, hx5⟩
      have hv5 := hv5.mv hx5
      have hr5 := hr5.mv hx5
      have hRK5 := RK.mv (ht3.trans (ht4.trans ht5)) hRK
      refine ln_callH (E := mapE mo ml ++ [.obj b3 (.cells [mapV mo].toArray 59)]) (H0 := [RdE b v5, .obj b2 (.cells [Value.map none].toArray 59)]) (vals := [.pointer (some ⟨b3, 0, none⟩), .int .u32 (l[i].1 : Int), r5]) (show List.Perm (RdE b v5 :: (mapE mo ml ++ Ent.obj b3 (.cells [mapV mo].toArray 59) :: [Ent.obj b2 (.cells [Value.map none].toArray 59)])) (_ ++ _) from set_perm) en_49 rfl
        (fun u hu hok hav hnd => tags_SetU u b3 0 l[i].1 [.map none] 59 r5 mo ml (by decide) hmo (nodup_new hi' (RK.keys hRK) hk) hok hav hnd) rfl ?_
      rintro u6 r6 _ ht6 ⟨_, ⟨m, rfl⟩, _⟩
      refine ln_nil ?_
      refine at_cd ?_
      refine cd_region ?_
      refine ln_pv (pv_move rfl) rfl ?_
      refine ln_pv (pv_sub' (k := .u32) (i := ((l.length - i : Nat) : Int)) (j := 1) rfl rfl (r := ((l.length - (i + 1) : Nat) : Int)) (by rw [wrap_u32_eq]; omega)) rfl ?_
      refine ln_pv (pv_assign rfl) rfl ?_
      refine ln_nil ?_
      refine at_perm (H' := RdE b v5 :: (mapE (some m) (ml ++ [(l[i].1, r5)]) ++ .obj b3 (.cells [mapV (some m)].toArray 59) :: [.obj b2 (.cells [Value.map none].toArray 59)])) ?_ ?_
      · exact set_perm.symm
      refine at_rnd' (i + 1, some m, ml ++ [(l[i].1, r5)], v5) (hu.trans (ht3.trans (ht4.trans (ht5.trans ht6)))) (fun u7 hu7 => ⟨by dsimp only; omega, ?_, (fun h => by cases h), hv5.mv (ht6.trans hu7)⟩) (by dsimp only; omega) ?_ (List.Sublist.refl _)
      · rw [take_snoc' hi']
        exact RK.snoc (RSv.mv hr5.1 (ht6.trans hu7)) (RK.mv (ht6.trans hu7) hRK5)
      · exact .put rfl (.put rfl (.put rfl (.put rfl (fun _ _ h => by simp [lk] at h))))
    · have him : i = l.length := by omega
      subst him
      rw [List.take_length] at hRK
      simp only [List.drop_length, List.flatMap_nil, List.nil_append] at hv2
      refine cd_exit rfl ?_
      refine at_cd ?_
      cases mo with
      | none =>
        obtain rfl := hmo rfl
        refine cd_sr ?_
        refine ln_pv (pv_ldO (i := 1) (l := [.map none]) rfl Tryz.underlying59 rfl tipub_kmsg_Tags.size rfl rfl) rfl ?_
        refine ln_storeW (i := 2) (vs := [.map none]) rfl rfl rfl rfl tipub_kmsg_Tags.size rfl (by simp) ?_
        refine ln_cd ?_
        refine cd_ret ?_
        exact at_retTC (i := 0) (j := 2) rfl rfl rfl rfl Tryz.underlying59 rfl tipub_kmsg_Tags.size rfl (fun w hS => ⟨⟨_, _, rfl, .inl ⟨rfl, rfl⟩, RK.mv (hS.trFinT _ _) hRK⟩, _, rfl, hv2.mv (hS.trFinT _ _)⟩)
      | some m =>
        refine cd_sr ?_
        refine ln_pv (pv_ldO (i := 2) (l := [.map (some m)]) rfl Tryz.underlying59 rfl tipub_kmsg_Tags.size rfl rfl) rfl ?_
        refine ln_storeW (i := 3) (vs := [.map (some m)]) rfl rfl rfl rfl tipub_kmsg_Tags.size rfl (by simp) ?_
        refine ln_cd ?_
        refine cd_ret ?_
        exact at_retTC (i := 0) (j := 3) rfl rfl rfl rfl Tryz.underlying59 rfl tipub_kmsg_Tags.size rfl (fun w hS => ⟨⟨_, _, rfl, .inr ⟨m, rfl, obT hS (by simp [Ent.blk]) (i := 0) (j := 1) rfl rfl (by decide)⟩, RK.mv (hS.trFinT _ _) hRK⟩, _, rfl, hv2.mv (hS.trFinT _ _)⟩)
end K
end Go.Proofs.YtepbicjadambbabGreatDoor
