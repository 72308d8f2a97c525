import Derived.Test.YtjjfpdofkdolnaaDoorIx
import Derived.Scope
import Derived.Test.YtjjfpdofkdolnaaDoorQ1
import Derived.Test.YtjjfpdofkdolnaaDoorB2
set_option linter.unusedVariables false
set_option linter.unusedSimpArgs false
namespace Go.Proofs.YtjjfpdofkdolnaaDoor
namespace K
open Go Go.Lib
/-! ### A window of an owned entry: cells that are read and written in place -/
structure Tgt (mk : List Value → Ent) (b o len : Nat) : Prop where
  blk : ∀ win, (mk win).blk = [b]
  rd : ∀ (win : List Value) (w : World), win.length = len → (mk win).ok w → ∀ j v, win[j]? = some v → w.cell? ⟨b, o + j, none⟩ = some v
  put : ∀ (P : Program) (win vs : List Value) (off : Nat) (w : World), win.length = len → (mk win).ok w → off + vs.length ≤ len → (∀ u ∈ vs, u.oneCell' = true) →
    ∃ w', (storeCells ⟨b, o + off, none⟩ vs 0).run P w = .ok () w' ∧ (mk (wr win off vs)).ok w' ∧ Mod (fun x => x = b) w w'
theorem Tgt.obj (b : Nat) (T : TypeId) (len : Nat) : Tgt (fun win => .obj b (.cells win.toArray T)) b 0 len := by
  refine ⟨fun _ => rfl, fun win w hl hok j v hv => cell_of_list hok _ (by simpa using hv), fun P win vs off w hl hok hle h1 => ?_⟩
  obtain ⟨w', hr, hh, hm⟩ := run_storeList (P := P) vs w b off 0 win T hok (by omega) h1
  exact ⟨w', by simpa using hr, by simpa [Ent.ok, wr] using hh, hm⟩
theorem Tgt.row (b c m sz : Nat) (e : TypeId) : Tgt (fun xs => .row (.slice (some ⟨b, 0, none⟩) m c) e sz m xs) b 0 (m * sz) := by
  refine ⟨fun _ => rfl, fun win w hl hok j v hv => ?_, fun P win vs off w hl hok hle h1 => ?_⟩
  · have h : w.ownsRow 0 e sz (.slice (some ⟨b, 0, none⟩) m c) m win := hok
    have := World.ownsRow.cells h (g := b) rfl j v hv
    rwa [Addr.add_lit] at this
  · have hown : w.ownsRow 0 e sz (.slice (some ⟨b, 0, none⟩) m c) m win := hok
    rcases hown.2 with ⟨h, _⟩ | ⟨g, cap, cur, he, hb, hg, hnc, hcm, hcs, htake⟩
    · cases h
    · simp only [Value.slice.injEq, Option.some.injEq, Addr.mk.injEq] at he
      obtain ⟨⟨rfl, _⟩, _, rfl⟩ := he
      have hcur : m * sz ≤ cur.toList.length := by
        rw [Array.length_toList, hcs]
        exact Nat.mul_le_mul_right _ hnc
      obtain ⟨w', hr, hh, hm⟩ := run_storeList (P := P) vs w b off 0 cur.toList e (by simpa using hg) (by omega) h1
      refine ⟨w', by simpa using hr, ?_, hm⟩
      have hxl : win.length = m * sz := hown.1
      refine ⟨by simp [wr, hxl]; omega, .inr ⟨b, c, _, rfl, Nat.zero_le _, hh, hnc, hcm, ?_, ?_⟩⟩
      · simp only [Nat.add_zero, List.size_toArray, List.length_append, List.length_take, List.length_drop]
        rw [Array.length_toList] at hcur ⊢
        try omega
      · simp only [Nat.add_zero, wr]
        rw [List.take_append, List.take_append, List.length_append, List.length_take, ← htake]
        have e1 : min off cur.toList.length = off := by omega
        rw [e1, List.take_take, List.take_take, List.drop_take, List.take_of_length_le (l := vs) (by omega)]
        congr 2
        all_goals first | omega | (congr 1; omega) | skip
theorem wr_mid {p win q vs : List Value} {off : Nat} (h : off + vs.length ≤ win.length) : wr (p ++ win ++ q) (p.length + off) vs = p ++ wr win off vs ++ q := by
  simp only [wr]
  have e1 : (p ++ win ++ q).take (p.length + off) = p ++ win.take off := by
    rw [List.append_assoc, List.take_length_add_append, List.take_append_of_le_length (by omega)]
  have e2 : (p ++ win ++ q).drop (p.length + off + vs.length) = win.drop (off + vs.length) ++ q := by
    rw [List.append_assoc, Nat.add_assoc, List.drop_length_add_append, List.drop_append_of_le_length (by omega)]
  rw [e1, e2]
  simp [List.append_assoc]
theorem Tgt.sub {mk : List Value → Ent} {b o len : Nat} (h : Tgt mk b o len) (p q : List Value) (len' o' : Nat) (hl : p.length + len' + q.length = len) (ho : o + p.length = o') : Tgt (fun win => mk (p ++ win ++ q)) b o' len' := by
  subst ho
  refine ⟨fun win => h.blk _, fun win w hw hok j v hv => ?_, fun P win vs off w hw hok hle h1 => ?_⟩
  · have := h.rd (p ++ win ++ q) w (by simp; omega) hok (p.length + j) v (by
      have hj := (List.getElem?_eq_some_iff.1 hv).1
      rw [List.append_assoc, List.getElem?_append_right (by omega), Nat.add_sub_cancel_left, List.getElem?_append_left hj]
      exact hv)
    rwa [← Nat.add_assoc] at this
  · obtain ⟨w', h2, h3, h4⟩ := h.put P (p ++ win ++ q) vs (p.length + off) w (by simp; omega) hok (by omega) h1
    refine ⟨w', by rw [Nat.add_assoc]; exact h2, ?_, h4⟩
    rwa [wr_mid (by omega)] at h3
section
variable {P : Program} {n : Nat} {L : Env} {H : Hp} {C : Cx} {s : Vw} {K : Act → World → Prop} {ops : Array Oper} {rest : List Oper}
variable {ty : TypeId} {pos : String} {af : Array Edge} {mk : List Value → Ent} {b o len : Nat} {win : List Value}
theorem ln_storeG {i off : Nat} {t : TypeId} {x y : Operand} {vs win' : List Value} {v : Value} (hT : Tgt mk b o len) (hi : H[i]? = some (mk win)) (hl : win.length = len) (hx : ev L x = some (.pointer (some ⟨b, o + off, none⟩))) (hy : ev L y = some v)
    (hv : v.cells = vs.toArray) (hsz : (P.info? t).map (·.size) = some vs.length) (hle : off + vs.length ≤ len) (h1 : ∀ u ∈ vs, u.oneCell' = true) (hw : wr win off vs = win')
    (k : Ln P ops rest K n L (H.set i (mk win')) C s) : Ln P ops (⟨none, .store t x y, ty, pos, af, none⟩ :: rest) K n L H C s := fun a w hF hS => by
  subst hw
  have hok : (mk win).ok w := hS.hf _ (List.mem_of_getElem? hi)
  obtain ⟨ii, hii, hsz⟩ := Option.map_eq_some_iff.1 hsz
  obtain ⟨w', hr, hh, hm⟩ := hT.put P win vs off w hl hok hle h1
  have hb : (mk win).blk = [b] := hT.blk _
  have hb' : (mk (wr win off vs)).blk = [b] := hT.blk _
  refine wpl_skip rfl (w' := w') ?_ (k _ _ hF (hS.turn hi (by simpa [hb] using hm) hh (by rw [hb, hb']; exact fun q hq => .inl hq) (by rw [hb']; simp)))
  simp only [execOp, hF.ev hx, hF.ev hy, Instr.storeAt, Instr.sureAddr, storeVar]
  simp [sizeOf, typeInfo, hii, hsz, hv, hr, Result.andThen]
/-- one cell of it -/
theorem ln_storeG1 {i off : Nat} {t : TypeId} {x y : Operand} {v : Value} (hT : Tgt mk b o len) (hi : H[i]? = some (mk win)) (hl : win.length = len) (hx : ev L x = some (.pointer (some ⟨b, o + off, none⟩))) (hy : ev L y = some v)
    (h1 : v.oneCell' = true) (hsz : (P.info? t).map (·.size) = some 1) (hle : off + 1 ≤ len)
    (k : Ln P ops rest K n L (H.set i (mk (win.set off v))) C s) : Ln P ops (⟨none, .store t x y, ty, pos, af, none⟩ :: rest) K n L H C s :=
  ln_storeG (vs := [v]) hT hi hl hx hy (one_cells h1) hsz hle (by simp [h1]) (wr_one (by omega)) k
theorem pv_ldG1 {d : Option Nat} {g : Option (Nat × Bool)} {t : TypeId} {x : Operand} {i off : Nat} {dd : TypeDesc} {v : Value} (hT : Tgt mk b o len) (hi : H[i]? = some (mk win)) (hl : win.length = len) (hd : P.underlying t = some dd) (hna : (match dd with | .struct _ | .array _ _ => true | _ => false) = false)
    (hx : ev L x = some (.pointer (some ⟨b, o + off, none⟩))) (hv : win[off]? = some v) : PV P (Sk s H) ⟨d, .load t x, ty, pos, af, g⟩ n L v :=
  pv_load1 hd hna hx fun w hw => hT.rd win w hl (hw.2 _ (List.mem_of_getElem? hi)) off v hv
/-! ### x[k:], x[:k:k] -/
theorem sliceBound_nat {w : World} {k : IntKind} {i y : Nat} {code : BoundsCode} (h1 : i ≤ y) : (Instr.sliceBound (.int k (i : Int)) y code).run P w = .ok i w := by
  have := sliceBound_run (P := P) (w := w) (k := k) (i := (i : Int)) (y := y) (code := code) (by omega) (by omega)
  simpa using this
theorem pv_sliceV {S : World → Prop} {d : Option Nat} {g : Option (Nat × Bool)} {t e : TypeId} {x y : Operand} {k : IntKind} {i : Nat} {a : Option Addr} {m c : Nat} (hu : P.underlying t = some (.slice e)) (hsz : (P.info? e).map (·.size) = some 1) (hx : ev L x = some (.slice a m c)) (hy : ev L y = some (.int k (i : Int))) (h0 : i ≤ m) (h1 : m ≤ c) :
    PV P S ⟨d, .slice t x (some y) none none, ty, pos, af, g⟩ n L (.slice (if c = i then a else a.map (·.add i)) (m - i) (c - i)) := fun a' w hF _ => by
  obtain ⟨ii, hi, hsz⟩ := Option.map_eq_some_iff.1 hsz
  simp only [execOp, hF.ev hx, hF.ev hy, Instr.sliceAt, Option.map_some, Option.map_none]
  simp [run_underlying hu, Instr.slice, Instr.sliceBounds, sliceBound_nat h0, sizeOf, typeInfo, hi, hsz, Result.andThen]
theorem pv_slice_3 {S : World → Prop} {d : Option Nat} {g : Option (Nat × Bool)} {t e : TypeId} {x y z : Operand} {k k' : IntKind} {i : Nat} {a : Option Addr} {m c : Nat} (hu : P.underlying t = some (.slice e)) (hsz : (P.info? e).isSome = true) (hx : ev L x = some (.slice a m c)) (hy : ev L y = some (.int k (i : Int))) (hz : ev L z = some (.int k' (i : Int))) (h0 : i ≤ c) :
    PV P S ⟨d, .slice t x none (some y) (some z), ty, pos, af, g⟩ n L (.slice a i i) := fun a' w hF _ => by
  obtain ⟨ii, hi⟩ := Option.isSome_iff_exists.1 hsz
  simp only [execOp, hF.ev hx, hF.ev hy, hF.ev hz, Instr.sliceAt, Option.map_some, Option.map_none]
  simp [run_underlying hu, Instr.slice, Instr.sliceBounds, sliceBound_nat h0, sliceBound_nat (Nat.le_refl i), sizeOf, typeInfo, hi, Result.andThen]
  intro _
  cases a with
  | none => rfl
  | some z => exact congrArg some (Addr.add_zero' z)
end
/-- what still lies ahead: it is there -/
def RSn (s : Vw) (v : Value) (l : List UInt8) : Prop := RSv s v l ∧ ∃ g o c, v = .slice (some ⟨g, o, none⟩) l.length c
theorem RSn.mv {s t : Vw} {v : Value} {l : List UInt8} (h : RSn s v l) (ht : Tr s t) : RSn t v l := ⟨RSv.mv h.1 ht, h.2⟩
theorem RSv.shape {s : Vw} {v : Value} {l : List UInt8} (h : RSv s v l) : ∃ ad c, v = .slice ad l.length c ∧ l.length ≤ c := RS.shape h
theorem RSv.pos {s : Vw} {v : Value} {l : List UInt8} (h : RSv s v l) (hl : 0 < l.length) : RSn s v l := by
  obtain ⟨ad, c, rfl, hc⟩ := RSv.shape h
  obtain ⟨b, o, rfl, _⟩ := RS.pos h hl (by decide)
  exact ⟨h, _, _, _, rfl⟩
theorem u8s_ne {l : List UInt8} (h : l ≠ []) : u8s l ≠ [] := fun e => h (by simpa [u8s] using e)
theorem RSv.drop {s : Vw} {g o c : Nat} {bs rest : List UInt8} (h : RSv s (.slice (some ⟨g, o, none⟩) (bs ++ rest).length c) (bs ++ rest)) : RSn s (.slice (if c = bs.length then some ⟨g, o, none⟩ else (some ⟨g, o, none⟩ : Option Addr).map (·.add bs.length)) ((bs ++ rest).length - bs.length) (c - bs.length)) rest := by
  have hl : (bs ++ rest).length - bs.length = rest.length := by simp
  rw [hl]
  rcases h.2.2 with ⟨he, _⟩ | ⟨a', c', he, hc, hr⟩
  · cases he
  · simp only [Value.slice.injEq, Option.some.injEq, true_and] at he
    obtain ⟨rfl, rfl⟩ := he
    simp only [List.length_append] at hc
    by_cases e : c = bs.length
    · rw [if_pos e]
      have h0 : rest = [] := List.eq_nil_of_length_eq_zero (by omega)
      subst h0
      exact ⟨⟨by simp, by simp [u8s], .inr ⟨_, _, rfl, Nat.zero_le _, fun hne => by simp at hne⟩⟩, _, _, _, rfl⟩
    · rw [if_neg e, Option.map_some, Addr.add_lit]
      refine ⟨⟨by simp, u8s_one _, .inr ⟨_, _, rfl, by omega, fun hne => ?_⟩⟩, _, _, _, rfl⟩
      obtain ⟨h0, hrc⟩ := hr (u8s_ne (by rintro e0; have := congrArg List.length e0; simp only [List.length_append, List.length_nil] at this; have h0 : rest = [] := List.eq_nil_of_length_eq_zero (by omega); subst h0; simp at hne))
      refine ⟨rfl, ?_⟩
      exact hrc.sub bs.length (c1 := u8s bs) (c2 := u8s rest) (c3 := []) (by simp) (by simp)
theorem RSv.take {s : Vw} {g o c : Nat} {bs rest : List UInt8} (h : RSv s (.slice (some ⟨g, o, none⟩) (bs ++ rest).length c) (bs ++ rest)) : RSn s (.slice (some ⟨g, o, none⟩) bs.length bs.length) bs := by
  refine ⟨⟨by simp, u8s_one _, ?_⟩, _, _, _, rfl⟩
  rcases h.2.2 with ⟨he, _⟩ | ⟨a', c', he, hc, hr⟩
  · cases he
  · simp only [Value.slice.injEq, Option.some.injEq, true_and] at he
    obtain ⟨rfl, rfl⟩ := he
    refine .inr ⟨_, _, rfl, Nat.le_refl _, fun hne => ?_⟩
    obtain ⟨h0, hrc⟩ := hr (u8s_ne (by rintro e0; have := congrArg List.length e0; simp only [List.length_append, List.length_nil] at this; have h0 : bs = [] := List.eq_nil_of_length_eq_zero (by omega); subst h0; simp at hne))
    refine ⟨rfl, ?_⟩
    have := hrc.sub 0 (c1 := []) (c2 := u8s bs) (c3 := u8s rest) (by simp) rfl
    exact this
/-! ### The reader -/
abbrev RdE (b : Nat) (v : Value) : Ent := .obj b (.cells [v, .bool false].toArray 142)
/-- a function of the reader's, over octets that are there -/
def RdC (f : FuncId) (bs : List UInt8) (Rr : Vw → Value → Prop) (t : Vw) : Prop := ∀ (b : Nat) (v : Value) (rest : List UInt8), RSv t v (bs ++ rest) → (RdE b v).ok t.w → (∀ q ∈ (RdE b v).blk, t.av q) →
  CT Tryd.prog f [.pointer (some ⟨b, 0, none⟩)] t (RdE b v) fun u r e' => Rr u r ∧ ∃ v', e' = RdE b v' ∧ RSn u v' rest
theorem RdC.mono {f : FuncId} {bs : List UInt8} {Rr Rr' : Vw → Value → Prop} {t : Vw} (h : RdC f bs Rr t) (hr : ∀ u v, Rr u v → Rr' u v) : RdC f bs Rr' t := fun b v rest h1 h2 h3 =>
  Calls.mono (h b v rest h1 h2 h3) fun x w' ⟨r, e', he, g1, g2, g3, g4, g5, ⟨g6, g7⟩⟩ => ⟨r, e', he, g1, g2, g3, g4, g5, hr _ _ g6, g7⟩
end K
end Go.Proofs.YtjjfpdofkdolnaaDoor
namespace Go.Proofs.YtjjfpdofkdolnaaDoor
namespace K
open Go Go.Lib
theorem pv_shl' {P : Program} {S : World → Prop} {n : Nat} {L : Env} {d : Option Nat} {g : Option (Nat × Bool)} {ty : TypeId} {pos : String} {af : Array Edge} {t u : TypeId} {x y : Operand} {k yk : IntKind} {i j r : Int} (hx : ev L x = some (.int k i)) (hy : ev L y = some (.int yk j)) (h0 : 0 ≤ j) (h1 : j ≤ k.bits) (hr : k.wrap (i * 2 ^ j.toNat) = r) : PV P S ⟨d, .binOp .shl t x y u, ty, pos, af, g⟩ n L (.int k r) := hr ▸ pv_shl hx hy h0 h1
theorem orj (k : IntKind) (j : Nat) (hj : j ≤ k.bits) (hk : ∀ n : Int, 0 ≤ n → n < 2 ^ j → k.wrap n = n) (i : Nat) (hij : i ≤ j) (x y : Int) (hx0 : 0 ≤ x) (hx : x % 2 ^ i = 0) (hx1 : x < 2 ^ j) (hy0 : 0 ≤ y) (hy : y < 2 ^ i) : bits .or k y x = y + x := by
  have hy1 : y < 2 ^ j := Int.lt_of_lt_of_le hy (by exact_mod_cast Nat.pow_le_pow_right (by decide) hij)
  have h := bits_join k j hj hk i x y hx0 hx hx1 hy0 hy hy1
  obtain ⟨a, rfl⟩ := Int.eq_ofNat_of_zero_le hx0
  obtain ⟨b, rfl⟩ := Int.eq_ofNat_of_zero_le hy0
  have ha : a < 2 ^ j := by exact_mod_cast hx1
  have hb : b < 2 ^ j := by exact_mod_cast hy1
  rw [(bits_nat k j hj hk a b ha hb).2] at h
  rw [(bits_nat k j hj hk b a hb ha).2, Nat.or_comm, h]
  omega
theorem or16 (i : Nat) (hi : i ≤ 16) (x y : Int) (hx0 : 0 ≤ x) (hx : x % 2 ^ i = 0) (hx1 : x < 65536) (hy0 : 0 ≤ y) (hy : y < 2 ^ i) : bits .or .u16 y x = y + x := orj .u16 16 (by decide) (fun n h0 h1 => by rw [wrap_u16_eq]; simp at h1; omega) i hi x y hx0 hx (by simpa using hx1) hy0 hy
theorem or32 (i : Nat) (hi : i ≤ 32) (x y : Int) (hx0 : 0 ≤ x) (hx : x % 2 ^ i = 0) (hx1 : x < 4294967296) (hy0 : 0 ≤ y) (hy : y < 2 ^ i) : bits .or .u32 y x = y + x := orj .u32 32 (by decide) (fun n h0 h1 => by rw [wrap_u32_eq]; simp at h1; omega) i hi x y hx0 hx (by simpa using hx1) hy0 hy
theorem or64 (i : Nat) (hi : i ≤ 64) (x y : Int) (hx0 : 0 ≤ x) (hx : x % 2 ^ i = 0) (hx1 : x < 18446744073709551616) (hy0 : 0 ≤ y) (hy : y < 2 ^ i) : bits .or .u64 y x = y + x := orj .u64 64 (by decide) (fun n h0 h1 => by rw [wrap_u64_eq]; simp at h1; omega) i hi x y hx0 hx (by simpa using hx1) hy0 hy
theorem b8_emod (x : Int) : ((b8 x).toNat : Int) = x % 256 := by
  rw [← wrap_u8]
  simp [IntKind.wrap, IntKind.bits, IntKind.signed]
theorem and128_all : (List.range 256).all (fun y => bits .and .u8 ((y : Nat) : Int) 128 == (if y < 128 then 0 else 128)) = true := by decide +kernel
theorem and128_u8 {y : Int} (h0 : 0 ≤ y) (h1 : y < 256) : bits .and .u8 y 128 = if y < 128 then 0 else 128 := by
  obtain ⟨a, rfl⟩ := Int.eq_ofNat_of_zero_le h0
  have := List.all_eq_true.1 and128_all a (List.mem_range.2 (by omega))
  have h2 : bits .and .u8 ((a : Nat) : Int) 128 = if a < 128 then 0 else 128 := by simpa using this
  rw [h2]
  by_cases h : a < 128
  · rw [if_pos h, if_pos (by omega)]
  · rw [if_neg h, if_neg (by omega)]
section
variable {P : Program} {n : Nat} {L : Env} {H : Hp} {C : Cx} {s : Vw} {p : Post} {S : World → Prop} {d : Option Nat} {g : Option (Nat × Bool)} {ty : TypeId} {pos : String} {af : Array Edge}
theorem cd_scope {c : Code} (h : Cd P c p n L H C s) : Cd P (.scope c) p n L H C s := fun a w hF hS =>
  wp_scope_straight (Code.wp_mono (fun e a w hq => by cases e <;> first | exact hq | exact (hq : False).elim) (h a w hF hS))
theorem pv_ix8 {t e : TypeId} {x y : Operand} {k : IntKind} {b o m c i : Nat} (hu : P.underlying t = some (.slice e)) (hsz : (P.info? e).map (·.size) = some 1) (hx : ev L x = some (.slice (some ⟨b, o, none⟩) m c)) (hy : ev L y = some (.int k (i : Int))) (h1 : i < m) :
    PV P S ⟨d, .indexAddr t x y, ty, pos, af, g⟩ n L (.pointer (some ⟨b, o + i, none⟩)) := by
  have := pv_ixN (S := S) (d := d) (ty := ty) (pos := pos) (af := af) (g := g) (n := n) hu hsz hx hy h1
  simpa using this
theorem at_retA2 {fn : Func} {t : Vw} {R : Vw → Value → Prop} {K : Nat} {q1 q2 : Nat} {v1 v2 : Value} (hr : fn.results = #[.tmp q1, .tmp q2]) (h1 : lk L q1 = some v1) (h2 : lk L q2 = some v2) (h : ∀ w, ∀ hS : St ⟨t, No⟩ s H w, R hS.fin (.tuple #[v1, v2])) : At (rpA P fn t R) n L H ⟨t, No⟩ s := fun a w hF hS => by
  refine ⟨hF.df, .tuple #[v1, v2], ?_, hS.fin.lt, hS.whole, h w hS⟩
  simp [results, hr, hF.get q1 v1 h1, hF.get q2 v2 h2]
end
theorem be_Uint16 (t : Vw) (v : Value) (x0 x1 : UInt8) (rest : List UInt8) (hv : RSv t v (x0 :: x1 :: rest)) : CS Tryd.prog 164 [.agg #[], v] t (.int .u16 ((x1.toNat : Int) + ((x0.toNat : Int) * 256))) := by
  obtain ⟨ad, c, rfl, hc⟩ := RSv.shape hv
  obtain ⟨b, o, rfl, hrc⟩ := RS.pos hv (by simp) (by decide)
  simp only [u8s_cons] at hrc
  have hb0 := x0.toNat_lt
  have hb1 := x1.toNat_lt
  refine CA.cs ?_
  refine ca_enter Tryd.func164 rfl Tryd.ntmps164 rfl ?_
  refine cd_sr ?_
  refine ln_box (l := []) rfl rfl rfl (fun bb => ?_)
  refine ln_pv (pv_assign rfl) rfl ?_
  refine ln_cd ?_
  refine cd_sr ?_
  refine ln_pv (pv_move rfl) rfl ?_
  refine ln_pv (pv_ix8 (i := 1) Tryd.underlying22 tiuint8.size rfl rfl (by simp)) rfl ?_
  refine ln_pv (pv_ldr (j := 1) hrc Tryd.underlying5 rfl rfl rfl) rfl ?_
  refine ln_cd ?_
  refine cd_dr' [] [0, 1, 2, 3, 4, 5, 6, 7, 8, 9, 10] [0, 1, 2, 3, 4, 5, 6, 7, 8, 9, 10] mixed (by kernel_rfl) ?_
  refine lo_pv rfl rfl (sk_js (Tr.refl _) [] rfl) (pv_move rfl) rfl ?_
  refine lo_pv rfl rfl (sk_js (Tr.refl _) [] rfl) (pv_ix8 (i := 1) Tryd.underlying22 tiuint8.size rfl rfl (by simp)) rfl ?_
  refine lo_pv rfl rfl (sk_js (Tr.refl _) [] rfl) (pv_ldr (j := 1) hrc Tryd.underlying5 rfl rfl rfl) rfl ?_
  refine lo_pv rfl rfl (sk_js (Tr.refl _) [] rfl) (pv_conv' (k := .u8) (i := (x1.toNat : Int)) Tryd.underlying5 Tryd.underlying199 rfl (r := (x1.toNat : Int)) (by rw [wrap_u16_eq]; omega)) rfl ?_
  refine lo_pv rfl rfl (sk_js (Tr.refl _) [] rfl) (pv_move rfl) rfl ?_
  refine lo_pv rfl rfl (sk_js (Tr.refl _) [] rfl) (pv_ix8 (i := 0) Tryd.underlying22 tiuint8.size rfl rfl (by simp)) rfl ?_
  refine lo_pv rfl rfl (sk_js (Tr.refl _) [] rfl) (pv_ldr (j := 0) hrc Tryd.underlying5 rfl rfl rfl) rfl ?_
  refine lo_pv rfl rfl (sk_js (Tr.refl _) [] rfl) (pv_conv' (k := .u8) (i := (x0.toNat : Int)) Tryd.underlying5 Tryd.underlying199 rfl (r := (x0.toNat : Int)) (by rw [wrap_u16_eq]; omega)) rfl ?_
  refine lo_pv rfl rfl (sk_js (Tr.refl _) [] rfl) (pv_shl' (k := .u16) (i := (x0.toNat : Int)) (j := 8) rfl rfl (by decide) (by decide) (r := ((x0.toNat : Int) * 256)) (by rw [wrap_u16_eq]; simp; omega)) rfl ?_
  refine lo_pv rfl rfl (sk_js (Tr.refl _) [] rfl) (pv_or' (k := .u16) (i := (x1.toNat : Int)) (j := ((x0.toNat : Int) * 256)) rfl rfl (r := ((x1.toNat : Int) + ((x0.toNat : Int) * 256))) (or16 8 (by decide) _ _ (by omega) (by simp <;> omega) (by omega) (by omega) (by simp <;> omega))) rfl ?_
  refine lo_pv rfl rfl (sk_js (Tr.refl _) [] rfl) (pv_assign rfl) rfl ?_
  refine lo_cd ?_
  refine cd_ret ?_
  exact at_retA rfl rfl (fun w hS => rfl)
theorem be_Uint32 (t : Vw) (v : Value) (x0 x1 x2 x3 : UInt8) (rest : List UInt8) (hv : RSv t v (x0 :: x1 :: x2 :: x3 :: rest)) : CS Tryd.prog 163 [.agg #[], v] t (.int .u32 ((((x3.toNat : Int) + ((x2.toNat : Int) * 256)) + ((x1.toNat : Int) * 65536)) + ((x0.toNat : Int) * 16777216))) := by
  obtain ⟨ad, c, rfl, hc⟩ := RSv.shape hv
  obtain ⟨b, o, rfl, hrc⟩ := RS.pos hv (by simp) (by decide)
  simp only [u8s_cons] at hrc
  have hb0 := x0.toNat_lt
  have hb1 := x1.toNat_lt
  have hb2 := x2.toNat_lt
  have hb3 := x3.toNat_lt
  refine CA.cs ?_
  refine ca_enter Tryd.func163 rfl Tryd.ntmps163 rfl ?_
  refine cd_sr ?_
  refine ln_box (l := []) rfl rfl rfl (fun bb => ?_)
  refine ln_pv (pv_assign rfl) rfl ?_
  refine ln_cd ?_
  refine cd_sr ?_
  refine ln_pv (pv_move rfl) rfl ?_
  refine ln_pv (pv_ix8 (i := 3) Tryd.underlying22 tiuint8.size rfl rfl (by simp)) rfl ?_
  refine ln_pv (pv_ldr (j := 3) hrc Tryd.underlying5 rfl rfl rfl) rfl ?_
  refine ln_cd ?_
  refine cd_dr' [] [0, 1, 2, 3, 4, 5, 6, 7, 8, 9, 10, 11, 12, 13, 14, 15, 16, 17, 18, 19, 20, 21, 22] [0, 1, 2, 3, 4, 5, 6, 7, 8, 9, 10, 11, 12, 13, 14, 15, 16, 17, 18, 19, 20, 21, 22] mixed (by kernel_rfl) ?_
  refine lo_pv rfl rfl (sk_js (Tr.refl _) [] rfl) (pv_move rfl) rfl ?_
  refine lo_pv rfl rfl (sk_js (Tr.refl _) [] rfl) (pv_ix8 (i := 3) Tryd.underlying22 tiuint8.size rfl rfl (by simp)) rfl ?_
  refine lo_pv rfl rfl (sk_js (Tr.refl _) [] rfl) (pv_ldr (j := 3) hrc Tryd.underlying5 rfl rfl rfl) rfl ?_
  refine lo_pv rfl rfl (sk_js (Tr.refl _) [] rfl) (pv_conv' (k := .u8) (i := (x3.toNat : Int)) Tryd.underlying5 Tryd.underlying55 rfl (r := (x3.toNat : Int)) (by rw [wrap_u32_eq]; omega)) rfl ?_
  refine lo_pv rfl rfl (sk_js (Tr.refl _) [] rfl) (pv_move rfl) rfl ?_
  refine lo_pv rfl rfl (sk_js (Tr.refl _) [] rfl) (pv_ix8 (i := 2) Tryd.underlying22 tiuint8.size rfl rfl (by simp)) rfl ?_
  refine lo_pv rfl rfl (sk_js (Tr.refl _) [] rfl) (pv_ldr (j := 2) hrc Tryd.underlying5 rfl rfl rfl) rfl ?_
  refine lo_pv rfl rfl (sk_js (Tr.refl _) [] rfl) (pv_conv' (k := .u8) (i := (x2.toNat : Int)) Tryd.underlying5 Tryd.underlying55 rfl (r := (x2.toNat : Int)) (by rw [wrap_u32_eq]; omega)) rfl ?_
  refine lo_pv rfl rfl (sk_js (Tr.refl _) [] rfl) (pv_shl' (k := .u32) (i := (x2.toNat : Int)) (j := 8) rfl rfl (by decide) (by decide) (r := ((x2.toNat : Int) * 256)) (by rw [wrap_u32_eq]; simp; omega)) rfl ?_
  refine lo_pv rfl rfl (sk_js (Tr.refl _) [] rfl) (pv_or' (k := .u32) (i := (x3.toNat : Int)) (j := ((x2.toNat : Int) * 256)) rfl rfl (r := ((x3.toNat : Int) + ((x2.toNat : Int) * 256))) (or32 8 (by decide) _ _ (by omega) (by simp <;> omega) (by omega) (by omega) (by simp <;> omega))) rfl ?_
  refine lo_pv rfl rfl (sk_js (Tr.refl _) [] rfl) (pv_move rfl) rfl ?_
  refine lo_pv rfl rfl (sk_js (Tr.refl _) [] rfl) (pv_ix8 (i := 1) Tryd.underlying22 tiuint8.size rfl rfl (by simp)) rfl ?_
  refine lo_pv rfl rfl (sk_js (Tr.refl _) [] rfl) (pv_ldr (j := 1) hrc Tryd.underlying5 rfl rfl rfl) rfl ?_
  refine lo_pv rfl rfl (sk_js (Tr.refl _) [] rfl) (pv_conv' (k := .u8) (i := (x1.toNat : Int)) Tryd.underlying5 Tryd.underlying55 rfl (r := (x1.toNat : Int)) (by rw [wrap_u32_eq]; omega)) rfl ?_
  refine lo_pv rfl rfl (sk_js (Tr.refl _) [] rfl) (pv_shl' (k := .u32) (i := (x1.toNat : Int)) (j := 16) rfl rfl (by decide) (by decide) (r := ((x1.toNat : Int) * 65536)) (by rw [wrap_u32_eq]; simp; omega)) rfl ?_
  refine lo_pv rfl rfl (sk_js (Tr.refl _) [] rfl) (pv_or' (k := .u32) (i := ((x3.toNat : Int) + ((x2.toNat : Int) * 256))) (j := ((x1.toNat : Int) * 65536)) rfl rfl (r := (((x3.toNat : Int) + ((x2.toNat : Int) * 256)) + ((x1.toNat : Int) * 65536))) (or32 16 (by decide) _ _ (by omega) (by simp <;> omega) (by omega) (by omega) (by simp <;> omega))) rfl ?_
  refine lo_pv rfl rfl (sk_js (Tr.refl _) [] rfl) (pv_move rfl) rfl ?_
  refine lo_pv rfl rfl (sk_js (Tr.refl _) [] rfl) (pv_ix8 (i := 0) Tryd.underlying22 tiuint8.size rfl rfl (by simp)) rfl ?_
  refine lo_pv rfl rfl (sk_js (Tr.refl _) [] rfl) (pv_ldr (j := 0) hrc Tryd.underlying5 rfl rfl rfl) rfl ?_
  refine lo_pv rfl rfl (sk_js (Tr.refl _) [] rfl) (pv_conv' (k := .u8) (i := (x0.toNat : Int)) Tryd.underlying5 Tryd.underlying55 rfl (r := (x0.toNat : Int)) (by rw [wrap_u32_eq]; omega)) rfl ?_
  refine lo_pv rfl rfl (sk_js (Tr.refl _) [] rfl) (pv_shl' (k := .u32) (i := (x0.toNat : Int)) (j := 24) rfl rfl (by decide) (by decide) (r := ((x0.toNat : Int) * 16777216)) (by rw [wrap_u32_eq]; simp; omega)) rfl ?_
  refine lo_pv rfl rfl (sk_js (Tr.refl _) [] rfl) (pv_or' (k := .u32) (i := (((x3.toNat : Int) + ((x2.toNat : Int) * 256)) + ((x1.toNat : Int) * 65536))) (j := ((x0.toNat : Int) * 16777216)) rfl rfl (r := ((((x3.toNat : Int) + ((x2.toNat : Int) * 256)) + ((x1.toNat : Int) * 65536)) + ((x0.toNat : Int) * 16777216))) (or32 24 (by decide) _ _ (by omega) (by simp <;> omega) (by omega) (by omega) (by simp <;> omega))) rfl ?_
  refine lo_pv rfl rfl (sk_js (Tr.refl _) [] rfl) (pv_assign rfl) rfl ?_
  refine lo_cd ?_
  refine cd_ret ?_
  exact at_retA rfl rfl (fun w hS => rfl)
theorem be_Uint64 (t : Vw) (v : Value) (x0 x1 x2 x3 x4 x5 x6 x7 : UInt8) (rest : List UInt8) (hv : RSv t v (x0 :: x1 :: x2 :: x3 :: x4 :: x5 :: x6 :: x7 :: rest)) : CS Tryd.prog 195 [.agg #[], v] t (.int .u64 ((((((((x7.toNat : Int) + ((x6.toNat : Int) * 256)) + ((x5.toNat : Int) * 65536)) + ((x4.toNat : Int) * 16777216)) + ((x3.toNat : Int) * 4294967296)) + ((x2.toNat : Int) * 1099511627776)) + ((x1.toNat : Int) * 281474976710656)) + ((x0.toNat : Int) * 72057594037927936))) := by
  obtain ⟨ad, c, rfl, hc⟩ := RSv.shape hv
  obtain ⟨b, o, rfl, hrc⟩ := RS.pos hv (by simp) (by decide)
  simp only [u8s_cons] at hrc
  have hb0 := x0.toNat_lt
  have hb1 := x1.toNat_lt
  have hb2 := x2.toNat_lt
  have hb3 := x3.toNat_lt
  have hb4 := x4.toNat_lt
  have hb5 := x5.toNat_lt
  have hb6 := x6.toNat_lt
  have hb7 := x7.toNat_lt
  refine CA.cs ?_
  refine ca_enter Tryd.func195 rfl Tryd.ntmps195 rfl ?_
  refine cd_sr ?_
  refine ln_box (l := []) rfl rfl rfl (fun bb => ?_)
  refine ln_pv (pv_assign rfl) rfl ?_
  refine ln_cd ?_
  refine cd_sr ?_
  refine ln_pv (pv_move rfl) rfl ?_
  refine ln_pv (pv_ix8 (i := 7) Tryd.underlying22 tiuint8.size rfl rfl (by simp)) rfl ?_
  refine ln_pv (pv_ldr (j := 7) hrc Tryd.underlying5 rfl rfl rfl) rfl ?_
  refine ln_cd ?_
  refine cd_dr' [] [0, 1, 2, 3, 4, 5, 6, 7, 8, 9, 10, 11, 12, 13, 14, 15, 16, 17, 18, 19, 20, 21, 22, 23, 24, 25, 26, 27, 28, 29, 30, 31, 32, 33, 34, 35, 36, 37, 38, 39, 40, 41, 42, 43, 44, 45, 46] [0, 1, 2, 3, 4, 5, 6, 7, 8, 9, 10, 11, 12, 13, 14, 15, 16, 17, 18, 19, 20, 21, 22, 23, 24, 25, 26, 27, 28, 29, 30, 31, 32, 33, 34, 35, 36, 37, 38, 39, 40, 41, 42, 43, 44, 45, 46] mixed (by kernel_rfl) ?_
  refine lo_pv rfl rfl (sk_js (Tr.refl _) [] rfl) (pv_move rfl) rfl ?_
  refine lo_pv rfl rfl (sk_js (Tr.refl _) [] rfl) (pv_ix8 (i := 7) Tryd.underlying22 tiuint8.size rfl rfl (by simp)) rfl ?_
  refine lo_pv rfl rfl (sk_js (Tr.refl _) [] rfl) (pv_ldr (j := 7) hrc Tryd.underlying5 rfl rfl rfl) rfl ?_
  refine lo_pv rfl rfl (sk_js (Tr.refl _) [] rfl) (pv_conv' (k := .u8) (i := (x7.toNat : Int)) Tryd.underlying5 Tryd.underlying180 rfl (r := (x7.toNat : Int)) (by rw [wrap_u64_eq]; omega)) rfl ?_
  refine lo_pv rfl rfl (sk_js (Tr.refl _) [] rfl) (pv_move rfl) rfl ?_
  refine lo_pv rfl rfl (sk_js (Tr.refl _) [] rfl) (pv_ix8 (i := 6) Tryd.underlying22 tiuint8.size rfl rfl (by simp)) rfl ?_
  refine lo_pv rfl rfl (sk_js (Tr.refl _) [] rfl) (pv_ldr (j := 6) hrc Tryd.underlying5 rfl rfl rfl) rfl ?_
  refine lo_pv rfl rfl (sk_js (Tr.refl _) [] rfl) (pv_conv' (k := .u8) (i := (x6.toNat : Int)) Tryd.underlying5 Tryd.underlying180 rfl (r := (x6.toNat : Int)) (by rw [wrap_u64_eq]; omega)) rfl ?_
  refine lo_pv rfl rfl (sk_js (Tr.refl _) [] rfl) (pv_shl' (k := .u64) (i := (x6.toNat : Int)) (j := 8) rfl rfl (by decide) (by decide) (r := ((x6.toNat : Int) * 256)) (by rw [wrap_u64_eq]; simp; omega)) rfl ?_
  refine lo_pv rfl rfl (sk_js (Tr.refl _) [] rfl) (pv_or' (k := .u64) (i := (x7.toNat : Int)) (j := ((x6.toNat : Int) * 256)) rfl rfl (r := ((x7.toNat : Int) + ((x6.toNat : Int) * 256))) (or64 8 (by decide) _ _ (by omega) (by simp <;> omega) (by omega) (by omega) (by simp <;> omega))) rfl ?_
  refine lo_pv rfl rfl (sk_js (Tr.refl _) [] rfl) (pv_move rfl) rfl ?_
  refine lo_pv rfl rfl (sk_js (Tr.refl _) [] rfl) (pv_ix8 (i := 5) Tryd.underlying22 tiuint8.size rfl rfl (by simp)) rfl ?_
  refine lo_pv rfl rfl (sk_js (Tr.refl _) [] rfl) (pv_ldr (j := 5) hrc Tryd.underlying5 rfl rfl rfl) rfl ?_
  refine lo_pv rfl rfl (sk_js (Tr.refl _) [] rfl) (pv_conv' (k := .u8) (i := (x5.toNat : Int)) Tryd.underlying5 Tryd.underlying180 rfl (r := (x5.toNat : Int)) (by rw [wrap_u64_eq]; omega)) rfl ?_
  refine lo_pv rfl rfl (sk_js (Tr.refl _) [] rfl) (pv_shl' (k := .u64) (i := (x5.toNat : Int)) (j := 16) rfl rfl (by decide) (by decide) (r := ((x5.toNat : Int) * 65536)) (by rw [wrap_u64_eq]; simp; omega)) rfl ?_
  refine lo_pv rfl rfl (sk_js (Tr.refl _) [] rfl) (pv_or' (k := .u64) (i := ((x7.toNat : Int) + ((x6.toNat : Int) * 256))) (j := ((x5.toNat : Int) * 65536)) rfl rfl (r := (((x7.toNat : Int) + ((x6.toNat : Int) * 256)) + ((x5.toNat : Int) * 65536))) (or64 16 (by decide) _ _ (by omega) (by simp <;> omega) (by omega) (by omega) (by simp <;> omega))) rfl ?_
  refine lo_pv rfl rfl (sk_js (Tr.refl _) [] rfl) (pv_move rfl) rfl ?_
  refine lo_pv rfl rfl (sk_js (Tr.refl _) [] rfl) (pv_ix8 (i := 4) Tryd.underlying22 tiuint8.size rfl rfl (by simp)) rfl ?_
  refine lo_pv rfl rfl (sk_js (Tr.refl _) [] rfl) (pv_ldr (j := 4) hrc Tryd.underlying5 rfl rfl rfl) rfl ?_
  refine lo_pv rfl rfl (sk_js (Tr.refl _) [] rfl) (pv_conv' (k := .u8) (i := (x4.toNat : Int)) Tryd.underlying5 Tryd.underlying180 rfl (r := (x4.toNat : Int)) (by rw [wrap_u64_eq]; omega)) rfl ?_
  refine lo_pv rfl rfl (sk_js (Tr.refl _) [] rfl) (pv_shl' (k := .u64) (i := (x4.toNat : Int)) (j := 24) rfl rfl (by decide) (by decide) (r := ((x4.toNat : Int) * 16777216)) (by rw [wrap_u64_eq]; simp; omega)) rfl ?_
  refine lo_pv rfl rfl (sk_js (Tr.refl _) [] rfl) (pv_or' (k := .u64) (i := (((x7.toNat : Int) + ((x6.toNat : Int) * 256)) + ((x5.toNat : Int) * 65536))) (j := ((x4.toNat : Int) * 16777216)) rfl rfl (r := ((((x7.toNat : Int) + ((x6.toNat : Int) * 256)) + ((x5.toNat : Int) * 65536)) + ((x4.toNat : Int) * 16777216))) (or64 24 (by decide) _ _ (by omega) (by simp <;> omega) (by omega) (by omega) (by simp <;> omega))) rfl ?_
  refine lo_pv rfl rfl (sk_js (Tr.refl _) [] rfl) (pv_move rfl) rfl ?_
  refine lo_pv rfl rfl (sk_js (Tr.refl _) [] rfl) (pv_ix8 (i := 3) Tryd.underlying22 tiuint8.size rfl rfl (by simp)) rfl ?_
  refine lo_pv rfl rfl (sk_js (Tr.refl _) [] rfl) (pv_ldr (j := 3) hrc Tryd.underlying5 rfl rfl rfl) rfl ?_
  refine lo_pv rfl rfl (sk_js (Tr.refl _) [] rfl) (pv_conv' (k := .u8) (i := (x3.toNat : Int)) Tryd.underlying5 Tryd.underlying180 rfl (r := (x3.toNat : Int)) (by rw [wrap_u64_eq]; omega)) rfl ?_
  refine lo_pv rfl rfl (sk_js (Tr.refl _) [] rfl) (pv_shl' (k := .u64) (i := (x3.toNat : Int)) (j := 32) rfl rfl (by decide) (by decide) (r := ((x3.toNat : Int) * 4294967296)) (by rw [wrap_u64_eq]; simp; omega)) rfl ?_
  refine lo_pv rfl rfl (sk_js (Tr.refl _) [] rfl) (pv_or' (k := .u64) (i := ((((x7.toNat : Int) + ((x6.toNat : Int) * 256)) + ((x5.toNat : Int) * 65536)) + ((x4.toNat : Int) * 16777216))) (j := ((x3.toNat : Int) * 4294967296)) rfl rfl (r := (((((x7.toNat : Int) + ((x6.toNat : Int) * 256)) + ((x5.toNat : Int) * 65536)) + ((x4.toNat : Int) * 16777216)) + ((x3.toNat : Int) * 4294967296))) (or64 32 (by decide) _ _ (by omega) (by simp <;> omega) (by omega) (by omega) (by simp <;> omega))) rfl ?_
  refine lo_pv rfl rfl (sk_js (Tr.refl _) [] rfl) (pv_move rfl) rfl ?_
  refine lo_pv rfl rfl (sk_js (Tr.refl _) [] rfl) (pv_ix8 (i := 2) Tryd.underlying22 tiuint8.size rfl rfl (by simp)) rfl ?_
  refine lo_pv rfl rfl (sk_js (Tr.refl _) [] rfl) (pv_ldr (j := 2) hrc Tryd.underlying5 rfl rfl rfl) rfl ?_
  refine lo_pv rfl rfl (sk_js (Tr.refl _) [] rfl) (pv_conv' (k := .u8) (i := (x2.toNat : Int)) Tryd.underlying5 Tryd.underlying180 rfl (r := (x2.toNat : Int)) (by rw [wrap_u64_eq]; omega)) rfl ?_
  refine lo_pv rfl rfl (sk_js (Tr.refl _) [] rfl) (pv_shl' (k := .u64) (i := (x2.toNat : Int)) (j := 40) rfl rfl (by decide) (by decide) (r := ((x2.toNat : Int) * 1099511627776)) (by rw [wrap_u64_eq]; simp; omega)) rfl ?_
  refine lo_pv rfl rfl (sk_js (Tr.refl _) [] rfl) (pv_or' (k := .u64) (i := (((((x7.toNat : Int) + ((x6.toNat : Int) * 256)) + ((x5.toNat : Int) * 65536)) + ((x4.toNat : Int) * 16777216)) + ((x3.toNat : Int) * 4294967296))) (j := ((x2.toNat : Int) * 1099511627776)) rfl rfl (r := ((((((x7.toNat : Int) + ((x6.toNat : Int) * 256)) + ((x5.toNat : Int) * 65536)) + ((x4.toNat : Int) * 16777216)) + ((x3.toNat : Int) * 4294967296)) + ((x2.toNat : Int) * 1099511627776))) (or64 40 (by decide) _ _ (by omega) (by simp <;> omega) (by omega) (by omega) (by simp <;> omega))) rfl ?_
  refine lo_pv rfl rfl (sk_js (Tr.refl _) [] rfl) (pv_move rfl) rfl ?_
  refine lo_pv rfl rfl (sk_js (Tr.refl _) [] rfl) (pv_ix8 (i := 1) Tryd.underlying22 tiuint8.size rfl rfl (by simp)) rfl ?_
  refine lo_pv rfl rfl (sk_js (Tr.refl _) [] rfl) (pv_ldr (j := 1) hrc Tryd.underlying5 rfl rfl rfl) rfl ?_
  refine lo_pv rfl rfl (sk_js (Tr.refl _) [] rfl) (pv_conv' (k := .u8) (i := (x1.toNat : Int)) Tryd.underlying5 Tryd.underlying180 rfl (r := (x1.toNat : Int)) (by rw [wrap_u64_eq]; omega)) rfl ?_
  refine lo_pv rfl rfl (sk_js (Tr.refl _) [] rfl) (pv_shl' (k := .u64) (i := (x1.toNat : Int)) (j := 48) rfl rfl (by decide) (by decide) (r := ((x1.toNat : Int) * 281474976710656)) (by rw [wrap_u64_eq]; simp; omega)) rfl ?_
  refine lo_pv rfl rfl (sk_js (Tr.refl _) [] rfl) (pv_or' (k := .u64) (i := ((((((x7.toNat : Int) + ((x6.toNat : Int) * 256)) + ((x5.toNat : Int) * 65536)) + ((x4.toNat : Int) * 16777216)) + ((x3.toNat : Int) * 4294967296)) + ((x2.toNat : Int) * 1099511627776))) (j := ((x1.toNat : Int) * 281474976710656)) rfl rfl (r := (((((((x7.toNat : Int) + ((x6.toNat : Int) * 256)) + ((x5.toNat : Int) * 65536)) + ((x4.toNat : Int) * 16777216)) + ((x3.toNat : Int) * 4294967296)) + ((x2.toNat : Int) * 1099511627776)) + ((x1.toNat : Int) * 281474976710656))) (or64 48 (by decide) _ _ (by omega) (by simp <;> omega) (by omega) (by omega) (by simp <;> omega))) rfl ?_
  refine lo_pv rfl rfl (sk_js (Tr.refl _) [] rfl) (pv_move rfl) rfl ?_
  refine lo_pv rfl rfl (sk_js (Tr.refl _) [] rfl) (pv_ix8 (i := 0) Tryd.underlying22 tiuint8.size rfl rfl (by simp)) rfl ?_
  refine lo_pv rfl rfl (sk_js (Tr.refl _) [] rfl) (pv_ldr (j := 0) hrc Tryd.underlying5 rfl rfl rfl) rfl ?_
  refine lo_pv rfl rfl (sk_js (Tr.refl _) [] rfl) (pv_conv' (k := .u8) (i := (x0.toNat : Int)) Tryd.underlying5 Tryd.underlying180 rfl (r := (x0.toNat : Int)) (by rw [wrap_u64_eq]; omega)) rfl ?_
  refine lo_pv rfl rfl (sk_js (Tr.refl _) [] rfl) (pv_shl' (k := .u64) (i := (x0.toNat : Int)) (j := 56) rfl rfl (by decide) (by decide) (r := ((x0.toNat : Int) * 72057594037927936)) (by rw [wrap_u64_eq]; simp; omega)) rfl ?_
  refine lo_pv rfl rfl (sk_js (Tr.refl _) [] rfl) (pv_or' (k := .u64) (i := (((((((x7.toNat : Int) + ((x6.toNat : Int) * 256)) + ((x5.toNat : Int) * 65536)) + ((x4.toNat : Int) * 16777216)) + ((x3.toNat : Int) * 4294967296)) + ((x2.toNat : Int) * 1099511627776)) + ((x1.toNat : Int) * 281474976710656))) (j := ((x0.toNat : Int) * 72057594037927936)) rfl rfl (r := ((((((((x7.toNat : Int) + ((x6.toNat : Int) * 256)) + ((x5.toNat : Int) * 65536)) + ((x4.toNat : Int) * 16777216)) + ((x3.toNat : Int) * 4294967296)) + ((x2.toNat : Int) * 1099511627776)) + ((x1.toNat : Int) * 281474976710656)) + ((x0.toNat : Int) * 72057594037927936))) (or64 56 (by decide) _ _ (by omega) (by simp <;> omega) (by omega) (by omega) (by simp <;> omega))) rfl ?_
  refine lo_pv rfl rfl (sk_js (Tr.refl _) [] rfl) (pv_assign rfl) rfl ?_
  refine lo_cd ?_
  refine cd_ret ?_
  exact at_retA rfl rfl (fun w hS => rfl)
theorem emod_step (x : Int) (k : Nat) : x % 2 ^ (k + 8) = x / 2 ^ k % 256 * 2 ^ k + x % 2 ^ k := by
  have hp : (0 : Int) < 2 ^ k := Int.pow_pos (by decide)
  have e : (2 : Int) ^ (k + 8) = 2 ^ k * 256 := by rw [Int.pow_add]; rfl
  rw [e]
  generalize (2 : Int) ^ k = A at *
  have h1 := Int.emod_def x (A * 256)
  have h2 := Int.emod_def (x / A) 256
  have h3 := Int.emod_def x A
  rw [h1, h2, h3, Int.ediv_ediv_of_nonneg (Int.le_of_lt hp), Int.sub_mul]
  have h4 : A * 256 * (x / (A * 256)) = 256 * (x / (A * 256)) * A := by rw [Int.mul_comm A 256, Int.mul_assoc, Int.mul_comm A, ← Int.mul_assoc]
  have h5 : A * (x / A) = x / A * A := Int.mul_comm _ _
  rw [h4, h5]
  omega
theorem sum2 (x : Int) : (((b8 (x / 2 ^ (8 * 0))).toNat : Int) + ((b8 (x / 2 ^ (8 * 1))).toNat : Int) * 256) = x % 65536 := by
  rw [b8_emod, b8_emod]
  have h1 := emod_step x 8
  simp at h1 ⊢
  omega
theorem sum4 (x : Int) : (((((b8 (x / 2 ^ (8 * 0))).toNat : Int) + ((b8 (x / 2 ^ (8 * 1))).toNat : Int) * 256) + ((b8 (x / 2 ^ (8 * 2))).toNat : Int) * 65536) + ((b8 (x / 2 ^ (8 * 3))).toNat : Int) * 16777216) = x % 4294967296 := by
  rw [sum2, b8_emod, b8_emod]
  have h1 := emod_step x 16
  have h2 := emod_step x 24
  simp at h1 h2 ⊢
  omega
theorem sum8 (x : Int) : (((((((((b8 (x / 2 ^ (8 * 0))).toNat : Int) + ((b8 (x / 2 ^ (8 * 1))).toNat : Int) * 256) + ((b8 (x / 2 ^ (8 * 2))).toNat : Int) * 65536) + ((b8 (x / 2 ^ (8 * 3))).toNat : Int) * 16777216) + ((b8 (x / 2 ^ (8 * 4))).toNat : Int) * 4294967296) + ((b8 (x / 2 ^ (8 * 5))).toNat : Int) * 1099511627776) + ((b8 (x / 2 ^ (8 * 6))).toNat : Int) * 281474976710656) + ((b8 (x / 2 ^ (8 * 7))).toNat : Int) * 72057594037927936) = x % 18446744073709551616 := by
  rw [sum4, b8_emod, b8_emod, b8_emod, b8_emod]
  have h1 := emod_step x 32
  have h2 := emod_step x 40
  have h3 := emod_step x 48
  have h4 := emod_step x 56
  simp at h1 h2 h3 h4 ⊢
  omega
end K
end Go.Proofs.YtjjfpdofkdolnaaDoor
namespace Go.Proofs.YtjjfpdofkdolnaaDoor
namespace K
open Go Go.Lib
theorem uvarint_1 (t : Vw) (v : Value) (x0 : UInt8) (rest : List UInt8)  (g0 : x0.toNat < 128) (hv : RSv t v (x0 :: rest)) : CS Tryd.prog 170 [v] t (.tuple #[.int .u32 ((x0.toNat : Int) % 128), .int .i64 1]) := by
  obtain ⟨ad, c, rfl, hc⟩ := RSv.shape hv
  obtain ⟨b, o, rfl, hrc⟩ := RS.pos hv (by simp) (by decide)
  simp only [u8s_cons] at hrc
  have hb0 := x0.toNat_lt
  refine CA.cs ?_
  refine ca_enter Tryd.func170 rfl Tryd.ntmps170 rfl ?_
  refine cd_sr ?_
  refine ln_pv (pv_assign rfl) rfl ?_
  refine ln_pv (pv_assign rfl) rfl ?_
  refine ln_cd ?_
  refine cd_scope ?_
  refine cd_sr ?_
  refine ln_pv (pv_assign rfl) rfl ?_
  refine ln_cd ?_
  refine cd_sr ?_
  refine ln_pv (pv_assign rfl) rfl ?_
  refine ln_cd ?_
  refine cd_seq ?_
  refine cd_sr ?_
  refine ln_pv (pv_move rfl) rfl ?_
  refine ln_pv (pv_len_slice Tryd.underlying22 rfl) rfl ?_
  refine ln_pv (pv_ff (pv_lss rfl rfl) (by simp <;> omega)) rfl ?_
  refine ln_cd ?_
  refine cd_ff rfl ?_
  refine cd_skip ?_
  refine at_cd ?_
  refine cd_sr ?_
  refine ln_pv (pv_move rfl) rfl ?_
  refine ln_pv (pv_ix8 (i := 0) Tryd.underlying22 tiuint8.size rfl rfl (by simp <;> omega)) rfl ?_
  refine ln_pv (pv_ldr (j := 0) (v := u8v x0) hrc Tryd.underlying5 rfl rfl rfl) rfl ?_
  refine ln_pv (pv_and' (k := .u8) (i := (x0.toNat : Int)) (j := 127) rfl rfl (r := ((x0.toNat : Int) % 128)) (and127_u8 (by omega) (by omega))) rfl ?_
  refine ln_pv (pv_conv' (k := .u8) (i := ((x0.toNat : Int) % 128)) Tryd.underlying5 Tryd.underlying55 rfl (r := ((x0.toNat : Int) % 128)) (by rw [wrap_u32_eq]; omega)) rfl ?_
  refine ln_pv (pv_assign rfl) rfl ?_
  refine ln_cd ?_
  refine cd_seq ?_
  refine cd_sr ?_
  refine ln_pv (pv_move rfl) rfl ?_
  refine ln_pv (pv_ix8 (i := 0) Tryd.underlying22 tiuint8.size rfl rfl (by simp <;> omega)) rfl ?_
  refine ln_pv (pv_ldr (j := 0) (v := u8v x0) hrc Tryd.underlying5 rfl rfl rfl) rfl ?_
  refine ln_pv (pv_and' (k := .u8) (i := (x0.toNat : Int)) (j := 128) rfl rfl (r := 0) (by rw [and128_u8 (by omega) (by omega)]; rw [if_pos (by omega)])) rfl ?_
  refine ln_pv (pv_tt (pv_eql rfl rfl) (by decide)) rfl ?_
  refine ln_cd ?_
  refine cd_tt rfl ?_
  refine cd_sr ?_
  refine ln_pv (pv_move rfl) rfl ?_
  refine ln_pv (pv_assign rfl) rfl ?_
  refine ln_pv (pv_assign rfl) rfl ?_
  refine ln_cd ?_
  refine cd_ret ?_
  exact at_retA2 (K := 0) rfl rfl rfl (fun w hS => rfl)
theorem uvarint_2 (t : Vw) (v : Value) (x0 x1 : UInt8) (rest : List UInt8) (g0 : 128 ≤ x0.toNat) (g1 : x1.toNat < 128) (hv : RSv t v (x0 :: x1 :: rest)) : CS Tryd.prog 170 [v] t (.tuple #[.int .u32 (((x0.toNat : Int) % 128) + (((x1.toNat : Int) % 128) * 128)), .int .i64 2]) := by
  obtain ⟨ad, c, rfl, hc⟩ := RSv.shape hv
  obtain ⟨b, o, rfl, hrc⟩ := RS.pos hv (by simp) (by decide)
  simp only [u8s_cons] at hrc
  have hb0 := x0.toNat_lt
  have hb1 := x1.toNat_lt
  refine CA.cs ?_
  refine ca_enter Tryd.func170 rfl Tryd.ntmps170 rfl ?_
  refine cd_sr ?_
  refine ln_pv (pv_assign rfl) rfl ?_
  refine ln_pv (pv_assign rfl) rfl ?_
  refine ln_cd ?_
  refine cd_scope ?_
  refine cd_sr ?_
  refine ln_pv (pv_assign rfl) rfl ?_
  refine ln_cd ?_
  refine cd_sr ?_
  refine ln_pv (pv_assign rfl) rfl ?_
  refine ln_cd ?_
  refine cd_seq ?_
  refine cd_sr ?_
  refine ln_pv (pv_move rfl) rfl ?_
  refine ln_pv (pv_len_slice Tryd.underlying22 rfl) rfl ?_
  refine ln_pv (pv_ff (pv_lss rfl rfl) (by simp <;> omega)) rfl ?_
  refine ln_cd ?_
  refine cd_ff rfl ?_
  refine cd_skip ?_
  refine at_cd ?_
  refine cd_sr ?_
  refine ln_pv (pv_move rfl) rfl ?_
  refine ln_pv (pv_ix8 (i := 0) Tryd.underlying22 tiuint8.size rfl rfl (by simp <;> omega)) rfl ?_
  refine ln_pv (pv_ldr (j := 0) (v := u8v x0) hrc Tryd.underlying5 rfl rfl rfl) rfl ?_
  refine ln_pv (pv_and' (k := .u8) (i := (x0.toNat : Int)) (j := 127) rfl rfl (r := ((x0.toNat : Int) % 128)) (and127_u8 (by omega) (by omega))) rfl ?_
  refine ln_pv (pv_conv' (k := .u8) (i := ((x0.toNat : Int) % 128)) Tryd.underlying5 Tryd.underlying55 rfl (r := ((x0.toNat : Int) % 128)) (by rw [wrap_u32_eq]; omega)) rfl ?_
  refine ln_pv (pv_assign rfl) rfl ?_
  refine ln_cd ?_
  refine cd_seq ?_
  refine cd_sr ?_
  refine ln_pv (pv_move rfl) rfl ?_
  refine ln_pv (pv_ix8 (i := 0) Tryd.underlying22 tiuint8.size rfl rfl (by simp <;> omega)) rfl ?_
  refine ln_pv (pv_ldr (j := 0) (v := u8v x0) hrc Tryd.underlying5 rfl rfl rfl) rfl ?_
  refine ln_pv (pv_and' (k := .u8) (i := (x0.toNat : Int)) (j := 128) rfl rfl (r := 128) (by rw [and128_u8 (by omega) (by omega)]; rw [if_neg (by omega)])) rfl ?_
  refine ln_pv (pv_ff (pv_eql rfl rfl) (by decide)) rfl ?_
  refine ln_cd ?_
  refine cd_ff rfl ?_
  refine cd_sr ?_
  refine ln_pv (pv_move rfl) rfl ?_
  refine ln_pv (pv_len_slice Tryd.underlying22 rfl) rfl ?_
  refine ln_pv (pv_ff (pv_lss rfl rfl) (by simp <;> omega)) rfl ?_
  refine ln_cd ?_
  refine cd_ff rfl ?_
  refine cd_skip ?_
  refine at_cd ?_
  refine cd_sr ?_
  refine ln_pv (pv_move rfl) rfl ?_
  refine ln_pv (pv_move rfl) rfl ?_
  refine ln_pv (pv_ix8 (i := 1) Tryd.underlying22 tiuint8.size rfl rfl (by simp <;> omega)) rfl ?_
  refine ln_pv (pv_ldr (j := 1) (v := u8v x1) hrc Tryd.underlying5 rfl rfl rfl) rfl ?_
  refine ln_pv (pv_and' (k := .u8) (i := (x1.toNat : Int)) (j := 127) rfl rfl (r := ((x1.toNat : Int) % 128)) (and127_u8 (by omega) (by omega))) rfl ?_
  refine ln_pv (pv_conv' (k := .u8) (i := ((x1.toNat : Int) % 128)) Tryd.underlying5 Tryd.underlying55 rfl (r := ((x1.toNat : Int) % 128)) (by rw [wrap_u32_eq]; omega)) rfl ?_
  refine ln_pv (pv_shl' (k := .u32) (i := ((x1.toNat : Int) % 128)) (j := 7) rfl rfl (by decide) (by decide) (r := (((x1.toNat : Int) % 128) * 128)) (by rw [wrap_u32_eq]; simp <;> omega)) rfl ?_
  refine ln_pv (pv_or' (k := .u32) (i := ((x0.toNat : Int) % 128)) (j := (((x1.toNat : Int) % 128) * 128)) rfl rfl (r := (((x0.toNat : Int) % 128) + (((x1.toNat : Int) % 128) * 128))) (or32 7 (by decide) _ _ (by omega) (by simp <;> omega) (by omega) (by omega) (by simp <;> omega))) rfl ?_
  refine ln_pv (pv_assign rfl) rfl ?_
  refine ln_cd ?_
  refine cd_seq ?_
  refine cd_sr ?_
  refine ln_pv (pv_move rfl) rfl ?_
  refine ln_pv (pv_ix8 (i := 1) Tryd.underlying22 tiuint8.size rfl rfl (by simp <;> omega)) rfl ?_
  refine ln_pv (pv_ldr (j := 1) (v := u8v x1) hrc Tryd.underlying5 rfl rfl rfl) rfl ?_
  refine ln_pv (pv_and' (k := .u8) (i := (x1.toNat : Int)) (j := 128) rfl rfl (r := 0) (by rw [and128_u8 (by omega) (by omega)]; rw [if_pos (by omega)])) rfl ?_
  refine ln_pv (pv_tt (pv_eql rfl rfl) (by decide)) rfl ?_
  refine ln_cd ?_
  refine cd_tt rfl ?_
  refine cd_sr ?_
  refine ln_pv (pv_move rfl) rfl ?_
  refine ln_pv (pv_assign rfl) rfl ?_
  refine ln_pv (pv_assign rfl) rfl ?_
  refine ln_cd ?_
  refine cd_ret ?_
  exact at_retA2 (K := 0) rfl rfl rfl (fun w hS => rfl)
theorem uvarint_3 (t : Vw) (v : Value) (x0 x1 x2 : UInt8) (rest : List UInt8) (g0 : 128 ≤ x0.toNat) (g1 : 128 ≤ x1.toNat) (g2 : x2.toNat < 128) (hv : RSv t v (x0 :: x1 :: x2 :: rest)) : CS Tryd.prog 170 [v] t (.tuple #[.int .u32 ((((x0.toNat : Int) % 128) + (((x1.toNat : Int) % 128) * 128)) + (((x2.toNat : Int) % 128) * 16384)), .int .i64 3]) := by
  obtain ⟨ad, c, rfl, hc⟩ := RSv.shape hv
  obtain ⟨b, o, rfl, hrc⟩ := RS.pos hv (by simp) (by decide)
  simp only [u8s_cons] at hrc
  have hb0 := x0.toNat_lt
  have hb1 := x1.toNat_lt
  have hb2 := x2.toNat_lt
  refine CA.cs ?_
  refine ca_enter Tryd.func170 rfl Tryd.ntmps170 rfl ?_
  refine cd_sr ?_
  refine ln_pv (pv_assign rfl) rfl ?_
  refine ln_pv (pv_assign rfl) rfl ?_
  refine ln_cd ?_
  refine cd_scope ?_
  refine cd_sr ?_
  refine ln_pv (pv_assign rfl) rfl ?_
  refine ln_cd ?_
  refine cd_sr ?_
  refine ln_pv (pv_assign rfl) rfl ?_
  refine ln_cd ?_
  refine cd_seq ?_
  refine cd_sr ?_
  refine ln_pv (pv_move rfl) rfl ?_
  refine ln_pv (pv_len_slice Tryd.underlying22 rfl) rfl ?_
  refine ln_pv (pv_ff (pv_lss rfl rfl) (by simp <;> omega)) rfl ?_
  refine ln_cd ?_
  refine cd_ff rfl ?_
  refine cd_skip ?_
  refine at_cd ?_
  refine cd_sr ?_
  refine ln_pv (pv_move rfl) rfl ?_
  refine ln_pv (pv_ix8 (i := 0) Tryd.underlying22 tiuint8.size rfl rfl (by simp <;> omega)) rfl ?_
  refine ln_pv (pv_ldr (j := 0) (v := u8v x0) hrc Tryd.underlying5 rfl rfl rfl) rfl ?_
  refine ln_pv (pv_and' (k := .u8) (i := (x0.toNat : Int)) (j := 127) rfl rfl (r := ((x0.toNat : Int) % 128)) (and127_u8 (by omega) (by omega))) rfl ?_
  refine ln_pv (pv_conv' (k := .u8) (i := ((x0.toNat : Int) % 128)) Tryd.underlying5 Tryd.underlying55 rfl (r := ((x0.toNat : Int) % 128)) (by rw [wrap_u32_eq]; omega)) rfl ?_
  refine ln_pv (pv_assign rfl) rfl ?_
  refine ln_cd ?_
  refine cd_seq ?_
  refine cd_sr ?_
  refine ln_pv (pv_move rfl) rfl ?_
  refine ln_pv (pv_ix8 (i := 0) Tryd.underlying22 tiuint8.size rfl rfl (by simp <;> omega)) rfl ?_
  refine ln_pv (pv_ldr (j := 0) (v := u8v x0) hrc Tryd.underlying5 rfl rfl rfl) rfl ?_
  refine ln_pv (pv_and' (k := .u8) (i := (x0.toNat : Int)) (j := 128) rfl rfl (r := 128) (by rw [and128_u8 (by omega) (by omega)]; rw [if_neg (by omega)])) rfl ?_
  refine ln_pv (pv_ff (pv_eql rfl rfl) (by decide)) rfl ?_
  refine ln_cd ?_
  refine cd_ff rfl ?_
  refine cd_sr ?_
  refine ln_pv (pv_move rfl) rfl ?_
  refine ln_pv (pv_len_slice Tryd.underlying22 rfl) rfl ?_
  refine ln_pv (pv_ff (pv_lss rfl rfl) (by simp <;> omega)) rfl ?_
  refine ln_cd ?_
  refine cd_ff rfl ?_
  refine cd_skip ?_
  refine at_cd ?_
  refine cd_sr ?_
  refine ln_pv (pv_move rfl) rfl ?_
  refine ln_pv (pv_move rfl) rfl ?_
  refine ln_pv (pv_ix8 (i := 1) Tryd.underlying22 tiuint8.size rfl rfl (by simp <;> omega)) rfl ?_
  refine ln_pv (pv_ldr (j := 1) (v := u8v x1) hrc Tryd.underlying5 rfl rfl rfl) rfl ?_
  refine ln_pv (pv_and' (k := .u8) (i := (x1.toNat : Int)) (j := 127) rfl rfl (r := ((x1.toNat : Int) % 128)) (and127_u8 (by omega) (by omega))) rfl ?_
  refine ln_pv (pv_conv' (k := .u8) (i := ((x1.toNat : Int) % 128)) Tryd.underlying5 Tryd.underlying55 rfl (r := ((x1.toNat : Int) % 128)) (by rw [wrap_u32_eq]; omega)) rfl ?_
  refine ln_pv (pv_shl' (k := .u32) (i := ((x1.toNat : Int) % 128)) (j := 7) rfl rfl (by decide) (by decide) (r := (((x1.toNat : Int) % 128) * 128)) (by rw [wrap_u32_eq]; simp <;> omega)) rfl ?_
  refine ln_pv (pv_or' (k := .u32) (i := ((x0.toNat : Int) % 128)) (j := (((x1.toNat : Int) % 128) * 128)) rfl rfl (r := (((x0.toNat : Int) % 128) + (((x1.toNat : Int) % 128) * 128))) (or32 7 (by decide) _ _ (by omega) (by simp <;> omega) (by omega) (by omega) (by simp <;> omega))) rfl ?_
  refine ln_pv (pv_assign rfl) rfl ?_
  refine ln_cd ?_
  refine cd_seq ?_
  refine cd_sr ?_
  refine ln_pv (pv_move rfl) rfl ?_
  refine ln_pv (pv_ix8 (i := 1) Tryd.underlying22 tiuint8.size rfl rfl (by simp <;> omega)) rfl ?_
  refine ln_pv (pv_ldr (j := 1) (v := u8v x1) hrc Tryd.underlying5 rfl rfl rfl) rfl ?_
  refine ln_pv (pv_and' (k := .u8) (i := (x1.toNat : Int)) (j := 128) rfl rfl (r := 128) (by rw [and128_u8 (by omega) (by omega)]; rw [if_neg (by omega)])) rfl ?_
  refine ln_pv (pv_ff (pv_eql rfl rfl) (by decide)) rfl ?_
  refine ln_cd ?_
  refine cd_ff rfl ?_
  refine cd_sr ?_
  refine ln_pv (pv_move rfl) rfl ?_
  refine ln_pv (pv_len_slice Tryd.underlying22 rfl) rfl ?_
  refine ln_pv (pv_ff (pv_lss rfl rfl) (by simp <;> omega)) rfl ?_
  refine ln_cd ?_
  refine cd_ff rfl ?_
  refine cd_skip ?_
  refine at_cd ?_
  refine cd_sr ?_
  refine ln_pv (pv_move rfl) rfl ?_
  refine ln_pv (pv_move rfl) rfl ?_
  refine ln_pv (pv_ix8 (i := 2) Tryd.underlying22 tiuint8.size rfl rfl (by simp <;> omega)) rfl ?_
  refine ln_pv (pv_ldr (j := 2) (v := u8v x2) hrc Tryd.underlying5 rfl rfl rfl) rfl ?_
  refine ln_pv (pv_and' (k := .u8) (i := (x2.toNat : Int)) (j := 127) rfl rfl (r := ((x2.toNat : Int) % 128)) (and127_u8 (by omega) (by omega))) rfl ?_
  refine ln_pv (pv_conv' (k := .u8) (i := ((x2.toNat : Int) % 128)) Tryd.underlying5 Tryd.underlying55 rfl (r := ((x2.toNat : Int) % 128)) (by rw [wrap_u32_eq]; omega)) rfl ?_
  refine ln_pv (pv_shl' (k := .u32) (i := ((x2.toNat : Int) % 128)) (j := 14) rfl rfl (by decide) (by decide) (r := (((x2.toNat : Int) % 128) * 16384)) (by rw [wrap_u32_eq]; simp <;> omega)) rfl ?_
  refine ln_pv (pv_or' (k := .u32) (i := (((x0.toNat : Int) % 128) + (((x1.toNat : Int) % 128) * 128))) (j := (((x2.toNat : Int) % 128) * 16384)) rfl rfl (r := ((((x0.toNat : Int) % 128) + (((x1.toNat : Int) % 128) * 128)) + (((x2.toNat : Int) % 128) * 16384))) (or32 14 (by decide) _ _ (by omega) (by simp <;> omega) (by omega) (by omega) (by simp <;> omega))) rfl ?_
  refine ln_pv (pv_assign rfl) rfl ?_
  refine ln_cd ?_
  refine cd_seq ?_
  refine cd_sr ?_
  refine ln_pv (pv_move rfl) rfl ?_
  refine ln_pv (pv_ix8 (i := 2) Tryd.underlying22 tiuint8.size rfl rfl (by simp <;> omega)) rfl ?_
  refine ln_pv (pv_ldr (j := 2) (v := u8v x2) hrc Tryd.underlying5 rfl rfl rfl) rfl ?_
  refine ln_pv (pv_and' (k := .u8) (i := (x2.toNat : Int)) (j := 128) rfl rfl (r := 0) (by rw [and128_u8 (by omega) (by omega)]; rw [if_pos (by omega)])) rfl ?_
  refine ln_pv (pv_tt (pv_eql rfl rfl) (by decide)) rfl ?_
  refine ln_cd ?_
  refine cd_tt rfl ?_
  refine cd_sr ?_
  refine ln_pv (pv_move rfl) rfl ?_
  refine ln_pv (pv_assign rfl) rfl ?_
  refine ln_pv (pv_assign rfl) rfl ?_
  refine ln_cd ?_
  refine cd_ret ?_
  exact at_retA2 (K := 0) rfl rfl rfl (fun w hS => rfl)
theorem uvarint_4 (t : Vw) (v : Value) (x0 x1 x2 x3 : UInt8) (rest : List UInt8) (g0 : 128 ≤ x0.toNat) (g1 : 128 ≤ x1.toNat) (g2 : 128 ≤ x2.toNat) (g3 : x3.toNat < 128) (hv : RSv t v (x0 :: x1 :: x2 :: x3 :: rest)) : CS Tryd.prog 170 [v] t (.tuple #[.int .u32 (((((x0.toNat : Int) % 128) + (((x1.toNat : Int) % 128) * 128)) + (((x2.toNat : Int) % 128) * 16384)) + (((x3.toNat : Int) % 128) * 2097152)), .int .i64 4]) := by
  obtain ⟨ad, c, rfl, hc⟩ := RSv.shape hv
  obtain ⟨b, o, rfl, hrc⟩ := RS.pos hv (by simp) (by decide)
  simp only [u8s_cons] at hrc
  have hb0 := x0.toNat_lt
  have hb1 := x1.toNat_lt
  have hb2 := x2.toNat_lt
  have hb3 := x3.toNat_lt
  refine CA.cs ?_
  refine ca_enter Tryd.func170 rfl Tryd.ntmps170 rfl ?_
  refine cd_sr ?_
  refine ln_pv (pv_assign rfl) rfl ?_
  refine ln_pv (pv_assign rfl) rfl ?_
  refine ln_cd ?_
  refine cd_scope ?_
  refine cd_sr ?_
  refine ln_pv (pv_assign rfl) rfl ?_
  refine ln_cd ?_
  refine cd_sr ?_
  refine ln_pv (pv_assign rfl) rfl ?_
  refine ln_cd ?_
  refine cd_seq ?_
  refine cd_sr ?_
  refine ln_pv (pv_move rfl) rfl ?_
  refine ln_pv (pv_len_slice Tryd.underlying22 rfl) rfl ?_
  refine ln_pv (pv_ff (pv_lss rfl rfl) (by simp <;> omega)) rfl ?_
  refine ln_cd ?_
  refine cd_ff rfl ?_
  refine cd_skip ?_
  refine at_cd ?_
  refine cd_sr ?_
  refine ln_pv (pv_move rfl) rfl ?_
  refine ln_pv (pv_ix8 (i := 0) Tryd.underlying22 tiuint8.size rfl rfl (by simp <;> omega)) rfl ?_
  refine ln_pv (pv_ldr (j := 0) (v := u8v x0) hrc Tryd.underlying5 rfl rfl rfl) rfl ?_
  refine ln_pv (pv_and' (k := .u8) (i := (x0.toNat : Int)) (j := 127) rfl rfl (r := ((x0.toNat : Int) % 128)) (and127_u8 (by omega) (by omega))) rfl ?_
  refine ln_pv (pv_conv' (k := .u8) (i := ((x0.toNat : Int) % 128)) Tryd.underlying5 Tryd.underlying55 rfl (r := ((x0.toNat : Int) % 128)) (by rw [wrap_u32_eq]; omega)) rfl ?_
  refine ln_pv (pv_assign rfl) rfl ?_
  refine ln_cd ?_
  refine cd_seq ?_
  refine cd_sr ?_
  refine ln_pv (pv_move rfl) rfl ?_
  refine ln_pv (pv_ix8 (i := 0) Tryd.underlying22 tiuint8.size rfl rfl (by simp <;> omega)) rfl ?_
  refine ln_pv (pv_ldr (j := 0) (v := u8v x0) hrc Tryd.underlying5 rfl rfl rfl) rfl ?_
  refine ln_pv (pv_and' (k := .u8) (i := (x0.toNat : Int)) (j := 128) rfl rfl (r := 128) (by rw [and128_u8 (by omega) (by omega)]; rw [if_neg (by omega)])) rfl ?_
  refine ln_pv (pv_ff (pv_eql rfl rfl) (by decide)) rfl ?_
  refine ln_cd ?_
  refine cd_ff rfl ?_
  refine cd_sr ?_
  refine ln_pv (pv_move rfl) rfl ?_
  refine ln_pv (pv_len_slice Tryd.underlying22 rfl) rfl ?_
  refine ln_pv (pv_ff (pv_lss rfl rfl) (by simp <;> omega)) rfl ?_
  refine ln_cd ?_
  refine cd_ff rfl ?_
  refine cd_skip ?_
  refine at_cd ?_
  refine cd_sr ?_
  refine ln_pv (pv_move rfl) rfl ?_
  refine ln_pv (pv_move rfl) rfl ?_
  refine ln_pv (pv_ix8 (i := 1) Tryd.underlying22 tiuint8.size rfl rfl (by simp <;> omega)) rfl ?_
  refine ln_pv (pv_ldr (j := 1) (v := u8v x1) hrc Tryd.underlying5 rfl rfl rfl) rfl ?_
  refine ln_pv (pv_and' (k := .u8) (i := (x1.toNat : Int)) (j := 127) rfl rfl (r := ((x1.toNat : Int) % 128)) (and127_u8 (by omega) (by omega))) rfl ?_
  refine ln_pv (pv_conv' (k := .u8) (i := ((x1.toNat : Int) % 128)) Tryd.underlying5 Tryd.underlying55 rfl (r := ((x1.toNat : Int) % 128)) (by rw [wrap_u32_eq]; omega)) rfl ?_
  refine ln_pv (pv_shl' (k := .u32) (i := ((x1.toNat : Int) % 128)) (j := 7) rfl rfl (by decide) (by decide) (r := (((x1.toNat : Int) % 128) * 128)) (by rw [wrap_u32_eq]; simp <;> omega)) rfl ?_
  refine ln_pv (pv_or' (k := .u32) (i := ((x0.toNat : Int) % 128)) (j := (((x1.toNat : Int) % 128) * 128)) rfl rfl (r := (((x0.toNat : Int) % 128) + (((x1.toNat : Int) % 128) * 128))) (or32 7 (by decide) _ _ (by omega) (by simp <;> omega) (by omega) (by omega) (by simp <;> omega))) rfl ?_
  refine ln_pv (pv_assign rfl) rfl ?_
  refine ln_cd ?_
  refine cd_seq ?_
  refine cd_sr ?_
  refine ln_pv (pv_move rfl) rfl ?_
  refine ln_pv (pv_ix8 (i := 1) Tryd.underlying22 tiuint8.size rfl rfl (by simp <;> omega)) rfl ?_
  refine ln_pv (pv_ldr (j := 1) (v := u8v x1) hrc Tryd.underlying5 rfl rfl rfl) rfl ?_
  refine ln_pv (pv_and' (k := .u8) (i := (x1.toNat : Int)) (j := 128) rfl rfl (r := 128) (by rw [and128_u8 (by omega) (by omega)]; rw [if_neg (by omega)])) rfl ?_
  refine ln_pv (pv_ff (pv_eql rfl rfl) (by decide)) rfl ?_
  refine ln_cd ?_
  refine cd_ff rfl ?_
  refine cd_sr ?_
  refine ln_pv (pv_move rfl) rfl ?_
  refine ln_pv (pv_len_slice Tryd.underlying22 rfl) rfl ?_
  refine ln_pv (pv_ff (pv_lss rfl rfl) (by simp <;> omega)) rfl ?_
  refine ln_cd ?_
  refine cd_ff rfl ?_
  refine cd_skip ?_
  refine at_cd ?_
  refine cd_sr ?_
  refine ln_pv (pv_move rfl) rfl ?_
  refine ln_pv (pv_move rfl) rfl ?_
  refine ln_pv (pv_ix8 (i := 2) Tryd.underlying22 tiuint8.size rfl rfl (by simp <;> omega)) rfl ?_
  refine ln_pv (pv_ldr (j := 2) (v := u8v x2) hrc Tryd.underlying5 rfl rfl rfl) rfl ?_
  refine ln_pv (pv_and' (k := .u8) (i := (x2.toNat : Int)) (j := 127) rfl rfl (r := ((x2.toNat : Int) % 128)) (and127_u8 (by omega) (by omega))) rfl ?_
  refine ln_pv (pv_conv' (k := .u8) (i := ((x2.toNat : Int) % 128)) Tryd.underlying5 Tryd.underlying55 rfl (r := ((x2.toNat : Int) % 128)) (by rw [wrap_u32_eq]; omega)) rfl ?_
  refine ln_pv (pv_shl' (k := .u32) (i := ((x2.toNat : Int) % 128)) (j := 14) rfl rfl (by decide) (by decide) (r := (((x2.toNat : Int) % 128) * 16384)) (by rw [wrap_u32_eq]; simp <;> omega)) rfl ?_
  refine ln_pv (pv_or' (k := .u32) (i := (((x0.toNat : Int) % 128) + (((x1.toNat : Int) % 128) * 128))) (j := (((x2.toNat : Int) % 128) * 16384)) rfl rfl (r := ((((x0.toNat : Int) % 128) + (((x1.toNat : Int) % 128) * 128)) + (((x2.toNat : Int) % 128) * 16384))) (or32 14 (by decide) _ _ (by omega) (by simp <;> omega) (by omega) (by omega) (by simp <;> omega))) rfl ?_
  refine ln_pv (pv_assign rfl) rfl ?_
  refine ln_cd ?_
  refine cd_seq ?_
  refine cd_sr ?_
  refine ln_pv (pv_move rfl) rfl ?_
  refine ln_pv (pv_ix8 (i := 2) Tryd.underlying22 tiuint8.size rfl rfl (by simp <;> omega)) rfl ?_
  refine ln_pv (pv_ldr (j := 2) (v := u8v x2) hrc Tryd.underlying5 rfl rfl rfl) rfl ?_
  refine ln_pv (pv_and' (k := .u8) (i := (x2.toNat : Int)) (j := 128) rfl rfl (r := 128) (by rw [and128_u8 (by omega) (by omega)]; rw [if_neg (by omega)])) rfl ?_
  refine ln_pv (pv_ff (pv_eql rfl rfl) (by decide)) rfl ?_
  refine ln_cd ?_
  refine cd_ff rfl ?_
  refine cd_sr ?_
  refine ln_pv (pv_move rfl) rfl ?_
  refine ln_pv (pv_len_slice Tryd.underlying22 rfl) rfl ?_
  refine ln_pv (pv_ff (pv_lss rfl rfl) (by simp <;> omega)) rfl ?_
  refine ln_cd ?_
  refine cd_ff rfl ?_
  refine cd_skip ?_
  refine at_cd ?_
  refine cd_sr ?_
  refine ln_pv (pv_move rfl) rfl ?_
  refine ln_pv (pv_move rfl) rfl ?_
  refine ln_pv (pv_ix8 (i := 3) Tryd.underlying22 tiuint8.size rfl rfl (by simp <;> omega)) rfl ?_
  refine ln_pv (pv_ldr (j := 3) (v := u8v x3) hrc Tryd.underlying5 rfl rfl rfl) rfl ?_
  refine ln_pv (pv_and' (k := .u8) (i := (x3.toNat : Int)) (j := 127) rfl rfl (r := ((x3.toNat : Int) % 128)) (and127_u8 (by omega) (by omega))) rfl ?_
  refine ln_pv (pv_conv' (k := .u8) (i := ((x3.toNat : Int) % 128)) Tryd.underlying5 Tryd.underlying55 rfl (r := ((x3.toNat : Int) % 128)) (by rw [wrap_u32_eq]; omega)) rfl ?_
  refine ln_pv (pv_shl' (k := .u32) (i := ((x3.toNat : Int) % 128)) (j := 21) rfl rfl (by decide) (by decide) (r := (((x3.toNat : Int) % 128) * 2097152)) (by rw [wrap_u32_eq]; simp <;> omega)) rfl ?_
  refine ln_pv (pv_or' (k := .u32) (i := ((((x0.toNat : Int) % 128) + (((x1.toNat : Int) % 128) * 128)) + (((x2.toNat : Int) % 128) * 16384))) (j := (((x3.toNat : Int) % 128) * 2097152)) rfl rfl (r := (((((x0.toNat : Int) % 128) + (((x1.toNat : Int) % 128) * 128)) + (((x2.toNat : Int) % 128) * 16384)) + (((x3.toNat : Int) % 128) * 2097152))) (or32 21 (by decide) _ _ (by omega) (by simp <;> omega) (by omega) (by omega) (by simp <;> omega))) rfl ?_
  refine ln_pv (pv_assign rfl) rfl ?_
  refine ln_cd ?_
  refine cd_seq ?_
  refine cd_sr ?_
  refine ln_pv (pv_move rfl) rfl ?_
  refine ln_pv (pv_ix8 (i := 3) Tryd.underlying22 tiuint8.size rfl rfl (by simp <;> omega)) rfl ?_
  refine ln_pv (pv_ldr (j := 3) (v := u8v x3) hrc Tryd.underlying5 rfl rfl rfl) rfl ?_
  refine ln_pv (pv_and' (k := .u8) (i := (x3.toNat : Int)) (j := 128) rfl rfl (r := 0) (by rw [and128_u8 (by omega) (by omega)]; rw [if_pos (by omega)])) rfl ?_
  refine ln_pv (pv_tt (pv_eql rfl rfl) (by decide)) rfl ?_
  refine ln_cd ?_
  refine cd_tt rfl ?_
  refine cd_sr ?_
  refine ln_pv (pv_move rfl) rfl ?_
  refine ln_pv (pv_assign rfl) rfl ?_
  refine ln_pv (pv_assign rfl) rfl ?_
  refine ln_cd ?_
  refine cd_ret ?_
  exact at_retA2 (K := 0) rfl rfl rfl (fun w hS => rfl)
theorem uvarint_5 (t : Vw) (v : Value) (x0 x1 x2 x3 x4 : UInt8) (rest : List UInt8) (g0 : 128 ≤ x0.toNat) (g1 : 128 ≤ x1.toNat) (g2 : 128 ≤ x2.toNat) (g3 : 128 ≤ x3.toNat) (g4 : x4.toNat ≤ 15) (hv : RSv t v (x0 :: x1 :: x2 :: x3 :: x4 :: rest)) : CS Tryd.prog 170 [v] t (.tuple #[.int .u32 ((((((x0.toNat : Int) % 128) + (((x1.toNat : Int) % 128) * 128)) + (((x2.toNat : Int) % 128) * 16384)) + (((x3.toNat : Int) % 128) * 2097152)) + ((x4.toNat : Int) * 268435456)), .int .i64 5]) := by
  obtain ⟨ad, c, rfl, hc⟩ := RSv.shape hv
  obtain ⟨b, o, rfl, hrc⟩ := RS.pos hv (by simp) (by decide)
  simp only [u8s_cons] at hrc
  have hb0 := x0.toNat_lt
  have hb1 := x1.toNat_lt
  have hb2 := x2.toNat_lt
  have hb3 := x3.toNat_lt
  have hb4 := x4.toNat_lt
  refine CA.cs ?_
  refine ca_enter Tryd.func170 rfl Tryd.ntmps170 rfl ?_
  refine cd_sr ?_
  refine ln_pv (pv_assign rfl) rfl ?_
  refine ln_pv (pv_assign rfl) rfl ?_
  refine ln_cd ?_
  refine cd_scope ?_
  refine cd_sr ?_
  refine ln_pv (pv_assign rfl) rfl ?_
  refine ln_cd ?_
  refine cd_sr ?_
  refine ln_pv (pv_assign rfl) rfl ?_
  refine ln_cd ?_
  refine cd_seq ?_
  refine cd_sr ?_
  refine ln_pv (pv_move rfl) rfl ?_
  refine ln_pv (pv_len_slice Tryd.underlying22 rfl) rfl ?_
  refine ln_pv (pv_ff (pv_lss rfl rfl) (by simp <;> omega)) rfl ?_
  refine ln_cd ?_
  refine cd_ff rfl ?_
  refine cd_skip ?_
  refine at_cd ?_
  refine cd_sr ?_
  refine ln_pv (pv_move rfl) rfl ?_
  refine ln_pv (pv_ix8 (i := 0) Tryd.underlying22 tiuint8.size rfl rfl (by simp <;> omega)) rfl ?_
  refine ln_pv (pv_ldr (j := 0) (v := u8v x0) hrc Tryd.underlying5 rfl rfl rfl) rfl ?_
  refine ln_pv (pv_and' (k := .u8) (i := (x0.toNat : Int)) (j := 127) rfl rfl (r := ((x0.toNat : Int) % 128)) (and127_u8 (by omega) (by omega))) rfl ?_
  refine ln_pv (pv_conv' (k := .u8) (i := ((x0.toNat : Int) % 128)) Tryd.underlying5 Tryd.underlying55 rfl (r := ((x0.toNat : Int) % 128)) (by rw [wrap_u32_eq]; omega)) rfl ?_
  refine ln_pv (pv_assign rfl) rfl ?_
  refine ln_cd ?_
  refine cd_seq ?_
  refine cd_sr ?_
  refine ln_pv (pv_move rfl) rfl ?_
  refine ln_pv (pv_ix8 (i := 0) Tryd.underlying22 tiuint8.size rfl rfl (by simp <;> omega)) rfl ?_
  refine ln_pv (pv_ldr (j := 0) (v := u8v x0) hrc Tryd.underlying5 rfl rfl rfl) rfl ?_
  refine ln_pv (pv_and' (k := .u8) (i := (x0.toNat : Int)) (j := 128) rfl rfl (r := 128) (by rw [and128_u8 (by omega) (by omega)]; rw [if_neg (by omega)])) rfl ?_
  refine ln_pv (pv_ff (pv_eql rfl rfl) (by decide)) rfl ?_
  refine ln_cd ?_
  refine cd_ff rfl ?_
  refine cd_sr ?_
  refine ln_pv (pv_move rfl) rfl ?_
  refine ln_pv (pv_len_slice Tryd.underlying22 rfl) rfl ?_
  refine ln_pv (pv_ff (pv_lss rfl rfl) (by simp <;> omega)) rfl ?_
  refine ln_cd ?_
  refine cd_ff rfl ?_
  refine cd_skip ?_
  refine at_cd ?_
  refine cd_sr ?_
  refine ln_pv (pv_move rfl) rfl ?_
  refine ln_pv (pv_move rfl) rfl ?_
  refine ln_pv (pv_ix8 (i := 1) Tryd.underlying22 tiuint8.size rfl rfl (by simp <;> omega)) rfl ?_
  refine ln_pv (pv_ldr (j := 1) (v := u8v x1) hrc Tryd.underlying5 rfl rfl rfl) rfl ?_
  refine ln_pv (pv_and' (k := .u8) (i := (x1.toNat : Int)) (j := 127) rfl rfl (r := ((x1.toNat : Int) % 128)) (and127_u8 (by omega) (by omega))) rfl ?_
  refine ln_pv (pv_conv' (k := .u8) (i := ((x1.toNat : Int) % 128)) Tryd.underlying5 Tryd.underlying55 rfl (r := ((x1.toNat : Int) % 128)) (by rw [wrap_u32_eq]; omega)) rfl ?_
  refine ln_pv (pv_shl' (k := .u32) (i := ((x1.toNat : Int) % 128)) (j := 7) rfl rfl (by decide) (by decide) (r := (((x1.toNat : Int) % 128) * 128)) (by rw [wrap_u32_eq]; simp <;> omega)) rfl ?_
  refine ln_pv (pv_or' (k := .u32) (i := ((x0.toNat : Int) % 128)) (j := (((x1.toNat : Int) % 128) * 128)) rfl rfl (r := (((x0.toNat : Int) % 128) + (((x1.toNat : Int) % 128) * 128))) (or32 7 (by decide) _ _ (by omega) (by simp <;> omega) (by omega) (by omega) (by simp <;> omega))) rfl ?_
  refine ln_pv (pv_assign rfl) rfl ?_
  refine ln_cd ?_
  refine cd_seq ?_
  refine cd_sr ?_
  refine ln_pv (pv_move rfl) rfl ?_
  refine ln_pv (pv_ix8 (i := 1) Tryd.underlying22 tiuint8.size rfl rfl (by simp <;> omega)) rfl ?_
  refine ln_pv (pv_ldr (j := 1) (v := u8v x1) hrc Tryd.underlying5 rfl rfl rfl) rfl ?_
  refine ln_pv (pv_and' (k := .u8) (i := (x1.toNat : Int)) (j := 128) rfl rfl (r := 128) (by rw [and128_u8 (by omega) (by omega)]; rw [if_neg (by omega)])) rfl ?_
  refine ln_pv (pv_ff (pv_eql rfl rfl) (by decide)) rfl ?_
  refine ln_cd ?_
  refine cd_ff rfl ?_
  refine cd_sr ?_
  refine ln_pv (pv_move rfl) rfl ?_
  refine ln_pv (pv_len_slice Tryd.underlying22 rfl) rfl ?_
  refine ln_pv (pv_ff (pv_lss rfl rfl) (by simp <;> omega)) rfl ?_
  refine ln_cd ?_
  refine cd_ff rfl ?_
  refine cd_skip ?_
  refine at_cd ?_
  refine cd_sr ?_
  refine ln_pv (pv_move rfl) rfl ?_
  refine ln_pv (pv_move rfl) rfl ?_
  refine ln_pv (pv_ix8 (i := 2) Tryd.underlying22 tiuint8.size rfl rfl (by simp <;> omega)) rfl ?_
  refine ln_pv (pv_ldr (j := 2) (v := u8v x2) hrc Tryd.underlying5 rfl rfl rfl) rfl ?_
  refine ln_pv (pv_and' (k := .u8) (i := (x2.toNat : Int)) (j := 127) rfl rfl (r := ((x2.toNat : Int) % 128)) (and127_u8 (by omega) (by omega))) rfl ?_
  refine ln_pv (pv_conv' (k := .u8) (i := ((x2.toNat : Int) % 128)) Tryd.underlying5 Tryd.underlying55 rfl (r := ((x2.toNat : Int) % 128)) (by rw [wrap_u32_eq]; omega)) rfl ?_
  refine ln_pv (pv_shl' (k := .u32) (i := ((x2.toNat : Int) % 128)) (j := 14) rfl rfl (by decide) (by decide) (r := (((x2.toNat : Int) % 128) * 16384)) (by rw [wrap_u32_eq]; simp <;> omega)) rfl ?_
  refine ln_pv (pv_or' (k := .u32) (i := (((x0.toNat : Int) % 128) + (((x1.toNat : Int) % 128) * 128))) (j := (((x2.toNat : Int) % 128) * 16384)) rfl rfl (r := ((((x0.toNat : Int) % 128) + (((x1.toNat : Int) % 128) * 128)) + (((x2.toNat : Int) % 128) * 16384))) (or32 14 (by decide) _ _ (by omega) (by simp <;> omega) (by omega) (by omega) (by simp <;> omega))) rfl ?_
  refine ln_pv (pv_assign rfl) rfl ?_
  refine ln_cd ?_
  refine cd_seq ?_
  refine cd_sr ?_
  refine ln_pv (pv_move rfl) rfl ?_
  refine ln_pv (pv_ix8 (i := 2) Tryd.underlying22 tiuint8.size rfl rfl (by simp <;> omega)) rfl ?_
  refine ln_pv (pv_ldr (j := 2) (v := u8v x2) hrc Tryd.underlying5 rfl rfl rfl) rfl ?_
  refine ln_pv (pv_and' (k := .u8) (i := (x2.toNat : Int)) (j := 128) rfl rfl (r := 128) (by rw [and128_u8 (by omega) (by omega)]; rw [if_neg (by omega)])) rfl ?_
  refine ln_pv (pv_ff (pv_eql rfl rfl) (by decide)) rfl ?_
  refine ln_cd ?_
  refine cd_ff rfl ?_
  refine cd_sr ?_
  refine ln_pv (pv_move rfl) rfl ?_
  refine ln_pv (pv_len_slice Tryd.underlying22 rfl) rfl ?_
  refine ln_pv (pv_ff (pv_lss rfl rfl) (by simp <;> omega)) rfl ?_
  refine ln_cd ?_
  refine cd_ff rfl ?_
  refine cd_skip ?_
  refine at_cd ?_
  refine cd_sr ?_
  refine ln_pv (pv_move rfl) rfl ?_
  refine ln_pv (pv_move rfl) rfl ?_
  refine ln_pv (pv_ix8 (i := 3) Tryd.underlying22 tiuint8.size rfl rfl (by simp <;> omega)) rfl ?_
  refine ln_pv (pv_ldr (j := 3) (v := u8v x3) hrc Tryd.underlying5 rfl rfl rfl) rfl ?_
  refine ln_pv (pv_and' (k := .u8) (i := (x3.toNat : Int)) (j := 127) rfl rfl (r := ((x3.toNat : Int) % 128)) (and127_u8 (by omega) (by omega))) rfl ?_
  refine ln_pv (pv_conv' (k := .u8) (i := ((x3.toNat : Int) % 128)) Tryd.underlying5 Tryd.underlying55 rfl (r := ((x3.toNat : Int) % 128)) (by rw [wrap_u32_eq]; omega)) rfl ?_
  refine ln_pv (pv_shl' (k := .u32) (i := ((x3.toNat : Int) % 128)) (j := 21) rfl rfl (by decide) (by decide) (r := (((x3.toNat : Int) % 128) * 2097152)) (by rw [wrap_u32_eq]; simp <;> omega)) rfl ?_
  refine ln_pv (pv_or' (k := .u32) (i := ((((x0.toNat : Int) % 128) + (((x1.toNat : Int) % 128) * 128)) + (((x2.toNat : Int) % 128) * 16384))) (j := (((x3.toNat : Int) % 128) * 2097152)) rfl rfl (r := (((((x0.toNat : Int) % 128) + (((x1.toNat : Int) % 128) * 128)) + (((x2.toNat : Int) % 128) * 16384)) + (((x3.toNat : Int) % 128) * 2097152))) (or32 21 (by decide) _ _ (by omega) (by simp <;> omega) (by omega) (by omega) (by simp <;> omega))) rfl ?_
  refine ln_pv (pv_assign rfl) rfl ?_
  refine ln_cd ?_
  refine cd_seq ?_
  refine cd_sr ?_
  refine ln_pv (pv_move rfl) rfl ?_
  refine ln_pv (pv_ix8 (i := 3) Tryd.underlying22 tiuint8.size rfl rfl (by simp <;> omega)) rfl ?_
  refine ln_pv (pv_ldr (j := 3) (v := u8v x3) hrc Tryd.underlying5 rfl rfl rfl) rfl ?_
  refine ln_pv (pv_and' (k := .u8) (i := (x3.toNat : Int)) (j := 128) rfl rfl (r := 128) (by rw [and128_u8 (by omega) (by omega)]; rw [if_neg (by omega)])) rfl ?_
  refine ln_pv (pv_ff (pv_eql rfl rfl) (by decide)) rfl ?_
  refine ln_cd ?_
  refine cd_ff rfl ?_
  refine cd_sr ?_
  refine ln_pv (pv_move rfl) rfl ?_
  refine ln_pv (pv_len_slice Tryd.underlying22 rfl) rfl ?_
  refine ln_pv (pv_ff (pv_lss rfl rfl) (by simp <;> omega)) rfl ?_
  refine ln_cd ?_
  refine cd_ff rfl ?_
  refine cd_skip ?_
  refine at_cd ?_
  refine cd_sr ?_
  refine ln_pv (pv_move rfl) rfl ?_
  refine ln_pv (pv_move rfl) rfl ?_
  refine ln_pv (pv_ix8 (i := 4) Tryd.underlying22 tiuint8.size rfl rfl (by simp <;> omega)) rfl ?_
  refine ln_pv (pv_ldr (j := 4) (v := u8v x4) hrc Tryd.underlying5 rfl rfl rfl) rfl ?_
  refine ln_pv (pv_conv' (k := .u8) (i := (x4.toNat : Int)) Tryd.underlying5 Tryd.underlying55 rfl (r := (x4.toNat : Int)) (by rw [wrap_u32_eq]; omega)) rfl ?_
  refine ln_pv (pv_shl' (k := .u32) (i := (x4.toNat : Int)) (j := 28) rfl rfl (by decide) (by decide) (r := ((x4.toNat : Int) * 268435456)) (by rw [wrap_u32_eq]; simp <;> omega)) rfl ?_
  refine ln_pv (pv_or' (k := .u32) (i := (((((x0.toNat : Int) % 128) + (((x1.toNat : Int) % 128) * 128)) + (((x2.toNat : Int) % 128) * 16384)) + (((x3.toNat : Int) % 128) * 2097152))) (j := ((x4.toNat : Int) * 268435456)) rfl rfl (r := ((((((x0.toNat : Int) % 128) + (((x1.toNat : Int) % 128) * 128)) + (((x2.toNat : Int) % 128) * 16384)) + (((x3.toNat : Int) % 128) * 2097152)) + ((x4.toNat : Int) * 268435456))) (or32 28 (by decide) _ _ (by omega) (by simp <;> omega) (by omega) (by omega) (by simp <;> omega))) rfl ?_
  refine ln_pv (pv_assign rfl) rfl ?_
  refine ln_cd ?_
  refine cd_seq ?_
  refine cd_sr ?_
  refine ln_pv (pv_move rfl) rfl ?_
  refine ln_pv (pv_ix8 (i := 4) Tryd.underlying22 tiuint8.size rfl rfl (by simp <;> omega)) rfl ?_
  refine ln_pv (pv_ldr (j := 4) (v := u8v x4) hrc Tryd.underlying5 rfl rfl rfl) rfl ?_
  refine ln_pv (pv_tt (pv_leq (k := .u8) (i := (x4.toNat : Int)) (j := 15) rfl rfl) (by omega)) rfl ?_
  refine ln_cd ?_
  refine cd_tt rfl ?_
  refine cd_sr ?_
  refine ln_pv (pv_move rfl) rfl ?_
  refine ln_pv (pv_assign rfl) rfl ?_
  refine ln_pv (pv_assign rfl) rfl ?_
  refine ln_cd ?_
  refine cd_ret ?_
  exact at_retA2 (K := 0) rfl rfl rfl (fun w hS => rfl)
theorem w32 {n : Nat} (h : n ≤ 2147483647) : IntKind.i32.wrap (n : Int) = (n : Int) := by simp [IntKind.wrap, IntKind.bits, IntKind.signed]; omega
/-- the result lies in a variable of the call's own -/
theorem at_retTC {n : Nat} {L : Env} {H : Hp} {s : Vw} {P : Program} {fn : Func} {t : Vw} {e e' : Ent} {R : Vw → Value → Ent → Prop} {q i j b sz : Nat} {rt et : TypeId} {l : List Value} {dd : TypeDesc} (hr : fn.results = #[.cell q rt]) (hv : lk L q = some (.pointer (some ⟨b, 0, none⟩))) (hj : H[j]? = some (.obj b (.cells l.toArray et))) (hi : H[i]? = some e')
    (hd : P.underlying rt = some dd) (hna : (match dd with | .struct _ | .array _ _ => true | _ => false) = true) (hsz : (P.info? rt).map (·.size) = some sz) (hl : l.length = sz)
    (h : ∀ w, ∀ hS : St ⟨t, fun b => b ∈ e.blk⟩ s H w, R (hS.finT e' (List.mem_of_getElem? hi)) (.agg l.toArray) e') : At (rpT P fn t e R) n L H ⟨t, fun b => b ∈ e.blk⟩ s := fun a w hF hS =>
  rpT_of hi hF hS (by
    have hb := hS.sk.obj hj
    have hg := hF.get q _ hv
    have hrun := run_loadA (P := P) (w := w) (b := b) (o := 0) hd hna hsz hl (fun j v hj => cell_of_list hb _ (by simpa using hj))
    simp [results, hr, hg, asAddr, hrun, Result.andThen]) (h w hS)
end K
end Go.Proofs.YtjjfpdofkdolnaaDoor
namespace Go.Proofs.YtjjfpdofkdolnaaDoor
namespace K
open Go Go.Lib
/-! ### Unknown tags, read -/
end K
end Go.Proofs.YtjjfpdofkdolnaaDoor
