import Derived.Tactics
import Derived.OrdersHeld
import Derived.KernelRfl
import Derived.Below
import Derived.Laws.AppendOwn
import Derived.Laws.Cells
import Derived.WalkKit
set_option linter.unusedVariables false
set_option linter.unusedSimpArgs false
namespace Go.Proofs.YtjjfpdofkdolnaaDoor
namespace K
open Go

@[simp] theorem one_int (k : IntKind) (n : Int) : (Value.int k n).oneCell' = true := rfl
@[simp] theorem one_bool (b : Bool) : (Value.bool b).oneCell' = true := rfl
@[simp] theorem one_str (z : ByteArray) : (Value.string z).oneCell' = true := rfl
@[simp] theorem one_slice (a : Option Addr) (n c : Nat) : (Value.slice a n c).oneCell' = true := rfl
@[simp] theorem one_ptr (a : Option Addr) : (Value.pointer a).oneCell' = true := rfl
@[simp] theorem one_map (a : Option Nat) : (Value.map a).oneCell' = true := rfl
@[simp] theorem one_float (k : FloatKind) (n : Nat) : (Value.float k n).oneCell' = true := rfl
@[simp] theorem one_nilIface : (Value.nilIface).oneCell' = true := rfl
@[simp] theorem one_iface (t : TypeId) (v : Value) : (Value.iface t v).oneCell' = true := rfl
/-! ### 1. The frame, as far as it is known -/
abbrev Env := List (Nat × Value)
def lk : Env → Nat → Option Value
  | [], _ => none
  | (k, v) :: r, t => bif Nat.beq k t then some v else lk r t

theorem nbeq {a b : Nat} (h : ¬ a = b) : Nat.beq a b = false := Bool.eq_false_iff.2 fun e => h (Nat.eq_of_beq_eq_true e)
structure Fr (n : Nat) (L : Env) (a : Act) : Prop where
  df : a.defers = []
  sz : a.tmps.size = n
  get : ∀ t v, lk L t = some v → a.tmps[t]? = some v

def ev (L : Env) : Operand → Option Value
  | .tmp t => lk L t
  | .const v => some v
  | .global g => some (.pointer (some ⟨g, 0, none⟩))
  | .func f => some (.func (.func f) #[] #[])

theorem Fr.ev {n : Nat} {L : Env} {a : Act} (h : Fr n L a) {x : Operand} {v : Value} (hx : ev L x = some v) : a.eval x = v := by
  cases x with
  | tmp t =>
    have := h.get t v hx
    simp [Act.eval, this]
  | const c => simpa [K.ev, Act.eval] using hx
  | global g => simpa [K.ev, Act.eval] using hx
  | func f => simpa [K.ev, Act.eval] using hx

theorem Fr.put {n : Nat} {L : Env} {a : Act} (h : Fr n L a) (d : Nat) (v : Value) (hd : Nat.blt d n = true) : Fr n ((d, v) :: L) (a.put (some d) v) := by
  have hd' : d < n := by simpa [Nat.blt_eq] using hd
  refine ⟨h.df, by simp [Act.put, h.sz], fun t u hu => ?_⟩
  simp only [lk] at hu
  by_cases e : d = t
  · subst e
    have hb : Nat.beq d d = true := by simp
    rw [hb] at hu
    simp only [cond_true, Option.some.injEq] at hu
    subst hu
    simp [Act.put, h.sz, hd']
  · have hb : Nat.beq d t = false := nbeq e
    rw [hb] at hu
    simp only [cond_false] at hu
    have := h.get t u hu
    simp only [Act.put]
    rw [Array.getElem?_setIfInBounds_ne e]
    exact this

theorem Fr.drop {n : Nat} {L L' : Env} {a : Act} (h : Fr n L a) (hs : ∀ t v, lk L' t = some v → lk L t = some v) : Fr n L' a :=
  ⟨h.df, h.sz, fun t v hv => h.get t v (hs t v hv)⟩

/-- What one frame's facts say, said by the other's. -/
def agree : Env → Env → Prop
  | [], _ => True
  | (t, v) :: r, L => lk L t = some v ∧ agree r L
theorem agree.sub : ∀ {E L : Env}, agree E L → ∀ t v, lk E t = some v → lk L t = some v
  | [], L, _, t, v, h => by simp [lk] at h
  | (k, u) :: r, L, ⟨h1, h2⟩, t, v, h => by
    simp only [lk] at h
    by_cases e : k = t
    · subst e
      have hb : Nat.beq k k = true := by simp
      rw [hb] at h
      simp only [cond_true, Option.some.injEq] at h
      exact h ▸ h1
    · have hb : Nat.beq k t = false := nbeq e
      rw [hb] at h
      exact h2.sub t v h
def argEnv : Nat → List Value → Env
  | _, [] => []
  | k, v :: r => (k, v) :: argEnv (k + 1) r
theorem lk_argEnv : ∀ (l : List Value) (k t : Nat) (v : Value), lk (argEnv k l) t = some v → k ≤ t ∧ l[t - k]? = some v
  | [], k, t, v, h => by simp [argEnv, lk] at h
  | u :: r, k, t, v, h => by
    simp only [argEnv, lk] at h
    by_cases e : k = t
    · subst e
      have hb : Nat.beq k k = true := by simp
      rw [hb] at h
      simp only [cond_true, Option.some.injEq] at h
      simp [h]
    · have hb : Nat.beq k t = false := nbeq e
      rw [hb] at h
      obtain ⟨h1, h2⟩ := lk_argEnv r (k + 1) t v h
      refine ⟨by omega, ?_⟩
      rw [show t - k = (t - (k + 1)) + 1 by omega]
      simpa using h2
theorem Fr.start (l : List Value) (n : Nat) (hl : Nat.ble l.length n = true) :
    Fr n (argEnv 0 l) { tmps := l.toArray ++ Array.replicate (n - l.toArray.size) undef, defers := [] } := by
  have hl' : l.length ≤ n := by simpa [Nat.ble_eq] using hl
  refine ⟨rfl, by simp; omega, fun t v h => ?_⟩
  obtain ⟨_, h2⟩ := lk_argEnv l 0 t v h
  have ht : t < l.length := by
    rcases Nat.lt_or_ge t l.length with h' | h'
    · exact h'
    · rw [List.getElem?_eq_none (by omega)] at h2; cases h2
  simp only [Nat.sub_zero] at h2
  rw [Array.getElem?_append_left (by simpa using ht)]
  simpa using h2

/-! ### 2. The world: what has been turned -/
/-- Only blocks of M (of those that were there) have been turned. -/
structure Mod (M : Nat → Prop) (w w' : World) : Prop where
  os : w'.os = w.os
  tape : w'.tape = w.tape
  output : w'.output = w.output
  size : w.heap.size ≤ w'.heap.size
  block : ∀ k, k < w.heap.size → ¬ M k → w'.heap[k]? = w.heap[k]?
def No : Nat → Prop := fun _ => False
theorem Mod.refl (M : Nat → Prop) (w : World) : Mod M w w := ⟨rfl, rfl, rfl, Nat.le_refl _, fun _ _ _ => rfl⟩
theorem Mod.trans {M M' : Nat → Prop} {a b c : World} (h : Mod M a b) (k : Mod M' b c) (hM : ∀ i, i < a.heap.size → M' i → M i) : Mod M a c :=
  ⟨k.os.trans h.os, k.tape.trans h.tape, k.output.trans h.output, Nat.le_trans h.size k.size, fun i hi hn =>
    (k.block i (Nat.lt_of_lt_of_le hi h.size) (fun hm => hn (hM i hi hm))).trans (h.block i hi hn)⟩
theorem Mod.mono {M M' : Nat → Prop} {a b : World} (h : Mod M a b) (hM : ∀ i, i < a.heap.size → M i → M' i) : Mod M' a b :=
  ⟨h.os, h.tape, h.output, h.size, fun i hi hn => h.block i hi (fun hm => hn (hM i hi hm))⟩
theorem Mod.no {M : Nat → Prop} {a b : World} (h : Mod No a b) : Mod M a b := h.mono fun _ _ h => h.elim
theorem Mod.drew (M : Nat → Prop) (w : World) : Mod M w w.drew := ⟨rfl, rfl, rfl, Nat.le_refl _, fun _ _ _ => rfl⟩
theorem Mod.alloc (M : Nat → Prop) (w : World) (o : Obj) : Mod M w (w.alloc o) :=
  ⟨rfl, rfl, rfl, by simp, fun k hk _ => Go.RowKit.Below.heap_alloc _ _ _ hk⟩
theorem Mod.setCell {M : Nat → Prop} (w : World) (a : Addr) (v : Value) (h : M a.block) : Mod M w (w.setCell a v) :=
  ⟨rfl, rfl, rfl, by simp, fun k hk hn => Go.RowKit.Below.heap_setCell _ _ _ _ (fun e => hn (e ▸ h))⟩
theorem Mod.grown {M : Nat → Prop} {w w' : World} {row : Option Nat} (h : w.grownBy w' row) (hr : ∀ k, row = some k → k < w.heap.size → M k) : Mod M w w' :=
  ⟨h.os, h.tape, h.output, h.size, fun k hk hn => h.block k hk (fun e => hn (hr k e.symm hk))⟩
theorem Mod.cell {M : Nat → Prop} {w w' : World} (h : Mod M w w') {a : Addr} {v : Value} (hc : w.cell? a = some v) (hn : ¬ M a.block) : w'.cell? a = some v :=
  (World.cell?_of_block (h.block a.block (World.block_lt_of_cell? w a hc) hn)).trans hc
theorem Mod.below {w w' : World} (h : Mod No w w') : Go.RowKit.Below w.heap.size w w' :=
  ⟨h.os, h.tape, h.output, h.size, fun k hk => h.block k hk id⟩

/-! ### 3. What the call owns -/
inductive Ent where
  | obj (b : Nat) (o : Obj)
  | row (v : Value) (e : TypeId) (sz n : Nat) (xs : List Value)
def Ent.ok (w : World) : Ent → Prop
  | .obj b o => w.heap[b]? = some o
  | .row v e sz n xs => w.ownsRow 0 e sz v n xs
def Ent.blk : Ent → List Nat
  | .obj b _ => [b]
  | .row v _ _ _ _ => v.ownBlock.toList
abbrev Hp := List Ent
def blks (H : Hp) : List Nat := H.flatMap Ent.blk
theorem Ent.ok.lt {w : World} {e : Ent} (h : e.ok w) : ∀ b ∈ e.blk, b < w.heap.size := by
  intro b hb
  cases e with
  | obj b' o =>
    simp only [Ent.blk, List.mem_singleton] at hb
    subst hb
    exact (Array.getElem?_eq_some_iff.1 h).1
  | row v e sz n xs =>
    simp only [Ent.blk, Option.mem_toList] at hb
    exact (World.ownsRow.lt h b hb).2
theorem Ent.ok.mod {M : Nat → Prop} {w w' : World} {e : Ent} (h : e.ok w) (hm : Mod M w w') (hn : ∀ b ∈ e.blk, ¬ M b) : e.ok w' := by
  have hlt := h.lt
  cases e with
  | obj b o =>
    have := hm.block b (hlt b (by simp [Ent.blk])) (hn b (by simp [Ent.blk]))
    exact this.trans h
  | row v e sz n xs =>
    refine ⟨h.1, ?_⟩
    rcases h.2 with hnil | ⟨g, cap, cur, rfl, hb, hg, rest⟩
    · exact .inl hnil
    · refine .inr ⟨g, cap, cur, rfl, hb, ?_, rest⟩
      rw [hm.block g (Array.getElem?_eq_some_iff.1 hg).1 (hn g (by simp [Ent.blk, Value.ownBlock]))]
      exact hg
def HF (H : Hp) (w : World) : Prop := ∀ e ∈ H, e.ok w
theorem HF.lt {H : Hp} {w : World} (h : HF H w) {b : Nat} (hb : b ∈ blks H) : b < w.heap.size := by
  obtain ⟨e, he, hb⟩ := List.mem_flatMap.1 hb
  exact (h e he).lt b hb
theorem HF.mod {M : Nat → Prop} {H : Hp} {w w' : World} (h : HF H w) (hm : Mod M w w') (hn : ∀ b ∈ blks H, ¬ M b) : HF H w' :=
  fun e he => (h e he).mod hm fun b hb => hn b (List.mem_flatMap.2 ⟨e, he, hb⟩)

/-! ### 4. A view: a world, and blocks that what is known of it does not touch -/
structure Vw where
  w : World
  av : Nat → Prop
  lt : ∀ b, av b → b < w.heap.size
structure Tr (s t : Vw) : Prop where
  mod : Mod s.av s.w t.w
  av : ∀ b, t.av b → s.av b ∨ s.w.heap.size ≤ b
theorem Tr.refl (s : Vw) : Tr s s := ⟨Mod.refl _ _, fun b h => .inl h⟩
theorem Tr.trans {s t u : Vw} (h : Tr s t) (k : Tr t u) : Tr s u :=
  ⟨h.mod.trans k.mod fun i hi hm => (h.av i hm).resolve_right (by omega), fun b hb => (k.av b hb).elim (h.av b) fun hge => .inr (Nat.le_trans h.mod.size hge)⟩
/-- Cells that are known. -/
def RC (s : Vw) (b o : Nat) (cs : List Value) : Prop := ¬ s.av b ∧ ∀ j v, cs[j]? = some v → s.w.cell? ⟨b, o + j, none⟩ = some v
theorem RC.mv {s t : Vw} {b o : Nat} {cs : List Value} (h : RC s b o cs) (ht : Tr s t) (hne : cs ≠ []) : RC t b o cs := by
  have h0 : b < s.w.heap.size := by
    cases cs with
    | nil => exact absurd rfl hne
    | cons c r => exact World.block_lt_of_cell? _ _ (h.2 0 c rfl)
  exact ⟨fun hb => (ht.av b hb).elim h.1 (by omega), fun j v hv => ht.mod.cell (h.2 j v hv) h.1⟩

/-- What the call may turn: the blocks of O (handed to it), and whatever it makes. -/
structure Cx where
  t : Vw
  O : Nat → Prop
def Cx.we (C : Cx) : World := C.t.w
def Cx.may (C : Cx) (b : Nat) : Prop := C.O b ∨ C.we.heap.size ≤ b
structure St (C : Cx) (s : Vw) (H : Hp) (w : World) : Prop where
  base : Mod C.O C.we s.w
  mod : Mod (fun b => s.av b ∧ C.may b) s.w w
  hf : HF H w
  own : ∀ b ∈ blks H, (s.av b ∨ s.w.heap.size ≤ b) ∧ C.may b
  nd : (blks H).Nodup
  up : ∀ b, C.t.av b → s.av b
theorem St.whole {C : Cx} {s : Vw} {H : Hp} {w : World} (h : St C s H w) : Mod C.O C.we w :=
  h.base.trans h.mod fun i hi hm => hm.2.resolve_right (by omega)
/-- The view at the world at hand. -/
def St.vw {C : Cx} {s : Vw} {H : Hp} {w : World} (h : St C s H w) : Vw := ⟨w, fun b => b ∈ blks H ∨ s.av b, fun b hb => hb.elim h.hf.lt fun hb => Nat.lt_of_lt_of_le (s.lt b hb) h.mod.size⟩
theorem St.tr {C : Cx} {s : Vw} {H : Hp} {w : World} (h : St C s H w) : Tr s h.vw :=
  ⟨h.mod.mono fun _ _ h => h.1, fun b hb => hb.elim (fun hb => (h.own b hb).1) .inl⟩
/-- A step that turns none of what is owned. -/
theorem St.step {C : Cx} {s : Vw} {H : Hp} {w w' : World} (h : St C s H w) (hm : Mod No w w') : St C s H w' :=
  ⟨h.base, h.mod.trans hm fun _ _ h => h.elim, h.hf.mod hm fun _ _ h => h, h.own, h.nd, h.up⟩
theorem St.new {C : Cx} {s : Vw} {H : Hp} {w : World} (h : St C s H w) (o : Obj) : St C s (.obj w.heap.size o :: H) (w.alloc o) := by
  have h1 := h.step (Mod.alloc No w o)
  refine ⟨h1.base, h1.mod, ?_, ?_, ?_, h.up⟩
  · intro e he
    rcases List.mem_cons.1 he with rfl | he
    · exact heap_alloc_new w o
    · exact h1.hf e he
  · intro b hb
    simp only [blks, List.flatMap_cons, Ent.blk, List.mem_append, List.mem_singleton] at hb
    rcases hb with rfl | hb
    · exact ⟨.inr h.mod.size, .inr (Nat.le_trans h.base.size h.mod.size)⟩
    · exact h.own b hb
  · simp only [blks, List.flatMap_cons, Ent.blk, List.singleton_append, List.nodup_cons]
    exact ⟨fun hb => absurd (h.hf.lt hb) (by omega), h.nd⟩
/-- Entry i is turned into another, over the same block or a new one. -/
theorem blks_set_mem {H : Hp} {i : Nat} {e e' : Ent} (he : H[i]? = some e) {b : Nat} (hb : b ∈ blks (H.set i e')) : b ∈ e'.blk ∨ b ∈ blks H := by
  obtain ⟨x, hx, hb⟩ := List.mem_flatMap.1 hb
  rcases List.mem_or_eq_of_mem_set hx with hx | hx
  · exact .inr (List.mem_flatMap.2 ⟨x, hx, hb⟩)
  · exact .inl (hx ▸ hb)
theorem set_split : ∀ {H : Hp} {i : Nat} {e : Ent}, H[i]? = some e → ∃ H1 H2, H = H1 ++ e :: H2 ∧ H1.length = i ∧ ∀ e', H.set i e' = H1 ++ e' :: H2
  | [], i, e, h => by simp at h
  | x :: r, 0, e, h => by
    simp only [List.getElem?_cons_zero, Option.some.injEq] at h
    subst h
    exact ⟨[], r, rfl, rfl, fun _ => rfl⟩
  | x :: r, i + 1, e, h => by
    obtain ⟨H1, H2, h1, h2, h3⟩ := set_split (H := r) (i := i) (by simpa using h)
    exact ⟨x :: H1, H2, by rw [h1]; rfl, by simp [h2], fun e' => by simp [h3 e']⟩
/-- Entry i turns; all else is as it was. -/
theorem St.turn {C : Cx} {s : Vw} {H : Hp} {w w' : World} {i : Nat} {e e' : Ent} (h : St C s H w) (he : H[i]? = some e)
    (hm : Mod (fun b => b ∈ e.blk) w w') (hok : e'.ok w') (hb : ∀ b ∈ e'.blk, b ∈ e.blk ∨ w.heap.size ≤ b) (hnd : e'.blk.Nodup) : St C s (H.set i e') w' := by
  obtain ⟨H1, H2, rfl, _, hset⟩ := set_split he
  rw [hset]
  have hnd0 := h.nd
  simp only [blks, List.flatMap_append, List.flatMap_cons] at hnd0
  obtain ⟨n1, n2, n3⟩ := List.nodup_append.1 hnd0
  obtain ⟨n4, n5, n6⟩ := List.nodup_append.1 n2
  have hin : ∀ b ∈ e.blk, b ∈ blks (H1 ++ e :: H2) := fun b hb => by simp [blks, List.flatMap_append, List.flatMap_cons, hb]
  have hlt1 : ∀ b ∈ blks H1, b < w.heap.size := fun b hb => h.hf.lt (by simp only [blks, List.flatMap_append] at hb ⊢; simp [hb])
  have hlt2 : ∀ b ∈ blks H2, b < w.heap.size := fun b hb => h.hf.lt (by simp only [blks, List.flatMap_append, List.flatMap_cons] at hb ⊢; simp [hb])
  refine ⟨h.base, h.mod.trans hm fun b hbl hb => ?_, ?_, ?_, ?_, h.up⟩
  · have := h.own b (hin b hb)
    exact ⟨this.1.resolve_right (by omega), this.2⟩
  · intro x hx
    rcases List.mem_append.1 hx with hx1 | hx1
    · refine (h.hf x (by simp [hx1])).mod hm fun b hb hb' => ?_
      exact n3 b (List.mem_flatMap.2 ⟨x, hx1, hb⟩) b (List.mem_append.2 (.inl hb')) rfl
    · rcases List.mem_cons.1 hx1 with rfl | hx2
      · exact hok
      · refine (h.hf x (by simp [hx2])).mod hm fun b hb hb' => ?_
        exact n6 b hb' b (List.mem_flatMap.2 ⟨x, hx2, hb⟩) rfl
  · intro b hbm
    simp only [blks, List.flatMap_append, List.flatMap_cons, List.mem_append] at hbm
    rcases hbm with hbm | hbm | hbm
    · exact h.own b (by simp only [blks, List.flatMap_append, List.mem_append]; exact .inl hbm)
    · rcases hb b hbm with hb' | hb'
      · exact h.own b (hin b hb')
      · exact ⟨.inr (Nat.le_trans h.mod.size hb'), .inr (Nat.le_trans (Nat.le_trans h.base.size h.mod.size) hb')⟩
    · exact h.own b (by simp only [blks, List.flatMap_append, List.flatMap_cons, List.mem_append]; exact .inr (.inr hbm))
  · simp only [blks, List.flatMap_append, List.flatMap_cons]
    refine List.nodup_append.2 ⟨n1, List.nodup_append.2 ⟨hnd, n5, fun a ha b hb' hab => ?_⟩, fun a ha b hb' hab => ?_⟩
    · subst hab
      rcases hb a ha with h1 | h1
      · exact n6 a h1 a hb' rfl
      · have := hlt2 a hb'; omega
    · subst hab
      rcases List.mem_append.1 hb' with h1 | h1
      · rcases hb a h1 with h2 | h2
        · exact n3 a ha a (List.mem_append.2 (.inl h2)) rfl
        · have := hlt1 a ha; omega
      · exact n3 a ha a (List.mem_append.2 (.inr h1)) rfl
theorem blks_sub {H' H : Hp} (h : H'.Sublist H) : (blks H').Sublist (blks H) := by
  induction h with
  | slnil => exact List.Sublist.slnil
  | cons a _ ih =>
    simp only [blks, List.flatMap_cons] at ih ⊢
    exact ih.trans (List.sublist_append_right _ _)
  | cons_cons a _ ih =>
    simp only [blks, List.flatMap_cons] at ih ⊢
    exact List.Sublist.append (List.Sublist.refl _) ih
/-- Some of what is owned is let go. -/
theorem St.sub {C : Cx} {s : Vw} {H H' : Hp} {w : World} (h : St C s H w) (hs : H'.Sublist H) : St C s H' w :=
  ⟨h.base, h.mod, fun e he => h.hf e (hs.subset he), fun b hb => h.own b (by
    obtain ⟨e, he, hb⟩ := List.mem_flatMap.1 hb
    exact List.mem_flatMap.2 ⟨e, hs.subset he, hb⟩), h.nd.sublist (blks_sub hs), h.up⟩
/-- Another base: the view at hand. -/
theorem St.rebase {C : Cx} {s : Vw} {H : Hp} {w : World} (h : St C s H w) : St C h.vw H w :=
  ⟨h.whole, Mod.refl _ _, h.hf, fun b hb => ⟨.inl (.inl hb), (h.own b hb).2⟩, h.nd, fun b hb => .inr (h.up b hb)⟩
/-- The view at the end, as the caller has it. -/
def St.fin {C : Cx} {s : Vw} {H : Hp} {w : World} (h : St C s H w) : Vw := ⟨w, C.t.av, fun b hb => Nat.lt_of_lt_of_le (C.t.lt b hb) h.whole.size⟩
theorem St.trFin {C : Cx} {s : Vw} {H : Hp} {w : World} (h : St C s H w) : Tr s h.fin := ⟨h.mod.mono fun _ _ h => h.1, fun b hb => .inl (h.up b hb)⟩
theorem St.start (t : Vw) (O : Nat → Prop) (H : Hp) (hH : HF H t.w) (hO : ∀ b ∈ blks H, t.av b ∧ O b) (hn : (blks H).Nodup) : St ⟨t, O⟩ t H t.w :=
  ⟨Mod.refl _ _, Mod.refl _ _, hH, fun b hb => ⟨.inl (hO b hb).1, .inl (hO b hb).2⟩, hn, fun _ h => h⟩
/-- A new entry over memory that is there: nothing is owned by it. -/
theorem St.nilrow {C : Cx} {s : Vw} {H : Hp} {w : World} (h : St C s H w) (e : TypeId) (sz : Nat) : St C s (.row (.slice none 0 0) e sz 0 [] :: H) w :=
  ⟨h.base, h.mod, fun x hx => by
    rcases List.mem_cons.1 hx with rfl | hx
    · exact World.ownsRow_nil w 0 e sz
    · exact h.hf x hx, by simpa [blks, Ent.blk, Value.ownBlock] using h.own, by simpa [blks, Ent.blk, Value.ownBlock] using h.nd, h.up⟩
end K
end Go.Proofs.YtjjfpdofkdolnaaDoor
