import Derived.Test.YtjjfpdofkdolnaaDoorRp
import Derived.Laws.BitsLemmas
set_option linter.unusedVariables false
set_option linter.unusedSimpArgs false
namespace Go.Proofs.YtjjfpdofkdolnaaDoor
namespace K
open Go Go.Lib
theorem wrap_u64_eq (x : Int) : IntKind.u64.wrap x = x % 18446744073709551616 := by simp [IntKind.wrap, IntKind.bits, IntKind.signed]
theorem wrap_u32_eq (x : Int) : IntKind.u32.wrap x = x % 4294967296 := by simp [IntKind.wrap, IntKind.bits, IntKind.signed]
theorem wrap_u16_eq (x : Int) : IntKind.u16.wrap x = x % 65536 := by simp [IntKind.wrap, IntKind.bits, IntKind.signed]
theorem wrap_u8_in {x : Int} (h0 : 0 ≤ x) (h1 : x < 256) : IntKind.u8.wrap x = x := by rw [IntKind.wrap_u8]; omega
theorem wrap_succ {i : Nat} (h : i < 9223372036854775807) : IntKind.i64.wrap ((i : Int) + 1) = ((i + 1 : Nat) : Int) := by
  rw [wrap_i64 (by omega) (by omega)]; omega
theorem and127_u8 {x : Int} (h0 : 0 ≤ x) (h1 : x < 256) : bits .and .u8 x 127 = x % 128 := bits_mask .u8 8 (by decide) wraps_u8 7 (by decide) x h0 (by simpa using h1)
section
variable {P : Program} {n : Nat} {L : Env} {S : World → Prop} {d : Option Nat} {ty : TypeId} {pos : String} {af : Array Edge} {g : Option (Nat × Bool)} {t u : TypeId} {x y : Operand} {k : IntKind} {i j r : Int}
theorem pv_and' (hx : ev L x = some (.int k i)) (hy : ev L y = some (.int k j)) (hr : bits .and k i j = r) : PV P S ⟨d, .binOp .and t x y u, ty, pos, af, g⟩ n L (.int k r) := hr ▸ pv_and hx hy
theorem pv_or' (hx : ev L x = some (.int k i)) (hy : ev L y = some (.int k j)) (hr : bits .or k i j = r) : PV P S ⟨d, .binOp .or t x y u, ty, pos, af, g⟩ n L (.int k r) := hr ▸ pv_or hx hy
end
def hasB (f : Fld) (v : Int) : Bool := decide (f.frm ≤ v) && (decide (f.to < 0) || decide (v ≤ f.to))
def widthN (k : Int) : Nat := if k = 1 then 1 else if k = 2 ∨ k = 5 then 2 else if k = 3 then 4 else 8
def known : List Fld → Int
  | [] => 0
  | f :: r => if f.tag ≥ 0 then max (f.tag + 1) (known r) else known r
def TagOk (l : List Fld) : Prop := ∀ f ∈ l, f.tag < 1000000
def counted (flex null : Bool) (n : Nat) (size : Nat) : List UInt8 := if flex && null then [0] else if flex then uvar (n + 1) else if null then fixed (-1) size else fixed n size
theorem b8_val {x : Int} (h0 : 0 ≤ x) (h1 : x < 256) : ((b8 x).toNat : Int) = x := by rw [← wrap_u8, wrap_u8_in h0 h1]
theorem known_snoc : ∀ (l : List Fld) (f : Fld), known (l ++ [f]) = if f.tag ≥ 0 then max (known l) (f.tag + 1) else known l
  | [], f => by
    simp only [List.nil_append, known]
    split <;> omega
  | x :: r, f => by
    simp only [List.cons_append, known, known_snoc r f]
    split <;> split <;> omega
theorem TagOk.take {l : List Fld} (h : TagOk l) (k : Nat) : TagOk (l.take k) := fun f hf => h f (List.mem_of_mem_take hf)
theorem RF.open {s : Vw} : ∀ {f : Fld} {cs : List Value}, RF s f cs → ∃ sv, cs = [.int .i64 f.kind, .int .i64 f.frm, .int .i64 f.to, .int .i64 f.nul, .int .i64 f.tag, .int .i64 f.dflt, .int .i64 f.of_, sv] ∧ ∃ lc, RS s 8 sv f.sub.length lc ∧ RFs s f.sub lc
  | .mk .., cs, h => by simpa only [RF, Fld.kind, Fld.frm, Fld.to, Fld.nul, Fld.tag, Fld.dflt, Fld.of_, Fld.sub] using h
theorem RT.open {s : Vw} : ∀ {x : Tre} {cs : List Value}, RT s x cs → ∃ sS sL sU, cs = [.int .i64 x.n, sS, .bool x.z, sL, sU] ∧ I64 x.n ∧ RSv s sS x.s ∧ (∃ lc, RS s 5 sL x.l.length lc ∧ RTs s x.l lc) ∧ RU s sU x.u
  | .mk .., cs, h => by simpa only [RT, Tre.n, Tre.s, Tre.z, Tre.l, Tre.u] using h
theorem RT.shut {s : Vw} {x : Tre} {cs : List Value} (h : ∃ sS sL sU, cs = [.int .i64 x.n, sS, .bool x.z, sL, sU] ∧ I64 x.n ∧ RSv s sS x.s ∧ (∃ lc, RS s 5 sL x.l.length lc ∧ RTs s x.l lc) ∧ RU s sU x.u) : RT s x cs := by
  cases x
  simpa only [RT, Tre.n, Tre.s, Tre.z, Tre.l, Tre.u] using h
theorem RF.cells {s : Vw} {f : Fld} {cs : List Value} (h : RF s f cs) : ∀ u ∈ cs, u.oneCell' = true := by
  obtain ⟨sv, rfl, lc, hV, _⟩ := h.open
  intro q hq
  simp only [List.mem_cons, List.not_mem_nil, or_false] at hq
  rcases hq with rfl | rfl | rfl | rfl | rfl | rfl | rfl | rfl <;> first | rfl | exact hV.one
theorem take_snoc' {α : Type} {l : List α} {i : Nat} (h : i < l.length) : l.take (i + 1) = l.take i ++ [l[i]] := by rw [List.take_succ_eq_append_getElem h]
/-! ### Unknown tags -/
abbrev Tags := List (Nat × List UInt8)
def pre (out : Tags) (k : Nat) : Nat := (out.takeWhile fun y => decide (y.1 < k)).length
def insT (least : Int) (out : Tags) (x : Nat × List UInt8) : Tags :=
  if (x.1 : Int) < least then out else if (out[pre out x.1]?.map (·.1)) = some x.1 then out else out.take (pre out x.1) ++ x :: out.drop (pre out x.1)
def unkn (least : Int) (l : Tags) : Tags := (l.take 32767).foldl (insT least) []
theorem RUs.cells {s : Vw} : ∀ {l : Tags} {cs : List Value}, RUs s l cs → cs.length = l.length * 2 ∧ ∀ u ∈ cs, u.oneCell' = true
  | [], cs, h => by simp only [RUs] at h; subst h; simp
  | (k, b) :: r, cs, ⟨v, c', h1, h2, h3, h4⟩ => by
    subst h1
    obtain ⟨h5, h6⟩ := RUs.cells h4
    refine ⟨by simp [h5]; omega, fun u hu => ?_⟩
    simp only [List.mem_cons] at hu
    rcases hu with rfl | rfl | hu
    · rfl
    · exact RS.one h3
    · exact h6 u hu
theorem RUs.key {s : Vw} : ∀ {l : Tags} {cs : List Value} {i : Nat} (hi : i < l.length), RUs s l cs → cs[i * 2]? = some (.int .u32 (l[i].1 : Int))
  | [], _, i, hi, _ => by simp at hi
  | (k, b) :: r, cs, 0, hi, ⟨v, c', h1, _⟩ => by subst h1; rfl
  | (k, b) :: r, cs, i + 1, hi, ⟨v, c', h1, h2, h3, h4⟩ => by
    subst h1
    have := RUs.key (i := i) (by simpa using hi) h4
    rw [show (i + 1) * 2 = i * 2 + 1 + 1 by omega]
    simpa using this
theorem RUs.take {s : Vw} : ∀ {l : Tags} {cs : List Value} (k : Nat), RUs s l cs → RUs s (l.take k) (cs.take (k * 2))
  | [], cs, k, h => by simp only [RUs] at h; subst h; simp [RUs]
  | (a, b) :: r, cs, 0, h => by simp [RUs]
  | (a, b) :: r, cs, k + 1, ⟨v, c', h1, h2, h3, h4⟩ => by
    subst h1
    rw [show (k + 1) * 2 = k * 2 + 1 + 1 by omega, List.take_succ_cons, List.take_succ_cons, List.take_succ_cons]
    exact ⟨v, _, rfl, h2, h3, RUs.take k h4⟩
theorem RUs.drop {s : Vw} : ∀ {l : Tags} {cs : List Value} (k : Nat), RUs s l cs → RUs s (l.drop k) (cs.drop (k * 2))
  | [], cs, k, h => by simp only [RUs] at h; subst h; simp [RUs]
  | (a, b) :: r, cs, 0, h => by simpa using h
  | (a, b) :: r, cs, k + 1, ⟨v, c', h1, h2, h3, h4⟩ => by
    subst h1
    rw [show (k + 1) * 2 = k * 2 + 1 + 1 by omega, List.drop_succ_cons, List.drop_succ_cons, List.drop_succ_cons]
    exact RUs.drop k h4
theorem RUs.cons {s : Vw} {k : Nat} {b : List UInt8} {v : Value} {l : Tags} {cs : List Value} (hk : k < 4294967296) (h : RSv s v b) (hl : RUs s l cs) : RUs s ((k, b) :: l) (.int .u32 k :: v :: cs) := ⟨v, cs, rfl, hk, h, hl⟩
end K
end Go.Proofs.YtjjfpdofkdolnaaDoor
