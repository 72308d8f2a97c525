import Derived.Test.YtjjfpdofkdolnaaDoorRp
import Derived.Laws.BitsLemmas
set_option linter.unusedVariables false
set_option linter.unusedSimpArgs false
namespace Go.Proofs.YtjjfpdofkdolnaaDoor
namespace K
open Go Go.Lib
theorem wrap_u32_in {x : Int} (h0 : 0 ≤ x) (h1 : x < 4294967296) : IntKind.u32.wrap x = x := by rw [IntKind.wrap_u32]; omega
theorem wrap_u64_in {x : Int} (h0 : 0 ≤ x) (h1 : x < 18446744073709551616) : IntKind.u64.wrap x = x := by
  simp [IntKind.wrap, IntKind.bits, IntKind.signed]; omega
theorem wrap_u64_eq (x : Int) : IntKind.u64.wrap x = x % 18446744073709551616 := by simp [IntKind.wrap, IntKind.bits, IntKind.signed]
theorem wrap_u32_eq (x : Int) : IntKind.u32.wrap x = x % 4294967296 := by simp [IntKind.wrap, IntKind.bits, IntKind.signed]
theorem wrap_u16_eq (x : Int) : IntKind.u16.wrap x = x % 65536 := by simp [IntKind.wrap, IntKind.bits, IntKind.signed]
theorem wrap_u8_in {x : Int} (h0 : 0 ≤ x) (h1 : x < 256) : IntKind.u8.wrap x = x := by rw [IntKind.wrap_u8]; omega
theorem wrap_succ {i : Nat} (h : i < 9223372036854775807) : IntKind.i64.wrap ((i : Int) + 1) = ((i + 1 : Nat) : Int) := by
  rw [wrap_i64 (by omega) (by omega)]; omega
theorem and127_u64 {x : Int} (h0 : 0 ≤ x) (h1 : x < 18446744073709551616) : bits .and .u64 x 127 = x % 128 := bits_mask .u64 64 (by decide) (fun n h0 h1 => wrap_u64_in h0 (by simpa using h1)) 7 (by decide) x h0 (by simpa using h1)
theorem and127_u8 {x : Int} (h0 : 0 ≤ x) (h1 : x < 256) : bits .and .u8 x 127 = x % 128 := bits_mask .u8 8 (by decide) wraps_u8 7 (by decide) x h0 (by simpa using h1)
theorem and1_i64 {x : Int} (h0 : -9223372036854775808 ≤ x) (h1 : x ≤ 9223372036854775807) : bits .and .i64 x 1 = x % 2 := by
  have e : BitVec.ofInt 64 x &&& BitVec.ofInt 64 1 = BitVec.ofNat 64 (x % 2).toNat := by
    apply BitVec.eq_of_toNat_eq
    have h2 : (BitVec.ofInt 64 1).toNat = 1 := by decide
    rw [BitVec.toNat_and, h2, Nat.and_one_is_mod, BitVec.toNat_ofInt, BitVec.toNat_ofNat]
    omega
  have e2 : ((BitVec.ofNat 64 (x % 2).toNat).toNat : Int) = x % 2 := by
    rw [BitVec.toNat_ofNat]; omega
  have hb : IntKind.i64.bits = 64 := rfl
  simp only [bits]
  show IntKind.i64.wrap ((BitVec.ofInt 64 x &&& BitVec.ofInt 64 1).toNat : Int) = _
  rw [e, e2, wrap_i64 (by omega) (by omega)]
theorem or128 (k : IntKind) (hk : 8 ≤ k.bits) (hw : ∀ n : Int, 0 ≤ n → n < 2 ^ 8 → k.wrap n = n) {x : Int} (h0 : 0 ≤ x) (h1 : x < 128) : bits .or k x 128 = x + 128 := by
  have h := bits_join k 8 hk hw 7 128 x (by decide) (by decide) (by decide) h0 (by omega) (by omega)
  obtain ⟨a, rfl⟩ := Int.eq_ofNat_of_zero_le h0
  have e1 := (bits_nat k 8 hk hw 128 a (by decide) (by omega)).2
  have e2 := (bits_nat k 8 hk hw a 128 (by omega) (by decide)).2
  have e3 : ((128 : Nat) : Int) = 128 := rfl
  rw [e3] at e1 e2
  rw [e2, Nat.or_comm, ← e1, h]
  omega
theorem or128_u8 {x : Int} (h0 : 0 ≤ x) (h1 : x < 128) : bits .or .u8 x 128 = x + 128 := or128 .u8 (by decide) wraps_u8 h0 h1
section
variable {P : Program} {n : Nat} {L : Env} {S : World → Prop} {d : Option Nat} {ty : TypeId} {pos : String} {af : Array Edge} {g : Option (Nat × Bool)} {t u : TypeId} {x y : Operand} {k : IntKind} {i j r : Int}
theorem pv_and' (hx : ev L x = some (.int k i)) (hy : ev L y = some (.int k j)) (hr : bits .and k i j = r) : PV P S ⟨d, .binOp .and t x y u, ty, pos, af, g⟩ n L (.int k r) := hr ▸ pv_and hx hy
theorem pv_or' (hx : ev L x = some (.int k i)) (hy : ev L y = some (.int k j)) (hr : bits .or k i j = r) : PV P S ⟨d, .binOp .or t x y u, ty, pos, af, g⟩ n L (.int k r) := hr ▸ pv_or hx hy
theorem pv_mul' (hx : ev L x = some (.int k i)) (hy : ev L y = some (.int k j)) (hr : k.wrap (i * j) = r) : PV P S ⟨d, .binOp .mul t x y u, ty, pos, af, g⟩ n L (.int k r) := fun a w hF _ => by
  subst hr
  simp [execOp, hF.ev hx, hF.ev hy, binOp, Op.intArith, eqGuard_mul]
theorem pv_shr' {yk : IntKind} (hx : ev L x = some (.int k i)) (hy : ev L y = some (.int yk j)) (h0 : 0 ≤ j) (h1 : j ≤ k.bits) (hr : i / 2 ^ j.toNat = r) : PV P S ⟨d, .binOp .shr t x y u, ty, pos, af, g⟩ n L (.int k r) := hr ▸ pv_shr hx hy h0 h1
theorem pv_max' {ts : Array TypeId} (hx : ev L x = some (.int k i)) (hy : ev L y = some (.int k j)) (hr : (if i < j then j else i) = r) :
    PV P S ⟨d, .call ⟨.builtin .max, #[x, y], ts⟩, ty, pos, af, g⟩ n L (.int k r) := fun a w hF _ => by
  subst hr
  simp [execOp, resolve, invoke, builtin, hF.ev hx, hF.ev hy, Builtin.max_, Builtin.max2]
end
/-- spec.Flexible numbers: what a field is, in Bools and numbers -/
def nullB (f : Fld) (v : Int) (t : Tre) : Bool := t.z && decide (f.nul ≥ 0) && decide (v ≥ f.nul)
def hasB (f : Fld) (v : Int) : Bool := decide (f.frm ≤ v) && (decide (f.to < 0) || decide (v ≤ f.to))
def widthN (k : Int) : Nat := if k = 1 then 1 else if k = 2 ∨ k = 5 then 2 else if k = 3 then 4 else 8
def known : List Fld → Int
  | [] => 0
  | f :: r => if f.tag ≥ 0 then max (f.tag + 1) (known r) else known r
def TagOk (l : List Fld) : Prop := ∀ f ∈ l, f.tag < 1000000
def counted (flex null : Bool) (n : Nat) (size : Nat) : List UInt8 := if flex && null then [0] else if flex then uvar (n + 1) else if null then fixed (-1) size else fixed n size
theorem b8_val {x : Int} (h0 : 0 ≤ x) (h1 : x < 256) : ((b8 x).toNat : Int) = x := by rw [← wrap_u8, wrap_u8_in h0 h1]
theorem known_snoc : ∀ (l : List Fld) (f : Fld), known (l ++ [f]) = if f.tag ≥ 0 then max (known l) (f.tag + 1) else known l
  | [], f => by
    simp only [List.nil_append, known]
    split <;> omega
  | x :: r, f => by
    simp only [List.cons_append, known, known_snoc r f]
    split <;> split <;> omega
theorem known_nonneg : ∀ (l : List Fld), 0 ≤ known l
  | [] => by simp [known]
  | x :: r => by
    have := known_nonneg r
    simp only [known]
    split <;> omega
theorem known_le : ∀ {l : List Fld}, TagOk l → known l ≤ 1000000
  | [], _ => by simp [known]
  | x :: r, h => by
    have h1 := known_le (l := r) fun f hf => h f (List.mem_cons_of_mem _ hf)
    have h2 := h x List.mem_cons_self
    simp only [known]
    split <;> omega
theorem TagOk.take {l : List Fld} (h : TagOk l) (k : Nat) : TagOk (l.take k) := fun f hf => h f (List.mem_of_mem_take hf)
theorem RF.open {s : Vw} : ∀ {f : Fld} {cs : List Value}, RF s f cs → ∃ sv, cs = [.int .i64 f.kind, .int .i64 f.frm, .int .i64 f.to, .int .i64 f.nul, .int .i64 f.tag, .int .i64 f.dflt, .int .i64 f.of_, sv] ∧ ∃ lc, RS s 8 sv f.sub.length lc ∧ RFs s f.sub lc
  | .mk .., cs, h => by simpa only [RF, Fld.kind, Fld.frm, Fld.to, Fld.nul, Fld.tag, Fld.dflt, Fld.of_, Fld.sub] using h
theorem RT.open {s : Vw} : ∀ {x : Tre} {cs : List Value}, RT s x cs → ∃ sS sL sU, cs = [.int .i64 x.n, sS, .bool x.z, sL, sU] ∧ I64 x.n ∧ RSv s sS x.s ∧ (∃ lc, RS s 5 sL x.l.length lc ∧ RTs s x.l lc) ∧ RU s sU x.u
  | .mk .., cs, h => by simpa only [RT, Tre.n, Tre.s, Tre.z, Tre.l, Tre.u] using h
theorem RT.shut {s : Vw} {x : Tre} {cs : List Value} (h : ∃ sS sL sU, cs = [.int .i64 x.n, sS, .bool x.z, sL, sU] ∧ I64 x.n ∧ RSv s sS x.s ∧ (∃ lc, RS s 5 sL x.l.length lc ∧ RTs s x.l lc) ∧ RU s sU x.u) : RT s x cs := by
  cases x
  simpa only [RT, Tre.n, Tre.s, Tre.z, Tre.l, Tre.u] using h
theorem RF.cells {s : Vw} {f : Fld} {cs : List Value} (h : RF s f cs) : ∀ u ∈ cs, u.oneCell' = true := by
  obtain ⟨sv, rfl, lc, hV, _⟩ := h.open
  intro q hq
  simp only [List.mem_cons, List.not_mem_nil, or_false] at hq
  rcases hq with rfl | rfl | rfl | rfl | rfl | rfl | rfl | rfl <;> first | rfl | exact hV.one
theorem take_snoc' {α : Type} {l : List α} {i : Nat} (h : i < l.length) : l.take (i + 1) = l.take i ++ [l[i]] := by rw [List.take_succ_eq_append_getElem h]
theorem fixed_snoc (x : Int) (k : Nat) : fixed x (k + 1) = b8 (x / 2 ^ (8 * k)) :: fixed x k := rfl
/-- the last k octets of Fixed are still to come: what has been made -/
def fixedTop (x : Int) (size k : Nat) : List UInt8 := (fixed x size).take (size - k)
theorem fixed_split (x : Int) : ∀ (size k : Nat), k ≤ size → fixed x size = fixedTop x size k ++ fixed x k
  | 0, k, h => by
    have : k = 0 := by omega
    subst this
    rfl
  | size + 1, k, h => by
    by_cases e : k = size + 1
    · subst e; simp [fixedTop]
    · have ih := fixed_split x size k (by omega)
      simp only [fixedTop, fixed_snoc]
      rw [show size + 1 - k = (size - k) + 1 by omega, List.take_succ_cons]
      simp only [fixedTop] at ih
      rw [List.cons_append, ← ih]
theorem fixedTop_step (x : Int) (size k : Nat) (h : k + 1 ≤ size) : fixedTop x size k = fixedTop x size (k + 1) ++ [b8 (x / 2 ^ (8 * k))] := by
  have h1 := fixed_split x size (k + 1) h
  have h2 := fixed_split x size k (by omega)
  rw [fixed_snoc, h2] at h1
  have e : fixedTop x size (k + 1) ++ b8 (x / 2 ^ (8 * k)) :: fixed x k = (fixedTop x size (k + 1) ++ [b8 (x / 2 ^ (8 * k))]) ++ fixed x k := by simp
  rw [e] at h1
  exact List.append_cancel_right h1
theorem fixedTop_full (x : Int) (size : Nat) : fixedTop x size size = [] := by simp [fixedTop]
theorem fixedTop_zero (x : Int) (size : Nat) : fixedTop x size 0 = fixed x size := by
  have := fixed_split x size 0 (Nat.zero_le _)
  simpa [fixed] using this.symm
/-- Uvarint, made from the front. -/
theorem uvar_front (pre : List UInt8) (n : Nat) (h : 127 < n) : pre ++ uvar n = (pre ++ [b8 (n % 128 + 128 : Nat)]) ++ uvar (n / 128) := by rw [uvar_hi h]; simp
/-! ### Unknown tags -/
abbrev Tags := List (Nat × List UInt8)
def pre (out : Tags) (k : Nat) : Nat := (out.takeWhile fun y => decide (y.1 < k)).length
def insT (least : Int) (out : Tags) (x : Nat × List UInt8) : Tags :=
  if (x.1 : Int) < least then out else if (out[pre out x.1]?.map (·.1)) = some x.1 then out else out.take (pre out x.1) ++ x :: out.drop (pre out x.1)
def unkn (least : Int) (l : Tags) : Tags := (l.take 32767).foldl (insT least) []
theorem pre_eq : ∀ {out : Tags} {k i : Nat}, i ≤ out.length → (∀ q, (h : q < out.length) → q < i → (out[q]).1 < k) → (∀ h : i < out.length, ¬ (out[i]).1 < k) → pre out k = i
  | [], k, i, h, _, _ => by simp at h; simp [pre, h]
  | x :: r, k, 0, h, h1, h2 => by
    have := h2 (by simp)
    simp only [List.getElem_cons_zero] at this
    simp [pre, List.takeWhile_cons, this]
  | x :: r, k, i + 1, h, h1, h2 => by
    have h0 := h1 0 (by simp) (by omega)
    simp only [List.getElem_cons_zero] at h0
    have ih := pre_eq (out := r) (k := k) (i := i) (by simpa using h) (fun q hq hqi => by have := h1 (q + 1) (by simpa using hq) (by omega); simpa using this) (fun h => by have := h2 (by simpa using h); simpa using this)
    simp only [pre, List.takeWhile_cons, h0, decide_true, if_true, List.length_cons]
    simp only [pre] at ih
    omega
theorem RUs.cells {s : Vw} : ∀ {l : Tags} {cs : List Value}, RUs s l cs → cs.length = l.length * 2 ∧ ∀ u ∈ cs, u.oneCell' = true
  | [], cs, h => by simp only [RUs] at h; subst h; simp
  | (k, b) :: r, cs, ⟨v, c', h1, h2, h3, h4⟩ => by
    subst h1
    obtain ⟨h5, h6⟩ := RUs.cells h4
    refine ⟨by simp [h5]; omega, fun u hu => ?_⟩
    simp only [List.mem_cons] at hu
    rcases hu with rfl | rfl | hu
    · rfl
    · exact RS.one h3
    · exact h6 u hu
theorem RUs.key {s : Vw} : ∀ {l : Tags} {cs : List Value} {i : Nat} (hi : i < l.length), RUs s l cs → cs[i * 2]? = some (.int .u32 (l[i].1 : Int))
  | [], _, i, hi, _ => by simp at hi
  | (k, b) :: r, cs, 0, hi, ⟨v, c', h1, _⟩ => by subst h1; rfl
  | (k, b) :: r, cs, i + 1, hi, ⟨v, c', h1, h2, h3, h4⟩ => by
    subst h1
    have := RUs.key (i := i) (by simpa using hi) h4
    rw [show (i + 1) * 2 = i * 2 + 1 + 1 by omega]
    simpa using this
theorem RUs.take {s : Vw} : ∀ {l : Tags} {cs : List Value} (k : Nat), RUs s l cs → RUs s (l.take k) (cs.take (k * 2))
  | [], cs, k, h => by simp only [RUs] at h; subst h; simp [RUs]
  | (a, b) :: r, cs, 0, h => by simp [RUs]
  | (a, b) :: r, cs, k + 1, ⟨v, c', h1, h2, h3, h4⟩ => by
    subst h1
    rw [show (k + 1) * 2 = k * 2 + 1 + 1 by omega, List.take_succ_cons, List.take_succ_cons, List.take_succ_cons]
    exact ⟨v, _, rfl, h2, h3, RUs.take k h4⟩
theorem RUs.drop {s : Vw} : ∀ {l : Tags} {cs : List Value} (k : Nat), RUs s l cs → RUs s (l.drop k) (cs.drop (k * 2))
  | [], cs, k, h => by simp only [RUs] at h; subst h; simp [RUs]
  | (a, b) :: r, cs, 0, h => by simpa using h
  | (a, b) :: r, cs, k + 1, ⟨v, c', h1, h2, h3, h4⟩ => by
    subst h1
    rw [show (k + 1) * 2 = k * 2 + 1 + 1 by omega, List.drop_succ_cons, List.drop_succ_cons, List.drop_succ_cons]
    exact RUs.drop k h4
theorem RUs.cons {s : Vw} {k : Nat} {b : List UInt8} {v : Value} {l : Tags} {cs : List Value} (hk : k < 4294967296) (h : RSv s v b) (hl : RUs s l cs) : RUs s ((k, b) :: l) (.int .u32 k :: v :: cs) := ⟨v, cs, rfl, hk, h, hl⟩
theorem shift_step {ys J : List Value} {k : Nat} (h1 : 1 ≤ k) (h2 : k * 2 ≤ ys.length) (hJ : J.length = 2) :
    wr (ys.take (k * 2) ++ J ++ ys.drop (k * 2)) (k * 2) ((ys.drop ((k - 1) * 2)).take 2) = ys.take ((k - 1) * 2) ++ (ys.drop ((k - 1) * 2)).take 2 ++ ys.drop ((k - 1) * 2) := by
  obtain ⟨k, rfl⟩ : ∃ q, k = q + 1 := ⟨k - 1, by omega⟩
  have e0 : k * 2 + 2 = (k + 1) * 2 := by omega
  simp only [Nat.add_sub_cancel]
  have el : ((ys.drop (k * 2)).take 2).length = 2 := by simp; omega
  have e1 : (ys.take ((k + 1) * 2)).length = (k + 1) * 2 := by simp; omega
  have e2 : ys.take ((k + 1) * 2) = ys.take (k * 2) ++ (ys.drop (k * 2)).take 2 := by
    rw [← e0, List.take_add]
  have e3 : ys.drop (k * 2) = (ys.drop (k * 2)).take 2 ++ ys.drop ((k + 1) * 2) := by
    conv => lhs; rw [← List.take_append_drop 2 (ys.drop (k * 2))]
    rw [List.drop_drop, e0]
  generalize hA : ys.take ((k + 1) * 2) = A at *
  generalize hB : ys.drop ((k + 1) * 2) = B at *
  generalize hC : (ys.drop (k * 2)).take 2 = C at *
  have ewr : wr (A ++ J ++ B) ((k + 1) * 2) C = A ++ C ++ B := by
    simp only [wr, el, ← e1]
    have t1 : (A ++ J ++ B).take A.length = A := by simp [List.append_assoc]
    have t2 : (A ++ J ++ B).drop (A.length + 2) = B := by
      rw [show A.length + 2 = (A ++ J).length by simp [hJ]]
      exact List.drop_left
    rw [t1, t2]
  rw [ewr, e2, e3]
  simp [List.append_assoc]
end K
end Go.Proofs.YtjjfpdofkdolnaaDoor
