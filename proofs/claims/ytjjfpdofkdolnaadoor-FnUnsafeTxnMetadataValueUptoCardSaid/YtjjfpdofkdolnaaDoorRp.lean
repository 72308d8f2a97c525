import Derived.Test.YtjjfpdofkdolnaaDoorFh
set_option linter.unusedVariables false
set_option linter.unusedSimpArgs false
namespace Go.Proofs.YtjjfpdofkdolnaaDoor
namespace K
open Go Go.Lib

/-! ### 1. Octets -/
def b8 (x : Int) : UInt8 := UInt8.ofInt x
def u8v (b : UInt8) : Value := .int .u8 (b.toNat : Int)
@[simp] theorem one_u8v (b : UInt8) : (u8v b).oneCell' = true := rfl
def u8s (l : List UInt8) : List Value := l.map u8v
theorem wrap_u8 (x : Int) : IntKind.u8.wrap x = ((b8 x).toNat : Int) := by
  have h1 : IntKind.u8.wrap x = x % 256 := by
    simp [IntKind.wrap, IntKind.bits, IntKind.signed]
  rw [h1, b8, UInt8.ofInt]
  simp
  omega
theorem b8_mod (x : Int) : b8 (x % 256) = b8 x := by
  apply UInt8.toNat_inj.1
  have h1 := wrap_u8 x
  have h2 := wrap_u8 (x % 256)
  have e1 : IntKind.u8.wrap x = x % 256 := by simp [IntKind.wrap, IntKind.bits, IntKind.signed]
  have e2 : IntKind.u8.wrap (x % 256) = x % 256 % 256 := by simp [IntKind.wrap, IntKind.bits, IntKind.signed]
  omega
theorem b8_congr {x y : Int} (h : x % 256 = y % 256) : b8 x = b8 y := by rw [← b8_mod x, h, b8_mod]
@[simp] theorem u8s_nil : u8s [] = [] := rfl
@[simp] theorem u8s_cons (b : UInt8) (l : List UInt8) : u8s (b :: l) = u8v b :: u8s l := rfl
@[simp] theorem u8s_append (a b : List UInt8) : u8s (a ++ b) = u8s a ++ u8s b := by simp [u8s]
@[simp] theorem u8s_length (l : List UInt8) : (u8s l).length = l.length := by simp [u8s]
theorem u8s_one (l : List UInt8) : ∀ u ∈ u8s l, u.oneCell' = true := by
  intro u hu
  obtain ⟨b, _, rfl⟩ := List.mem_map.1 hu
  rfl
theorem strCells_u8s (z : ByteArray) : strCells z = u8s z.data.toList := by
  simp [strCells, u8s, u8v]
/-- A number in k octets, the highest first. -/
def fixed (x : Int) : Nat → List UInt8
  | 0 => []
  | k + 1 => b8 (x / 2 ^ (8 * k)) :: fixed x k
@[simp] theorem fixed_length (x : Int) (k : Nat) : (fixed x k).length = k := by induction k with | zero => rfl | succ k ih => simp [fixed, ih]
theorem fixed_mod (x : Int) (k m : Nat) (h : k ≤ m) : fixed (x % 2 ^ (8 * m)) k = fixed x k := by
  induction k with
  | zero => rfl
  | succ k ih =>
    simp only [fixed, ih (by omega)]
    congr 1
    apply b8_congr
    have e : (2 : Int) ^ (8 * m) = 2 ^ (8 * k) * (256 * 2 ^ (8 * (m - k - 1))) := by
      have h256 : (256 : Int) = 2 ^ 8 := by decide
      rw [h256, ← Int.pow_add, ← Int.pow_add]
      congr 1
      omega
    have hp : (0 : Int) < 2 ^ (8 * k) := Int.pow_pos (by decide)
    rw [e]
    generalize (2 : Int) ^ (8 * k) = A at hp ⊢
    generalize (2 : Int) ^ (8 * (m - k - 1)) = B
    have h1 : x % (A * (256 * B)) = x - A * (256 * B) * (x / (A * (256 * B))) := by rw [Int.emod_def]
    rw [h1, show x - A * (256 * B) * (x / (A * (256 * B))) = x + A * (-(256 * B) * (x / (A * (256 * B)))) by rw [Int.sub_eq_add_neg, Int.neg_mul, Int.mul_neg, Int.mul_assoc], Int.add_mul_ediv_left _ _ (Int.ne_of_gt hp)]
    rw [show -(256 * B) * (x / (A * (256 * B))) = 256 * (-(B * (x / (A * (256 * B))))) by rw [Int.neg_mul, Int.mul_neg, Int.mul_assoc]]
    rw [Int.add_mul_emod_self_left]
/-- A number in groups of seven bits. -/
def uvar (n : Nat) : List UInt8 := if n ≤ 127 then [b8 n] else b8 (n % 128 + 128 : Nat) :: uvar (n / 128)
termination_by n
decreasing_by omega
theorem uvar_lo {n : Nat} (h : n ≤ 127) : uvar n = [b8 n] := by rw [uvar, if_pos h]
theorem uvar_hi {n : Nat} (h : 127 < n) : uvar n = b8 (n % 128 + 128 : Nat) :: uvar (n / 128) := by rw [uvar, if_neg (by omega)]
theorem uvar_length_le (n : Nat) (k : Nat) : n < 128 ^ (k + 1) → (uvar n).length ≤ k + 1 := by
  induction k generalizing n with
  | zero => intro h; rw [uvar_lo (by omega)]; simp
  | succ k ih =>
    intro h
    by_cases h1 : n ≤ 127
    · rw [uvar_lo h1]; simp
    · rw [uvar_hi (by omega)]
      have := ih (n / 128) (by rw [Nat.div_lt_iff_lt_mul (by omega)]; rw [Nat.pow_succ] at h; omega)
      simp only [List.length_cons]
      omega

/-! ### 2. Trees and fields -/
inductive Tre where
  | mk (n : Int) (s : List UInt8) (z : Bool) (l : List Tre) (u : List (Nat × List UInt8))
def Tre.n : Tre → Int | .mk n _ _ _ _ => n
def Tre.s : Tre → List UInt8 | .mk _ s _ _ _ => s
def Tre.z : Tre → Bool | .mk _ _ z _ _ => z
def Tre.l : Tre → List Tre | .mk _ _ _ l _ => l
def Tre.u : Tre → List (Nat × List UInt8) | .mk _ _ _ _ u => u
def Tre.nul : Tre := .mk 0 [] false [] []
def Tre.at_ (t : Tre) (i : Nat) : Tre := t.l[i]?.getD .nul
inductive Fld where
  | mk (kind frm to nul tag dflt of_ : Int) (sub : List Fld)
def Fld.kind : Fld → Int | .mk k _ _ _ _ _ _ _ => k
def Fld.frm : Fld → Int | .mk _ k _ _ _ _ _ _ => k
def Fld.to : Fld → Int | .mk _ _ k _ _ _ _ _ => k
def Fld.nul : Fld → Int | .mk _ _ _ k _ _ _ _ => k
def Fld.tag : Fld → Int | .mk _ _ _ _ k _ _ _ => k
def Fld.dflt : Fld → Int | .mk _ _ _ _ _ k _ _ => k
def Fld.of_ : Fld → Int | .mk _ _ _ _ _ _ k _ => k
def Fld.sub : Fld → List Fld | .mk _ _ _ _ _ _ _ s => s

/-! ### 3. How they lie in memory -/
def RSv (s : Vw) (v : Value) (l : List UInt8) : Prop := RS s 1 v l.length (u8s l)
theorem RSv.mv {s t : Vw} {v : Value} {l : List UInt8} (h : RSv s v l) (ht : Tr s t) : RSv t v l := RS.mv h ht
def I64 (x : Int) : Prop := -9223372036854775808 ≤ x ∧ x ≤ 9223372036854775807
def RUs (s : Vw) : List (Nat × List UInt8) → List Value → Prop
  | [], cs => cs = []
  | (k, b) :: r, cs => ∃ v c', cs = .int .u32 k :: v :: c' ∧ k < 4294967296 ∧ RSv s v b ∧ RUs s r c'
def RU (s : Vw) (v : Value) (u : List (Nat × List UInt8)) : Prop := ∃ uc, RS s 2 v u.length uc ∧ RUs s u uc
mutual
def RT (s : Vw) : Tre → List Value → Prop
  | .mk n b z l u, cs => ∃ sS sL sU, cs = [.int .i64 n, sS, .bool z, sL, sU] ∧ I64 n ∧ RSv s sS b ∧ (∃ lc, RS s 5 sL l.length lc ∧ RTs s l lc) ∧ RU s sU u
def RTs (s : Vw) : List Tre → List Value → Prop
  | [], cs => cs = []
  | t :: r, cs => ∃ c c', cs = c ++ c' ∧ RT s t c ∧ RTs s r c'
end
mutual
def RF (s : Vw) : Fld → List Value → Prop
  | .mk k a b c d e o sub, cs => ∃ v, cs = [.int .i64 k, .int .i64 a, .int .i64 b, .int .i64 c, .int .i64 d, .int .i64 e, .int .i64 o, v] ∧ (∃ lc, RS s 8 v sub.length lc ∧ RFs s sub lc)
def RFs (s : Vw) : List Fld → List Value → Prop
  | [], cs => cs = []
  | t :: r, cs => ∃ c c', cs = c ++ c' ∧ RF s t c ∧ RFs s r c'
end
theorem RUs.mv {s t : Vw} (ht : Tr s t) : ∀ {u : List (Nat × List UInt8)} {cs : List Value}, RUs s u cs → RUs t u cs
  | [], _, h => h
  | (_, _) :: _, _, ⟨v, c', h1, h2, h3, h4⟩ => ⟨v, c', h1, h2, h3.mv ht, RUs.mv ht h4⟩
theorem RU.mv {s t : Vw} {v : Value} {u : List (Nat × List UInt8)} (h : RU s v u) (ht : Tr s t) : RU t v u := by
  obtain ⟨uc, h1, h2⟩ := h
  exact ⟨uc, h1.mv ht, RUs.mv ht h2⟩
mutual
theorem RT.mv {s t : Vw} : ∀ {x : Tre} {cs : List Value}, RT s x cs → Tr s t → RT t x cs
  | .mk n b z l u, cs, h, ht => by
    simp only [RT] at h ⊢
    obtain ⟨sS, sL, sU, h1, h2, h3, ⟨lc, h4, h5⟩, h6⟩ := h
    exact ⟨sS, sL, sU, h1, h2, h3.mv ht, ⟨lc, h4.mv ht, RTs.mv h5 ht⟩, h6.mv ht⟩
theorem RTs.mv {s t : Vw} : ∀ {x : List Tre} {cs : List Value}, RTs s x cs → Tr s t → RTs t x cs
  | [], cs, h, ht => by simp only [RTs] at h ⊢; exact h
  | x :: r, cs, h, ht => by
    simp only [RTs] at h ⊢
    obtain ⟨c, c', h1, h2, h3⟩ := h
    exact ⟨c, c', h1, RT.mv h2 ht, RTs.mv h3 ht⟩
end
mutual
theorem RF.mv {s t : Vw} : ∀ {x : Fld} {cs : List Value}, RF s x cs → Tr s t → RF t x cs
  | .mk k a b c d e o sub, cs, h, ht => by
    simp only [RF] at h ⊢
    obtain ⟨v, h1, lc, h4, h5⟩ := h
    exact ⟨v, h1, lc, h4.mv ht, RFs.mv h5 ht⟩
theorem RFs.mv {s t : Vw} : ∀ {x : List Fld} {cs : List Value}, RFs s x cs → Tr s t → RFs t x cs
  | [], cs, h, ht => by simp only [RFs] at h ⊢; exact h
  | x :: r, cs, h, ht => by
    simp only [RFs] at h ⊢
    obtain ⟨c, c', h1, h2, h3⟩ := h
    exact ⟨c, c', h1, RF.mv h2 ht, RFs.mv h3 ht⟩
end
theorem RS.len {s : Vw} {sz : Nat} {v : Value} {m : Nat} {cs : List Value} (h : RS s sz v m cs) : cs.length = m * sz := h.1
/-- A slice that is read is a slice. -/
theorem RS.shape {s : Vw} {sz : Nat} {v : Value} {m : Nat} {cs : List Value} (h : RS s sz v m cs) : ∃ ad c, v = .slice ad m c ∧ m ≤ c := by
  rcases h.2.2 with ⟨rfl, rfl⟩ | ⟨a, c, rfl, hc, _⟩
  · exact ⟨none, 0, rfl, Nat.le_refl _⟩
  · exact ⟨_, c, rfl, hc⟩
theorem RS.one {s : Vw} {sz : Nat} {v : Value} {m : Nat} {cs : List Value} (h : RS s sz v m cs) : v.oneCell' = true := by
  obtain ⟨ad, c, rfl, _⟩ := h.shape
  rfl
theorem RS.pos {s : Vw} {sz : Nat} {ad : Option Addr} {m c : Nat} {cs : List Value} (h : RS s sz (.slice ad m c) m cs) (hp : 0 < m) (hsz : 0 < sz) : ∃ b o, ad = some ⟨b, o, none⟩ ∧ RC s b o cs := by
  rcases h.2.2 with ⟨_, h0⟩ | ⟨a, c', he, _, hr⟩
  · omega
  · simp only [Value.slice.injEq] at he
    obtain ⟨rfl, _, _⟩ := he
    have hl := h.1
    have hpos : 0 < m * sz := Nat.mul_pos hp hsz
    obtain ⟨h0, hrc⟩ := hr (by rintro rfl; simp at hl; omega)
    obtain ⟨b, o, sp⟩ := a
    simp only at h0 hrc
    subst h0
    exact ⟨b, o, rfl, hrc⟩
theorem RC.sub {s : Vw} {b o : Nat} {cs : List Value} (h : RC s b o cs) (k : Nat) {c1 c2 c3 : List Value} (he : cs = c1 ++ c2 ++ c3) (hk : c1.length = k) : RC s b (o + k) c2 := by
  refine ⟨h.1, fun j v hv => ?_⟩
  subst hk he
  have hj : j < c2.length := (List.getElem?_eq_some_iff.1 hv).1
  have := h.2 (c1.length + j) v (by rw [List.append_assoc, List.getElem?_append_right (by omega), Nat.add_sub_cancel_left, List.getElem?_append_left hj]; exact hv)
  rwa [← Nat.add_assoc] at this
theorem RT.len {s : Vw} {x : Tre} {cs : List Value} (h : RT s x cs) : cs.length = 5 := by
  cases x
  simp only [RT] at h
  obtain ⟨_, _, _, rfl, _⟩ := h
  rfl
theorem RF.len {s : Vw} {x : Fld} {cs : List Value} (h : RF s x cs) : cs.length = 8 := by
  cases x
  simp only [RF] at h
  obtain ⟨_, rfl, _⟩ := h
  rfl
theorem RTs.at_ {s : Vw} : ∀ {l : List Tre} {cs : List Value} {i : Nat} (hi : i < l.length), RTs s l cs → ∃ c1 c2 c3, cs = c1 ++ c2 ++ c3 ∧ c1.length = i * 5 ∧ RT s l[i] c2
  | [], _, i, hi, _ => by simp at hi
  | x :: r, cs, 0, hi, h => by
    simp only [RTs] at h
    obtain ⟨c, c', h1, h2, h3⟩ := h
    exact ⟨[], c, c', by simpa using h1, rfl, h2⟩
  | x :: r, cs, i + 1, hi, h => by
    simp only [RTs] at h
    obtain ⟨c, c', h1, h2, h3⟩ := h
    obtain ⟨c1, c2, c3, h4, h5, h6⟩ := RTs.at_ (by simpa using hi) h3
    exact ⟨c ++ c1, c2, c3, by rw [h1, h4]; simp, by simp [h2.len, h5]; omega, by simpa using h6⟩
theorem RFs.at_ {s : Vw} : ∀ {l : List Fld} {cs : List Value} {i : Nat} (hi : i < l.length), RFs s l cs → ∃ c1 c2 c3, cs = c1 ++ c2 ++ c3 ∧ c1.length = i * 8 ∧ RF s l[i] c2
  | [], _, i, hi, _ => by simp at hi
  | x :: r, cs, 0, hi, h => by
    simp only [RFs] at h
    obtain ⟨c, c', h1, h2, h3⟩ := h
    exact ⟨[], c, c', by simpa using h1, rfl, h2⟩
  | x :: r, cs, i + 1, hi, h => by
    simp only [RFs] at h
    obtain ⟨c, c', h1, h2, h3⟩ := h
    obtain ⟨c1, c2, c3, h4, h5, h6⟩ := RFs.at_ (by simpa using hi) h3
    exact ⟨c ++ c1, c2, c3, by rw [h1, h4]; simp, by simp [h2.len, h5]; omega, by simpa using h6⟩
theorem RUs.at_ {s : Vw} : ∀ {l : List (Nat × List UInt8)} {cs : List Value} {i : Nat} (hi : i < l.length), RUs s l cs → ∃ c1 v c3, cs = c1 ++ [.int .u32 (l[i].1 : Int), v] ++ c3 ∧ c1.length = i * 2 ∧ l[i].1 < 4294967296 ∧ RSv s v l[i].2
  | [], _, i, hi, _ => by simp at hi
  | (k, b) :: r, cs, 0, hi, h => by
    obtain ⟨v, c', h1, h2, h3, h4⟩ := h
    exact ⟨[], v, c', by simpa using h1, rfl, h2, h3⟩
  | (k, b) :: r, cs, i + 1, hi, h => by
    obtain ⟨v0, c', h1, h2, h3, h4⟩ := h
    obtain ⟨c1, v, c3, h5, h6, h7, h8⟩ := RUs.at_ (by simpa using hi) h4
    exact ⟨.int .u32 k :: v0 :: c1, v, c3, by rw [h1, h5]; simp, by simp [h6]; omega, by simpa using h7, by simpa using h8⟩
theorem RTs.append {s : Vw} : ∀ {l m : List Tre} {c d : List Value}, RTs s l c → RTs s m d → RTs s (l ++ m) (c ++ d)
  | [], m, c, d, h, k => by simp only [RTs] at h; subst h; simpa using k
  | x :: r, m, c, d, h, k => by
    simp only [RTs, List.cons_append] at h ⊢
    obtain ⟨c1, c2, h1, h2, h3⟩ := h
    exact ⟨c1, c2 ++ d, by rw [h1]; simp, h2, RTs.append h3 k⟩
theorem RTs.one {s : Vw} {t : Tre} {c : List Value} (h : RT s t c) : RTs s [t] c := by simp only [RTs]; exact ⟨c, [], by simp, h, rfl⟩
theorem RUs.append {s : Vw} : ∀ {l m : List (Nat × List UInt8)} {c d : List Value}, RUs s l c → RUs s m d → RUs s (l ++ m) (c ++ d)
  | [], m, c, d, h, k => by simp only [RUs] at h; subst h; simpa using k
  | (a, b) :: r, m, c, d, ⟨v, c', h1, h2, h3, h4⟩, k => ⟨v, c' ++ d, by rw [h1]; simp, h2, h3, RUs.append h4 k⟩
theorem RUs.one_ {s : Vw} {k : Nat} {b : List UInt8} {v : Value} (hk : k < 4294967296) (h : RSv s v b) : RUs s [(k, b)] [.int .u32 k, v] := ⟨v, [], rfl, hk, h, rfl⟩
theorem RT.cells {s : Vw} : ∀ {x : Tre} {cs : List Value}, RT s x cs → ∀ u ∈ cs, u.oneCell' = true
  | .mk n b z l u, cs, h => by
    simp only [RT] at h
    obtain ⟨sS, sL, sU, rfl, _, h3, ⟨lc, h4, _⟩, ⟨uc, h6, _⟩⟩ := h
    intro q hq
    simp only [List.mem_cons, List.not_mem_nil, or_false] at hq
    rcases hq with rfl | rfl | rfl | rfl | rfl
    · rfl
    · exact RS.one h3
    · rfl
    · exact h4.one
    · exact h6.one
theorem RT.nul (s : Vw) : RT s .nul [.int .i64 0, .slice none 0 0, .bool false, .slice none 0 0, .slice none 0 0] := by
  have h : ∀ sz, RS s sz (.slice none 0 0) 0 [] := fun sz => ⟨by simp, by simp, .inl ⟨rfl, rfl⟩⟩
  simp only [Tre.nul, RT]
  exact ⟨_, _, _, rfl, by simp [I64], h 1, ⟨[], h 5, by simp [RTs]⟩, ⟨[], h 2, rfl⟩⟩
end K
end Go.Proofs.YtjjfpdofkdolnaaDoor
