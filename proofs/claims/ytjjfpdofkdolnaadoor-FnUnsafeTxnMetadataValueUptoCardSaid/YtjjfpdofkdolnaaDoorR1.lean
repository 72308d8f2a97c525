import Derived.Test.YtjjfpdofkdolnaaDoorA0
set_option linter.unusedVariables false
set_option linter.unusedSimpArgs false
namespace Go.Proofs.YtjjfpdofkdolnaaDoor
namespace K
open Go Go.Lib
/-! ### How a value of a schema lies in a struct of the package -/
def uuid (l : List UInt8) : List UInt8 := l.take 16 ++ List.replicate (16 - l.length) 0
theorem uuid_length (l : List UInt8) : (uuid l).length = 16 := by simp [uuid]; omega
/-- a value that is no list and no part -/
def RS1 (s : Vw) (k nul : Int) (y : Tre) (cs : List Value) : Prop :=
  if k = 0 then cs = [.bool (decide (y.n % 2 = 1))]
  else if k = 1 then cs = [.int .i8 (IntKind.i8.wrap y.n)]
  else if k = 2 then cs = [.int .i16 (IntKind.i16.wrap y.n)]
  else if k = 3 then cs = [.int .i32 (IntKind.i32.wrap y.n)]
  else if k = 4 then cs = [.int .i64 y.n] ∧ I64 y.n
  else if k = 5 then cs = [.int .u16 (IntKind.u16.wrap y.n)]
  else if k = 7 then cs = u8s (uuid y.s)
  else if k = 8 then if nul < 0 then cs = [.string ⟨y.s.toArray⟩] else ∃ c, cs = [c] ∧ Txt s c y
  else if k = 9 then ∃ c, cs = [c] ∧ Octs s c y
  else False
/-- the unknown tags behind a part's fields -/
def RKp (s : Vw) (l : List (Nat × Value)) (u : Tags) : Prop := ∃ u0, RK s l u0 ∧ u0.Perm u
theorem RKp.mv {s t : Vw} (ht : Tr s t) {l : List (Nat × Value)} {u : Tags} (h : RKp s l u) : RKp t l u := h.imp fun u0 h => ⟨RK.mv ht h.1, h.2⟩
theorem RKp.len {s : Vw} {l : List (Nat × Value)} {u : Tags} (h : RKp s l u) : l.length = u.length := by
  obtain ⟨u0, h1, h2⟩ := h
  rw [h1.len, h2.length_eq]
def RTg (s : Vw) (y : Tre) (mv : Value) : Prop := ∃ l, MK s mv l ∧ RKp s l y.u
mutual
def fsz : Fld → Nat
  | .mk k _ _ nul _ _ _ sub => if k = 7 then 16 else if k = 10 ∧ nul < 0 then fszs sub + 1 else 1
def fszs : List Fld → Nat
  | [] => 0
  | f :: r => fsz f + fszs r
end
def seg (lc : List Value) (i sz : Nat) : List Value := (lc.drop (i * sz)).take sz
mutual
def RMf (s : Vw) : Fld → Tre → List Value → Prop
  | .mk k _ _ nul _ _ o sub, y, cs =>
    if k = 11 then ∃ c, cs = [c] ∧ ((y.z = true ∧ c = .slice none 0 0) ∨ (y.z = false ∧ ∃ g off cap lc, c = .slice (some ⟨g, off, none⟩) y.l.length cap ∧ RS s (if o = 7 then 16 else if o = 10 then fszs sub + 1 else 1) c y.l.length lc ∧
      ∀ i, (hi : i < y.l.length) → if o = 10 then ∃ fc mv, seg lc i (fszs sub + 1) = fc ++ [mv] ∧ RMl s sub y.l[i] 0 fc ∧ RTg s y.l[i] mv else RS1 s o (-1) y.l[i] (seg lc i (if o = 7 then 16 else 1))))
    else if k = 10 then
      if nul < 0 then ∃ fc mv, cs = fc ++ [mv] ∧ RMl s sub y 0 fc ∧ RTg s y mv
      else ∃ c, cs = [c] ∧ ((y.z = true ∧ c = .pointer none) ∨ (y.z = false ∧ ∃ g pc, c = .pointer (some ⟨g, 0, none⟩) ∧ RC s g 0 pc ∧ ∃ fc mv, pc = fc ++ [mv] ∧ RMl s sub y 0 fc ∧ RTg s y mv))
    else RS1 s k nul y cs
def RMl (s : Vw) : List Fld → Tre → Nat → List Value → Prop
  | [], _, _, cs => cs = []
  | f :: r, y, i, cs => ∃ c c', cs = c ++ c' ∧ RMf s f (y.at_ i) c ∧ RMl s r y (i + 1) c'
end
/-- a part: its fields, and its unknown tags -/
def RMp (s : Vw) (fs : List Fld) (y : Tre) (cs : List Value) : Prop := ∃ fc mv, cs = fc ++ [mv] ∧ RMl s fs y 0 fc ∧ RTg s y mv
/-- a thing of a list -/
def REl (s : Vw) (o : Int) (sub : List Fld) (y : Tre) (cs : List Value) : Prop := if o = 10 then RMp s sub y cs else RS1 s o (-1) y cs
/-- a list -/
def RLs (s : Vw) (o : Int) (sub : List Fld) (y : Tre) (c : Value) : Prop := (y.z = true ∧ c = .slice none 0 0) ∨ (y.z = false ∧ ∃ g off cap lc, c = .slice (some ⟨g, off, none⟩) y.l.length cap ∧ RS s (if o = 7 then 16 else if o = 10 then fszs sub + 1 else 1) c y.l.length lc ∧ ∀ i, (hi : i < y.l.length) → REl s o sub y.l[i] (seg lc i (if o = 7 then 16 else if o = 10 then fszs sub + 1 else 1)))
theorem RMf_list {s : Vw} {a b nul c d o : Int} {sub : List Fld} {y : Tre} {cs : List Value} : RMf s (.mk 11 a b nul c d o sub) y cs ↔ ∃ c, cs = [c] ∧ RLs s o sub y c := by
  have e : ∀ lc i, (hi : i < y.l.length) → ((if o = 10 then ∃ fc mv, seg lc i (fszs sub + 1) = fc ++ [mv] ∧ RMl s sub y.l[i] 0 fc ∧ RTg s y.l[i] mv else RS1 s o (-1) y.l[i] (seg lc i (if o = 7 then 16 else 1))) ↔ REl s o sub y.l[i] (seg lc i (if o = 7 then 16 else if o = 10 then fszs sub + 1 else 1))) := fun lc i hi => by
    unfold REl RMp
    by_cases h : o = 10
    · simp [h]
    · simp [h]
  simp only [RMf, RLs, if_true, e]
theorem RMf_part {s : Vw} {a b nul c d o : Int} {sub : List Fld} {y : Tre} {cs : List Value} (hn : nul < 0) : RMf s (.mk 10 a b nul c d o sub) y cs ↔ RMp s sub y cs := by
  simp [RMf, RMp, hn]
/-- a part that may be null -/
def RPt (s : Vw) (sub : List Fld) (y : Tre) (c : Value) : Prop := (y.z = true ∧ c = .pointer none) ∨ (y.z = false ∧ ∃ g pc, c = .pointer (some ⟨g, 0, none⟩) ∧ RC s g 0 pc ∧ RMp s sub y pc)
theorem RMf_ptr {s : Vw} {a b nul c d o : Int} {sub : List Fld} {y : Tre} {cs : List Value} (hn : ¬ nul < 0) : RMf s (.mk 10 a b nul c d o sub) y cs ↔ ∃ c, cs = [c] ∧ RPt s sub y c := by
  simp [RMf, RMp, RPt, hn]
section kinds
variable {s : Vw} {a b nul c d o : Int} {sub : List Fld} {y : Tre} {cs : List Value}
theorem RMf_i8 : RMf s (.mk 1 a b nul c d o sub) y cs ↔ cs = [.int .i8 (IntKind.i8.wrap y.n)] := by simp [RMf, RS1]
theorem RMf_i16 : RMf s (.mk 2 a b nul c d o sub) y cs ↔ cs = [.int .i16 (IntKind.i16.wrap y.n)] := by simp [RMf, RS1]
theorem RMf_i32 : RMf s (.mk 3 a b nul c d o sub) y cs ↔ cs = [.int .i32 (IntKind.i32.wrap y.n)] := by simp [RMf, RS1]
theorem RMf_i64 : RMf s (.mk 4 a b nul c d o sub) y cs ↔ cs = [.int .i64 y.n] ∧ I64 y.n := by simp [RMf, RS1]
theorem RMf_str (h : nul < 0) : RMf s (.mk 8 a b nul c d o sub) y cs ↔ cs = [.string ⟨y.s.toArray⟩] := by simp [RMf, RS1, h]
end kinds
theorem RTg.mv {s t : Vw} {y : Tre} {mv : Value} (h : RTg s y mv) (ht : Tr s t) : RTg t y mv := by
  obtain ⟨l, h1, h2⟩ := h
  exact ⟨l, h1.mv ht, RKp.mv ht h2⟩
theorem RS1.mv {s t : Vw} {k nul : Int} {y : Tre} {cs : List Value} (h : RS1 s k nul y cs) (ht : Tr s t) : RS1 t k nul y cs := by
  unfold RS1 at h ⊢
  split
  · rename_i hk; simpa [hk] using h
  · rename_i hk; rw [if_neg hk] at h
    split
    · rename_i hk; simpa [hk] using h
    · rename_i hk; rw [if_neg hk] at h
      split
      · rename_i hk; simpa [hk] using h
      · rename_i hk; rw [if_neg hk] at h
        split
        · rename_i hk; simpa [hk] using h
        · rename_i hk; rw [if_neg hk] at h
          split
          · rename_i hk; simpa [hk] using h
          · rename_i hk; rw [if_neg hk] at h
            split
            · rename_i hk; simpa [hk] using h
            · rename_i hk; rw [if_neg hk] at h
              split
              · rename_i hk; simpa [hk] using h
              · rename_i hk; rw [if_neg hk] at h
                split
                · rename_i hk
                  rw [if_pos hk] at h
                  split
                  · rename_i hn; rwa [if_pos hn] at h
                  · rename_i hn
                    rw [if_neg hn] at h
                    obtain ⟨c, h1, h2⟩ := h
                    exact ⟨c, h1, h2.mv ht⟩
                · rename_i hk
                  rw [if_neg hk] at h
                  split
                  · rename_i hk
                    rw [if_pos hk] at h
                    obtain ⟨c, h1, h2⟩ := h
                    exact ⟨c, h1, h2.mv ht⟩
                  · rename_i hk
                    rwa [if_neg hk] at h
mutual
theorem RMf.mv {s t : Vw} (ht : Tr s t) : ∀ {f : Fld} {y : Tre} {cs : List Value}, RMf s f y cs → RMf t f y cs
  | .mk k a b nul c d o sub, y, cs, h => by
    by_cases h11 : k = 11
    · subst h11
      rw [RMf_list] at h ⊢
      obtain ⟨c, h1, h2⟩ := h
      refine ⟨c, h1, h2.imp id fun ⟨hz, g, off, cap, lc, h3, h4, h5⟩ => ⟨hz, g, off, cap, lc, h3, h4.mv ht, fun i hi => ?_⟩⟩
      have h6 := h5 i hi
      unfold REl at h6 ⊢
      by_cases ho : o = 10
      · rw [if_pos ho] at h6 ⊢
        obtain ⟨fc, mv, h7, h8, h9⟩ := h6
        exact ⟨fc, mv, h7, RMl.mv ht h8, h9.mv ht⟩
      · rw [if_neg ho] at h6 ⊢
        exact h6.mv ht
    · by_cases h10 : k = 10
      · subst h10
        by_cases hn : nul < 0
        · rw [RMf_part hn] at h ⊢
          obtain ⟨fc, mv, h7, h8, h9⟩ := h
          exact ⟨fc, mv, h7, RMl.mv ht h8, h9.mv ht⟩
        · rw [RMf_ptr hn] at h ⊢
          obtain ⟨c, h1, h2⟩ := h
          refine ⟨c, h1, h2.imp id fun ⟨hz, g, pc, h3, h4, fc, mv, h7, h8, h9⟩ => ⟨hz, g, pc, h3, h4.mv ht (by rw [h7]; simp), fc, mv, h7, RMl.mv ht h8, h9.mv ht⟩⟩
      · simp only [RMf, if_neg h11, if_neg h10] at h ⊢
        exact h.mv ht
theorem RMl.mv {s t : Vw} (ht : Tr s t) : ∀ {fs : List Fld} {y : Tre} {i : Nat} {cs : List Value}, RMl s fs y i cs → RMl t fs y i cs
  | [], y, i, cs, h => by simp only [RMl] at h ⊢; exact h
  | f :: r, y, i, cs, h => by
    simp only [RMl] at h ⊢
    obtain ⟨c, c', h1, h2, h3⟩ := h
    exact ⟨c, c', h1, RMf.mv ht h2, RMl.mv ht h3⟩
end
theorem RMp.mv {s t : Vw} {fs : List Fld} {y : Tre} {cs : List Value} (h : RMp s fs y cs) (ht : Tr s t) : RMp t fs y cs := by
  obtain ⟨fc, mv, h7, h8, h9⟩ := h
  exact ⟨fc, mv, h7, RMl.mv ht h8, h9.mv ht⟩
theorem REl.mv {s t : Vw} {o : Int} {sub : List Fld} {y : Tre} {cs : List Value} (h : REl s o sub y cs) (ht : Tr s t) : REl t o sub y cs := by
  unfold REl at h ⊢
  by_cases ho : o = 10
  · rw [if_pos ho] at h ⊢; exact h.mv ht
  · rw [if_neg ho] at h ⊢; exact h.mv ht
theorem RLs.mv {s t : Vw} {o : Int} {sub : List Fld} {y : Tre} {c : Value} (h : RLs s o sub y c) (ht : Tr s t) : RLs t o sub y c :=
  h.imp id fun ⟨hz, g, off, cap, lc, h3, h4, h5⟩ => ⟨hz, g, off, cap, lc, h3, h4.mv ht, fun i hi => (h5 i hi).mv ht⟩
theorem RPt.mv {s t : Vw} {sub : List Fld} {y : Tre} {c : Value} (h : RPt s sub y c) (ht : Tr s t) : RPt t sub y c :=
  h.imp id fun ⟨hz, g, pc, h3, h4, h5⟩ => ⟨hz, g, pc, h3, h4.mv ht (by obtain ⟨fc, mv, h7, _⟩ := h5; rw [h7]; simp), h5.mv ht⟩
theorem RTg.one {s : Vw} {y : Tre} {mv : Value} (h : RTg s y mv) : mv.oneCell' = true := by
  obtain ⟨l, h1, _⟩ := h
  rcases h1 with ⟨rfl, _⟩ | ⟨m, rfl, _⟩ <;> rfl
theorem RLs.one {s : Vw} {o : Int} {sub : List Fld} {y : Tre} {c : Value} (h : RLs s o sub y c) : c.oneCell' = true := by
  rcases h with ⟨_, rfl⟩ | ⟨_, g, off, cap, lc, rfl, _⟩ <;> rfl
theorem RPt.one {s : Vw} {sub : List Fld} {y : Tre} {c : Value} (h : RPt s sub y c) : c.oneCell' = true := by
  rcases h with ⟨_, rfl⟩ | ⟨_, g, pc, rfl, _⟩ <;> rfl
theorem RS1.len {s : Vw} {k nul : Int} {y : Tre} {cs : List Value} (h : RS1 s k nul y cs) : cs.length = (if k = 7 then 16 else 1) ∧ ∀ u ∈ cs, u.oneCell' = true := by
  unfold RS1 at h
  split at h
  · rename_i hk; subst hk h; simp
  · split at h
    · rename_i hk; subst hk h; simp
    · split at h
      · rename_i hk; subst hk h; simp
      · split at h
        · rename_i hk; subst hk h; simp
        · split at h
          · rename_i hk; obtain ⟨rfl, _⟩ := h; subst hk; simp
          · split at h
            · rename_i hk; subst hk h; simp
            · split at h
              · rename_i hk; subst hk h; exact ⟨by simp [uuid_length], u8s_one _⟩
              · split at h
                · rename_i hk
                  subst hk
                  split at h
                  · subst h; simp
                  · obtain ⟨c, rfl, h2⟩ := h
                    simp [h2.one]
                · split at h
                  · rename_i hk
                    subst hk
                    obtain ⟨c, rfl, h2⟩ := h
                    simp [h2.one]
                  · exact h.elim
mutual
theorem RMf.len {s : Vw} : ∀ {f : Fld} {y : Tre} {cs : List Value}, RMf s f y cs → cs.length = fsz f ∧ ∀ u ∈ cs, u.oneCell' = true
  | .mk k a b nul c d o sub, y, cs, h => by
    by_cases h11 : k = 11
    · subst h11
      rw [RMf_list] at h
      obtain ⟨c, rfl, h2⟩ := h
      simp [fsz, h2.one]
    · by_cases h10 : k = 10
      · subst h10
        by_cases hn : nul < 0
        · rw [RMf_part hn] at h
          obtain ⟨fc, mv, rfl, h8, h9⟩ := h
          obtain ⟨e1, e2⟩ := RMl.len h8
          refine ⟨by simp [fsz, hn, e1], fun u hu => ?_⟩
          rcases List.mem_append.1 hu with hu | hu
          · exact e2 u hu
          · rw [List.mem_singleton] at hu
            exact hu ▸ h9.one
        · rw [RMf_ptr hn] at h
          obtain ⟨c, rfl, h2⟩ := h
          simp [fsz, hn, h2.one]
      · simp only [RMf, if_neg h11, if_neg h10] at h
        have := h.len
        refine ⟨?_, this.2⟩
        rw [this.1]
        simp [fsz, h10]
theorem RMl.len {s : Vw} : ∀ {fs : List Fld} {y : Tre} {i : Nat} {cs : List Value}, RMl s fs y i cs → cs.length = fszs fs ∧ ∀ u ∈ cs, u.oneCell' = true
  | [], y, i, cs, h => by simp only [RMl] at h; subst h; simp [fszs]
  | f :: r, y, i, cs, h => by
    simp only [RMl] at h
    obtain ⟨c, c', rfl, h2, h3⟩ := h
    obtain ⟨e1, e2⟩ := RMf.len h2
    obtain ⟨e3, e4⟩ := RMl.len h3
    refine ⟨by simp [fszs, e1, e3], fun u hu => ?_⟩
    rcases List.mem_append.1 hu with hu | hu
    · exact e2 u hu
    · exact e4 u hu
end
theorem RMp.len {s : Vw} {fs : List Fld} {y : Tre} {cs : List Value} (h : RMp s fs y cs) : cs.length = fszs fs + 1 ∧ ∀ u ∈ cs, u.oneCell' = true := by
  obtain ⟨fc, mv, rfl, h8, h9⟩ := h
  obtain ⟨e1, e2⟩ := RMl.len h8
  refine ⟨by simp [e1], fun u hu => ?_⟩
  rcases List.mem_append.1 hu with hu | hu
  · exact e2 u hu
  · rw [List.mem_singleton] at hu
    exact hu ▸ h9.one
theorem REl.len {s : Vw} {o : Int} {sub : List Fld} {y : Tre} {cs : List Value} (h : REl s o sub y cs) : cs.length = (if o = 7 then 16 else if o = 10 then fszs sub + 1 else 1) ∧ ∀ u ∈ cs, u.oneCell' = true := by
  unfold REl at h
  by_cases ho : o = 10
  · rw [if_pos ho] at h
    subst ho
    simpa using h.len
  · rw [if_neg ho] at h
    have := h.len
    simpa [ho] using this
/-- a thing of a list that is read: where it lies -/
theorem seg_rc {s : Vw} {g off sz m : Nat} {lc : List Value} (h : RC s g off lc) (hl : lc.length = m * sz) {i : Nat} (hi : i < m) : RC s g (off + i * sz) (seg lc i sz) := by
  have h1 : i * sz + sz ≤ m * sz := by
    have : (i + 1) * sz ≤ m * sz := Nat.mul_le_mul_right _ hi
    rwa [Nat.succ_mul] at this
  refine h.sub (i * sz) (c1 := lc.take (i * sz)) (c3 := lc.drop (i * sz + sz)) ?_ (by simp; omega)
  unfold seg
  rw [← List.drop_drop, List.append_assoc, List.take_append_drop, List.take_append_drop]
end K
end Go.Proofs.YtjjfpdofkdolnaaDoor
