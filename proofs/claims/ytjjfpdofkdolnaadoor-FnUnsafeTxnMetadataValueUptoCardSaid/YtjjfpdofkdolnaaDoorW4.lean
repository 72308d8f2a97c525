import Derived.Test.YtjjfpdofkdolnaaDoorVa
import Derived.Laws.IdiomStrings
import Derived.Test.YtjjfpdofkdolnaaDoorS10
set_option linter.unusedVariables false
set_option linter.unusedSimpArgs false
namespace Go.Proofs.YtjjfpdofkdolnaaDoor
namespace K
open Go Go.Lib
/-! ### Calls through an interface value -/
def MtOf (P : Program) (t : TypeId) (name : String) (f : FuncId) : Prop := ∀ (v : Value) (w : World), (method (P.types.size + Made.depth) t v name).run P w = .ok (f, v) w
section
variable {P : Program} {n : Nat} {L : Env} {H : Hp} {C : Cx} {s : Vw} {K : Act → World → Prop} {ops : Array Oper} {rest : List Oper} {ty : TypeId} {pos : String} {af : Array Edge}
/-- what an owned row's value looks like -/
theorem cd_shape {c : Code} {p : Post} {i m sz : Nat} {e : TypeId} {v : Value} {xs : List Value} (hi : H[i]? = some (.row v e sz m xs)) (hm : 0 < m) (k : ∀ g cap, v = .slice (some ⟨g, 0, none⟩) m cap → m ≤ cap → Cd P c p n L H C s) : Cd P c p n L H C s := fun a w hF hS => by
  have hown : w.ownsRow 0 e sz v m xs := hS.hf _ (List.mem_of_getElem? hi)
  obtain ⟨ad, c, rfl, hle, h⟩ := ownsRow_shape hown
  obtain ⟨g, rfl⟩ := h hm
  exact k g c rfl hle a w hF hS
end
/-! ### the count ahead, put in its place at last -/
end K
end Go.Proofs.YtjjfpdofkdolnaaDoor
namespace Go.Proofs.YtjjfpdofkdolnaaDoor
namespace K
open Go Go.Lib
/-! ### A whole request -/
/-- a request behind an interface value -/
structure Rq (t : Vw) (T b : Nat) (key v : Int) (q : Bool) (body : List UInt8) : Prop where
  k : ∃ f, MtOf Tryd.prog T "Key" f ∧ Enters Tryd.prog f ∧ ∀ u, Tr t u → CS Tryd.prog f [.pointer (some ⟨b, 0, none⟩)] u (.int .i16 key)
  g : ∃ f, MtOf Tryd.prog T "GetVersion" f ∧ Enters Tryd.prog f ∧ ∀ u, Tr t u → CS Tryd.prog f [.pointer (some ⟨b, 0, none⟩)] u (.int .i16 v)
  i : ∃ f, MtOf Tryd.prog T "IsFlexible" f ∧ Enters Tryd.prog f ∧ ∀ u, Tr t u → CS Tryd.prog f [.pointer (some ⟨b, 0, none⟩)] u (.bool q)
  a : ∃ f, MtOf Tryd.prog T "AppendTo" f ∧ Enters Tryd.prog f ∧ ∀ u, Tr t u → ∀ (vd : Value) (L0 : List UInt8), (L0 ++ body).length ≤ 4398046511104 → (OctRow vd L0).ok u.w → (∀ z ∈ (OctRow vd L0).blk, u.av z) → CT Tryd.prog f [.pointer (some ⟨b, 0, none⟩), vd] u (OctRow vd L0) fun _ r e' => e' = OctRow r (L0 ++ body) ∧ r.oneCell' = true
theorem Rq.mv {t s : Vw} {T b : Nat} {key v : Int} {q : Bool} {body : List UInt8} (h : Rq t T b key v q body) (ht : Tr t s) : Rq s T b key v q body := by
  obtain ⟨⟨f1, a1, b1, c1⟩, ⟨f2, a2, b2, c2⟩, ⟨f3, a3, b3, c3⟩, ⟨f4, a4, b4, c4⟩⟩ := h
  exact ⟨⟨f1, a1, b1, fun u hu => c1 u (ht.trans hu)⟩, ⟨f2, a2, b2, fun u hu => c2 u (ht.trans hu)⟩, ⟨f3, a3, b3, fun u hu => c3 u (ht.trans hu)⟩, ⟨f4, a4, b4, fun u hu => c4 u (ht.trans hu)⟩⟩
end K
end Go.Proofs.YtjjfpdofkdolnaaDoor
namespace Go.Proofs.YtjjfpdofkdolnaaDoor
namespace K
open Go Go.Lib
section
variable {P : Program} {n : Nat} {L : Env} {H : Hp} {C : Cx} {s : Vw} {K : Act → World → Prop} {ops : Array Oper} {rest : List Oper} {ty : TypeId} {pos : String} {af : Array Edge}
/-- a text's octets -/
theorem ln_s2b {d : Nat} {t u e : TypeId} {x : Operand} {z : ByteArray} (hu : P.underlying u = some .string) (ht : P.underlying t = some (.slice e)) (he : P.underlying e = some (.int .u8)) (hx : ev L x = some (.string z)) (hd : Nat.blt d n = true)
    (k : ∀ b c zs fz, z.size ≤ c → Ln P ops rest K n ((d, .slice (some ⟨b, 0, none⟩) z.size c) :: L) (.obj b (.cells (strCells z ++ zs).toArray e fz) :: H) C s) : Ln P ops (⟨some d, .convert u t x, ty, pos, af, none⟩ :: rest) K n L H C s := fun a w hF hS => by
  have hr := run_bytes_of_string (P := P) w u t e z hu ht he
  have hb : bytesRow z (grownCap w z.size 0 e) = (strCells z ++ List.replicate (grownCap w z.size 0 e - z.size) (Value.int .u8 0)).toArray := by
    apply Array.toList_inj.1
    simp [bytesRow, strCells]
  rw [hb] at hr
  refine wpl_val rfl (by simp [execOp, hF.ev hx, hr]; rfl) (k w.heap.size _ _ _ (grownCap_ge w z.size 0 e) _ _ (hF.put d _ hd) ((hS.step (Mod.drew No w)).new _))
theorem rs_of_obj {b c : Nat} {z : ByteArray} {zs : List Value} {e : TypeId} {fz : Nat × Nat} (h : OB s b (.cells (strCells z ++ zs).toArray e fz)) (hc : z.size ≤ c) : RSv s (.slice (some ⟨b, 0, none⟩) z.size c) (strB z) := by
  refine ⟨by simp, u8s_one _, .inr ⟨⟨b, 0, none⟩, c, by rw [strB_len], by rw [strB_len]; exact hc, fun _ => ⟨rfl, ?_⟩⟩⟩
  exact (h.rc).sub 0 (c1 := []) (c2 := u8s (strB z)) (c3 := zs) (by rw [strCells_u8s]; rfl) rfl
end
/-! ### A region that draws its order, where two acting operations may stand in either order -/
section
variable {P : Program} {ops : Array Oper} {Q : Exit → Act → World → Prop} {S : World → Prop} {T : List Nat}
def seqPre (ops : Array Oper) (T : List Nat) : List Nat → Array Bool → Option (Array Bool)
  | [], listed => some listed
  | i :: r, listed => if T.contains i && Region.free .any ops listed i && (Region.ready .any ops listed).contains i then seqPre ops T r (listed.setIfInBounds i true) else none
theorem wpAnyS_pre {K' : Act → World → Prop} {m : Nat} {listed' : Array Bool} (hs : Region.noSelect ops = true) (hQ : ∀ c a d v w, Q (.panic c) (Act.put a d v) w → Q (.panic c) a w) (hfin : ∀ a w, K' a w → wpAnyS P ops Q S T m listed' a w) : ∀ (p : List Nat) (listed : Array Bool) (a : Act) (w : World),
    seqPre ops T p listed = some listed' → Lw P ops (NP K') S T p a w → wpAnyS P ops Q S T (p.length + m) listed a w
  | [], listed, a, w, hok, h => by
    simp only [seqPre, Option.some.injEq] at hok
    subst hok
    have e : ([] : List Nat).length + m = m := by simp
    rw [e]
    exact hfin a w h
  | i :: r, listed, a, w, hok, h => by
    simp only [seqPre] at hok
    split at hok
    · rename_i hc
      simp only [Bool.and_eq_true] at hc
      obtain ⟨⟨hT, hfr⟩, hrd⟩ := hc
      obtain ⟨o, ho, h⟩ := h
      rcases h with ⟨_, hS, v, hy, h⟩ | ⟨hT', h⟩
      · have e : (i :: r).length + m = (r.length + m) + 1 := by simp; omega
        rw [e]
        exact wpAnyS_first ho (Region.noSelect_spec hs) (fun c a w => hQ c a _ _ w) hT (r.length + m) listed a w (Region.free_spec ho hfr) (by simpa using hrd) hy hS (wpAnyS_pre hs hQ hfin r _ _ _ hok h)
      · rw [hT] at hT'
        cases hT'
    · cases hok
theorem wpAnyS_two (hs : Region.noSelect ops = true) (hQ : ∀ c a d v w, Q (.panic c) (Act.put a d v) w → Q (.panic c) a w) {i j : Nat} {ri rj : List Nat} {listed : Array Bool} {a : Act} {w : World} (hr : Region.ready .any ops listed = [i, j]) (hi : T.contains i = false) (hj : T.contains j = false) (hl : rj.length = ri.length)
    (hoki : seqOk ops T ri (listed.setIfInBounds i true) = true) (hokj : seqOk ops T rj (listed.setIfInBounds j true) = true) (h1 : Lw P ops Q S T (i :: ri) a w) (h2 : Lw P ops Q S T (j :: rj) a w) : wpAnyS P ops Q S T (ri.length + 1) listed a w := by
  refine ⟨fun h0 => (by rw [hr] at h0; cases h0), fun k hk => ?_⟩
  rw [hr] at hk
  simp only [List.mem_cons, List.not_mem_nil, or_false] at hk
  rcases hk with rfl | rfl
  · obtain ⟨o, ho, h⟩ := h1
    rcases h with ⟨hT, _⟩ | ⟨_, h⟩
    · rw [hi] at hT; cases hT
    · exact wpOp_mono (fun a' w' h' => ⟨h'.1, wpAnyS_of_Lw hs hQ ri _ _ _ hoki h'.2⟩) h
  · obtain ⟨o, ho, h⟩ := h2
    rcases h with ⟨hT, _⟩ | ⟨_, h⟩
    · rw [hj] at hT; cases hT
    · rw [← hl]
      exact wpOp_mono (fun a' w' h' => ⟨h'.1, wpAnyS_of_Lw hs hQ rj _ _ _ hokj h'.2⟩) h
def seqTwo (ops : Array Oper) (T p : List Nat) (i j : Nat) (ri rj : List Nat) : Bool :=
  match seqPre ops T p (Array.replicate ops.size false) with
  | some l => Region.ready .any ops l == [i, j] && !T.contains i && !T.contains j && rj.length == ri.length && seqOk ops T ri (l.setIfInBounds i true) && seqOk ops T rj (l.setIfInBounds j true) && Region.noSelect ops && p.length + (ri.length + 1) == ops.size
  | none => false
theorem cd_dr2 {n : Nat} {L : Env} {H : Hp} {C : Cx} {s : Vw} {N R : Act → World → Prop} {X : List (Nat × (Act → World → Prop))} {id : Nat} {l : List Oper} {y : Code} (is T p : List Nat) (i j : Nat) (ri rj : List Nat) (hm : P.follows .mixedOrders = true) (hok : seqTwo l.toArray T p i j ri rj = true)
    (h : Lo P l.toArray (Sk s (pick is H)) T p (fun a w => Lw P l.toArray (NP (y.wp P (Post.q ⟨N, R, X⟩))) (Sk s (pick is H)) T (i :: ri) a w ∧ Lw P l.toArray (NP (y.wp P (Post.q ⟨N, R, X⟩))) (Sk s (pick is H)) T (j :: rj) a w) n L H C s) : Cd P (.seq (.region id l.toArray true) y) ⟨N, R, X⟩ n L H C s := by
  refine cd_sq (fun a w hF hS => ?_)
  unfold seqTwo at hok
  split at hok
  · rename_i l' hl'
    simp only [Bool.and_eq_true, Bool.not_eq_true', beq_iff_eq] at hok
    obtain ⟨⟨⟨⟨⟨⟨⟨h1, h2⟩, h3⟩, h4⟩, h5⟩, h6⟩, h7⟩, h8⟩ := hok
    refine Code.wp_mono (Q := NP (y.wp P (Post.q ⟨N, R, X⟩))) (fun e a w hq => (by cases e <;> first | exact hq | exact (hq : False).elim)) (wp_region_any hm (wpAny_of_S (S := Sk s (pick is H)) (T := T) _ _ _ _ ?_))
    rw [← h8]
    refine wpAnyS_pre h7 (fun _ _ _ _ _ h => h) (fun a w hk => wpAnyS_two h7 (fun _ _ _ _ _ h => h) h1 h2 h3 h4 h5 h6 hk.1 hk.2) p _ _ _ ?_ (h a w.drew hF (hS.step (Mod.drew No w)))
    rw [h8]
    exact hl'
  · cases hok
theorem at_two {n : Nat} {L : Env} {H : Hp} {C : Cx} {s : Vw} {K : Act → World → Prop} {o1 o2 : List Nat} (h1 : Lo P ops S T o1 K n L H C s) (h2 : Lo P ops S T o2 K n L H C s) : At (fun a w => Lw P ops (NP K) S T o1 a w ∧ Lw P ops (NP K) S T o2 a w) n L H C s := fun a w hF hS => ⟨h1 a w hF hS, h2 a w hF hS⟩
end
/-! ### the formatter -/
end K
end Go.Proofs.YtjjfpdofkdolnaaDoor
namespace Go.Proofs.YtjjfpdofkdolnaaDoor
namespace K
open Go Go.Lib
theorem pv_len_row {P : Program} {H : Hp} {s : Vw} {n : Nat} {L : Env} {i sz m : Nat} {t e e0 ty : TypeId} {pos : String} {af : Array Edge} {d : Option Nat} {g : Option (Nat × Bool)} {x : Operand} {v : Value} {xs : List Value} (hi : H[i]? = some (.row v e0 sz m xs)) (hu : P.underlying t = some (.slice e)) (hx : ev L x = some v) :
    PV P (Sk s H) ⟨d, .call ⟨.builtin .len, #[x], #[t]⟩, ty, pos, af, g⟩ n L (.int .i64 (m : Int)) := fun a w hF hw => by
  have hown : w.ownsRow 0 e0 sz v m xs := hw.2 _ (List.mem_of_getElem? hi)
  obtain ⟨ad, c, rfl, _, _⟩ := ownsRow_shape hown
  exact pv_len_slice (S := Sk s H) hu hx a w hF hw
end K
end Go.Proofs.YtjjfpdofkdolnaaDoor
