import Derived.Test.YtepbicjadambbabGreatDoorVa
import Derived.Laws.IdiomStrings
import Derived.Test.YtepbicjadambbabGreatDoorS10
set_option linter.unusedVariables false
set_option linter.unusedSimpArgs false
namespace Go.Proofs.YtepbicjadambbabGreatDoor
namespace K
open Go Go.Lib
/-! ### Calls through an interface value -/
def MtOf (P : Program) (t : TypeId) (name : String) (f : FuncId) : Prop := ∀ (v : Value) (w : World), (method (P.types.size + Made.depth) t v name).run P w = .ok (f, v) w
theorem mt_of {P : Program} {t : TypeId} {name : String} {f : FuncId} {b : Bool} {d : TypeDesc} (h : ((P.info? t).bind fun ii => ii.methods.find? (·.name == name)).map (fun m => (m.path, m.func)) = some (#[], some (f, b))) (hu : P.underlying t = some d) (hb : (match d with | .pointer _ => true | _ => false) = b) : MtOf P t name f := by
  obtain ⟨m, h1, h2⟩ := Option.map_eq_some_iff.1 h
  obtain ⟨ii, hi, hf⟩ := Option.bind_eq_some_iff.1 h1
  simp only [Prod.mk.injEq] at h2
  obtain ⟨hp, hm⟩ := h2
  intro v w
  show (method ((P.types.size + 99) + 1) t v name).run P w = .ok (f, v) w
  subst hb
  unfold method
  cases d <;> simp [typeInfo, hi, hf, hp, hm, follow, receiverAt, run_underlying hu, Place.get]
section
variable {P : Program} {n : Nat} {L : Env} {H : Hp} {C : Cx} {s : Vw} {K : Act → World → Prop} {ops : Array Oper} {rest : List Oper} {ty : TypeId} {pos : String} {af : Array Edge}
theorem ln_inv {d : Option Nat} {args : List Operand} {ts : Array TypeId} {x : Operand} {name : String} {t : TypeId} {v : Value} {f : FuncId} (hx : ev L x = some (.iface t v)) (hm : MtOf P t name f) (hent : Enters P f)
    (k : Ln P ops (⟨d, .call ⟨.value (.func f), (.const v :: args).toArray, ts⟩, ty, pos, af, none⟩ :: rest) K n L H C s) : Ln P ops (⟨d, .call ⟨.invoke x name, args.toArray, ts⟩, ty, pos, af, none⟩ :: rest) K n L H C s := fun a w hF hS => by
  have h0 := k a w hF hS
  have e : (execOp a.eval ⟨d, .call ⟨.invoke x name, args.toArray, ts⟩, ty, pos, af, none⟩).run P w = (execOp a.eval ⟨d, .call ⟨.value (.func f), (.const v :: args).toArray, ts⟩, ty, pos, af, none⟩).run P w := by
    have h1 := hm v w
    have h2 : a.eval x = .iface t v := hF.ev hx
    rw [run_call (P := P) (ty := ty) (pos := pos) (af := af) hent (a := a) (args := .const v :: args) (ts := ts) (d := d) (g := none) w]
    simp [execOp, resolve, invoke, h2, callMethod, h1]
    rw [List.take_of_length_le (by simp)]
    exact hent _ _
  unfold wpList at h0 ⊢
  rw [if_pos (by simp [Region.wanted])] at h0 ⊢
  rcases h0 with h0 | ⟨_, h0⟩
  · refine .inl ?_
    unfold Oper.wp at h0 ⊢
    rw [e]
    exact h0
  · obtain ⟨_, _, h0⟩ := h0
    exact h0.elim
theorem run_appendIP {t ty e : TypeId} {ii : TypeInfo} {w w' : World} {g cap k c : Nat} {ad : Addr} {news : List Value} (hu : P.underlying t = some (.slice e)) (hii : P.info? e = some ii) (hl : news.length = k * ii.size) (hnews : ∀ j u, news[j]? = some u → w.cell? (ad.add j) = some u) (hroom : k ≤ cap)
    (hst : (storeCells ⟨g, 0, none⟩ news 0).run P w = .ok () w') : (Builtin.append_ #[t, t] ty #[.slice (some ⟨g, 0, none⟩) 0 cap, .slice (some ad) k c]).run P w = .ok (.slice (some ⟨g, 0, none⟩) k cap) w' := by
  have hfc := run_firstCells_some (P := P) w ii.size k ad k c news hl hnews
  simp [Builtin.append_, run_underlying hu, sizeOf, typeInfo, hii, Builtin.lenOf, hroom, hfc, Addr.add_lit, hst]
/-- append(x[:0], ..) where there is room: what was there is overwritten -/
theorem ln_appendIP {i d k m cap sz g : Nat} {t e : TypeId} {u : Value} {xs news xs' : List Value} {x y : Operand} (hi : H[i]? = some (.row (.slice (some ⟨g, 0, none⟩) m cap) e sz m xs)) (hu : P.underlying t = some (.slice e)) (hsz : (P.info? e).map (·.size) = some sz) (h0 : 0 < sz)
    (hx : ev L x = some (.slice (some ⟨g, 0, none⟩) 0 cap)) (hy : ev L y = some u) (hsrc : ∀ w, Sk s H w → SrcOk w sz u k news) (hk0 : 0 < k) (hkm : k ≤ m) (hd : Nat.blt d n = true) (hx' : wr xs 0 news = xs')
    (kk : Ln P ops rest K n ((d, .slice (some ⟨g, 0, none⟩) k cap) :: L) (H.set i (.row (.slice (some ⟨g, 0, none⟩) m cap) e sz m xs')) C s) :
    Ln P ops (⟨some d, .call ⟨.builtin .append, #[x, y], #[t, t]⟩, ty, pos, af, none⟩ :: rest) K n L H C s := fun a w hF hS => by
  subst hx'
  have hown : w.ownsRow 0 e sz (.slice (some ⟨g, 0, none⟩) m cap) m xs := hS.hf _ (List.mem_of_getElem? hi)
  obtain ⟨ii, hii, hz⟩ := Option.map_eq_some_iff.1 hsz
  subst hz
  obtain ⟨hl, h1, hs⟩ := hsrc w hS.sk
  have hcap : m ≤ cap := by
    obtain ⟨ad, c, he, hle, _⟩ := ownsRow_shape hown
    simp only [Value.slice.injEq] at he
    omega
  rcases hs with ⟨_, h⟩ | ⟨ad, c, rfl, hc⟩
  · omega
  · have hxl : xs.length = m * ii.size := hown.1
    have hle : news.length ≤ m * ii.size := by rw [hl]; exact Nat.mul_le_mul_right _ hkm
    obtain ⟨w', hst, hok, hm⟩ := (Tgt.row g cap m ii.size e).put P xs news 0 w hxl hown (by omega) h1
    have hr := run_appendIP (ty := ty) (c := c) hu hii hl hc (by omega : k ≤ cap) hst
    refine wpl_val (w' := w') (v := .slice (some ⟨g, 0, none⟩) k cap) rfl ?_ (kk _ _ (hF.put d _ hd) (hS.turn hi (by simpa [Ent.blk, Value.ownBlock] using hm) hok (fun q hq => .inl hq) (by simp [Ent.blk, Value.ownBlock])))
    simp [execOp, resolve, invoke, builtin, hF.ev hx, hF.ev hy, hr, Result.andThen]
/-- what an owned row's value looks like -/
theorem cd_shape {c : Code} {p : Post} {i m sz : Nat} {e : TypeId} {v : Value} {xs : List Value} (hi : H[i]? = some (.row v e sz m xs)) (hm : 0 < m) (k : ∀ g cap, v = .slice (some ⟨g, 0, none⟩) m cap → m ≤ cap → Cd P c p n L H C s) : Cd P c p n L H C s := fun a w hF hS => by
  have hown : w.ownsRow 0 e sz v m xs := hS.hf _ (List.mem_of_getElem? hi)
  obtain ⟨ad, c, rfl, hle, h⟩ := ownsRow_shape hown
  obtain ⟨g, rfl⟩ := h hm
  exact k g c rfl hle a w hF hS
end
/-! ### the count ahead, put in its place at last -/
abbrev RowG (g m cap : Nat) (xs : List Value) : Ent := .row (.slice (some ⟨g, 0, none⟩) m cap) 5 1 m xs
theorem patch_AppendUint32 (t : Vw) (x : Int) (g m cap : Nat) (xs : List Value) (hm : 4 ≤ m) (hok : (RowG g m cap xs).ok t.w) (hav : ∀ b ∈ (RowG g m cap xs).blk, t.av b) : CT Tryz.prog 57 [.slice (some ⟨g, 0, none⟩) 0 cap, .int .u32 x] t (RowG g m cap xs) fun _ r e' => e' = RowG g m cap (wr xs 0 (u8s (fixed x 4))) := by
  refine ct_enter Tryz.func57 rfl Tryz.ntmps57 rfl hok hav (by simp [Ent.blk, Value.ownBlock]) ?_
  refine cd_sr ?_
  refine ln_pv (pv_assign rfl) rfl ?_
  refine ln_cd ?_
  refine cd_sr ?_
  refine ln_pv (pv_move rfl) rfl ?_
  refine ln_pv (pv_move rfl) rfl ?_
  refine ln_pv (pv_shr' rfl rfl (by decide) (by decide) (r := x / 2 ^ (8 * 3)) rfl) rfl ?_
  refine ln_pv (pv_conv' Tryz.underlying53 Tryz.underlying5 rfl (wrap_u8 _)) rfl ?_
  refine ln_pv (pv_move rfl) rfl ?_
  refine ln_pv (pv_shr' rfl rfl (by decide) (by decide) (r := x / 2 ^ (8 * 2)) rfl) rfl ?_
  refine ln_pv (pv_conv' Tryz.underlying53 Tryz.underlying5 rfl (wrap_u8 _)) rfl ?_
  refine ln_pv (pv_move rfl) rfl ?_
  refine ln_pv (pv_shr' rfl rfl (by decide) (by decide) (r := x / 2 ^ (8 * 1)) rfl) rfl ?_
  refine ln_pv (pv_conv' Tryz.underlying53 Tryz.underlying5 rfl (wrap_u8 _)) rfl ?_
  refine ln_pv (pv_move rfl) rfl ?_
  refine ln_pv (pv_conv' Tryz.underlying53 Tryz.underlying5 rfl (r := ((b8 (x / 2 ^ (8 * 0))).toNat : Int)) (by simp only [Nat.mul_zero, Int.pow_zero, Int.ediv_one]; exact wrap_u8 _)) rfl ?_
  refine ln_lit (vs := [_, _, _, _]) Tryz.underlying22 tiuint8 rfl (by decide) rfl rfl rfl rfl rfl rfl (fun b1 => ?_)
  refine ln_appendIP (i := 1) (k := 4) (xs' := wr xs 0 (u8s (fixed x 4))) rfl Tryz.underlying22 tiuint8.size (by decide) rfl rfl (src_obj (j := 0) rfl rfl rfl) (by decide) hm rfl (by congr 1) ?_
  refine ln_pv (pv_assign rfl) rfl ?_
  refine ln_cd ?_
  refine cd_ret ?_
  exact at_retT (i := 1) rfl rfl rfl (fun w hS => rfl)
theorem patch_AppendInt32 (t : Vw) (x : Int) (g m cap : Nat) (xs : List Value) (hm : 4 ≤ m) (hok : (RowG g m cap xs).ok t.w) (hav : ∀ b ∈ (RowG g m cap xs).blk, t.av b) : CT Tryz.prog 30 [.slice (some ⟨g, 0, none⟩) 0 cap, .int .i32 x] t (RowG g m cap xs) fun _ r e' => e' = RowG g m cap (wr xs 0 (u8s (fixed x 4))) := by
  refine ct_enter Tryz.func30 rfl Tryz.ntmps30 rfl hok hav (by simp [Ent.blk, Value.ownBlock]) ?_
  have e : fixed (x % 2 ^ (8 * 4)) 4 = fixed x 4 := fixed_mod x 4 4 (Nat.le_refl _)
  refine cd_sr ?_
  refine ln_pv (pv_assign rfl) rfl ?_
  refine ln_cd ?_
  refine cd_sr ?_
  refine ln_pv (pv_move rfl) rfl ?_
  refine ln_pv (pv_move rfl) rfl ?_
  refine ln_pv (pv_conv' Tryz.underlying21 Tryz.underlying53 rfl (r := x % 2 ^ (8 * 4)) (by rw [wrap_u32_eq]; rfl)) rfl ?_
  refine ln_callT (i := 0) en_57 rfl rfl (fun u hu hok hav => patch_AppendUint32 u (x % 2 ^ (8 * 4)) g m cap xs hm hok hav) rfl ?_
  rintro u1 v1 _ ht1 ⟨_, rfl, _⟩
  rw [e]
  refine ln_pv (pv_assign rfl) rfl ?_
  refine ln_cd ?_
  refine cd_ret ?_
  exact at_retT (i := 0) rfl rfl rfl (fun w hS => rfl)
end K
end Go.Proofs.YtepbicjadambbabGreatDoor
namespace Go.Proofs.YtepbicjadambbabGreatDoor
namespace K
open Go Go.Lib
/-! ### A whole request -/
/-- what stands of a request's head and body behind the count -/
def frO (key v num : Int) (ids : List UInt8) (fl : Bool) (body : List UInt8) : List UInt8 := fixed key 2 ++ fixed v 2 ++ fixed num 4 ++ ids ++ (if fl then [0] else []) ++ body
def frB (key v num : Int) (ids : List UInt8) (fl : Bool) (body : List UInt8) : List UInt8 := fixed ((frO key v num ids fl body).length : Int) 4 ++ frO key v num ids fl body
/-- a request behind an interface value -/
structure Rq (t : Vw) (T b : Nat) (key v : Int) (q : Bool) (body : List UInt8) : Prop where
  k : ∃ f, MtOf Tryz.prog T "Key" f ∧ Enters Tryz.prog f ∧ ∀ u, Tr t u → CS Tryz.prog f [.pointer (some ⟨b, 0, none⟩)] u (.int .i16 key)
  g : ∃ f, MtOf Tryz.prog T "GetVersion" f ∧ Enters Tryz.prog f ∧ ∀ u, Tr t u → CS Tryz.prog f [.pointer (some ⟨b, 0, none⟩)] u (.int .i16 v)
  i : ∃ f, MtOf Tryz.prog T "IsFlexible" f ∧ Enters Tryz.prog f ∧ ∀ u, Tr t u → CS Tryz.prog f [.pointer (some ⟨b, 0, none⟩)] u (.bool q)
  a : ∃ f, MtOf Tryz.prog T "AppendTo" f ∧ Enters Tryz.prog f ∧ ∀ u, Tr t u → ∀ (vd : Value) (L0 : List UInt8), (L0 ++ body).length ≤ 4398046511104 → (OctRow vd L0).ok u.w → (∀ z ∈ (OctRow vd L0).blk, u.av z) → CT Tryz.prog f [.pointer (some ⟨b, 0, none⟩), vd] u (OctRow vd L0) fun _ r e' => e' = OctRow r (L0 ++ body) ∧ r.oneCell' = true
theorem Rq.mv {t s : Vw} {T b : Nat} {key v : Int} {q : Bool} {body : List UInt8} (h : Rq t T b key v q body) (ht : Tr t s) : Rq s T b key v q body := by
  obtain ⟨⟨f1, a1, b1, c1⟩, ⟨f2, a2, b2, c2⟩, ⟨f3, a3, b3, c3⟩, ⟨f4, a4, b4, c4⟩⟩ := h
  exact ⟨⟨f1, a1, b1, fun u hu => c1 u (ht.trans hu)⟩, ⟨f2, a2, b2, fun u hu => c2 u (ht.trans hu)⟩, ⟨f3, a3, b3, fun u hu => c3 u (ht.trans hu)⟩, ⟨f4, a4, b4, fun u hu => c4 u (ht.trans hu)⟩⟩
theorem wr_patch {a b : List UInt8} (h : a.length = 4) (l : List UInt8) (hl : l.length = 4) : wr (u8s (l ++ b)) 0 (u8s a) = u8s (a ++ b) := by
  simp only [wr, u8s, List.map_append, List.take_zero, List.nil_append, List.length_map, h, Nat.zero_add]
  rw [List.drop_append, List.length_map, hl]
  simp [hl]
end K
end Go.Proofs.YtepbicjadambbabGreatDoor
namespace Go.Proofs.YtepbicjadambbabGreatDoor
namespace K
open Go Go.Lib
section
variable {P : Program} {n : Nat} {L : Env} {H : Hp} {C : Cx} {s : Vw} {K : Act → World → Prop} {ops : Array Oper} {rest : List Oper} {ty : TypeId} {pos : String} {af : Array Edge}
/-- a text's octets -/
theorem ln_s2b {d : Nat} {t u e : TypeId} {x : Operand} {z : ByteArray} (hu : P.underlying u = some .string) (ht : P.underlying t = some (.slice e)) (he : P.underlying e = some (.int .u8)) (hx : ev L x = some (.string z)) (hd : Nat.blt d n = true)
    (k : ∀ b c zs fz, z.size ≤ c → Ln P ops rest K n ((d, .slice (some ⟨b, 0, none⟩) z.size c) :: L) (.obj b (.cells (strCells z ++ zs).toArray e fz) :: H) C s) : Ln P ops (⟨some d, .convert u t x, ty, pos, af, none⟩ :: rest) K n L H C s := fun a w hF hS => by
  have hr := run_bytes_of_string (P := P) w u t e z hu ht he
  have hb : bytesRow z (grownCap w z.size 0 e) = (strCells z ++ List.replicate (grownCap w z.size 0 e - z.size) (Value.int .u8 0)).toArray := by
    apply Array.toList_inj.1
    simp [bytesRow, strCells]
  rw [hb] at hr
  refine wpl_val rfl (by simp [execOp, hF.ev hx, hr]; rfl) (k w.heap.size _ _ _ (grownCap_ge w z.size 0 e) _ _ (hF.put d _ hd) ((hS.step (Mod.drew No w)).new _))
theorem rs_of_obj {b c : Nat} {z : ByteArray} {zs : List Value} {e : TypeId} {fz : Nat × Nat} (h : OB s b (.cells (strCells z ++ zs).toArray e fz)) (hc : z.size ≤ c) : RSv s (.slice (some ⟨b, 0, none⟩) z.size c) (strB z) := by
  refine ⟨by simp, u8s_one _, .inr ⟨⟨b, 0, none⟩, c, by rw [strB_len], by rw [strB_len]; exact hc, fun _ => ⟨rfl, ?_⟩⟩⟩
  exact (h.rc).sub 0 (c1 := []) (c2 := u8s (strB z)) (c3 := zs) (by rw [strCells_u8s]; rfl) rfl
theorem pv_ifaceP {S : World → Prop} {d : Option Nat} {g : Option (Nat × Bool)} {t e : TypeId} {x : Operand} {v : Value} (hu : P.underlying t = some (.pointer e)) (hx : ev L x = some v) : PV P S ⟨d, .makeInterface t x, ty, pos, af, g⟩ n L (.iface t v) := fun a w hF _ => by
  simp [execOp, hF.ev hx, Instr.makeInterface, run_underlying hu]
theorem pv_ifaceS {S : World → Prop} {d : Option Nat} {g : Option (Nat × Bool)} {t : TypeId} {fs : Array Field} {x : Operand} {v : Value} (hu : P.underlying t = some (.struct fs)) (hx : ev L x = some v) : PV P S ⟨d, .makeInterface t x, ty, pos, af, g⟩ n L (.iface t v) := fun a w hF _ => by
  simp [execOp, hF.ev hx, Instr.makeInterface, run_underlying hu]
end
/-! ### A region that draws its order, where two acting operations may stand in either order -/
section
variable {P : Program} {ops : Array Oper} {Q : Exit → Act → World → Prop} {S : World → Prop} {T : List Nat}
def seqPre (ops : Array Oper) (T : List Nat) : List Nat → Array Bool → Option (Array Bool)
  | [], listed => some listed
  | i :: r, listed => if T.contains i && Region.free .any ops listed i && (Region.ready .any ops listed).contains i then seqPre ops T r (listed.setIfInBounds i true) else none
theorem wpAnyS_pre {K' : Act → World → Prop} {m : Nat} {listed' : Array Bool} (hs : Region.noSelect ops = true) (hQ : ∀ c a d v w, Q (.panic c) (Act.put a d v) w → Q (.panic c) a w) (hfin : ∀ a w, K' a w → wpAnyS P ops Q S T m listed' a w) : ∀ (p : List Nat) (listed : Array Bool) (a : Act) (w : World),
    seqPre ops T p listed = some listed' → Lw P ops (NP K') S T p a w → wpAnyS P ops Q S T (p.length + m) listed a w
  | [], listed, a, w, hok, h => by
    simp only [seqPre, Option.some.injEq] at hok
    subst hok
    have e : ([] : List Nat).length + m = m := by simp
    rw [e]
    exact hfin a w h
  | i :: r, listed, a, w, hok, h => by
    simp only [seqPre] at hok
    split at hok
    · rename_i hc
      simp only [Bool.and_eq_true] at hc
      obtain ⟨⟨hT, hfr⟩, hrd⟩ := hc
      obtain ⟨o, ho, h⟩ := h
      rcases h with ⟨_, hS, v, hy, h⟩ | ⟨hT', h⟩
      · have e : (i :: r).length + m = (r.length + m) + 1 := by simp; omega
        rw [e]
        exact wpAnyS_first ho (Region.noSelect_spec hs) (fun c a w => hQ c a _ _ w) hT (r.length + m) listed a w (Region.free_spec ho hfr) (by simpa using hrd) hy hS (wpAnyS_pre hs hQ hfin r _ _ _ hok h)
      · rw [hT] at hT'
        cases hT'
    · cases hok
theorem wpAnyS_two (hs : Region.noSelect ops = true) (hQ : ∀ c a d v w, Q (.panic c) (Act.put a d v) w → Q (.panic c) a w) {i j : Nat} {ri rj : List Nat} {listed : Array Bool} {a : Act} {w : World} (hr : Region.ready .any ops listed = [i, j]) (hi : T.contains i = false) (hj : T.contains j = false) (hl : rj.length = ri.length)
    (hoki : seqOk ops T ri (listed.setIfInBounds i true) = true) (hokj : seqOk ops T rj (listed.setIfInBounds j true) = true) (h1 : Lw P ops Q S T (i :: ri) a w) (h2 : Lw P ops Q S T (j :: rj) a w) : wpAnyS P ops Q S T (ri.length + 1) listed a w := by
  refine ⟨fun h0 => (by rw [hr] at h0; cases h0), fun k hk => ?_⟩
  rw [hr] at hk
  simp only [List.mem_cons, List.not_mem_nil, or_false] at hk
  rcases hk with rfl | rfl
  · obtain ⟨o, ho, h⟩ := h1
    rcases h with ⟨hT, _⟩ | ⟨_, h⟩
    · rw [hi] at hT; cases hT
    · exact wpOp_mono (fun a' w' h' => ⟨h'.1, wpAnyS_of_Lw hs hQ ri _ _ _ hoki h'.2⟩) h
  · obtain ⟨o, ho, h⟩ := h2
    rcases h with ⟨hT, _⟩ | ⟨_, h⟩
    · rw [hj] at hT; cases hT
    · rw [← hl]
      exact wpOp_mono (fun a' w' h' => ⟨h'.1, wpAnyS_of_Lw hs hQ rj _ _ _ hokj h'.2⟩) h
def seqTwo (ops : Array Oper) (T p : List Nat) (i j : Nat) (ri rj : List Nat) : Bool :=
  match seqPre ops T p (Array.replicate ops.size false) with
  | some l => Region.ready .any ops l == [i, j] && !T.contains i && !T.contains j && rj.length == ri.length && seqOk ops T ri (l.setIfInBounds i true) && seqOk ops T rj (l.setIfInBounds j true) && Region.noSelect ops && p.length + (ri.length + 1) == ops.size
  | none => false
theorem cd_dr2 {n : Nat} {L : Env} {H : Hp} {C : Cx} {s : Vw} {N R : Act → World → Prop} {X : List (Nat × (Act → World → Prop))} {id : Nat} {l : List Oper} {y : Code} (is T p : List Nat) (i j : Nat) (ri rj : List Nat) (hm : P.follows .mixedOrders = true) (hok : seqTwo l.toArray T p i j ri rj = true)
    (h : Lo P l.toArray (Sk s (pick is H)) T p (fun a w => Lw P l.toArray (NP (y.wp P (Post.q ⟨N, R, X⟩))) (Sk s (pick is H)) T (i :: ri) a w ∧ Lw P l.toArray (NP (y.wp P (Post.q ⟨N, R, X⟩))) (Sk s (pick is H)) T (j :: rj) a w) n L H C s) : Cd P (.seq (.region id l.toArray true) y) ⟨N, R, X⟩ n L H C s := by
  refine cd_sq (fun a w hF hS => ?_)
  unfold seqTwo at hok
  split at hok
  · rename_i l' hl'
    simp only [Bool.and_eq_true, Bool.not_eq_true', beq_iff_eq] at hok
    obtain ⟨⟨⟨⟨⟨⟨⟨h1, h2⟩, h3⟩, h4⟩, h5⟩, h6⟩, h7⟩, h8⟩ := hok
    refine Code.wp_mono (Q := NP (y.wp P (Post.q ⟨N, R, X⟩))) (fun e a w hq => (by cases e <;> first | exact hq | exact (hq : False).elim)) (wp_region_any hm (wpAny_of_S (S := Sk s (pick is H)) (T := T) _ _ _ _ ?_))
    rw [← h8]
    refine wpAnyS_pre h7 (fun _ _ _ _ _ h => h) (fun a w hk => wpAnyS_two h7 (fun _ _ _ _ _ h => h) h1 h2 h3 h4 h5 h6 hk.1 hk.2) p _ _ _ ?_ (h a w.drew hF (hS.step (Mod.drew No w)))
    rw [h8]
    exact hl'
  · cases hok
theorem at_two {n : Nat} {L : Env} {H : Hp} {C : Cx} {s : Vw} {K : Act → World → Prop} {o1 o2 : List Nat} (h1 : Lo P ops S T o1 K n L H C s) (h2 : Lo P ops S T o2 K n L H C s) : At (fun a w => Lw P ops (NP K) S T o1 a w ∧ Lw P ops (NP K) S T o2 a w) n L H C s := fun a w hF hS => ⟨h1 a w hF hS, h2 a w hF hS⟩
end
/-! ### the formatter -/
end K
end Go.Proofs.YtepbicjadambbabGreatDoor
namespace Go.Proofs.YtepbicjadambbabGreatDoor
namespace K
open Go Go.Lib
theorem pv_len_row {P : Program} {H : Hp} {s : Vw} {n : Nat} {L : Env} {i sz m : Nat} {t e e0 ty : TypeId} {pos : String} {af : Array Edge} {d : Option Nat} {g : Option (Nat × Bool)} {x : Operand} {v : Value} {xs : List Value} (hi : H[i]? = some (.row v e0 sz m xs)) (hu : P.underlying t = some (.slice e)) (hx : ev L x = some v) :
    PV P (Sk s H) ⟨d, .call ⟨.builtin .len, #[x], #[t]⟩, ty, pos, af, g⟩ n L (.int .i64 (m : Int)) := fun a w hF hw => by
  have hown : w.ownsRow 0 e0 sz v m xs := hw.2 _ (List.mem_of_getElem? hi)
  obtain ⟨ad, c, rfl, _, _⟩ := ownsRow_shape hown
  exact pv_len_slice (S := Sk s H) hu hx a w hF hw
def idsB (has : Bool) (z : ByteArray) : List UInt8 := if has then fixed ((strB z).length : Int) 2 ++ strB z else fixed (-1) 2
theorem frB_le {key v num : Int} {has fl : Bool} {z : ByteArray} {body : List UInt8} (hz : z.size ≤ 32767) : (frB key v num (idsB has z) fl body).length ≤ body.length + 40000 := by
  have h : (idsB has z).length ≤ 32769 := by
    cases has <;> simp only [idsB, if_true, Bool.false_eq_true, if_false, List.length_append, fixed_length, strB_len] <;> omega
  have h2 : (if fl then ([0] : List UInt8) else []).length ≤ 1 := by cases fl <;> decide
  simp only [frB, frO, List.length_append, fixed_length]
  omega
end K
end Go.Proofs.YtepbicjadambbabGreatDoor
