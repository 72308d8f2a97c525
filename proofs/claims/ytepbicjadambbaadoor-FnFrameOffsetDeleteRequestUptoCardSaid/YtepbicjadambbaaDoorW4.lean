import Derived.Test.YtepbicjadambbaaDoorVa
import Derived.Laws.IdiomStrings
import Derived.Test.YtepbicjadambbaaDoorS10
set_option linter.unusedVariables false
set_option linter.unusedSimpArgs false
namespace Go.Proofs.YtepbicjadambbaaDoor
namespace K
open Go Go.Lib
/-! ### Calls through an interface value -/
def MtOf (P : Program) (t : TypeId) (name : String) (f : FuncId) : Prop := ∀ (v : Value) (w : World), (method (P.types.size + Made.depth) t v name).run P w = .ok (f, v) w
theorem mt_of {P : Program} {t : TypeId} {name : String} {f : FuncId} {b : Bool} {d : TypeDesc} (h : ((P.info? t).bind fun ii => ii.methods.find? (·.name == name)).map (fun m => (m.path, m.func)) = some (#[], some (f, b))) (hu : P.underlying t = some d) (hb : (match d with | .pointer _ => true | _ => false) = b) : MtOf P t name f := by
  obtain ⟨m, h1, h2⟩ := Option.map_eq_some_iff.1 h
  obtain ⟨ii, hi, hf⟩ := Option.bind_eq_some_iff.1 h1
  simp only [Prod.mk.injEq] at h2
  obtain ⟨hp, hm⟩ := h2
  intro v w
  show (method ((P.types.size + 99) + 1) t v name).run P w = .ok (f, v) w
  subst hb
  unfold method
  cases d <;> simp [typeInfo, hi, hf, hp, hm, follow, receiverAt, run_underlying hu, Place.get]
section
variable {P : Program} {n : Nat} {L : Env} {H : Hp} {C : Cx} {s : Vw} {K : Act → World → Prop} {ops : Array Oper} {rest : List Oper} {ty : TypeId} {pos : String} {af : Array Edge}
theorem ln_inv {d : Option Nat} {args : List Operand} {ts : Array TypeId} {x : Operand} {name : String} {t : TypeId} {v : Value} {f : FuncId} (hx : ev L x = some (.iface t v)) (hm : MtOf P t name f) (hent : Enters P f)
    (k : Ln P ops (⟨d, .call ⟨.value (.func f), (.const v :: args).toArray, ts⟩, ty, pos, af, none⟩ :: rest) K n L H C s) : Ln P ops (⟨d, .call ⟨.invoke x name, args.toArray, ts⟩, ty, pos, af, none⟩ :: rest) K n L H C s := fun a w hF hS => by
  have h0 := k a w hF hS
  have e : (execOp a.eval ⟨d, .call ⟨.invoke x name, args.toArray, ts⟩, ty, pos, af, none⟩).run P w = (execOp a.eval ⟨d, .call ⟨.value (.func f), (.const v :: args).toArray, ts⟩, ty, pos, af, none⟩).run P w := by
    have h1 := hm v w
    have h2 : a.eval x = .iface t v := hF.ev hx
    rw [run_call (P := P) (ty := ty) (pos := pos) (af := af) hent (a := a) (args := .const v :: args) (ts := ts) (d := d) (g := none) w]
    simp [execOp, resolve, invoke, h2, callMethod, h1]
    rw [List.take_of_length_le (by simp)]
    exact hent _ _
  unfold wpList at h0 ⊢
  rw [if_pos (by simp [Region.wanted])] at h0 ⊢
  rcases h0 with h0 | ⟨_, h0⟩
  · refine .inl ?_
    unfold Oper.wp at h0 ⊢
    rw [e]
    exact h0
  · obtain ⟨_, _, h0⟩ := h0
    exact h0.elim
theorem run_appendIP {t ty e : TypeId} {ii : TypeInfo} {w w' : World} {g cap k c : Nat} {ad : Addr} {news : List Value} (hu : P.underlying t = some (.slice e)) (hii : P.info? e = some ii) (hl : news.length = k * ii.size) (hnews : ∀ j u, news[j]? = some u → w.cell? (ad.add j) = some u) (hroom : k ≤ cap)
    (hst : (storeCells ⟨g, 0, none⟩ news 0).run P w = .ok () w') : (Builtin.append_ #[t, t] ty #[.slice (some ⟨g, 0, none⟩) 0 cap, .slice (some ad) k c]).run P w = .ok (.slice (some ⟨g, 0, none⟩) k cap) w' := by
  have hfc := run_firstCells_some (P := P) w ii.size k ad k c news hl hnews
  simp [Builtin.append_, run_underlying hu, sizeOf, typeInfo, hii, Builtin.lenOf, hroom, hfc, Addr.add_lit, hst]
/-- append(x[:0], ..) where there is room: what was there is overwritten -/
theorem ln_appendIP {i d k m cap sz g : Nat} {t e : TypeId} {u : Value} {xs news xs' : List Value} {x y : Operand} (hi : H[i]? = some (.row (.slice (some ⟨g, 0, none⟩) m cap) e sz m xs)) (hu : P.underlying t = some (.slice e)) (hsz : (P.info? e).map (·.size) = some sz) (h0 : 0 < sz)
    (hx : ev L x = some (.slice (some ⟨g, 0, none⟩) 0 cap)) (hy : ev L y = some u) (hsrc : ∀ w, Sk s H w → SrcOk w sz u k news) (hk0 : 0 < k) (hkm : k ≤ m) (hd : Nat.blt d n = true) (hx' : wr xs 0 news = xs')
    (kk : Ln P ops rest K n ((d, .slice (some ⟨g, 0, none⟩) k cap) :: L) (H.set i (.row (.slice (some ⟨g, 0, none⟩) m cap) e sz m xs')) C s) :
    Ln P ops (⟨some d, .call ⟨.builtin .append, #[x, y], #[t, t]⟩, ty, pos, af, none⟩ :: rest) K n L H C s := fun a w hF hS => by
  subst hx'
  have hown : w.ownsRow 0 e sz (.slice (some ⟨g, 0, none⟩) m cap) m xs := hS.hf _ (List.mem_of_getElem? hi)
  obtain ⟨ii, hii, hz⟩ := Option.map_eq_some_iff.1 hsz
  subst hz
  obtain ⟨hl, h1, hs⟩ := hsrc w hS.sk
  have hcap : m ≤ cap := by
    obtain ⟨ad, c, he, hle, _⟩ := ownsRow_shape hown
    simp only [Value.slice.injEq] at he
    omega
  rcases hs with ⟨_, h⟩ | ⟨ad, c, rfl, hc⟩
  · omega
  · have hxl : xs.length = m * ii.size := hown.1
    have hle : news.length ≤ m * ii.size := by rw [hl]; exact Nat.mul_le_mul_right _ hkm
    obtain ⟨w', hst, hok, hm⟩ := (Tgt.row g cap m ii.size e).put P xs news 0 w hxl hown (by omega) h1
    have hr := run_appendIP (ty := ty) (c := c) hu hii hl hc (by omega : k ≤ cap) hst
    refine wpl_val (w' := w') (v := .slice (some ⟨g, 0, none⟩) k cap) rfl ?_ (kk _ _ (hF.put d _ hd) (hS.turn hi (by simpa [Ent.blk, Value.ownBlock] using hm) hok (fun q hq => .inl hq) (by simp [Ent.blk, Value.ownBlock])))
    simp [execOp, resolve, invoke, builtin, hF.ev hx, hF.ev hy, hr, Result.andThen]
/-- what an owned row's value looks like -/
theorem cd_shape {c : Code} {p : Post} {i m sz : Nat} {e : TypeId} {v : Value} {xs : List Value} (hi : H[i]? = some (.row v e sz m xs)) (hm : 0 < m) (k : ∀ g cap, v = .slice (some ⟨g, 0, none⟩) m cap → m ≤ cap → Cd P c p n L H C s) : Cd P c p n L H C s := fun a w hF hS => by
  have hown : w.ownsRow 0 e sz v m xs := hS.hf _ (List.mem_of_getElem? hi)
  obtain ⟨ad, c, rfl, hle, h⟩ := ownsRow_shape hown
  obtain ⟨g, rfl⟩ := h hm
  exact k g c rfl hle a w hF hS
end
/-! ### the count ahead, put in its place at last -/
abbrev RowG (g m cap : Nat) (xs : List Value) : Ent := .row (.slice (some ⟨g, 0, none⟩) m cap) 5 1 m xs
theorem patch_AppendUint32 (t : Vw) (x : Int) (g m cap : Nat) (xs : List Value) (hm : 4 ≤ m) (hok : (RowG g m cap xs).ok t.w) (hav : ∀ b ∈ (RowG g m cap xs).blk, t.av b) : CT Tryd.prog 60 [.slice (some ⟨g, 0, none⟩) 0 cap, .int .u32 x] t (RowG g m cap xs) fun _ r e' => e' = RowG g m cap (wr xs 0 (u8s (fixed x 4))) := by
  refine ct_enter Tryd.func60 rfl Tryd.ntmps60 rfl hok hav (by simp [Ent.blk, Value.ownBlock]) ?_
  refine cd_sr ?_
  refine ln_pv (pv_assign rfl) rfl ?_
  refine ln_cd ?_
  refine cd_sr ?_
  refine ln_pv (pv_move rfl) rfl ?_
  refine ln_pv (pv_move rfl) rfl ?_
  refine ln_pv (pv_shr' rfl rfl (by decide) (by decide) (r := x / 2 ^ (8 * 3)) rfl) rfl ?_
  refine ln_pv (pv_conv' Tryd.underlying59 Tryd.underlying5 rfl (wrap_u8 _)) rfl ?_
  refine ln_pv (pv_move rfl) rfl ?_
  refine ln_pv (pv_shr' rfl rfl (by decide) (by decide) (r := x / 2 ^ (8 * 2)) rfl) rfl ?_
  refine ln_pv (pv_conv' Tryd.underlying59 Tryd.underlying5 rfl (wrap_u8 _)) rfl ?_
  refine ln_pv (pv_move rfl) rfl ?_
  refine ln_pv (pv_shr' rfl rfl (by decide) (by decide) (r := x / 2 ^ (8 * 1)) rfl) rfl ?_
  refine ln_pv (pv_conv' Tryd.underlying59 Tryd.underlying5 rfl (wrap_u8 _)) rfl ?_
  refine ln_pv (pv_move rfl) rfl ?_
  refine ln_pv (pv_conv' Tryd.underlying59 Tryd.underlying5 rfl (r := ((b8 (x / 2 ^ (8 * 0))).toNat : Int)) (by simp only [Nat.mul_zero, Int.pow_zero, Int.ediv_one]; exact wrap_u8 _)) rfl ?_
  refine ln_lit (vs := [_, _, _, _]) Tryd.underlying24 tiuint8 rfl (by decide) rfl rfl rfl rfl rfl rfl (fun b1 => ?_)
  refine ln_appendIP (i := 1) (k := 4) (xs' := wr xs 0 (u8s (fixed x 4))) rfl Tryd.underlying24 tiuint8.size (by decide) rfl rfl (src_obj (j := 0) rfl rfl rfl) (by decide) hm rfl (by congr 1) ?_
  refine ln_pv (pv_assign rfl) rfl ?_
  refine ln_cd ?_
  refine cd_ret ?_
  exact at_retT (i := 1) rfl rfl rfl (fun w hS => rfl)
theorem patch_AppendInt32 (t : Vw) (x : Int) (g m cap : Nat) (xs : List Value) (hm : 4 ≤ m) (hok : (RowG g m cap xs).ok t.w) (hav : ∀ b ∈ (RowG g m cap xs).blk, t.av b) : CT Tryd.prog 53 [.slice (some ⟨g, 0, none⟩) 0 cap, .int .i32 x] t (RowG g m cap xs) fun _ r e' => e' = RowG g m cap (wr xs 0 (u8s (fixed x 4))) := by
  refine ct_enter Tryd.func53 rfl Tryd.ntmps53 rfl hok hav (by simp [Ent.blk, Value.ownBlock]) ?_
  have e : fixed (x % 2 ^ (8 * 4)) 4 = fixed x 4 := fixed_mod x 4 4 (Nat.le_refl _)
  refine cd_sr ?_
  refine ln_pv (pv_assign rfl) rfl ?_
  refine ln_cd ?_
  refine cd_sr ?_
  refine ln_pv (pv_move rfl) rfl ?_
  refine ln_pv (pv_move rfl) rfl ?_
  refine ln_pv (pv_conv' Tryd.underlying21 Tryd.underlying59 rfl (r := x % 2 ^ (8 * 4)) (by rw [wrap_u32_eq]; rfl)) rfl ?_
  refine ln_callT (i := 0) en_60 rfl rfl (fun u hu hok hav => patch_AppendUint32 u (x % 2 ^ (8 * 4)) g m cap xs hm hok hav) rfl ?_
  rintro u1 v1 _ ht1 ⟨_, rfl, _⟩
  rw [e]
  refine ln_pv (pv_assign rfl) rfl ?_
  refine ln_cd ?_
  refine cd_ret ?_
  exact at_retT (i := 0) rfl rfl rfl (fun w hS => rfl)
end K
end Go.Proofs.YtepbicjadambbaaDoor
namespace Go.Proofs.YtepbicjadambbaaDoor
namespace K
open Go Go.Lib
/-! ### A whole request -/
/-- what stands of a request's head and body behind the count -/
def frO (key v num : Int) (ids : List UInt8) (fl : Bool) (body : List UInt8) : List UInt8 := fixed key 2 ++ fixed v 2 ++ fixed num 4 ++ ids ++ (if fl then [0] else []) ++ body
def frB (key v num : Int) (ids : List UInt8) (fl : Bool) (body : List UInt8) : List UInt8 := fixed ((frO key v num ids fl body).length : Int) 4 ++ frO key v num ids fl body
/-- a request behind an interface value -/
structure Rq (t : Vw) (T b : Nat) (key v : Int) (q : Bool) (body : List UInt8) : Prop where
  k : ∃ f, MtOf Tryd.prog T "Key" f ∧ Enters Tryd.prog f ∧ ∀ u, Tr t u → CS Tryd.prog f [.pointer (some ⟨b, 0, none⟩)] u (.int .i16 key)
  g : ∃ f, MtOf Tryd.prog T "GetVersion" f ∧ Enters Tryd.prog f ∧ ∀ u, Tr t u → CS Tryd.prog f [.pointer (some ⟨b, 0, none⟩)] u (.int .i16 v)
  i : ∃ f, MtOf Tryd.prog T "IsFlexible" f ∧ Enters Tryd.prog f ∧ ∀ u, Tr t u → CS Tryd.prog f [.pointer (some ⟨b, 0, none⟩)] u (.bool q)
  a : ∃ f, MtOf Tryd.prog T "AppendTo" f ∧ Enters Tryd.prog f ∧ ∀ u, Tr t u → ∀ (vd : Value) (L0 : List UInt8), (L0 ++ body).length ≤ 4398046511104 → (OctRow vd L0).ok u.w → (∀ z ∈ (OctRow vd L0).blk, u.av z) → CT Tryd.prog f [.pointer (some ⟨b, 0, none⟩), vd] u (OctRow vd L0) fun _ r e' => e' = OctRow r (L0 ++ body) ∧ r.oneCell' = true
theorem Rq.mv {t s : Vw} {T b : Nat} {key v : Int} {q : Bool} {body : List UInt8} (h : Rq t T b key v q body) (ht : Tr t s) : Rq s T b key v q body := by
  obtain ⟨⟨f1, a1, b1, c1⟩, ⟨f2, a2, b2, c2⟩, ⟨f3, a3, b3, c3⟩, ⟨f4, a4, b4, c4⟩⟩ := h
  exact ⟨⟨f1, a1, b1, fun u hu => c1 u (ht.trans hu)⟩, ⟨f2, a2, b2, fun u hu => c2 u (ht.trans hu)⟩, ⟨f3, a3, b3, fun u hu => c3 u (ht.trans hu)⟩, ⟨f4, a4, b4, fun u hu => c4 u (ht.trans hu)⟩⟩
theorem wr_patch {a b : List UInt8} (h : a.length = 4) (l : List UInt8) (hl : l.length = 4) : wr (u8s (l ++ b)) 0 (u8s a) = u8s (a ++ b) := by
  simp only [wr, u8s, List.map_append, List.take_zero, List.nil_append, List.length_map, h, Nat.zero_add]
  rw [List.drop_append, List.length_map, hl]
  simp [hl]
theorem append_request (t : Vw) (fb T b : Nat) (cl : Value) (key v num : Int) (q : Bool) (ids body : List UInt8) (hf : RC t fb 0 [cl]) (hcl : ∀ u, Tr t u → AppC 54 [cl] ids u) (hil : ids.length ≤ 32769) (hR : Rq t T b key v q body) (hk7 : ¬ key = 7) (hB : body.length ≤ 1099511627776) :
    CA Tryd.prog 37 [.pointer (some ⟨fb, 0, none⟩), .slice none 0 0, .iface T (.pointer (some ⟨b, 0, none⟩)), .int .i32 num] t fun u r => RSv u r (frB key v num ids q body) := by
  obtain ⟨⟨fK, mK, eK, cK⟩, ⟨fG, mG, eG, cG⟩, ⟨fI, mI, eI, cI⟩, ⟨fA, mA, eA, cA⟩⟩ := hR
  refine ca_enter Tryd.func37 rfl Tryd.ntmps37 rfl ?_
  refine cd_sr ?_
  refine ln_pv (pv_assign rfl) rfl ?_
  refine ln_cd ?_
  refine cd_sr ?_
  refine ln_pv (pv_move rfl) rfl ?_
  refine ln_lit (vs := [_, _, _, _]) Tryd.underlying24 tiuint8 rfl (by decide) rfl rfl rfl rfl rfl rfl (fun b1 => ?_)
  refine ln_nilrow 5 1 ?_
  refine ln_append (i := 0) rfl Tryd.underlying24 tiuint8 rfl (by decide) rfl rfl (src_obj (j := 1) rfl rfl rfl) (by decide) (by decide) rfl (k' := ([0, 0, 0, 0] : List UInt8).length) (xs' := u8s [0, 0, 0, 0]) rfl rfl (fun v1 hv1 => ?_)
  refine ln_pv (pv_assign rfl) rfl ?_
  refine ln_cd ?_
  refine cd_sr ?_
  refine ln_pv (pv_move rfl) rfl ?_
  refine ln_inv rfl mK eK ?_
  refine ln_callS eK rfl (fun u hu => cK u hu) rfl ?_
  refine ln_pv (pv_assign rfl) rfl ?_
  refine ln_cd ?_
  refine cd_sr ?_
  refine ln_pv (pv_move rfl) rfl ?_
  refine ln_inv rfl mG eG ?_
  refine ln_callS eG rfl (fun u hu => cG u hu) rfl ?_
  refine ln_pv (pv_assign rfl) rfl ?_
  refine ln_cd ?_
  refine cd_sr ?_
  refine ln_pv (pv_move rfl) rfl ?_
  refine ln_pv (pv_move rfl) rfl ?_
  refine ln_callT (i := 0) en_52 rfl rfl (fun u hu hok hav => (kbin_AppendInt16 u key) v1 [0, 0, 0, 0] (by simp [fixed_length]) hok hav) rfl ?_
  rintro u2 v2 _ ht2 ⟨_, ⟨rfl, h1v2⟩, _⟩
  refine ln_pv (pv_assign rfl) rfl ?_
  refine ln_cd ?_
  refine cd_sr ?_
  refine ln_pv (pv_move rfl) rfl ?_
  refine ln_pv (pv_move rfl) rfl ?_
  refine ln_callT (i := 0) en_52 rfl rfl (fun u hu hok hav => (kbin_AppendInt16 u v) v2 ([0, 0, 0, 0] ++ fixed key 2) (by simp [fixed_length]) hok hav) rfl ?_
  rintro u3 v3 _ ht3 ⟨_, ⟨rfl, h1v3⟩, _⟩
  refine ln_pv (pv_assign rfl) rfl ?_
  refine ln_cd ?_
  refine cd_sr ?_
  refine ln_pv (pv_move rfl) rfl ?_
  refine ln_pv (pv_move rfl) rfl ?_
  refine ln_callT (i := 0) en_53 rfl rfl (fun u hu hok hav => (kbin_AppendInt32 u num) v3 ([0, 0, 0, 0] ++ fixed key 2 ++ fixed v 2) (by simp [fixed_length]) hok hav) rfl ?_
  rintro u4 v4 _ ht4 ⟨_, ⟨rfl, h1v4⟩, _⟩
  refine ln_pv (pv_assign rfl) rfl ?_
  refine ln_cd ?_
  have h04 := ht2.trans (ht3.trans ht4)
  refine cd_seq ?_
  refine cd_sr ?_
  refine ln_pv (pv_move rfl) rfl ?_
  refine ln_pv (pv_ff (pv_eql rfl rfl) hk7) rfl ?_
  refine ln_pv (pv_move rfl) rfl ?_
  refine ln_gf rfl rfl rfl rfl rfl ?_
  refine ln_gf rfl rfl rfl rfl rfl ?_
  refine ln_pv (pv_pick (u := .bool false) rfl (fun h => by cases h) (fun _ => rfl)) rfl ?_
  refine ln_cd ?_
  refine cd_ff rfl ?_
  refine cd_skip ?_
  refine at_cd ?_
  have hf4 := hf.mv h04 (by simp)
  refine cd_sr ?_
  refine ln_pv (pv_move rfl) rfl ?_
  refine ln_pv (pv_move rfl) rfl ?_
  refine ln_pv (pv_nilCheck rfl) rfl ?_
  refine ln_pv (pv_fieldAddr (off := 0) Tryd.underlying105 rfl tiPt_string.size rfl rfl rfl) rfl ?_
  refine ln_pv (pv_ldr (j := 0) hf4 Tryd.underlying103 rfl rfl rfl) rfl ?_
  refine ln_callT (i := 0) en_54 rfl rfl (fun u hu hok hav => (hcl u (h04.trans hu)) v4 ([0, 0, 0, 0] ++ fixed key 2 ++ fixed v 2 ++ fixed num 4) (by simp only [List.length_append, fixed_length, List.length_cons, List.length_nil]; omega) hok hav) rfl ?_
  rintro u5 v5 _ ht5 ⟨_, ⟨rfl, h1v5⟩, _⟩
  refine ln_pv (pv_assign rfl) rfl ?_
  refine ln_cd ?_
  have h05 := h04.trans ht5
  obtain ⟨fl, hfl⟩ : ∃ fl : List UInt8, fl = (if q then [0] else []) := ⟨_, rfl⟩
  have hfll : fl.length ≤ 1 := by rw [hfl]; split <;> simp
  refine cd_seq ?_
  refine cd_sr ?_
  refine ln_pv (pv_move rfl) rfl ?_
  refine ln_inv rfl mI eI ?_
  refine ln_callS eI rfl (fun u hu => cI u (h05.trans hu)) rfl ?_
  refine ln_cd ?_
  cases q with
  | true =>
    refine cd_tt rfl ?_
    refine cd_sr ?_
    refine ln_pv (pv_assign rfl) rfl ?_
    refine ln_cd ?_
    refine cd_sr ?_
    refine ln_pv (pv_move rfl) rfl ?_
    refine ln_pv (pv_move rfl) rfl ?_
    refine ln_lit (vs := [_]) Tryd.underlying24 tiuint8 rfl (by decide) rfl rfl rfl rfl rfl rfl (fun b2 => ?_)
    refine ln_append (i := 1) rfl Tryd.underlying24 tiuint8 rfl (by decide) rfl rfl (src_obj (j := 0) rfl rfl rfl) (by simp only [maxLen, List.length_append, fixed_length, List.length_cons, List.length_nil]; omega) (by simp only [List.length_append, fixed_length, List.length_cons, List.length_nil]; omega) rfl (k' := ([0, 0, 0, 0] ++ fixed key 2 ++ fixed v 2 ++ fixed num 4 ++ ids ++ [0]).length) (xs' := u8s ([0, 0, 0, 0] ++ fixed key 2 ++ fixed v 2 ++ fixed num 4 ++ ids ++ [0])) (by simp; omega) (by simp [u8s, u8v, flat, Value.cells]) (fun v6 hv6 => ?_)
    refine ln_pv (pv_assign rfl) rfl ?_
    refine ln_cd ?_
    refine cd_sr ?_
    refine ln_pv (pv_move rfl) rfl ?_
    refine ln_pv (pv_ff (pv_neq rfl rfl) (by decide)) rfl ?_
    refine ln_cd ?_
    refine cd_ff rfl ?_
    refine cd_skip ?_
    refine at_cd ?_
    refine cd_dropH (H' := [OctRow v6 ([0, 0, 0, 0] ++ fixed key 2 ++ fixed v 2 ++ fixed num 4 ++ ids ++ fl)]) (by subst hfl; exact .cons _ (.cons_cons _ (.cons _ .slnil))) ?_
    refine cd_sub_ (L' := [(1, v6), (2, .iface T (.pointer (some ⟨b, 0, none⟩)))]) (.put rfl (.put rfl .nil)) ?_
    refine cd_sr ?_
    refine ln_pv (pv_move rfl) rfl ?_
    refine ln_pv (pv_move rfl) rfl ?_
    refine ln_inv rfl mA eA ?_
    refine ln_callT (i := 0) eA rfl rfl (fun u hu hok hav => cA u (h05.trans hu) _ ([0, 0, 0, 0] ++ fixed key 2 ++ fixed v 2 ++ fixed num 4 ++ ids ++ fl) (by simp only [List.length_append, fixed_length, List.length_cons, List.length_nil]; omega) hok hav) rfl ?_
    rintro u7 v7 _ ht7 ⟨_, ⟨rfl, h1v7⟩, _⟩
    refine ln_pv (pv_assign rfl) rfl ?_
    refine ln_cd ?_
    have hall : [0, 0, 0, 0] ++ fixed key 2 ++ fixed v 2 ++ fixed num 4 ++ ids ++ fl ++ body = [0, 0, 0, 0] ++ frO key v num ids true body := by subst hfl; simp [frO]
    rw [hall]
    generalize hO : frO key v num ids true body = O at *
    refine cd_shape (i := 0) rfl (by simp) (fun g cap hsh hcap => ?_)
    subst hsh
    refine cd_dr' [] [0, 1, 2, 3, 4, 5] [0, 1, 2, 3, 4, 5, 6] mixed (by kernel_rfl) ?_
    refine lo_pv rfl rfl (sk_js (Tr.refl _) [] rfl) (pv_move rfl) rfl ?_
    refine lo_pv rfl rfl (sk_js (Tr.refl _) [] rfl) (pv_slice_hi' (k := .i64) (i := 0) (k' := 0) Tryd.underlying24 (by rw [Option.isSome_iff_exists]; exact (Option.map_eq_some_iff.1 tiuint8.size).imp fun _ h => h.1) rfl rfl (by decide) (Int.natCast_nonneg _) rfl) rfl ?_
    refine lo_pv rfl rfl (sk_js (Tr.refl _) [] rfl) (pv_move rfl) rfl ?_
    refine lo_pv rfl rfl (sk_js (Tr.refl _) [] rfl) (pv_sliceV (i := 4) Tryd.underlying24 tiuint8.size rfl rfl (by simp) hcap) rfl ?_
    refine lo_pv rfl rfl (sk_js (Tr.refl _) [] rfl) (pv_len_slice Tryd.underlying24 rfl) rfl ?_
    refine lo_pv rfl rfl (sk_js (Tr.refl _) [] rfl) (pv_conv' Tryd.underlying3 Tryd.underlying21 rfl (r := IntKind.i32.wrap (O.length : Int)) (by congr 1)) rfl ?_
    refine lo_eff rfl rfl ?_
    refine ln_callT (i := 0) en_53 rfl rfl (fun u hu hok hav => patch_AppendInt32 u (IntKind.i32.wrap (O.length : Int)) g ([0, 0, 0, 0] ++ O).length cap (u8s ([0, 0, 0, 0] ++ O)) (by simp) hok hav) rfl ?_
    rintro u8 v8 _ ht8 ⟨_, rfl, _⟩
    refine lo_back (sk_js ht8 [] rfl) ?_
    refine lo_cd ?_
    rw [fixed_wrap32, wr_patch (fixed_length _ _) _ rfl]
    refine cd_sr ?_
    refine ln_pv (pv_move rfl) rfl ?_
    refine ln_pv (pv_assign rfl) rfl ?_
    refine ln_cd ?_
    refine cd_ret ?_
    refine at_retA rfl rfl (fun w hS => ?_)
    have h := row_rs hS (j := 0) rfl (u8s_one _)
    have e : ([0, 0, 0, 0] ++ O).length = (fixed (O.length : Int) 4 ++ O).length := by simp [fixed_length]; omega
    have h2 := (congrArg (fun z => RS hS.fin 1 (Value.slice (some ⟨g, 0, none⟩) ([0, 0, 0, 0] ++ O).length cap) z (u8s (fixed (O.length : Int) 4 ++ O))) e).mp h
    subst hO
    exact h2
  | false =>
    refine cd_ff rfl ?_
    refine cd_skip ?_
    refine at_cd ?_
    refine cd_dropH (H' := [OctRow v5 ([0, 0, 0, 0] ++ fixed key 2 ++ fixed v 2 ++ fixed num 4 ++ ids ++ fl)]) (by subst hfl; simp only [Bool.false_eq_true, if_false, List.append_nil]; exact .cons_cons _ (.cons _ .slnil)) ?_
    refine cd_sub_ (L' := [(1, v5), (2, .iface T (.pointer (some ⟨b, 0, none⟩)))]) (.put rfl (.put rfl .nil)) ?_
    refine cd_sr ?_
    refine ln_pv (pv_move rfl) rfl ?_
    refine ln_pv (pv_move rfl) rfl ?_
    refine ln_inv rfl mA eA ?_
    refine ln_callT (i := 0) eA rfl rfl (fun u hu hok hav => cA u (h05.trans hu) _ ([0, 0, 0, 0] ++ fixed key 2 ++ fixed v 2 ++ fixed num 4 ++ ids ++ fl) (by simp only [List.length_append, fixed_length, List.length_cons, List.length_nil]; omega) hok hav) rfl ?_
    rintro u7 v7 _ ht7 ⟨_, ⟨rfl, h1v7⟩, _⟩
    refine ln_pv (pv_assign rfl) rfl ?_
    refine ln_cd ?_
    have hall : [0, 0, 0, 0] ++ fixed key 2 ++ fixed v 2 ++ fixed num 4 ++ ids ++ fl ++ body = [0, 0, 0, 0] ++ frO key v num ids false body := by subst hfl; simp [frO]
    rw [hall]
    generalize hO : frO key v num ids false body = O at *
    refine cd_shape (i := 0) rfl (by simp) (fun g cap hsh hcap => ?_)
    subst hsh
    refine cd_dr' [] [0, 1, 2, 3, 4, 5] [0, 1, 2, 3, 4, 5, 6] mixed (by kernel_rfl) ?_
    refine lo_pv rfl rfl (sk_js (Tr.refl _) [] rfl) (pv_move rfl) rfl ?_
    refine lo_pv rfl rfl (sk_js (Tr.refl _) [] rfl) (pv_slice_hi' (k := .i64) (i := 0) (k' := 0) Tryd.underlying24 (by rw [Option.isSome_iff_exists]; exact (Option.map_eq_some_iff.1 tiuint8.size).imp fun _ h => h.1) rfl rfl (by decide) (Int.natCast_nonneg _) rfl) rfl ?_
    refine lo_pv rfl rfl (sk_js (Tr.refl _) [] rfl) (pv_move rfl) rfl ?_
    refine lo_pv rfl rfl (sk_js (Tr.refl _) [] rfl) (pv_sliceV (i := 4) Tryd.underlying24 tiuint8.size rfl rfl (by simp) hcap) rfl ?_
    refine lo_pv rfl rfl (sk_js (Tr.refl _) [] rfl) (pv_len_slice Tryd.underlying24 rfl) rfl ?_
    refine lo_pv rfl rfl (sk_js (Tr.refl _) [] rfl) (pv_conv' Tryd.underlying3 Tryd.underlying21 rfl (r := IntKind.i32.wrap (O.length : Int)) (by congr 1)) rfl ?_
    refine lo_eff rfl rfl ?_
    refine ln_callT (i := 0) en_53 rfl rfl (fun u hu hok hav => patch_AppendInt32 u (IntKind.i32.wrap (O.length : Int)) g ([0, 0, 0, 0] ++ O).length cap (u8s ([0, 0, 0, 0] ++ O)) (by simp) hok hav) rfl ?_
    rintro u8 v8 _ ht8 ⟨_, rfl, _⟩
    refine lo_back (sk_js ht8 [] rfl) ?_
    refine lo_cd ?_
    rw [fixed_wrap32, wr_patch (fixed_length _ _) _ rfl]
    refine cd_sr ?_
    refine ln_pv (pv_move rfl) rfl ?_
    refine ln_pv (pv_assign rfl) rfl ?_
    refine ln_cd ?_
    refine cd_ret ?_
    refine at_retA rfl rfl (fun w hS => ?_)
    have h := row_rs hS (j := 0) rfl (u8s_one _)
    have e : ([0, 0, 0, 0] ++ O).length = (fixed (O.length : Int) 4 ++ O).length := by simp [fixed_length]; omega
    have h2 := (congrArg (fun z => RS hS.fin 1 (Value.slice (some ⟨g, 0, none⟩) ([0, 0, 0, 0] ++ O).length cap) z (u8s (fixed (O.length : Int) 4 ++ O))) e).mp h
    subst hO
    exact h2
end K
end Go.Proofs.YtepbicjadambbaaDoor
namespace Go.Proofs.YtepbicjadambbaaDoor
namespace K
open Go Go.Lib
section
variable {P : Program} {n : Nat} {L : Env} {H : Hp} {C : Cx} {s : Vw} {K : Act → World → Prop} {ops : Array Oper} {rest : List Oper} {ty : TypeId} {pos : String} {af : Array Edge}
/-- a text's octets -/
theorem ln_s2b {d : Nat} {t u e : TypeId} {x : Operand} {z : ByteArray} (hu : P.underlying u = some .string) (ht : P.underlying t = some (.slice e)) (he : P.underlying e = some (.int .u8)) (hx : ev L x = some (.string z)) (hd : Nat.blt d n = true)
    (k : ∀ b c zs fz, z.size ≤ c → Ln P ops rest K n ((d, .slice (some ⟨b, 0, none⟩) z.size c) :: L) (.obj b (.cells (strCells z ++ zs).toArray e fz) :: H) C s) : Ln P ops (⟨some d, .convert u t x, ty, pos, af, none⟩ :: rest) K n L H C s := fun a w hF hS => by
  have hr := run_bytes_of_string (P := P) w u t e z hu ht he
  have hb : bytesRow z (grownCap w z.size 0 e) = (strCells z ++ List.replicate (grownCap w z.size 0 e - z.size) (Value.int .u8 0)).toArray := by
    apply Array.toList_inj.1
    simp [bytesRow, strCells]
  rw [hb] at hr
  refine wpl_val rfl (by simp [execOp, hF.ev hx, hr]; rfl) (k w.heap.size _ _ _ (grownCap_ge w z.size 0 e) _ _ (hF.put d _ hd) ((hS.step (Mod.drew No w)).new _))
theorem rs_of_obj {b c : Nat} {z : ByteArray} {zs : List Value} {e : TypeId} {fz : Nat × Nat} (h : OB s b (.cells (strCells z ++ zs).toArray e fz)) (hc : z.size ≤ c) : RSv s (.slice (some ⟨b, 0, none⟩) z.size c) (strB z) := by
  refine ⟨by simp, u8s_one _, .inr ⟨⟨b, 0, none⟩, c, by rw [strB_len], by rw [strB_len]; exact hc, fun _ => ⟨rfl, ?_⟩⟩⟩
  exact (h.rc).sub 0 (c1 := []) (c2 := u8s (strB z)) (c3 := zs) (by rw [strCells_u8s]; rfl) rfl
theorem pv_ifaceP {S : World → Prop} {d : Option Nat} {g : Option (Nat × Bool)} {t e : TypeId} {x : Operand} {v : Value} (hu : P.underlying t = some (.pointer e)) (hx : ev L x = some v) : PV P S ⟨d, .makeInterface t x, ty, pos, af, g⟩ n L (.iface t v) := fun a w hF _ => by
  simp [execOp, hF.ev hx, Instr.makeInterface, run_underlying hu]
theorem pv_ifaceS {S : World → Prop} {d : Option Nat} {g : Option (Nat × Bool)} {t : TypeId} {fs : Array Field} {x : Operand} {v : Value} (hu : P.underlying t = some (.struct fs)) (hx : ev L x = some v) : PV P S ⟨d, .makeInterface t x, ty, pos, af, g⟩ n L (.iface t v) := fun a w hF _ => by
  simp [execOp, hF.ev hx, Instr.makeInterface, run_underlying hu]
end
/-! ### A region that draws its order, where two acting operations may stand in either order -/
section
variable {P : Program} {ops : Array Oper} {Q : Exit → Act → World → Prop} {S : World → Prop} {T : List Nat}
def seqPre (ops : Array Oper) (T : List Nat) : List Nat → Array Bool → Option (Array Bool)
  | [], listed => some listed
  | i :: r, listed => if T.contains i && Region.free .any ops listed i && (Region.ready .any ops listed).contains i then seqPre ops T r (listed.setIfInBounds i true) else none
theorem wpAnyS_pre {K' : Act → World → Prop} {m : Nat} {listed' : Array Bool} (hs : Region.noSelect ops = true) (hQ : ∀ c a d v w, Q (.panic c) (Act.put a d v) w → Q (.panic c) a w) (hfin : ∀ a w, K' a w → wpAnyS P ops Q S T m listed' a w) : ∀ (p : List Nat) (listed : Array Bool) (a : Act) (w : World),
    seqPre ops T p listed = some listed' → Lw P ops (NP K') S T p a w → wpAnyS P ops Q S T (p.length + m) listed a w
  | [], listed, a, w, hok, h => by
    simp only [seqPre, Option.some.injEq] at hok
    subst hok
    have e : ([] : List Nat).length + m = m := by simp
    rw [e]
    exact hfin a w h
  | i :: r, listed, a, w, hok, h => by
    simp only [seqPre] at hok
    split at hok
    · rename_i hc
      simp only [Bool.and_eq_true] at hc
      obtain ⟨⟨hT, hfr⟩, hrd⟩ := hc
      obtain ⟨o, ho, h⟩ := h
      rcases h with ⟨_, hS, v, hy, h⟩ | ⟨hT', h⟩
      · have e : (i :: r).length + m = (r.length + m) + 1 := by simp; omega
        rw [e]
        exact wpAnyS_first ho (Region.noSelect_spec hs) (fun c a w => hQ c a _ _ w) hT (r.length + m) listed a w (Region.free_spec ho hfr) (by simpa using hrd) hy hS (wpAnyS_pre hs hQ hfin r _ _ _ hok h)
      · rw [hT] at hT'
        cases hT'
    · cases hok
theorem wpAnyS_two (hs : Region.noSelect ops = true) (hQ : ∀ c a d v w, Q (.panic c) (Act.put a d v) w → Q (.panic c) a w) {i j : Nat} {ri rj : List Nat} {listed : Array Bool} {a : Act} {w : World} (hr : Region.ready .any ops listed = [i, j]) (hi : T.contains i = false) (hj : T.contains j = false) (hl : rj.length = ri.length)
    (hoki : seqOk ops T ri (listed.setIfInBounds i true) = true) (hokj : seqOk ops T rj (listed.setIfInBounds j true) = true) (h1 : Lw P ops Q S T (i :: ri) a w) (h2 : Lw P ops Q S T (j :: rj) a w) : wpAnyS P ops Q S T (ri.length + 1) listed a w := by
  refine ⟨fun h0 => (by rw [hr] at h0; cases h0), fun k hk => ?_⟩
  rw [hr] at hk
  simp only [List.mem_cons, List.not_mem_nil, or_false] at hk
  rcases hk with rfl | rfl
  · obtain ⟨o, ho, h⟩ := h1
    rcases h with ⟨hT, _⟩ | ⟨_, h⟩
    · rw [hi] at hT; cases hT
    · exact wpOp_mono (fun a' w' h' => ⟨h'.1, wpAnyS_of_Lw hs hQ ri _ _ _ hoki h'.2⟩) h
  · obtain ⟨o, ho, h⟩ := h2
    rcases h with ⟨hT, _⟩ | ⟨_, h⟩
    · rw [hj] at hT; cases hT
    · rw [← hl]
      exact wpOp_mono (fun a' w' h' => ⟨h'.1, wpAnyS_of_Lw hs hQ rj _ _ _ hokj h'.2⟩) h
def seqTwo (ops : Array Oper) (T p : List Nat) (i j : Nat) (ri rj : List Nat) : Bool :=
  match seqPre ops T p (Array.replicate ops.size false) with
  | some l => Region.ready .any ops l == [i, j] && !T.contains i && !T.contains j && rj.length == ri.length && seqOk ops T ri (l.setIfInBounds i true) && seqOk ops T rj (l.setIfInBounds j true) && Region.noSelect ops && p.length + (ri.length + 1) == ops.size
  | none => false
theorem cd_dr2 {n : Nat} {L : Env} {H : Hp} {C : Cx} {s : Vw} {N R : Act → World → Prop} {X : List (Nat × (Act → World → Prop))} {id : Nat} {l : List Oper} {y : Code} (is T p : List Nat) (i j : Nat) (ri rj : List Nat) (hm : P.follows .mixedOrders = true) (hok : seqTwo l.toArray T p i j ri rj = true)
    (h : Lo P l.toArray (Sk s (pick is H)) T p (fun a w => Lw P l.toArray (NP (y.wp P (Post.q ⟨N, R, X⟩))) (Sk s (pick is H)) T (i :: ri) a w ∧ Lw P l.toArray (NP (y.wp P (Post.q ⟨N, R, X⟩))) (Sk s (pick is H)) T (j :: rj) a w) n L H C s) : Cd P (.seq (.region id l.toArray true) y) ⟨N, R, X⟩ n L H C s := by
  refine cd_sq (fun a w hF hS => ?_)
  unfold seqTwo at hok
  split at hok
  · rename_i l' hl'
    simp only [Bool.and_eq_true, Bool.not_eq_true', beq_iff_eq] at hok
    obtain ⟨⟨⟨⟨⟨⟨⟨h1, h2⟩, h3⟩, h4⟩, h5⟩, h6⟩, h7⟩, h8⟩ := hok
    refine Code.wp_mono (Q := NP (y.wp P (Post.q ⟨N, R, X⟩))) (fun e a w hq => (by cases e <;> first | exact hq | exact (hq : False).elim)) (wp_region_any hm (wpAny_of_S (S := Sk s (pick is H)) (T := T) _ _ _ _ ?_))
    rw [← h8]
    refine wpAnyS_pre h7 (fun _ _ _ _ _ h => h) (fun a w hk => wpAnyS_two h7 (fun _ _ _ _ _ h => h) h1 h2 h3 h4 h5 h6 hk.1 hk.2) p _ _ _ ?_ (h a w.drew hF (hS.step (Mod.drew No w)))
    rw [h8]
    exact hl'
  · cases hok
theorem at_two {n : Nat} {L : Env} {H : Hp} {C : Cx} {s : Vw} {K : Act → World → Prop} {o1 o2 : List Nat} (h1 : Lo P ops S T o1 K n L H C s) (h2 : Lo P ops S T o2 K n L H C s) : At (fun a w => Lw P ops (NP K) S T o1 a w ∧ Lw P ops (NP K) S T o2 a w) n L H C s := fun a w hF hS => ⟨h1 a w hF hS, h2 a w hF hS⟩
end
/-! ### the formatter -/
abbrev FBox (fb : Nat) (cl : Value) : Ent := .obj fb (.cells [cl].toArray 105)
abbrev IdFn (pv : Value) : Value := .func (.func 51) #[] [pv].toArray
theorem sz_fn : (Tryd.prog.info? 106).map (·.size) = some 1 := by kernel_rfl
theorem mt_apply : MtOf Tryd.prog 108 "pub-mailsack/pub/kmsg.apply" 84 := mt_of (b := false) (by kernel_rfl) Tryd.underlying108 rfl
theorem clo_id (t : Vw) (fb : Nat) (cl pv : Value) (h1 : pv.oneCell' = true) (hok : HF [FBox fb cl] t.w) (hav : ∀ q ∈ blks [FBox fb cl], t.av q) (hnd : (blks [FBox fb cl]).Nodup) : CH Tryd.prog 51 [.pointer (some ⟨fb, 0, none⟩), pv] t [FBox fb cl] fun u r E' => E' = [FBox fb pv] := by
  refine ch_enter Tryd.func51 rfl Tryd.ntmps51 rfl hok hav hnd ?_
  refine cd_region ?_
  refine ln_pv (pv_move rfl) rfl ?_
  refine ln_pv (pv_nilCheck rfl) rfl ?_
  refine ln_pv (pv_fieldAddr (off := 0) (r := 0) Tryd.underlying105 rfl tiPt_string.size rfl rfl rfl) rfl ?_
  refine ln_store1 (i := 0) rfl rfl rfl h1 tiPt_string.size rfl ?_
  refine ln_nil ?_
  exact at_retH0 [_] (List.Sublist.refl _) rfl (fun w hS => rfl)
theorem apply_id (t : Vw) (fb : Nat) (cl pv : Value) (h1 : pv.oneCell' = true) (hok : HF [FBox fb cl] t.w) (hav : ∀ q ∈ blks [FBox fb cl], t.av q) (hnd : (blks [FBox fb cl]).Nodup) : CH Tryd.prog 84 [.agg [IdFn pv].toArray, .pointer (some ⟨fb, 0, none⟩)] t [FBox fb cl] fun u r E' => E' = [FBox fb pv] := by
  refine ch_enter Tryd.func84 rfl Tryd.ntmps84 rfl hok hav hnd ?_
  refine cd_sr ?_
  refine ln_box (l := [_]) rfl rfl rfl (fun b1 => ?_)
  refine ln_cd ?_
  refine cd_region ?_
  refine ln_pv (pv_fieldAddr (off := 0) (r := 0) Tryd.underlying108 rfl sz_fn rfl rfl rfl) rfl ?_
  refine ln_pv (pv_ldo (i := 0) rfl Tryd.underlying106 rfl rfl rfl) rfl ?_
  refine ln_pv (pv_move rfl) rfl ?_
  refine ln_callHv (cap := [pv]) (vals := [.pointer (some ⟨fb, 0, none⟩)]) rfl (List.Perm.swap _ _ _) en_51 rfl rfl (fun u hu hok hav hnd => clo_id u fb cl pv h1 hok hav hnd) rfl ?_
  rintro u2 _ _ ht2 ⟨_, rfl, _⟩
  refine ln_nil ?_
  exact at_retH0 [_] (.cons_cons _ (.cons _ .slnil)) rfl (fun w hS => rfl)
theorem nrf_nil (t : Vw) (hok : HF [] t.w) (hav : ∀ q ∈ blks [], t.av q) (hnd : (blks []).Nodup) : CH Tryd.prog 35 [.slice none 0 0] t [] fun u r E' => ∃ fb, r = .pointer (some ⟨fb, 0, none⟩) ∧ E' = [FBox fb (.pointer none)] := by
  refine ch_enter Tryd.func35 rfl Tryd.ntmps35 rfl hok hav hnd ?_
  refine cd_sr ?_
  refine ln_pv (pv_assign rfl) rfl ?_
  refine ln_cd ?_
  refine cd_sr ?_
  refine ln_alloc (l := [.pointer none]) tipub_kmsg_RequestFormatter rfl rfl (fun fb => ?_)
  refine ln_pv (pv_assign rfl) rfl ?_
  refine ln_cd ?_
  refine cd_seq ?_
  refine cd_sr ?_
  refine ln_pv (pv_move rfl) rfl ?_
  refine ln_pv (pv_len_slice Tryd.underlying102 rfl) rfl ?_
  refine ln_pv (pv_move rfl) rfl ?_
  refine ln_cd ?_
  refine cd_block ?_
  refine cd_loop' (S := Unit) ⟨fun _ => [(9, .int .i64 0), (8, .int .i64 0), (3, .pointer (some ⟨fb, 0, none⟩))], fun _ => [FBox fb (.pointer none)], fun _ _ => True, fun _ => 0⟩ () (fun _ _ => trivial) (.put rfl (.put rfl (.put rfl .nil))) (List.Sublist.refl _) ?_
  intro _ u hu _
  dsimp only
  refine cd_sr ?_
  refine ln_pv (pv_ff (pv_lss rfl rfl) (by decide)) rfl ?_
  refine ln_cd ?_
  refine cd_seq ?_
  refine cd_ff rfl ?_
  refine cd_exit rfl ?_
  refine at_cd ?_
  refine cd_sr ?_
  refine ln_pv (pv_move rfl) rfl ?_
  refine ln_pv (pv_assign rfl) rfl ?_
  refine ln_cd ?_
  refine cd_ret ?_
  exact at_retHq [FBox fb (.pointer none)] (List.Sublist.refl _) rfl rfl (fun w hS => ⟨fb, rfl, rfl⟩)
theorem nrf_one (t : Vw) (ob c : Nat) (pv : Value) (h1 : pv.oneCell' = true) (hrc : RC t ob 0 [.iface 108 (.agg [IdFn pv].toArray)]) (hok : HF [] t.w) (hav : ∀ q ∈ blks [], t.av q) (hnd : (blks []).Nodup) : CH Tryd.prog 35 [.slice (some ⟨ob, 0, none⟩) 1 c] t [] fun u r E' => ∃ fb, r = .pointer (some ⟨fb, 0, none⟩) ∧ E' = [FBox fb pv] := by
  refine ch_enter Tryd.func35 rfl Tryd.ntmps35 rfl hok hav hnd ?_
  refine cd_sr ?_
  refine ln_pv (pv_assign rfl) rfl ?_
  refine ln_cd ?_
  refine cd_sr ?_
  refine ln_alloc (l := [.pointer none]) tipub_kmsg_RequestFormatter rfl rfl (fun fb => ?_)
  refine ln_pv (pv_assign rfl) rfl ?_
  refine ln_cd ?_
  refine cd_seq ?_
  refine cd_sr ?_
  refine ln_pv (pv_move rfl) rfl ?_
  refine ln_pv (pv_len_slice Tryd.underlying102 rfl) rfl ?_
  refine ln_pv (pv_move rfl) rfl ?_
  refine ln_cd ?_
  refine cd_block ?_
  refine cd_loop' (S := Bool) ⟨fun z => [(9, .int .i64 (if z then 1 else 0)), (8, .int .i64 1), (7, .slice (some ⟨ob, 0, none⟩) 1 c), (3, .pointer (some ⟨fb, 0, none⟩))], fun z => [FBox fb (if z then pv else .pointer none)], fun _ _ => True, fun z => if z then 0 else 1⟩ false (fun _ _ => trivial) (.put rfl (.put rfl (.put rfl (.put rfl .nil)))) (List.Sublist.refl _) ?_
  intro z u hu _
  have hrc := hrc.mv hu (by simp)
  cases z with
  | false =>
    dsimp only
    simp only [Bool.false_eq_true, if_false]
    refine cd_sr ?_
    refine ln_pv (pv_tt (pv_lss rfl rfl) (by decide)) rfl ?_
    refine ln_cd ?_
    refine cd_seq ?_
    refine cd_tt rfl ?_
    refine cd_skip ?_
    refine at_cd ?_
    refine cd_seq ?_
    refine cd_block ?_
    refine cd_sr ?_
    refine ln_pv (pv_ixN (b := ob) (o := 0) (i := 0) Tryd.underlying102 tipub_kmsg_RequestFormatterOpt.size rfl rfl (by decide)) rfl ?_
    refine ln_pv (pv_ldr (j := 0) hrc Tryd.underlying80 rfl rfl rfl) rfl ?_
    refine ln_pv (pv_assign rfl) rfl ?_
    refine ln_cd ?_
    refine cd_region ?_
    refine ln_pv (pv_move rfl) rfl ?_
    refine ln_pv (pv_move rfl) rfl ?_
    refine ln_inv rfl mt_apply en_84 ?_
    refine ln_callH (E := [FBox fb (.pointer none)]) (H0 := []) (List.Perm.refl _) en_84 rfl (fun u hu hok hav hnd => apply_id u fb _ pv h1 hok hav hnd) rfl ?_
    rintro u2 _ _ ht2 ⟨_, rfl, _⟩
    refine ln_nil ?_
    refine at_cd ?_
    refine cd_region ?_
    refine ln_pv (pv_add' rfl rfl (r := 1) rfl) rfl ?_
    refine ln_pv (pv_move rfl) rfl ?_
    refine ln_nil ?_
    exact at_rnd' true (hu.trans ht2) (fun _ _ => trivial) (show (0 : Nat) < 1 by decide) (.put rfl (.put rfl (.put rfl (.put rfl .nil)))) (List.Sublist.refl _)
  | true =>
    dsimp only
    simp only [if_true]
    refine cd_sr ?_
    refine ln_pv (pv_ff (pv_lss rfl rfl) (by decide)) rfl ?_
    refine ln_cd ?_
    refine cd_seq ?_
    refine cd_ff rfl ?_
    refine cd_exit rfl ?_
    refine at_cd ?_
    refine cd_sr ?_
    refine ln_pv (pv_move rfl) rfl ?_
    refine ln_pv (pv_assign rfl) rfl ?_
    refine ln_cd ?_
    refine cd_ret ?_
    exact at_retHq [FBox fb pv] (List.Sublist.refl _) rfl rfl (fun w hS => ⟨fb, rfl, rfl⟩)
theorem client_id (t : Vw) (z : ByteArray) (hok : HF [] t.w) (hav : ∀ q ∈ blks [], t.av q) (hnd : (blks []).Nodup) : CH Tryd.prog 36 [.string z] t [] fun u r E' => ∃ sb, r = .iface 108 (.agg [IdFn (.pointer (some ⟨sb, 0, none⟩))].toArray) ∧ E' = [.obj sb (.cells [.string z].toArray 9)] := by
  refine ch_enter Tryd.func36 rfl Tryd.ntmps36 rfl hok hav hnd ?_
  refine cd_sr ?_
  refine ln_box (l := [_]) rfl rfl rfl (fun sb => ?_)
  refine ln_pv (pv_assign rfl) rfl ?_
  refine ln_cd ?_
  refine cd_sr ?_
  refine ln_pv (pv_makeFunc (vf := #[]) (vc := #[.pointer (some ⟨sb, 0, none⟩)]) (by rw [List.map_toArray, List.map_toArray]; rfl) (by rw [List.map_toArray, List.map_toArray]; rfl)) rfl ?_
  refine ln_pv (pv_struct [(0, 1)] (l := [_]) rfl Tryd.underlying108 tipub_kmsg_formatterOpt (by kernel_rfl) rfl rfl) rfl ?_
  refine ln_pv (pv_ifaceS Tryd.underlying108 rfl) rfl ?_
  refine ln_pv (pv_assign rfl) rfl ?_
  refine ln_cd ?_
  refine cd_ret ?_
  exact at_retHq [_] (List.Sublist.refl _) rfl rfl (fun w hS => ⟨sb, rfl, rfl⟩)
end K
end Go.Proofs.YtepbicjadambbaaDoor
namespace Go.Proofs.YtepbicjadambbaaDoor
namespace K
open Go Go.Lib
theorem pv_len_row {P : Program} {H : Hp} {s : Vw} {n : Nat} {L : Env} {i sz m : Nat} {t e e0 ty : TypeId} {pos : String} {af : Array Edge} {d : Option Nat} {g : Option (Nat × Bool)} {x : Operand} {v : Value} {xs : List Value} (hi : H[i]? = some (.row v e0 sz m xs)) (hu : P.underlying t = some (.slice e)) (hx : ev L x = some v) :
    PV P (Sk s H) ⟨d, .call ⟨.builtin .len, #[x], #[t]⟩, ty, pos, af, g⟩ n L (.int .i64 (m : Int)) := fun a w hF hw => by
  have hown : w.ownsRow 0 e0 sz v m xs := hw.2 _ (List.mem_of_getElem? hi)
  obtain ⟨ad, c, rfl, _, _⟩ := ownsRow_shape hown
  exact pv_len_slice (S := Sk s H) hu hx a w hF hw
def idsB (has : Bool) (z : ByteArray) : List UInt8 := if has then fixed ((strB z).length : Int) 2 ++ strB z else fixed (-1) 2
theorem framed (t : Vw) (T b : Nat) (key v num : Int) (q has : Bool) (z : ByteArray) (body : List UInt8) (hR : Rq t T b key v q body) (hk7 : ¬ key = 7) (hz : (strB z).length ≤ 32767) (hB : body.length ≤ 1099511627776) : CA Tryd.prog 21 [.agg [.bool has, .string z].toArray, .iface T (.pointer (some ⟨b, 0, none⟩)), .int .i32 num] t fun u r => RSv u r (frB key v num (idsB has z) q body) := by
  refine ca_enter Tryd.func21 rfl Tryd.ntmps21 rfl ?_
  refine cd_sr ?_
  refine ln_box (l := [_, _]) rfl rfl rfl (fun b1 => ?_)
  refine ln_pv (pv_assign rfl) rfl ?_
  refine ln_cd ?_
  refine cd_sr ?_
  refine ln_callH (E := []) (H0 := [_]) (List.Perm.refl _) en_35 rfl (fun u hu hok hav hnd => nrf_nil u hok hav hnd) rfl ?_
  rintro u1 _ _ ht1 ⟨_, ⟨fb, rfl, rfl⟩, _⟩
  refine ln_pv (pv_assign rfl) rfl ?_
  refine ln_cd ?_
  refine cd_seq ?_
  refine cd_sr ?_
  refine ln_pv (pv_fieldAddr (off := 0) (r := 0) Tryd.underlying23 rfl tibool.size rfl rfl rfl) rfl ?_
  refine ln_pv (pv_ldo (i := 1) rfl Tryd.underlying4 rfl rfl rfl) rfl ?_
  refine ln_cd ?_
  cases has with
  | false =>
    refine cd_ff rfl ?_
    refine cd_skip ?_
    refine at_cd ?_
    refine cd_free (fun s9 hs9 hK => ?_)
    have hob : OB s9 fb (.cells [.pointer none].toArray 105) := hK _ (List.mem_of_getElem? (i := 0) rfl)
    clear hK
    refine cd_sr ?_
    refine ln_pv (pv_move rfl) rfl ?_
    refine ln_pv (pv_move rfl) rfl ?_
    refine ln_pv (pv_move rfl) rfl ?_
    refine ln_callA en_37 rfl (fun u hu => append_request u fb T b (.pointer none) key v num q (fixed (-1) 2) body (hob.mv hu).rc (fun w hw => kbin_AppendNullableString_nil w) (by simp only [fixed_length, List.length_append]; omega) (hR.mv (ht1.trans (hs9.trans hu))) hk7 hB) rfl (fun u7 v7 ht7 hR7 => ?_)
    refine ln_pv (pv_assign rfl) rfl ?_
    refine ln_cd ?_
    refine cd_ret ?_
    exact at_retA rfl rfl (fun w hS => RSv.mv hR7 hS.trFin)
  | true =>
    refine cd_tt rfl ?_
    refine cd_region ?_
    refine ln_pv (pv_fieldAddr (off := 1) (r := 1) Tryd.underlying23 rfl tistring.size rfl rfl rfl) rfl ?_
    refine ln_pv (pv_ldo (i := 1) rfl Tryd.underlying9 rfl rfl rfl) rfl ?_
    refine ln_callH (E := []) (H0 := [_, _]) (List.Perm.refl _) en_36 rfl (fun u hu hok hav hnd => client_id u z hok hav hnd) rfl ?_
    rintro u2 _ _ ht2 ⟨_, ⟨sb, rfl, rfl⟩, _⟩
    refine ln_lit (vs := [_]) Tryd.underlying102 tipub_kmsg_RequestFormatterOpt rfl (by decide) rfl rfl rfl rfl rfl rfl (fun ob => ?_)
    refine ln_free1 (fun q h => h.elim) (fun s3 ht3 hKo => ?_)
    refine ln_free1 (fun q h => h.elim) (fun s4 ht4 hKs => ?_)
    have hoo : OB s4 ob _ := OB.mv hKo ht4
    have hos : OB s4 sb (.cells [.string z].toArray 9) := hKs
    refine ln_callH (E := []) (H0 := [_, _]) (List.Perm.refl _) en_35 rfl (fun u hu hok hav hnd => nrf_one u ob 1 (.pointer (some ⟨sb, 0, none⟩)) rfl (hoo.mv hu).rc hok hav hnd) rfl ?_
    rintro u5 _ _ ht5 ⟨_, ⟨fb, rfl, rfl⟩, _⟩
    have hos := hos.mv ht5
    refine ln_pv (pv_assign rfl) rfl ?_
    refine ln_nil ?_
    refine at_cd ?_
    refine cd_free (fun s9 hs9 hK => ?_)
    have hob : OB s9 fb (.cells [.pointer (some ⟨sb, 0, none⟩)].toArray 105) := hK _ (List.mem_of_getElem? (i := 0) rfl)
    clear hK
    refine cd_sr ?_
    refine ln_pv (pv_move rfl) rfl ?_
    refine ln_pv (pv_move rfl) rfl ?_
    refine ln_pv (pv_move rfl) rfl ?_
    refine ln_callA en_37 rfl (fun u hu => append_request u fb T b (.pointer (some ⟨sb, 0, none⟩)) key v num q (fixed ((strB z).length : Int) 2 ++ strB z) body (hob.mv hu).rc (fun w hw => kbin_AppendNullableString w sb 0 z ((hos.mv (hs9.trans (hu.trans hw))).rc) hz) (by simp only [fixed_length, List.length_append]; omega) (hR.mv ((ht1.trans (ht2.trans (ht3.trans (ht4.trans ht5)))).trans (hs9.trans hu))) hk7 hB) rfl (fun u7 v7 ht7 hR7 => ?_)
    refine ln_pv (pv_assign rfl) rfl ?_
    refine ln_cd ?_
    refine cd_ret ?_
    exact at_retA rfl rfl (fun w hS => RSv.mv hR7 hS.trFin)
theorem spec_Frame (t : Vw) (key v num : Int) (has fl : Bool) (idv bv : Value) (idl body : List UInt8) (hid : RSv t idv idl) (hbo : RSv t bv body) (hn0 : -2147483648 ≤ num) (hn1 : num ≤ 2147483647) (hil : idl.length ≤ 32767) (hB : body.length ≤ 1099511627776) : CA Tryd.prog 12 [.int .i64 key, .int .i64 v, .int .i32 num, .bool has, idv, .bool fl, bv] t fun u r => RSv u r (frB key v num (if has then fixed (idl.length : Int) 2 ++ idl else fixed (-1) 2) fl body) := by
  obtain ⟨adI, cI, rfl, hleI⟩ := hid.shape
  obtain ⟨adB, cB, rfl, hleB⟩ := hbo.shape
  refine ca_enter Tryd.func12 rfl Tryd.ntmps12 rfl ?_
  cases has with
  | false =>
    cases fl with
    | false =>
      refine cd_sr ?_
      refine ln_pv (pv_assign rfl) rfl ?_
      refine ln_cd ?_
      refine cd_sr ?_
      refine ln_pv (pv_move rfl) rfl ?_
      refine ln_nilrow 5 1 ?_
      refine ln_callT (i := 0) en_22 rfl rfl (fun u hu hok hav => CN.ct (spec_Fixed_n u key 2 (by omega))) rfl ?_
      rintro u1 v1 _ ht1 ⟨_, ⟨rfl, h1v1⟩, _⟩
      have hid := hid.mv ht1
      have hbo := hbo.mv ht1
      refine ln_pv (pv_move rfl) rfl ?_
      refine ln_nilrow 5 1 ?_
      refine ln_callT (i := 0) en_22 rfl rfl (fun u hu hok hav => CN.ct (spec_Fixed_n u v 2 (by omega))) rfl ?_
      rintro u2 v2 _ ht2 ⟨_, ⟨rfl, h1v2⟩, _⟩
      have hid := hid.mv ht2
      have hbo := hbo.mv ht2
      refine ln_append (i := 1) rfl Tryd.underlying24 tiuint8 rfl (by decide) rfl rfl (row_src (j := 0) rfl (u8s_one _)) (by first | omega | (simp only [maxLen, List.length_append, List.length_nil, List.length_cons, fixed_length]; omega)) (by first | omega | (simp only [maxLen, List.length_append, List.length_nil, List.length_cons, fixed_length]; omega)) rfl (k' := (fixed key 2 ++ fixed v 2).length) (xs' := u8s (fixed key 2 ++ fixed v 2)) (by simp only [List.length_append, List.length_nil, List.length_cons, fixed_length]; try omega) (by simp [u8s, u8v, flat, Value.cells]) (fun v3 hv3 => ?_)
      refine ln_pv (pv_assign rfl) rfl ?_
      refine ln_cd ?_
      refine cd_sr ?_
      refine ln_pv (pv_move rfl) rfl ?_
      refine ln_pv (pv_move rfl) rfl ?_
      refine ln_pv (pv_conv' Tryd.underlying21 Tryd.underlying2 rfl (wrap_i64 (by omega) (by omega))) rfl ?_
      refine ln_nilrow 5 1 ?_
      refine ln_callT (i := 0) en_22 rfl rfl (fun u hu hok hav => CN.ct (spec_Fixed_n u num 4 (by omega))) rfl ?_
      rintro u4 v4 _ ht4 ⟨_, ⟨rfl, h1v4⟩, _⟩
      have hid := hid.mv ht4
      have hbo := hbo.mv ht4
      refine ln_append (i := 2) rfl Tryd.underlying24 tiuint8 rfl (by decide) rfl rfl (row_src (j := 0) rfl (u8s_one _)) (by first | omega | (simp only [maxLen, List.length_append, List.length_nil, List.length_cons, fixed_length]; omega)) (by first | omega | (simp only [maxLen, List.length_append, List.length_nil, List.length_cons, fixed_length]; omega)) rfl (k' := ((fixed key 2 ++ fixed v 2) ++ fixed num 4).length) (xs' := u8s ((fixed key 2 ++ fixed v 2) ++ fixed num 4)) (by simp only [List.length_append, List.length_nil, List.length_cons, fixed_length]; try omega) (by simp [u8s, u8v, flat, Value.cells]) (fun v5 hv5 => ?_)
      refine ln_pv (pv_assign rfl) rfl ?_
      refine ln_cd ?_
      refine cd_seq ?_
      refine cd_sr ?_
      refine ln_pv (pv_move rfl) rfl ?_
      refine ln_cd ?_
      refine cd_ff rfl ?_
      refine cd_region ?_
      refine ln_pv (pv_move rfl) rfl ?_
      refine ln_nilrow 5 1 ?_
      refine ln_callT (i := 0) en_22 rfl rfl (fun u hu hok hav => CN.ct (spec_Fixed_n u (-1) 2 (by omega))) rfl ?_
      rintro u6 v6 _ ht6 ⟨_, ⟨rfl, h1v6⟩, _⟩
      have hid := hid.mv ht6
      have hbo := hbo.mv ht6
      refine ln_append (i := 3) rfl Tryd.underlying24 tiuint8 rfl (by decide) rfl rfl (row_src (j := 0) rfl (u8s_one _)) (by first | omega | (simp only [maxLen, List.length_append, List.length_nil, List.length_cons, fixed_length]; omega)) (by first | omega | (simp only [maxLen, List.length_append, List.length_nil, List.length_cons, fixed_length]; omega)) rfl (k' := (((fixed key 2 ++ fixed v 2) ++ fixed num 4) ++ fixed (-1) 2).length) (xs' := u8s (((fixed key 2 ++ fixed v 2) ++ fixed num 4) ++ fixed (-1) 2)) (by simp only [List.length_append, List.length_nil, List.length_cons, fixed_length]; try omega) (by simp [u8s, u8v, flat, Value.cells]) (fun v7 hv7 => ?_)
      refine ln_pv (pv_assign rfl) rfl ?_
      refine ln_nil ?_
      refine at_cd ?_
      refine cd_seq ?_
      refine cd_sr ?_
      refine ln_pv (pv_move rfl) rfl ?_
      refine ln_cd ?_
      refine cd_ff rfl ?_
      refine cd_skip ?_
      refine at_cd ?_
      refine cd_sr ?_
      refine ln_pv (pv_move rfl) rfl ?_
      refine ln_pv (pv_move rfl) rfl ?_
      refine ln_append (i := 3) rfl Tryd.underlying24 tiuint8 rfl (by decide) rfl rfl (RS.src hbo) (by first | omega | (simp only [maxLen, List.length_append, List.length_nil, List.length_cons, fixed_length]; omega)) (by first | omega | (simp only [maxLen, List.length_append, List.length_nil, List.length_cons, fixed_length]; omega)) rfl (k' := (((((fixed key 2 ++ fixed v 2) ++ fixed num 4) ++ fixed (-1) 2) ++ []) ++ body).length) (xs' := u8s (((((fixed key 2 ++ fixed v 2) ++ fixed num 4) ++ fixed (-1) 2) ++ []) ++ body)) (by simp only [List.length_append, List.length_nil, List.length_cons, fixed_length]; try omega) (by simp [u8s, u8v, flat, Value.cells]) (fun v8 hv8 => ?_)
      refine ln_pv (pv_assign rfl) rfl ?_
      refine ln_cd ?_
      refine cd_sr ?_
      refine ln_pv (pv_move rfl) rfl ?_
      refine ln_pv (pv_len_row (i := 3) rfl Tryd.underlying24 rfl) rfl ?_
      refine ln_nilrow 5 1 ?_
      refine ln_callT (i := 0) en_22 rfl rfl (fun u hu hok hav => CN.ct (spec_Fixed_n u ((((((fixed key 2 ++ fixed v 2) ++ fixed num 4) ++ fixed (-1) 2) ++ []) ++ body).length : Int) 4 (by omega))) rfl ?_
      rintro u9 v9 _ ht9 ⟨_, ⟨rfl, h1v9⟩, _⟩
      have hid := hid.mv ht9
      have hbo := hbo.mv ht9
      refine ln_pv (pv_move rfl) rfl ?_
      refine ln_append (i := 0) rfl Tryd.underlying24 tiuint8 rfl (by decide) rfl rfl (row_src (j := 4) rfl (u8s_one _)) (by first | omega | (simp only [maxLen, List.length_append, List.length_nil, List.length_cons, fixed_length]; omega)) (by first | omega | (simp only [maxLen, List.length_append, List.length_nil, List.length_cons, fixed_length]; omega)) rfl (k' := (fixed ((((((fixed key 2 ++ fixed v 2) ++ fixed num 4) ++ fixed (-1) 2) ++ []) ++ body).length : Int) 4 ++ (((((fixed key 2 ++ fixed v 2) ++ fixed num 4) ++ fixed (-1) 2) ++ []) ++ body)).length) (xs' := u8s (fixed ((((((fixed key 2 ++ fixed v 2) ++ fixed num 4) ++ fixed (-1) 2) ++ []) ++ body).length : Int) 4 ++ (((((fixed key 2 ++ fixed v 2) ++ fixed num 4) ++ fixed (-1) 2) ++ []) ++ body))) (by simp only [List.length_append, List.length_nil, List.length_cons, fixed_length]; try omega) (by simp [u8s, u8v, flat, Value.cells]) (fun v10 hv10 => ?_)
      refine ln_pv (pv_assign rfl) rfl ?_
      refine ln_cd ?_
      refine cd_ret ?_
      refine at_retA rfl rfl (fun w hS => ?_)
      exact row_rs hS (j := 0) rfl (u8s_one _)
    | true =>
      refine cd_sr ?_
      refine ln_pv (pv_assign rfl) rfl ?_
      refine ln_cd ?_
      refine cd_sr ?_
      refine ln_pv (pv_move rfl) rfl ?_
      refine ln_nilrow 5 1 ?_
      refine ln_callT (i := 0) en_22 rfl rfl (fun u hu hok hav => CN.ct (spec_Fixed_n u key 2 (by omega))) rfl ?_
      rintro u1 v1 _ ht1 ⟨_, ⟨rfl, h1v1⟩, _⟩
      have hid := hid.mv ht1
      have hbo := hbo.mv ht1
      refine ln_pv (pv_move rfl) rfl ?_
      refine ln_nilrow 5 1 ?_
      refine ln_callT (i := 0) en_22 rfl rfl (fun u hu hok hav => CN.ct (spec_Fixed_n u v 2 (by omega))) rfl ?_
      rintro u2 v2 _ ht2 ⟨_, ⟨rfl, h1v2⟩, _⟩
      have hid := hid.mv ht2
      have hbo := hbo.mv ht2
      refine ln_append (i := 1) rfl Tryd.underlying24 tiuint8 rfl (by decide) rfl rfl (row_src (j := 0) rfl (u8s_one _)) (by first | omega | (simp only [maxLen, List.length_append, List.length_nil, List.length_cons, fixed_length]; omega)) (by first | omega | (simp only [maxLen, List.length_append, List.length_nil, List.length_cons, fixed_length]; omega)) rfl (k' := (fixed key 2 ++ fixed v 2).length) (xs' := u8s (fixed key 2 ++ fixed v 2)) (by simp only [List.length_append, List.length_nil, List.length_cons, fixed_length]; try omega) (by simp [u8s, u8v, flat, Value.cells]) (fun v3 hv3 => ?_)
      refine ln_pv (pv_assign rfl) rfl ?_
      refine ln_cd ?_
      refine cd_sr ?_
      refine ln_pv (pv_move rfl) rfl ?_
      refine ln_pv (pv_move rfl) rfl ?_
      refine ln_pv (pv_conv' Tryd.underlying21 Tryd.underlying2 rfl (wrap_i64 (by omega) (by omega))) rfl ?_
      refine ln_nilrow 5 1 ?_
      refine ln_callT (i := 0) en_22 rfl rfl (fun u hu hok hav => CN.ct (spec_Fixed_n u num 4 (by omega))) rfl ?_
      rintro u4 v4 _ ht4 ⟨_, ⟨rfl, h1v4⟩, _⟩
      have hid := hid.mv ht4
      have hbo := hbo.mv ht4
      refine ln_append (i := 2) rfl Tryd.underlying24 tiuint8 rfl (by decide) rfl rfl (row_src (j := 0) rfl (u8s_one _)) (by first | omega | (simp only [maxLen, List.length_append, List.length_nil, List.length_cons, fixed_length]; omega)) (by first | omega | (simp only [maxLen, List.length_append, List.length_nil, List.length_cons, fixed_length]; omega)) rfl (k' := ((fixed key 2 ++ fixed v 2) ++ fixed num 4).length) (xs' := u8s ((fixed key 2 ++ fixed v 2) ++ fixed num 4)) (by simp only [List.length_append, List.length_nil, List.length_cons, fixed_length]; try omega) (by simp [u8s, u8v, flat, Value.cells]) (fun v5 hv5 => ?_)
      refine ln_pv (pv_assign rfl) rfl ?_
      refine ln_cd ?_
      refine cd_seq ?_
      refine cd_sr ?_
      refine ln_pv (pv_move rfl) rfl ?_
      refine ln_cd ?_
      refine cd_ff rfl ?_
      refine cd_region ?_
      refine ln_pv (pv_move rfl) rfl ?_
      refine ln_nilrow 5 1 ?_
      refine ln_callT (i := 0) en_22 rfl rfl (fun u hu hok hav => CN.ct (spec_Fixed_n u (-1) 2 (by omega))) rfl ?_
      rintro u6 v6 _ ht6 ⟨_, ⟨rfl, h1v6⟩, _⟩
      have hid := hid.mv ht6
      have hbo := hbo.mv ht6
      refine ln_append (i := 3) rfl Tryd.underlying24 tiuint8 rfl (by decide) rfl rfl (row_src (j := 0) rfl (u8s_one _)) (by first | omega | (simp only [maxLen, List.length_append, List.length_nil, List.length_cons, fixed_length]; omega)) (by first | omega | (simp only [maxLen, List.length_append, List.length_nil, List.length_cons, fixed_length]; omega)) rfl (k' := (((fixed key 2 ++ fixed v 2) ++ fixed num 4) ++ fixed (-1) 2).length) (xs' := u8s (((fixed key 2 ++ fixed v 2) ++ fixed num 4) ++ fixed (-1) 2)) (by simp only [List.length_append, List.length_nil, List.length_cons, fixed_length]; try omega) (by simp [u8s, u8v, flat, Value.cells]) (fun v7 hv7 => ?_)
      refine ln_pv (pv_assign rfl) rfl ?_
      refine ln_nil ?_
      refine at_cd ?_
      refine cd_seq ?_
      refine cd_sr ?_
      refine ln_pv (pv_move rfl) rfl ?_
      refine ln_cd ?_
      refine cd_tt rfl ?_
      refine cd_region ?_
      refine ln_pv (pv_move rfl) rfl ?_
      refine ln_lit (vs := [_]) Tryd.underlying24 tiuint8 rfl (by decide) rfl rfl rfl rfl rfl rfl (fun b1 => ?_)
      refine ln_append (i := 4) rfl Tryd.underlying24 tiuint8 rfl (by decide) rfl rfl (src_obj (j := 0) rfl rfl rfl) (by first | omega | (simp only [maxLen, List.length_append, List.length_nil, List.length_cons, fixed_length]; omega)) (by first | omega | (simp only [maxLen, List.length_append, List.length_nil, List.length_cons, fixed_length]; omega)) rfl (k' := ((((fixed key 2 ++ fixed v 2) ++ fixed num 4) ++ fixed (-1) 2) ++ [0]).length) (xs' := u8s ((((fixed key 2 ++ fixed v 2) ++ fixed num 4) ++ fixed (-1) 2) ++ [0])) (by simp only [List.length_append, List.length_nil, List.length_cons, fixed_length]; try omega) (by simp [u8s, u8v, flat, Value.cells]) (fun v8 hv8 => ?_)
      refine ln_pv (pv_assign rfl) rfl ?_
      refine ln_nil ?_
      refine at_cd ?_
      refine cd_sr ?_
      refine ln_pv (pv_move rfl) rfl ?_
      refine ln_pv (pv_move rfl) rfl ?_
      refine ln_append (i := 4) rfl Tryd.underlying24 tiuint8 rfl (by decide) rfl rfl (RS.src hbo) (by first | omega | (simp only [maxLen, List.length_append, List.length_nil, List.length_cons, fixed_length]; omega)) (by first | omega | (simp only [maxLen, List.length_append, List.length_nil, List.length_cons, fixed_length]; omega)) rfl (k' := (((((fixed key 2 ++ fixed v 2) ++ fixed num 4) ++ fixed (-1) 2) ++ [0]) ++ body).length) (xs' := u8s (((((fixed key 2 ++ fixed v 2) ++ fixed num 4) ++ fixed (-1) 2) ++ [0]) ++ body)) (by simp only [List.length_append, List.length_nil, List.length_cons, fixed_length]; try omega) (by simp [u8s, u8v, flat, Value.cells]) (fun v9 hv9 => ?_)
      refine ln_pv (pv_assign rfl) rfl ?_
      refine ln_cd ?_
      refine cd_sr ?_
      refine ln_pv (pv_move rfl) rfl ?_
      refine ln_pv (pv_len_row (i := 4) rfl Tryd.underlying24 rfl) rfl ?_
      refine ln_nilrow 5 1 ?_
      refine ln_callT (i := 0) en_22 rfl rfl (fun u hu hok hav => CN.ct (spec_Fixed_n u ((((((fixed key 2 ++ fixed v 2) ++ fixed num 4) ++ fixed (-1) 2) ++ [0]) ++ body).length : Int) 4 (by omega))) rfl ?_
      rintro u10 v10 _ ht10 ⟨_, ⟨rfl, h1v10⟩, _⟩
      have hid := hid.mv ht10
      have hbo := hbo.mv ht10
      refine ln_pv (pv_move rfl) rfl ?_
      refine ln_append (i := 0) rfl Tryd.underlying24 tiuint8 rfl (by decide) rfl rfl (row_src (j := 5) rfl (u8s_one _)) (by first | omega | (simp only [maxLen, List.length_append, List.length_nil, List.length_cons, fixed_length]; omega)) (by first | omega | (simp only [maxLen, List.length_append, List.length_nil, List.length_cons, fixed_length]; omega)) rfl (k' := (fixed ((((((fixed key 2 ++ fixed v 2) ++ fixed num 4) ++ fixed (-1) 2) ++ [0]) ++ body).length : Int) 4 ++ (((((fixed key 2 ++ fixed v 2) ++ fixed num 4) ++ fixed (-1) 2) ++ [0]) ++ body)).length) (xs' := u8s (fixed ((((((fixed key 2 ++ fixed v 2) ++ fixed num 4) ++ fixed (-1) 2) ++ [0]) ++ body).length : Int) 4 ++ (((((fixed key 2 ++ fixed v 2) ++ fixed num 4) ++ fixed (-1) 2) ++ [0]) ++ body))) (by simp only [List.length_append, List.length_nil, List.length_cons, fixed_length]; try omega) (by simp [u8s, u8v, flat, Value.cells]) (fun v11 hv11 => ?_)
      refine ln_pv (pv_assign rfl) rfl ?_
      refine ln_cd ?_
      refine cd_ret ?_
      refine at_retA rfl rfl (fun w hS => ?_)
      exact row_rs hS (j := 0) rfl (u8s_one _)
  | true =>
    cases fl with
    | false =>
      refine cd_sr ?_
      refine ln_pv (pv_assign rfl) rfl ?_
      refine ln_cd ?_
      refine cd_sr ?_
      refine ln_pv (pv_move rfl) rfl ?_
      refine ln_nilrow 5 1 ?_
      refine ln_callT (i := 0) en_22 rfl rfl (fun u hu hok hav => CN.ct (spec_Fixed_n u key 2 (by omega))) rfl ?_
      rintro u1 v1 _ ht1 ⟨_, ⟨rfl, h1v1⟩, _⟩
      have hid := hid.mv ht1
      have hbo := hbo.mv ht1
      refine ln_pv (pv_move rfl) rfl ?_
      refine ln_nilrow 5 1 ?_
      refine ln_callT (i := 0) en_22 rfl rfl (fun u hu hok hav => CN.ct (spec_Fixed_n u v 2 (by omega))) rfl ?_
      rintro u2 v2 _ ht2 ⟨_, ⟨rfl, h1v2⟩, _⟩
      have hid := hid.mv ht2
      have hbo := hbo.mv ht2
      refine ln_append (i := 1) rfl Tryd.underlying24 tiuint8 rfl (by decide) rfl rfl (row_src (j := 0) rfl (u8s_one _)) (by first | omega | (simp only [maxLen, List.length_append, List.length_nil, List.length_cons, fixed_length]; omega)) (by first | omega | (simp only [maxLen, List.length_append, List.length_nil, List.length_cons, fixed_length]; omega)) rfl (k' := (fixed key 2 ++ fixed v 2).length) (xs' := u8s (fixed key 2 ++ fixed v 2)) (by simp only [List.length_append, List.length_nil, List.length_cons, fixed_length]; try omega) (by simp [u8s, u8v, flat, Value.cells]) (fun v3 hv3 => ?_)
      refine ln_pv (pv_assign rfl) rfl ?_
      refine ln_cd ?_
      refine cd_sr ?_
      refine ln_pv (pv_move rfl) rfl ?_
      refine ln_pv (pv_move rfl) rfl ?_
      refine ln_pv (pv_conv' Tryd.underlying21 Tryd.underlying2 rfl (wrap_i64 (by omega) (by omega))) rfl ?_
      refine ln_nilrow 5 1 ?_
      refine ln_callT (i := 0) en_22 rfl rfl (fun u hu hok hav => CN.ct (spec_Fixed_n u num 4 (by omega))) rfl ?_
      rintro u4 v4 _ ht4 ⟨_, ⟨rfl, h1v4⟩, _⟩
      have hid := hid.mv ht4
      have hbo := hbo.mv ht4
      refine ln_append (i := 2) rfl Tryd.underlying24 tiuint8 rfl (by decide) rfl rfl (row_src (j := 0) rfl (u8s_one _)) (by first | omega | (simp only [maxLen, List.length_append, List.length_nil, List.length_cons, fixed_length]; omega)) (by first | omega | (simp only [maxLen, List.length_append, List.length_nil, List.length_cons, fixed_length]; omega)) rfl (k' := ((fixed key 2 ++ fixed v 2) ++ fixed num 4).length) (xs' := u8s ((fixed key 2 ++ fixed v 2) ++ fixed num 4)) (by simp only [List.length_append, List.length_nil, List.length_cons, fixed_length]; try omega) (by simp [u8s, u8v, flat, Value.cells]) (fun v5 hv5 => ?_)
      refine ln_pv (pv_assign rfl) rfl ?_
      refine ln_cd ?_
      refine cd_seq ?_
      refine cd_sr ?_
      refine ln_pv (pv_move rfl) rfl ?_
      refine ln_cd ?_
      refine cd_tt rfl ?_
      refine cd_region ?_
      refine ln_pv (pv_move rfl) rfl ?_
      refine ln_pv (pv_move rfl) rfl ?_
      refine ln_pv (pv_len_slice Tryd.underlying24 rfl) rfl ?_
      refine ln_nilrow 5 1 ?_
      refine ln_callT (i := 0) en_22 rfl rfl (fun u hu hok hav => CN.ct (spec_Fixed_n u (idl.length : Int) 2 (by omega))) rfl ?_
      rintro u6 v6 _ ht6 ⟨_, ⟨rfl, h1v6⟩, _⟩
      have hid := hid.mv ht6
      have hbo := hbo.mv ht6
      refine ln_append (i := 3) rfl Tryd.underlying24 tiuint8 rfl (by decide) rfl rfl (row_src (j := 0) rfl (u8s_one _)) (by first | omega | (simp only [maxLen, List.length_append, List.length_nil, List.length_cons, fixed_length]; omega)) (by first | omega | (simp only [maxLen, List.length_append, List.length_nil, List.length_cons, fixed_length]; omega)) rfl (k' := (((fixed key 2 ++ fixed v 2) ++ fixed num 4) ++ fixed (idl.length : Int) 2).length) (xs' := u8s (((fixed key 2 ++ fixed v 2) ++ fixed num 4) ++ fixed (idl.length : Int) 2)) (by simp only [List.length_append, List.length_nil, List.length_cons, fixed_length]; try omega) (by simp [u8s, u8v, flat, Value.cells]) (fun v7 hv7 => ?_)
      refine ln_pv (pv_move rfl) rfl ?_
      refine ln_append (i := 3) rfl Tryd.underlying24 tiuint8 rfl (by decide) rfl rfl (RS.src hid) (by first | omega | (simp only [maxLen, List.length_append, List.length_nil, List.length_cons, fixed_length]; omega)) (by first | omega | (simp only [maxLen, List.length_append, List.length_nil, List.length_cons, fixed_length]; omega)) rfl (k' := (((fixed key 2 ++ fixed v 2) ++ fixed num 4) ++ (fixed (idl.length : Int) 2 ++ idl)).length) (xs' := u8s (((fixed key 2 ++ fixed v 2) ++ fixed num 4) ++ (fixed (idl.length : Int) 2 ++ idl))) (by simp only [List.length_append, List.length_nil, List.length_cons, fixed_length]; try omega) (by simp [u8s, u8v, flat, Value.cells]) (fun v8 hv8 => ?_)
      refine ln_pv (pv_assign rfl) rfl ?_
      refine ln_nil ?_
      refine at_cd ?_
      refine cd_seq ?_
      refine cd_sr ?_
      refine ln_pv (pv_move rfl) rfl ?_
      refine ln_cd ?_
      refine cd_ff rfl ?_
      refine cd_skip ?_
      refine at_cd ?_
      refine cd_sr ?_
      refine ln_pv (pv_move rfl) rfl ?_
      refine ln_pv (pv_move rfl) rfl ?_
      refine ln_append (i := 3) rfl Tryd.underlying24 tiuint8 rfl (by decide) rfl rfl (RS.src hbo) (by first | omega | (simp only [maxLen, List.length_append, List.length_nil, List.length_cons, fixed_length]; omega)) (by first | omega | (simp only [maxLen, List.length_append, List.length_nil, List.length_cons, fixed_length]; omega)) rfl (k' := (((((fixed key 2 ++ fixed v 2) ++ fixed num 4) ++ (fixed (idl.length : Int) 2 ++ idl)) ++ []) ++ body).length) (xs' := u8s (((((fixed key 2 ++ fixed v 2) ++ fixed num 4) ++ (fixed (idl.length : Int) 2 ++ idl)) ++ []) ++ body)) (by simp only [List.length_append, List.length_nil, List.length_cons, fixed_length]; try omega) (by simp [u8s, u8v, flat, Value.cells]) (fun v9 hv9 => ?_)
      refine ln_pv (pv_assign rfl) rfl ?_
      refine ln_cd ?_
      refine cd_sr ?_
      refine ln_pv (pv_move rfl) rfl ?_
      refine ln_pv (pv_len_row (i := 3) rfl Tryd.underlying24 rfl) rfl ?_
      refine ln_nilrow 5 1 ?_
      refine ln_callT (i := 0) en_22 rfl rfl (fun u hu hok hav => CN.ct (spec_Fixed_n u ((((((fixed key 2 ++ fixed v 2) ++ fixed num 4) ++ (fixed (idl.length : Int) 2 ++ idl)) ++ []) ++ body).length : Int) 4 (by omega))) rfl ?_
      rintro u10 v10 _ ht10 ⟨_, ⟨rfl, h1v10⟩, _⟩
      have hid := hid.mv ht10
      have hbo := hbo.mv ht10
      refine ln_pv (pv_move rfl) rfl ?_
      refine ln_append (i := 0) rfl Tryd.underlying24 tiuint8 rfl (by decide) rfl rfl (row_src (j := 4) rfl (u8s_one _)) (by first | omega | (simp only [maxLen, List.length_append, List.length_nil, List.length_cons, fixed_length]; omega)) (by first | omega | (simp only [maxLen, List.length_append, List.length_nil, List.length_cons, fixed_length]; omega)) rfl (k' := (fixed ((((((fixed key 2 ++ fixed v 2) ++ fixed num 4) ++ (fixed (idl.length : Int) 2 ++ idl)) ++ []) ++ body).length : Int) 4 ++ (((((fixed key 2 ++ fixed v 2) ++ fixed num 4) ++ (fixed (idl.length : Int) 2 ++ idl)) ++ []) ++ body)).length) (xs' := u8s (fixed ((((((fixed key 2 ++ fixed v 2) ++ fixed num 4) ++ (fixed (idl.length : Int) 2 ++ idl)) ++ []) ++ body).length : Int) 4 ++ (((((fixed key 2 ++ fixed v 2) ++ fixed num 4) ++ (fixed (idl.length : Int) 2 ++ idl)) ++ []) ++ body))) (by simp only [List.length_append, List.length_nil, List.length_cons, fixed_length]; try omega) (by simp [u8s, u8v, flat, Value.cells]) (fun v11 hv11 => ?_)
      refine ln_pv (pv_assign rfl) rfl ?_
      refine ln_cd ?_
      refine cd_ret ?_
      refine at_retA rfl rfl (fun w hS => ?_)
      exact row_rs hS (j := 0) rfl (u8s_one _)
    | true =>
      refine cd_sr ?_
      refine ln_pv (pv_assign rfl) rfl ?_
      refine ln_cd ?_
      refine cd_sr ?_
      refine ln_pv (pv_move rfl) rfl ?_
      refine ln_nilrow 5 1 ?_
      refine ln_callT (i := 0) en_22 rfl rfl (fun u hu hok hav => CN.ct (spec_Fixed_n u key 2 (by omega))) rfl ?_
      rintro u1 v1 _ ht1 ⟨_, ⟨rfl, h1v1⟩, _⟩
      have hid := hid.mv ht1
      have hbo := hbo.mv ht1
      refine ln_pv (pv_move rfl) rfl ?_
      refine ln_nilrow 5 1 ?_
      refine ln_callT (i := 0) en_22 rfl rfl (fun u hu hok hav => CN.ct (spec_Fixed_n u v 2 (by omega))) rfl ?_
      rintro u2 v2 _ ht2 ⟨_, ⟨rfl, h1v2⟩, _⟩
      have hid := hid.mv ht2
      have hbo := hbo.mv ht2
      refine ln_append (i := 1) rfl Tryd.underlying24 tiuint8 rfl (by decide) rfl rfl (row_src (j := 0) rfl (u8s_one _)) (by first | omega | (simp only [maxLen, List.length_append, List.length_nil, List.length_cons, fixed_length]; omega)) (by first | omega | (simp only [maxLen, List.length_append, List.length_nil, List.length_cons, fixed_length]; omega)) rfl (k' := (fixed key 2 ++ fixed v 2).length) (xs' := u8s (fixed key 2 ++ fixed v 2)) (by simp only [List.length_append, List.length_nil, List.length_cons, fixed_length]; try omega) (by simp [u8s, u8v, flat, Value.cells]) (fun v3 hv3 => ?_)
      refine ln_pv (pv_assign rfl) rfl ?_
      refine ln_cd ?_
      refine cd_sr ?_
      refine ln_pv (pv_move rfl) rfl ?_
      refine ln_pv (pv_move rfl) rfl ?_
      refine ln_pv (pv_conv' Tryd.underlying21 Tryd.underlying2 rfl (wrap_i64 (by omega) (by omega))) rfl ?_
      refine ln_nilrow 5 1 ?_
      refine ln_callT (i := 0) en_22 rfl rfl (fun u hu hok hav => CN.ct (spec_Fixed_n u num 4 (by omega))) rfl ?_
      rintro u4 v4 _ ht4 ⟨_, ⟨rfl, h1v4⟩, _⟩
      have hid := hid.mv ht4
      have hbo := hbo.mv ht4
      refine ln_append (i := 2) rfl Tryd.underlying24 tiuint8 rfl (by decide) rfl rfl (row_src (j := 0) rfl (u8s_one _)) (by first | omega | (simp only [maxLen, List.length_append, List.length_nil, List.length_cons, fixed_length]; omega)) (by first | omega | (simp only [maxLen, List.length_append, List.length_nil, List.length_cons, fixed_length]; omega)) rfl (k' := ((fixed key 2 ++ fixed v 2) ++ fixed num 4).length) (xs' := u8s ((fixed key 2 ++ fixed v 2) ++ fixed num 4)) (by simp only [List.length_append, List.length_nil, List.length_cons, fixed_length]; try omega) (by simp [u8s, u8v, flat, Value.cells]) (fun v5 hv5 => ?_)
      refine ln_pv (pv_assign rfl) rfl ?_
      refine ln_cd ?_
      refine cd_seq ?_
      refine cd_sr ?_
      refine ln_pv (pv_move rfl) rfl ?_
      refine ln_cd ?_
      refine cd_tt rfl ?_
      refine cd_region ?_
      refine ln_pv (pv_move rfl) rfl ?_
      refine ln_pv (pv_move rfl) rfl ?_
      refine ln_pv (pv_len_slice Tryd.underlying24 rfl) rfl ?_
      refine ln_nilrow 5 1 ?_
      refine ln_callT (i := 0) en_22 rfl rfl (fun u hu hok hav => CN.ct (spec_Fixed_n u (idl.length : Int) 2 (by omega))) rfl ?_
      rintro u6 v6 _ ht6 ⟨_, ⟨rfl, h1v6⟩, _⟩
      have hid := hid.mv ht6
      have hbo := hbo.mv ht6
      refine ln_append (i := 3) rfl Tryd.underlying24 tiuint8 rfl (by decide) rfl rfl (row_src (j := 0) rfl (u8s_one _)) (by first | omega | (simp only [maxLen, List.length_append, List.length_nil, List.length_cons, fixed_length]; omega)) (by first | omega | (simp only [maxLen, List.length_append, List.length_nil, List.length_cons, fixed_length]; omega)) rfl (k' := (((fixed key 2 ++ fixed v 2) ++ fixed num 4) ++ fixed (idl.length : Int) 2).length) (xs' := u8s (((fixed key 2 ++ fixed v 2) ++ fixed num 4) ++ fixed (idl.length : Int) 2)) (by simp only [List.length_append, List.length_nil, List.length_cons, fixed_length]; try omega) (by simp [u8s, u8v, flat, Value.cells]) (fun v7 hv7 => ?_)
      refine ln_pv (pv_move rfl) rfl ?_
      refine ln_append (i := 3) rfl Tryd.underlying24 tiuint8 rfl (by decide) rfl rfl (RS.src hid) (by first | omega | (simp only [maxLen, List.length_append, List.length_nil, List.length_cons, fixed_length]; omega)) (by first | omega | (simp only [maxLen, List.length_append, List.length_nil, List.length_cons, fixed_length]; omega)) rfl (k' := (((fixed key 2 ++ fixed v 2) ++ fixed num 4) ++ (fixed (idl.length : Int) 2 ++ idl)).length) (xs' := u8s (((fixed key 2 ++ fixed v 2) ++ fixed num 4) ++ (fixed (idl.length : Int) 2 ++ idl))) (by simp only [List.length_append, List.length_nil, List.length_cons, fixed_length]; try omega) (by simp [u8s, u8v, flat, Value.cells]) (fun v8 hv8 => ?_)
      refine ln_pv (pv_assign rfl) rfl ?_
      refine ln_nil ?_
      refine at_cd ?_
      refine cd_seq ?_
      refine cd_sr ?_
      refine ln_pv (pv_move rfl) rfl ?_
      refine ln_cd ?_
      refine cd_tt rfl ?_
      refine cd_region ?_
      refine ln_pv (pv_move rfl) rfl ?_
      refine ln_lit (vs := [_]) Tryd.underlying24 tiuint8 rfl (by decide) rfl rfl rfl rfl rfl rfl (fun b1 => ?_)
      refine ln_append (i := 4) rfl Tryd.underlying24 tiuint8 rfl (by decide) rfl rfl (src_obj (j := 0) rfl rfl rfl) (by first | omega | (simp only [maxLen, List.length_append, List.length_nil, List.length_cons, fixed_length]; omega)) (by first | omega | (simp only [maxLen, List.length_append, List.length_nil, List.length_cons, fixed_length]; omega)) rfl (k' := ((((fixed key 2 ++ fixed v 2) ++ fixed num 4) ++ (fixed (idl.length : Int) 2 ++ idl)) ++ [0]).length) (xs' := u8s ((((fixed key 2 ++ fixed v 2) ++ fixed num 4) ++ (fixed (idl.length : Int) 2 ++ idl)) ++ [0])) (by simp only [List.length_append, List.length_nil, List.length_cons, fixed_length]; try omega) (by simp [u8s, u8v, flat, Value.cells]) (fun v9 hv9 => ?_)
      refine ln_pv (pv_assign rfl) rfl ?_
      refine ln_nil ?_
      refine at_cd ?_
      refine cd_sr ?_
      refine ln_pv (pv_move rfl) rfl ?_
      refine ln_pv (pv_move rfl) rfl ?_
      refine ln_append (i := 4) rfl Tryd.underlying24 tiuint8 rfl (by decide) rfl rfl (RS.src hbo) (by first | omega | (simp only [maxLen, List.length_append, List.length_nil, List.length_cons, fixed_length]; omega)) (by first | omega | (simp only [maxLen, List.length_append, List.length_nil, List.length_cons, fixed_length]; omega)) rfl (k' := (((((fixed key 2 ++ fixed v 2) ++ fixed num 4) ++ (fixed (idl.length : Int) 2 ++ idl)) ++ [0]) ++ body).length) (xs' := u8s (((((fixed key 2 ++ fixed v 2) ++ fixed num 4) ++ (fixed (idl.length : Int) 2 ++ idl)) ++ [0]) ++ body)) (by simp only [List.length_append, List.length_nil, List.length_cons, fixed_length]; try omega) (by simp [u8s, u8v, flat, Value.cells]) (fun v10 hv10 => ?_)
      refine ln_pv (pv_assign rfl) rfl ?_
      refine ln_cd ?_
      refine cd_sr ?_
      refine ln_pv (pv_move rfl) rfl ?_
      refine ln_pv (pv_len_row (i := 4) rfl Tryd.underlying24 rfl) rfl ?_
      refine ln_nilrow 5 1 ?_
      refine ln_callT (i := 0) en_22 rfl rfl (fun u hu hok hav => CN.ct (spec_Fixed_n u ((((((fixed key 2 ++ fixed v 2) ++ fixed num 4) ++ (fixed (idl.length : Int) 2 ++ idl)) ++ [0]) ++ body).length : Int) 4 (by omega))) rfl ?_
      rintro u11 v11 _ ht11 ⟨_, ⟨rfl, h1v11⟩, _⟩
      have hid := hid.mv ht11
      have hbo := hbo.mv ht11
      refine ln_pv (pv_move rfl) rfl ?_
      refine ln_append (i := 0) rfl Tryd.underlying24 tiuint8 rfl (by decide) rfl rfl (row_src (j := 5) rfl (u8s_one _)) (by first | omega | (simp only [maxLen, List.length_append, List.length_nil, List.length_cons, fixed_length]; omega)) (by first | omega | (simp only [maxLen, List.length_append, List.length_nil, List.length_cons, fixed_length]; omega)) rfl (k' := (fixed ((((((fixed key 2 ++ fixed v 2) ++ fixed num 4) ++ (fixed (idl.length : Int) 2 ++ idl)) ++ [0]) ++ body).length : Int) 4 ++ (((((fixed key 2 ++ fixed v 2) ++ fixed num 4) ++ (fixed (idl.length : Int) 2 ++ idl)) ++ [0]) ++ body)).length) (xs' := u8s (fixed ((((((fixed key 2 ++ fixed v 2) ++ fixed num 4) ++ (fixed (idl.length : Int) 2 ++ idl)) ++ [0]) ++ body).length : Int) 4 ++ (((((fixed key 2 ++ fixed v 2) ++ fixed num 4) ++ (fixed (idl.length : Int) 2 ++ idl)) ++ [0]) ++ body))) (by simp only [List.length_append, List.length_nil, List.length_cons, fixed_length]; try omega) (by simp [u8s, u8v, flat, Value.cells]) (fun v12 hv12 => ?_)
      refine ln_pv (pv_assign rfl) rfl ?_
      refine ln_cd ?_
      refine cd_ret ?_
      refine at_retA rfl rfl (fun w hS => ?_)
      exact row_rs hS (j := 0) rfl (u8s_one _)
theorem spec_Flexible (t : Vw) (vf : Value) (m : Nat) (lc : List Value) (fx v : Int) (hVm : RS t 8 vf m lc) : CS Tryd.prog 13 [.agg #[vf, .int .i64 fx], .int .i64 v] t (.bool (flexB fx v)) := by
  obtain ⟨adV, cV, rfl, hleV⟩ := hVm.shape
  refine CA.cs ?_
  refine ca_enter Tryd.func13 rfl Tryd.ntmps13 rfl ?_
  by_cases h : fx ≥ 0
  · skip
    refine cd_sr ?_
    refine ln_box rfl rfl rfl (fun b1 => ?_)
    refine ln_pv (pv_assign rfl) rfl ?_
    refine ln_cd ?_
    refine cd_sr ?_
    refine ln_pv (pv_fieldAddr (off := 1) (r := 1) Tryd.underlying34 rfl (tiint).size rfl rfl rfl) rfl ?_
    refine ln_pv (pv_ldo (i := 0) rfl Tryd.underlying3 rfl rfl rfl) rfl ?_
    refine ln_pv (pv_tt (pv_geq rfl rfl) h) rfl ?_
    refine ln_pv (pv_move rfl) rfl ?_
    refine ln_gt rfl rfl rfl (pv_move rfl) rfl ?_
    refine ln_gt rfl rfl rfl (pv_fieldAddr (off := 1) (r := 1) Tryd.underlying34 rfl (tiint).size rfl rfl rfl) rfl ?_
    refine ln_gt rfl rfl rfl (pv_ldo (i := 0) rfl Tryd.underlying3 rfl rfl rfl) rfl ?_
    refine ln_gt rfl rfl rfl (pv_geq rfl rfl) rfl ?_
    refine ln_pv (pv_pick rfl (fun _ => rfl) (fun _ => rfl)) rfl ?_
    refine ln_pv (pv_assign rfl) rfl ?_
    refine ln_cd ?_
    refine cd_ret ?_
    refine at_retA rfl rfl (fun w hS => ?_)
    simp [flexB, h]
  · skip
    refine cd_sr ?_
    refine ln_box rfl rfl rfl (fun b1 => ?_)
    refine ln_pv (pv_assign rfl) rfl ?_
    refine ln_cd ?_
    refine cd_sr ?_
    refine ln_pv (pv_fieldAddr (off := 1) (r := 1) Tryd.underlying34 rfl (tiint).size rfl rfl rfl) rfl ?_
    refine ln_pv (pv_ldo (i := 0) rfl Tryd.underlying3 rfl rfl rfl) rfl ?_
    refine ln_pv (pv_ff (pv_geq rfl rfl) h) rfl ?_
    refine ln_pv (pv_move rfl) rfl ?_
    refine ln_gf rfl rfl rfl rfl rfl ?_
    refine ln_gf rfl rfl rfl rfl rfl ?_
    refine ln_gf rfl rfl rfl rfl rfl ?_
    refine ln_gf rfl rfl rfl rfl rfl ?_
    refine ln_pv (pv_pick rfl (fun _ => rfl) (fun _ => rfl)) rfl ?_
    refine ln_pv (pv_assign rfl) rfl ?_
    refine ln_cd ?_
    refine cd_ret ?_
    refine at_retA rfl rfl (fun w hS => ?_)
    simp [flexB, h]
theorem laws_zzFits4 (t : Vw) (has : Bool) (z : ByteArray) (hz : z.size ≤ 1048576) : CS Tryd.prog 4 [.agg #[.bool has, .string z]] t (.bool true) := by
  refine CA.cs ?_
  refine ca_enter Tryd.func4 rfl Tryd.ntmps4 rfl ?_
  refine cd_sr ?_
  refine ln_box rfl rfl rfl (fun b1 => ?_)
  refine ln_pv (pv_assign rfl) rfl ?_
  refine ln_cd ?_
  refine cd_seq ?_
  refine cd_sr ?_
  refine ln_pv (pv_fieldAddr (off := 1) (r := 1) Tryd.underlying23 rfl (tistring).size rfl rfl rfl) rfl ?_
  refine ln_pv (pv_ldo (i := 0) rfl Tryd.underlying9 rfl rfl rfl) rfl ?_
  refine ln_pv (pv_len_str Tryd.underlying9 rfl) rfl ?_
  refine ln_pv (pv_ff (pv_gtr rfl rfl) (by omega)) rfl ?_
  refine ln_cd ?_
  refine cd_ff rfl ?_
  refine cd_skip ?_
  refine at_cd ?_
  refine cd_sr ?_
  refine ln_pv (pv_assign rfl) rfl ?_
  refine ln_cd ?_
  refine cd_ret ?_
  refine at_retA rfl rfl (fun w hS => ?_)
  rfl
theorem frB_le {key v num : Int} {has fl : Bool} {z : ByteArray} {body : List UInt8} (hz : z.size ≤ 32767) : (frB key v num (idsB has z) fl body).length ≤ body.length + 40000 := by
  have h : (idsB has z).length ≤ 32769 := by
    cases has <;> simp only [idsB, if_true, Bool.false_eq_true, if_false, List.length_append, fixed_length, strB_len] <;> omega
  have h2 : (if fl then ([0] : List UInt8) else []).length ≤ 1 := by cases fl <;> decide
  simp only [frB, frO, List.length_append, fixed_length]
  omega
end K
end Go.Proofs.YtepbicjadambbaaDoor
namespace Go.Proofs.YtepbicjadambbaaDoor
namespace K
open Go Go.Lib
/-! ### As cd_dr2, where acting operations may stand ahead of the two -/
section
variable {P : Program} {ops : Array Oper} {S : World → Prop} {T : List Nat} {K1 K2 : Act → World → Prop}
theorem wpOp_np {i : Nat} {next : Act → World → Prop} {a : Act} {w : World} (h : wpOp P ops (NP K1) i next a w) : wpOp P ops (NP K2) i next a w := by
  unfold wpOp at h ⊢
  split
  · rename_i ho
    simp only [ho] at h
    exact h
  · rename_i o ho
    simp only [ho] at h
    split
    · rename_i hw
      rw [if_pos hw] at h
      rcases h with h | ⟨_, _, _, h⟩
      · refine .inl ?_
        unfold Oper.wp at *
        generalize (execOp a.eval o).run P w = rr at *
        cases rr with
        | ok x w' =>
          cases x <;> simp only [Oper.upon] at h ⊢ <;>
            first
              | exact h
              | exact Calls.mono h (fun e w'' he => by cases e <;> first | exact he | exact he.elim | (obtain ⟨_, _, he⟩ := he; exact he.elim))
        | halt x w' => cases x <;> simp only [Oper.upon] at h ⊢ <;> exact (h : False).elim
      · exact (h : False).elim
    · rename_i hw
      rw [if_neg hw] at h
      exact h
def okStep (ops : Array Oper) (T : List Nat) (listed : Array Bool) (i : Nat) : Bool := if T.contains i then Region.free .any ops listed i && (Region.ready .any ops listed).contains i else Region.ready .any ops listed == [i]
def seqPre2 (ops : Array Oper) (T : List Nat) : List Nat → Array Bool → Option (Array Bool)
  | [], listed => some listed
  | i :: r, listed => if okStep ops T listed i then seqPre2 ops T r (listed.setIfInBounds i true) else none
theorem wpAnyS_pre2 {m : Nat} {listed' : Array Bool} (hs : Region.noSelect ops = true) (hfin : ∀ a w, K1 a w → wpAnyS P ops (NP K2) S T m listed' a w) : ∀ (p : List Nat) (listed : Array Bool) (a : Act) (w : World),
    seqPre2 ops T p listed = some listed' → Lw P ops (NP K1) S T p a w → wpAnyS P ops (NP K2) S T (p.length + m) listed a w
  | [], listed, a, w, hok, h => by
    simp only [seqPre2, Option.some.injEq] at hok
    subst hok
    have e : ([] : List Nat).length + m = m := by simp
    rw [e]
    exact hfin a w h
  | i :: r, listed, a, w, hok, h => by
    simp only [seqPre2] at hok
    split at hok
    · rename_i hc
      unfold okStep at hc
      have e : (i :: r).length + m = (r.length + m) + 1 := by simp; omega
      rw [e]
      obtain ⟨o, ho, h⟩ := h
      rcases h with ⟨hT, hS, v, hy, h⟩ | ⟨hT, h⟩
      · rw [if_pos hT] at hc
        simp only [Bool.and_eq_true] at hc
        exact wpAnyS_first ho (Region.noSelect_spec hs) (fun _ _ _ h => h) hT (r.length + m) listed a w (Region.free_spec ho hc.1) (by simpa using hc.2) hy hS (wpAnyS_pre2 hs hfin r _ _ _ hok h)
      · rw [if_neg (by rw [hT]; simp)] at hc
        have hr : Region.ready .any ops listed = [i] := by simpa using hc
        refine ⟨fun h0 => (by rw [hr] at h0; cases h0), fun j hj => ?_⟩
        rw [hr, List.mem_singleton] at hj
        subst hj
        exact wpOp_np (K1 := K1) (wpOp_mono (fun a' w' h' => ⟨h'.1, wpAnyS_pre2 hs hfin r _ _ _ hok h'.2⟩) h)
    · cases hok
def seqTwo2 (ops : Array Oper) (T p : List Nat) (i j : Nat) (ri rj : List Nat) : Bool :=
  match seqPre2 ops T p (Array.replicate ops.size false) with
  | some l => Region.ready .any ops l == [i, j] && !T.contains i && !T.contains j && rj.length == ri.length && seqOk ops T ri (l.setIfInBounds i true) && seqOk ops T rj (l.setIfInBounds j true) && Region.noSelect ops && p.length + (ri.length + 1) == ops.size
  | none => false
theorem cd_dr3 {n : Nat} {L : Env} {H : Hp} {C : Cx} {s : Vw} {N R : Act → World → Prop} {X : List (Nat × (Act → World → Prop))} {id : Nat} {l : List Oper} {y : Code} (is T p : List Nat) (i j : Nat) (ri rj : List Nat) (hm : P.follows .mixedOrders = true) (hok : seqTwo2 l.toArray T p i j ri rj = true)
    (h : Lo P l.toArray (Sk s (pick is H)) T p (fun a w => Lw P l.toArray (NP (y.wp P (Post.q ⟨N, R, X⟩))) (Sk s (pick is H)) T (i :: ri) a w ∧ Lw P l.toArray (NP (y.wp P (Post.q ⟨N, R, X⟩))) (Sk s (pick is H)) T (j :: rj) a w) n L H C s) : Cd P (.seq (.region id l.toArray true) y) ⟨N, R, X⟩ n L H C s := by
  refine cd_sq (fun a w hF hS => ?_)
  unfold seqTwo2 at hok
  split at hok
  · rename_i l' hl'
    simp only [Bool.and_eq_true, Bool.not_eq_true', beq_iff_eq] at hok
    obtain ⟨⟨⟨⟨⟨⟨⟨h1, h2⟩, h3⟩, h4⟩, h5⟩, h6⟩, h7⟩, h8⟩ := hok
    refine Code.wp_mono (Q := NP (y.wp P (Post.q ⟨N, R, X⟩))) (fun e a w hq => (by cases e <;> first | exact hq | exact (hq : False).elim)) (wp_region_any hm (wpAny_of_S (S := Sk s (pick is H)) (T := T) _ _ _ _ ?_))
    rw [← h8]
    refine wpAnyS_pre2 h7 (fun a w hk => wpAnyS_two h7 (fun _ _ _ _ _ h => h) h1 h2 h3 h4 h5 h6 hk.1 hk.2) p _ _ _ ?_ (h a w.drew hF (hS.step (Mod.drew No w)))
    rw [h8]
    exact hl'
  · cases hok
end
end K
end Go.Proofs.YtepbicjadambbaaDoor
