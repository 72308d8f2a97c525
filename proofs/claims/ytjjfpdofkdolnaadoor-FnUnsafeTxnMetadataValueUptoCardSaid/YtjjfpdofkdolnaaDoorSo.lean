import Derived.Test.YtjjfpdofkdolnaaDoorG1
import Derived.Shelf.GgSortFunc.Whole
import Derived.Shelf.GgSortFunc.Tiny
import Derived.Deep.QuietTactic
import Derived.Laws.Externs
import Derived.WalkKit
set_option linter.unusedVariables false
namespace Go.Proofs
open Go.Shelf
def Tryd.sl6_ren : Go.Shelf.Ren := ⟨fun | 6 => 120 | 10 => 158 | 11 => 159 | 12 => 160 | 13 => 161 | 14 => 162 | 24 => 185 | 25 => 186 | 26 => 187 | 27 => 188 | 28 => 189 | 29 => 190 | 30 => 191 | 31 => 192 | 32 => 193 | 33 => 194 | 34 => 197 | 35 => 198 | 36 => 199 | 37 => 200 | 38 => 201 | 39 => 202 | n => n, fun | 20 => 20 | 26 => 152 | 35 => 187 | 0 => 0 | 37 => 189 | 3 => 3 | 41 => 192 | 44 => 195 | 49 => 55 | 51 => 180 | 4 => 4 | 54 => 217 | 53 => 216 | 58 => 221 | 5 => 5 | 9 => 9 | 60 => 224 | 64 => 227 | 66 => 229 | 67 => 230 | 17 => 17 | 32 => 184 | 33 => 185 | 82 => 245 | 12 => 12 | 75 => 238 | 76 => 239 | 77 => 240 | 78 => 241 | 79 => 242 | 80 => 243 | n => n, fun | n => n⟩
theorem Tryd.sl6 : Go.Proofs.LaysGg.n6 Tryd.prog Tryd.sl6_ren := {
  mixed := by kernel_rfl
  f6 := Tryd.func120.trans (congrArg some (by kernel_rfl))
  f10 := Tryd.func158.trans (congrArg some (by kernel_rfl))
  f11 := Tryd.func159.trans (congrArg some (by kernel_rfl))
  f12 := Tryd.func160.trans (congrArg some (by kernel_rfl))
  f13 := Tryd.func161.trans (congrArg some (by kernel_rfl))
  f14 := Tryd.func162.trans (congrArg some (by kernel_rfl))
  f24 := Tryd.func185.trans (congrArg some (by kernel_rfl))
  f25 := Tryd.func186.trans (congrArg some (by kernel_rfl))
  f26 := Tryd.func187.trans (congrArg some (by kernel_rfl))
  f27 := Tryd.func188.trans (congrArg some (by kernel_rfl))
  f28 := Tryd.func189.trans (congrArg some (by kernel_rfl))
  f29 := Tryd.func190.trans (congrArg some (by kernel_rfl))
  f30 := Tryd.func191.trans (congrArg some (by kernel_rfl))
  f31 := Tryd.func192.trans (congrArg some (by kernel_rfl))
  f32 := Tryd.func193.trans (congrArg some (by kernel_rfl))
  f33 := Tryd.func194.trans (congrArg some (by kernel_rfl))
  f34 := Tryd.func197.trans (congrArg some (by kernel_rfl))
  f35 := Tryd.func198.trans (congrArg some (by kernel_rfl))
  f36 := Tryd.func199.trans (congrArg some (by kernel_rfl))
  f37 := Tryd.func200.trans (congrArg some (by kernel_rfl))
  f38 := Tryd.func201.trans (congrArg some (by kernel_rfl))
  f39 := Tryd.func202.trans (congrArg some (by kernel_rfl))
  t0 := Tryd.underlying0
  a0 := Tryd.isAgg0
  z0 := Tryd.sizeOf0
  v0 := Tryd.zeroValue0
  i0 := by kernel_rfl
  t3 := Tryd.underlying3
  a3 := Tryd.isAgg3
  z3 := Tryd.sizeOf3
  v3 := Tryd.zeroValue3
  i3 := by kernel_rfl
  t4 := Tryd.underlying4
  a4 := Tryd.isAgg4
  z4 := Tryd.sizeOf4
  v4 := Tryd.zeroValue4
  i4 := by kernel_rfl
  t5 := Tryd.underlying5
  a5 := Tryd.isAgg5
  z5 := Tryd.sizeOf5
  v5 := Tryd.zeroValue5
  i5 := by kernel_rfl
  t9 := Tryd.underlying9
  a9 := Tryd.isAgg9
  z9 := Tryd.sizeOf9
  v9 := Tryd.zeroValue9
  i9 := by kernel_rfl
  t12 := Tryd.underlying12
  a12 := Tryd.isAgg12
  z12 := Tryd.sizeOf12
  v12 := Tryd.zeroValue12
  i12 := by kernel_rfl
  t17 := Tryd.underlying17
  a17 := Tryd.isAgg17
  z17 := Tryd.sizeOf17
  v17 := Tryd.zeroValue17
  i17 := by kernel_rfl
  t20 := Tryd.underlying20
  a20 := Tryd.isAgg20
  z20 := Tryd.sizeOf20
  v20 := Tryd.zeroValue20
  i20 := by kernel_rfl
  t26 := Tryd.underlying152
  a26 := Tryd.isAgg152
  z26 := Tryd.sizeOf152
  v26 := Tryd.zeroValue152
  i26 := by kernel_rfl
  t32 := Tryd.underlying184
  a32 := Tryd.isAgg184
  z32 := Tryd.sizeOf184
  v32 := Tryd.zeroValue184
  i32 := by kernel_rfl
  t33 := Tryd.underlying185
  a33 := Tryd.isAgg185
  z33 := Tryd.sizeOf185
  v33 := Tryd.zeroValue185
  i33 := by kernel_rfl
  t35 := Tryd.underlying187
  a35 := Tryd.isAgg187
  z35 := Tryd.sizeOf187
  v35 := Tryd.zeroValue187
  i35 := by kernel_rfl
  t37 := Tryd.underlying189
  a37 := Tryd.isAgg189
  z37 := Tryd.sizeOf189
  v37 := Tryd.zeroValue189
  i37 := by kernel_rfl
  t41 := Tryd.underlying192
  a41 := Tryd.isAgg192
  z41 := Tryd.sizeOf192
  v41 := Tryd.zeroValue192
  i41 := by kernel_rfl
  t44 := Tryd.underlying195
  a44 := Tryd.isAgg195
  z44 := Tryd.sizeOf195
  v44 := Tryd.zeroValue195
  i44 := by kernel_rfl
  t49 := Tryd.underlying55
  a49 := Tryd.isAgg55
  z49 := Tryd.sizeOf55
  v49 := Tryd.zeroValue55
  i49 := by kernel_rfl
  t51 := Tryd.underlying180
  a51 := Tryd.isAgg180
  z51 := Tryd.sizeOf180
  v51 := Tryd.zeroValue180
  i51 := by kernel_rfl
  t53 := Tryd.underlying216
  a53 := Tryd.isAgg216
  z53 := Tryd.sizeOf216
  v53 := Tryd.zeroValue216
  i53 := by kernel_rfl
  t54 := Tryd.underlying217
  a54 := Tryd.isAgg217
  z54 := Tryd.sizeOf217
  v54 := Tryd.zeroValue217
  i54 := by kernel_rfl
  t58 := Tryd.underlying221
  a58 := Tryd.isAgg221
  z58 := Tryd.sizeOf221
  v58 := Tryd.zeroValue221
  i58 := by kernel_rfl
  t60 := Tryd.underlying224
  a60 := Tryd.isAgg224
  z60 := Tryd.sizeOf224
  v60 := Tryd.zeroValue224
  i60 := by kernel_rfl
  t64 := Tryd.underlying227
  a64 := Tryd.isAgg227
  z64 := Tryd.sizeOf227
  v64 := Tryd.zeroValue227
  i64 := by kernel_rfl
  t66 := Tryd.underlying229
  a66 := Tryd.isAgg229
  z66 := Tryd.sizeOf229
  v66 := Tryd.zeroValue229
  i66 := by kernel_rfl
  t67 := Tryd.underlying230
  a67 := Tryd.isAgg230
  z67 := Tryd.sizeOf230
  v67 := Tryd.zeroValue230
  i67 := by kernel_rfl
  t75 := Tryd.underlying238
  a75 := Tryd.isAgg238
  z75 := Tryd.sizeOf238
  v75 := Tryd.zeroValue238
  i75 := by kernel_rfl
  t76 := Tryd.underlying239
  a76 := Tryd.isAgg239
  z76 := Tryd.sizeOf239
  v76 := Tryd.zeroValue239
  i76 := by kernel_rfl
  t77 := Tryd.underlying240
  a77 := Tryd.isAgg240
  z77 := Tryd.sizeOf240
  v77 := Tryd.zeroValue240
  i77 := by kernel_rfl
  t78 := Tryd.underlying241
  a78 := Tryd.isAgg241
  z78 := Tryd.sizeOf241
  v78 := Tryd.zeroValue241
  i78 := by kernel_rfl
  t79 := Tryd.underlying242
  a79 := Tryd.isAgg242
  z79 := Tryd.sizeOf242
  v79 := Tryd.zeroValue242
  i79 := by kernel_rfl
  t80 := Tryd.underlying243
  a80 := Tryd.isAgg243
  z80 := Tryd.sizeOf243
  v80 := Tryd.zeroValue243
  i80 := by kernel_rfl
  t82 := Tryd.underlying245
  a82 := Tryd.isAgg245
  z82 := Tryd.sizeOf245
  v82 := Tryd.zeroValue245
  i82 := by kernel_rfl }

end Go.Proofs
namespace Go.Proofs.YtjjfpdofkdolnaaDoor
namespace K
open Go Go.Lib Go.Sort Go.RowKit
noncomputable def soT : TypeInfo := (Tryd.prog.info? 150).get (by kernel_rfl)
noncomputable def soE : TypeInfo := (Tryd.prog.info? 55).get (by kernel_rfl)
theorem soK (n : Nat) (h2 : 2 ≤ n) : Lib.swapperK n soE 10 = 6 := by
  have a : soE.hasPointers = false := by kernel_rfl
  have b : soE.bytes = 4 := by kernel_rfl
  have c : (n == 0) = false := by simp; omega
  have d : (n == 1) = false := by simp; omega
  simp [Lib.swapperK, a, b, c, d]
set_option maxHeartbeats 2000000 in
theorem less_u32 (blk off c Bs size : Nat) (W : World) (G : Nat → Int) (hs : W.cell? ⟨Bs, 0, none⟩ = some (.slice (some ⟨blk, off, none⟩) size c))
    (hc : ∀ t, t < size → W.cell? ⟨blk, off + t, none⟩ = some (.int .u32 (G t))) (i j : Nat) (hi : i < size) (hj : j < size) :
    Calls Tryd.prog 121 #[.int .i64 i, .int .i64 j, .pointer (some ⟨Bs, 0, none⟩)] W fun e w' => e = .returned (.bool (decide (G i < G j))) ∧ ∃ q, w' = W.drewN q := by
  have ci := hc i hi
  have cj := hc j hj
  go_enter Tryd.func121, Tryd.ntmps121
  go_wp2
  go_quiet (fail)
  go_wp2
  go_ret
  exact ⟨rfl, nq, rfl⟩
def kv (k : Nat) : Value := .int .u32 (k : Int)
def ltN (a b : Nat) : Bool := decide (a < b)
theorem swo_ltN : SWO ltN := ⟨fun x => by simp [ltN], fun x y z h1 h2 => by simp only [ltN, decide_eq_true_eq] at *; omega, fun x y z h1 h2 => by simp only [ltN, decide_eq_false_iff_not] at *; omega⟩
theorem perm_of {d d' : Array Nat} (h : PermIn 0 d.size d d') : d'.toList.Perm d.toList := by
  have h3 := h.2.2
  have e1 : d'.extract 0 d.size = d' := by rw [← h.1]; simp
  rw [e1, Array.extract_size] at h3
  exact h3
theorem sorted_of {d' : Array Nat} {n : Nat} (hs : d'.size = n) (h : SortedIn ltN 0 n d') : d'.toList.Pairwise (· ≤ ·) := by
  rw [List.pairwise_iff_getElem]
  intro i j hi hj hij
  have := h i j (Nat.zero_le _) hij (by simp at hj; omega)
  simp only [ltN, decide_eq_false_iff_not] at this
  rw [getElem!_pos d' j (by simpa using hj), getElem!_pos d' i (by simpa using hi)] at this
  simp only [Array.getElem_toList]
  omega
abbrev SE (g b4 n cap : Nat) (ks : List Nat) : Hp := [.row (.slice (some ⟨g, 0, none⟩) n cap) 55 1 n (ks.map kv), .obj b4 (.cells [.slice (some ⟨g, 0, none⟩) n cap].toArray 150)]
theorem blks_SE (g b4 n cap : Nat) (ks : List Nat) : blks (SE g b4 n cap ks) = [g, b4] := rfl
set_option maxHeartbeats 2000000 in
theorem sort_u32 (t : Vw) (g b4 n cap : Nat) (ks : List Nat) (hn : ks.length = n) (hok : HF (SE g b4 n cap ks) t.w) (hav : ∀ q ∈ blks (SE g b4 n cap ks), t.av q) (hnd : (blks (SE g b4 n cap ks)).Nodup) (hlt : n < 4611686018427387904) :
    CH Tryd.prog 120 [.iface 150 (.slice (some ⟨g, 0, none⟩) n cap), .func (.func 121) #[] #[.pointer (some ⟨b4, 0, none⟩)]] t (SE g b4 n cap ks) fun u r E' => ∃ ks', ks'.Perm ks ∧ ks'.Pairwise (· ≤ ·) ∧ E' = SE g b4 n cap ks' := by
  have hrow : t.w.ownsRow 0 55 1 (.slice (some ⟨g, 0, none⟩) n cap) n (ks.map kv) := hok (.row (.slice (some ⟨g, 0, none⟩) n cap) 55 1 n (ks.map kv)) (by simp)
  have hobj : t.w.heap[b4]? = some (.cells #[.slice (some ⟨g, 0, none⟩) n cap] 150) := hok (.obj b4 _) (by simp)
  rw [blks_SE] at hnd hav
  have hne : b4 ≠ g := by
    simp only [List.nodup_cons, List.mem_singleton] at hnd
    exact fun h => hnd.1 h.symm
  have hb4 : b4 < t.w.heap.size := (Array.getElem?_eq_some_iff.1 hobj).1
  have hrow2 := hrow.2
  rcases hrow2 with ⟨h, _⟩ | ⟨g', cap', cur, he, _, hg, hnc, hcm, hcs, htake⟩
  · cases h
  simp only [Value.slice.injEq, Option.some.injEq, Addr.mk.injEq] at he
  obtain ⟨⟨rfl, _⟩, _, rfl⟩ := he
  have hgs : g < t.w.heap.size := (Array.getElem?_eq_some_iff.1 hg).1
  by_cases h1 : n ≤ 1
  · have hf : Tryd.prog.funcs.findIdx? (·.name == "internal/reflectlite" ++ ".Swapper$" ++ toString (Lib.swapperK n soE 10)) = some (176 + n) := by
      rcases Nat.eq_zero_or_pos n with h | h
      · subst h
        rw [show Lib.swapperK 0 soE 10 = 1 by simp [Lib.swapperK]]
        kernel_rfl
      · obtain rfl : n = 1 := by omega
        rw [show Lib.swapperK 1 soE 10 = 2 by simp [Lib.swapperK]]
        kernel_rfl
    have hS := Any.sort_Slice_tiny Tryd.sl6 150 55 soT soE (by kernel_rfl) (by kernel_rfl) (by kernel_rfl) (by kernel_rfl) 10 (fun _ => by kernel_rfl) (some ⟨g, 0, none⟩) n cap h1 _ hf (.func 121) #[] #[.pointer (some ⟨b4, 0, none⟩)] t.w
    refine Calls.mono hS ?_
    rintro e w' ⟨rfl, os, rfl⟩
    have hold : ∀ k, k < t.w.heap.size → (grow t.w os).heap[k]? = t.w.heap[k]? := fun k hk => heap_grow_old _ _ hk
    refine ⟨.tuple #[], SE g b4 n cap ks, rfl, ?_, fun b hb => .inl hb, by rw [blks_SE]; exact hnd, ⟨rfl, rfl, rfl, by simp, fun k hk _ => hold k hk⟩, ?_, ks, List.Perm.refl _, ?_, rfl⟩
    · intro e he
      exact Ent.ok.mod (M := No) (hok e he) ⟨rfl, rfl, rfl, by simp, fun k hk _ => hold k hk⟩ (fun _ _ h => h)
    · intro b hb
      rw [size_grow]
      rcases hb with hb | hb
      · have := t.lt b hb; omega
      · rw [blks_SE] at hb
        have := t.lt b (hav b hb); omega
    · match ks, hn with
      | [], _ => simp
      | [x], _ => simp
      | x :: y :: r, hn => simp at hn; omega
  · have h2 : 2 ≤ n := by omega
    have hd : ks.toArray.size = n := by simpa using hn
    have hcell : ∀ j, j < n → cur[j]? = some (kv ks[j]!) := fun j hj => by
      have h := congrArg (fun l => l[j]?) htake
      simp only [Nat.mul_one] at h
      rw [List.getElem?_take_of_lt hj, List.getElem?_map, List.getElem?_eq_getElem (l := ks) (by omega)] at h
      rw [← Array.getElem?_toList, h, getElem!_pos ks j (by omega)]
      rfl
    have hH : Holds kv t.w g 0 ks.toArray := fun j hj => by
      rw [hd] at hj
      refine ⟨?_, by simp [World.frozen?, hg]⟩
      simp only [World.cell?, hg, Nat.zero_add, hcell j hj]
      simp
    have hless : LessReads Tryd.prog 121 #[.pointer (some ⟨b4, 0, none⟩)] kv ltN g 0 ks.toArray.size t.w := by
      intro m os dk hs i j hi hj
      have hga : g < (Sort.ahead t.w m).heap.size := hgs
      have hpz : ∀ (w : World) (d : Array Nat), (putRow kv w g 0 d).heap.size = w.heap.size := fun w d => by simp [putRow, mapBlock]
      have := less_u32 g 0 cap b4 n (sortWorld kv t.w g 0 m dk os) (fun t => ((dk[t]! : Nat) : Int)) ?_ (fun q hq => ?_) i j (by omega) (by omega)
      · refine this.mono fun e w' h => ⟨?_, h.2⟩
        rw [h.1]
        simp [ltN]
      · unfold sortWorld
        rw [cell?_grow _ _ _ (by rw [hpz]; exact hb4), cell?_putRow_other _ _ _ _ _ _ (.inl hne)]
        simp [World.cell?, hobj]
      · unfold sortWorld
        rw [cell?_grow _ _ _ (by rw [hpz]; exact hgs)]
        exact cell?_putRow kv _ g 0 ks.toArray dk (holds_ahead _ _ _ _ _ _ hH) hs q (by omega)
    have hS := Any.sort_Slice_sorted Tryd.sl6 150 55 soT soE (by kernel_rfl) (by kernel_rfl) (by kernel_rfl) (by kernel_rfl) 10 (fun _ => by kernel_rfl) (by kernel_rfl) (fun _ => by kernel_rfl) kv (fun _ => rfl) ltN swo_ltN 121 #[.pointer (some ⟨b4, 0, none⟩)]
      (enters_of Tryd.func121 (by kernel_rfl) rfl) g 0 cap ks.toArray (by omega) (by omega) 181 (by rw [hd, soK _ h2]; kernel_rfl) true
      (fun args W => run_callFunc_extern Tryd.func181 (by kernel_rfl) (by kernel_rfl) (by kernel_rfl) (e := Extern.ReflectliteSwapper.swap true) (by kernel_rfl) args W) t.w hless hH hgs
    rw [hd] at hS
    refine Calls.mono hS ?_
    rintro e w' ⟨rfl, d', m, os, hp, hso, rfl⟩
    have hds : d'.size = n := by rw [hp.1, hd]
    have hsz : (putRow kv (Sort.ahead t.w m) g 0 d').heap.size = t.w.heap.size := by simp [putRow, mapBlock, Sort.ahead]
    have hold : ∀ k, k < t.w.heap.size → k ≠ g → (grow (putRow kv (Sort.ahead t.w m) g 0 d') os).heap[k]? = t.w.heap[k]? := fun k hk hkg => by
      rw [heap_grow_old _ _ (by rw [hsz]; exact hk)]
      simp only [putRow, mapBlock, Array.getElem?_modify, Sort.ahead]
      rw [if_neg (fun h => hkg h.symm)]
    have hnew : (grow (putRow kv (Sort.ahead t.w m) g 0 d') os).heap[g]? = some (.cells (putCells kv 0 d' cur) 55 (0, 0)) := by
      rw [heap_grow_old _ _ (by rw [hsz]; exact hgs)]
      simp only [putRow, mapBlock, Array.getElem?_modify, Sort.ahead, if_true, hg, Option.map_some, onCells]
    have hrow' : (grow (putRow kv (Sort.ahead t.w m) g 0 d') os).ownsRow 0 55 1 (.slice (some ⟨g, 0, none⟩) n cap) n (d'.toList.map kv) := by
      refine ⟨by simp [hds], .inr ⟨g, cap, _, rfl, Nat.zero_le _, hnew, hnc, hcm, by simp [putCells, hcs], ?_⟩⟩
      apply List.ext_getElem?
      intro q
      simp only [Nat.mul_one]
      by_cases hq : q < n
      · have hqc : q < cur.size := by rw [hcs]; omega
        rw [List.getElem?_take_of_lt hq, Array.getElem?_toList, List.getElem?_map, Array.getElem?_toList, Array.getElem?_eq_getElem (by omega : q < d'.size)]
        simp only [putCells, Array.getElem?_mapIdx, Array.getElem?_eq_getElem hqc, Option.map_some, Nat.zero_le, true_and, Nat.zero_add, hds, hq, if_true, Nat.sub_zero]
        rw [getElem!_pos d' q (by omega)]
      · rw [List.getElem?_eq_none (by simp; omega), List.getElem?_eq_none (by simp; omega)]
    have hmod : Mod (fun b => b ∈ blks (SE g b4 n cap ks)) t.w (grow (putRow kv (Sort.ahead t.w m) g 0 d') os) := ⟨rfl, rfl, rfl, by rw [size_grow, hsz]; omega, fun k hk hn => hold k hk (fun h => hn (by rw [blks_SE, h]; simp))⟩
    refine ⟨.tuple #[], SE g b4 n cap d'.toList, rfl, ?_, fun b hb => .inl (by rwa [blks_SE] at hb ⊢), by rw [blks_SE]; exact hnd, hmod, ?_, d'.toList, ?_, sorted_of hds hso, rfl⟩
    · intro e he
      simp only [List.mem_cons, List.not_mem_nil, or_false] at he
      rcases he with rfl | rfl
      · exact hrow'
      · exact (hold b4 hb4 hne).trans hobj
    · intro b hb
      rw [size_grow, hsz]
      rcases hb with hb | hb
      · have := t.lt b hb; omega
      · rw [blks_SE] at hb
        have := t.lt b (hav b hb); omega
    · have := perm_of (d := ks.toArray) (d' := d') (by rw [hd]; exact hp)
      simpa using this
end K
end Go.Proofs.YtjjfpdofkdolnaaDoor
