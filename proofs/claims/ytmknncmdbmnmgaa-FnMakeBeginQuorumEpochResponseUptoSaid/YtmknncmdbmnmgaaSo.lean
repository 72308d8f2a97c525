import Derived.Test.YtmknncmdbmnmgaaG1
import Derived.Shelf.GgSortFunc.Whole
import Derived.Shelf.GgSortFunc.Tiny
import Derived.Deep.QuietTactic
import Derived.Laws.Externs
import Derived.WalkKit
set_option linter.unusedVariables false
namespace Go.Proofs
open Go.Shelf
def Try.sl6_ren : Go.Shelf.Ren := ⟨fun | 6 => 206 | 10 => 208 | 11 => 209 | 12 => 210 | 13 => 211 | 14 => 212 | 24 => 205 | 25 => 222 | 26 => 223 | 27 => 224 | 28 => 225 | 29 => 226 | 30 => 227 | 31 => 228 | 32 => 229 | 33 => 230 | 34 => 231 | 35 => 232 | 36 => 233 | 37 => 234 | 38 => 235 | 39 => 236 | n => n, fun | 20 => 20 | 26 => 252 | 35 => 256 | 0 => 0 | 37 => 258 | 3 => 3 | 41 => 240 | 44 => 263 | 49 => 58 | 51 => 162 | 4 => 4 | 54 => 270 | 53 => 269 | 58 => 274 | 5 => 5 | 9 => 9 | 60 => 276 | 64 => 280 | 66 => 282 | 67 => 283 | 17 => 17 | 32 => 253 | 33 => 254 | 82 => 298 | 12 => 12 | 75 => 291 | 76 => 292 | 77 => 293 | 78 => 294 | 79 => 295 | 80 => 296 | n => n, fun | n => n⟩
theorem Try.sl6 : Go.Proofs.LaysGg.n6 Try.prog Try.sl6_ren := {
  mixed := by kernel_rfl
  f6 := Try.func206.trans (congrArg some (by kernel_rfl))
  f10 := Try.func208.trans (congrArg some (by kernel_rfl))
  f11 := Try.func209.trans (congrArg some (by kernel_rfl))
  f12 := Try.func210.trans (congrArg some (by kernel_rfl))
  f13 := Try.func211.trans (congrArg some (by kernel_rfl))
  f14 := Try.func212.trans (congrArg some (by kernel_rfl))
  f24 := Try.func205.trans (congrArg some (by kernel_rfl))
  f25 := Try.func222.trans (congrArg some (by kernel_rfl))
  f26 := Try.func223.trans (congrArg some (by kernel_rfl))
  f27 := Try.func224.trans (congrArg some (by kernel_rfl))
  f28 := Try.func225.trans (congrArg some (by kernel_rfl))
  f29 := Try.func226.trans (congrArg some (by kernel_rfl))
  f30 := Try.func227.trans (congrArg some (by kernel_rfl))
  f31 := Try.func228.trans (congrArg some (by kernel_rfl))
  f32 := Try.func229.trans (congrArg some (by kernel_rfl))
  f33 := Try.func230.trans (congrArg some (by kernel_rfl))
  f34 := Try.func231.trans (congrArg some (by kernel_rfl))
  f35 := Try.func232.trans (congrArg some (by kernel_rfl))
  f36 := Try.func233.trans (congrArg some (by kernel_rfl))
  f37 := Try.func234.trans (congrArg some (by kernel_rfl))
  f38 := Try.func235.trans (congrArg some (by kernel_rfl))
  f39 := Try.func236.trans (congrArg some (by kernel_rfl))
  t0 := Try.underlying0
  a0 := Try.isAgg0
  z0 := Try.sizeOf0
  v0 := Try.zeroValue0
  i0 := by kernel_rfl
  t3 := Try.underlying3
  a3 := Try.isAgg3
  z3 := Try.sizeOf3
  v3 := Try.zeroValue3
  i3 := by kernel_rfl
  t4 := Try.underlying4
  a4 := Try.isAgg4
  z4 := Try.sizeOf4
  v4 := Try.zeroValue4
  i4 := by kernel_rfl
  t5 := Try.underlying5
  a5 := Try.isAgg5
  z5 := Try.sizeOf5
  v5 := Try.zeroValue5
  i5 := by kernel_rfl
  t9 := Try.underlying9
  a9 := Try.isAgg9
  z9 := Try.sizeOf9
  v9 := Try.zeroValue9
  i9 := by kernel_rfl
  t12 := Try.underlying12
  a12 := Try.isAgg12
  z12 := Try.sizeOf12
  v12 := Try.zeroValue12
  i12 := by kernel_rfl
  t17 := Try.underlying17
  a17 := Try.isAgg17
  z17 := Try.sizeOf17
  v17 := Try.zeroValue17
  i17 := by kernel_rfl
  t20 := Try.underlying20
  a20 := Try.isAgg20
  z20 := Try.sizeOf20
  v20 := Try.zeroValue20
  i20 := by kernel_rfl
  t26 := Try.underlying252
  a26 := Try.isAgg252
  z26 := Try.sizeOf252
  v26 := Try.zeroValue252
  i26 := by kernel_rfl
  t32 := Try.underlying253
  a32 := Try.isAgg253
  z32 := Try.sizeOf253
  v32 := Try.zeroValue253
  i32 := by kernel_rfl
  t33 := Try.underlying254
  a33 := Try.isAgg254
  z33 := Try.sizeOf254
  v33 := Try.zeroValue254
  i33 := by kernel_rfl
  t35 := Try.underlying256
  a35 := Try.isAgg256
  z35 := Try.sizeOf256
  v35 := Try.zeroValue256
  i35 := by kernel_rfl
  t37 := Try.underlying258
  a37 := Try.isAgg258
  z37 := Try.sizeOf258
  v37 := Try.zeroValue258
  i37 := by kernel_rfl
  t41 := Try.underlying240
  a41 := Try.isAgg240
  z41 := Try.sizeOf240
  v41 := Try.zeroValue240
  i41 := by kernel_rfl
  t44 := Try.underlying263
  a44 := Try.isAgg263
  z44 := Try.sizeOf263
  v44 := Try.zeroValue263
  i44 := by kernel_rfl
  t49 := Try.underlying58
  a49 := Try.isAgg58
  z49 := Try.sizeOf58
  v49 := Try.zeroValue58
  i49 := by kernel_rfl
  t51 := Try.underlying162
  a51 := Try.isAgg162
  z51 := Try.sizeOf162
  v51 := Try.zeroValue162
  i51 := by kernel_rfl
  t53 := Try.underlying269
  a53 := Try.isAgg269
  z53 := Try.sizeOf269
  v53 := Try.zeroValue269
  i53 := by kernel_rfl
  t54 := Try.underlying270
  a54 := Try.isAgg270
  z54 := Try.sizeOf270
  v54 := Try.zeroValue270
  i54 := by kernel_rfl
  t58 := Try.underlying274
  a58 := Try.isAgg274
  z58 := Try.sizeOf274
  v58 := Try.zeroValue274
  i58 := by kernel_rfl
  t60 := Try.underlying276
  a60 := Try.isAgg276
  z60 := Try.sizeOf276
  v60 := Try.zeroValue276
  i60 := by kernel_rfl
  t64 := Try.underlying280
  a64 := Try.isAgg280
  z64 := Try.sizeOf280
  v64 := Try.zeroValue280
  i64 := by kernel_rfl
  t66 := Try.underlying282
  a66 := Try.isAgg282
  z66 := Try.sizeOf282
  v66 := Try.zeroValue282
  i66 := by kernel_rfl
  t67 := Try.underlying283
  a67 := Try.isAgg283
  z67 := Try.sizeOf283
  v67 := Try.zeroValue283
  i67 := by kernel_rfl
  t75 := Try.underlying291
  a75 := Try.isAgg291
  z75 := Try.sizeOf291
  v75 := Try.zeroValue291
  i75 := by kernel_rfl
  t76 := Try.underlying292
  a76 := Try.isAgg292
  z76 := Try.sizeOf292
  v76 := Try.zeroValue292
  i76 := by kernel_rfl
  t77 := Try.underlying293
  a77 := Try.isAgg293
  z77 := Try.sizeOf293
  v77 := Try.zeroValue293
  i77 := by kernel_rfl
  t78 := Try.underlying294
  a78 := Try.isAgg294
  z78 := Try.sizeOf294
  v78 := Try.zeroValue294
  i78 := by kernel_rfl
  t79 := Try.underlying295
  a79 := Try.isAgg295
  z79 := Try.sizeOf295
  v79 := Try.zeroValue295
  i79 := by kernel_rfl
  t80 := Try.underlying296
  a80 := Try.isAgg296
  z80 := Try.sizeOf296
  v80 := Try.zeroValue296
  i80 := by kernel_rfl
  t82 := Try.underlying298
  a82 := Try.isAgg298
  z82 := Try.sizeOf298
  v82 := Try.zeroValue298
  i82 := by kernel_rfl }

end Go.Proofs
namespace Go.Proofs.Ytmknncmdbmnmgaa
namespace K
open Go Go.Lib Go.Sort Go.RowKit
noncomputable def soT : TypeInfo := (Try.prog.info? 234).get (by kernel_rfl)
noncomputable def soE : TypeInfo := (Try.prog.info? 58).get (by kernel_rfl)
theorem soK (n : Nat) (h2 : 2 ≤ n) : Lib.swapperK n soE 10 = 6 := by
  have a : soE.hasPointers = false := by kernel_rfl
  have b : soE.bytes = 4 := by kernel_rfl
  have c : (n == 0) = false := by simp; omega
  have d : (n == 1) = false := by simp; omega
  simp [Lib.swapperK, a, b, c, d]
set_option maxHeartbeats 2000000 in
theorem less_u32 (blk off c Bs size : Nat) (W : World) (G : Nat → Int) (hs : W.cell? ⟨Bs, 0, none⟩ = some (.slice (some ⟨blk, off, none⟩) size c))
    (hc : ∀ t, t < size → W.cell? ⟨blk, off + t, none⟩ = some (.int .u32 (G t))) (i j : Nat) (hi : i < size) (hj : j < size) :
    Calls Try.prog 207 #[.int .i64 i, .int .i64 j, .pointer (some ⟨Bs, 0, none⟩)] W fun e w' => e = .returned (.bool (decide (G i < G j))) ∧ ∃ q, w' = W.drewN q := by
  have ci := hc i hi
  have cj := hc j hj
  go_enter Try.func207, Try.ntmps207
  go_wp2
  go_quiet (fail)
  go_wp2
  go_ret
  exact ⟨rfl, nq, rfl⟩
def kv (k : Nat) : Value := .int .u32 (k : Int)
def ltN (a b : Nat) : Bool := decide (a < b)
theorem swo_ltN : SWO ltN := ⟨fun x => by simp [ltN], fun x y z h1 h2 => by simp only [ltN, decide_eq_true_eq] at *; omega, fun x y z h1 h2 => by simp only [ltN, decide_eq_false_iff_not] at *; omega⟩
theorem perm_of {d d' : Array Nat} (h : PermIn 0 d.size d d') : d'.toList.Perm d.toList := by
  have h3 := h.2.2
  have e1 : d'.extract 0 d.size = d' := by rw [← h.1]; simp
  rw [e1, Array.extract_size] at h3
  exact h3
theorem sorted_of {d' : Array Nat} {n : Nat} (hs : d'.size = n) (h : SortedIn ltN 0 n d') : d'.toList.Pairwise (· ≤ ·) := by
  rw [List.pairwise_iff_getElem]
  intro i j hi hj hij
  have := h i j (Nat.zero_le _) hij (by simp at hj; omega)
  simp only [ltN, decide_eq_false_iff_not] at this
  rw [getElem!_pos d' j (by simpa using hj), getElem!_pos d' i (by simpa using hi)] at this
  simp only [Array.getElem_toList]
  omega
abbrev SE (g b4 n cap : Nat) (ks : List Nat) : Hp := [.row (.slice (some ⟨g, 0, none⟩) n cap) 58 1 n (ks.map kv), .obj b4 (.cells [.slice (some ⟨g, 0, none⟩) n cap].toArray 234)]
theorem blks_SE (g b4 n cap : Nat) (ks : List Nat) : blks (SE g b4 n cap ks) = [g, b4] := rfl
set_option maxHeartbeats 2000000 in
theorem sort_u32 (t : Vw) (g b4 n cap : Nat) (ks : List Nat) (hn : ks.length = n) (hok : HF (SE g b4 n cap ks) t.w) (hav : ∀ q ∈ blks (SE g b4 n cap ks), t.av q) (hnd : (blks (SE g b4 n cap ks)).Nodup) (hlt : n < 4611686018427387904) :
    CH Try.prog 206 [.iface 234 (.slice (some ⟨g, 0, none⟩) n cap), .func (.func 207) #[] #[.pointer (some ⟨b4, 0, none⟩)]] t (SE g b4 n cap ks) fun u r E' => ∃ ks', ks'.Perm ks ∧ ks'.Pairwise (· ≤ ·) ∧ E' = SE g b4 n cap ks' := by
  have hrow : t.w.ownsRow 0 58 1 (.slice (some ⟨g, 0, none⟩) n cap) n (ks.map kv) := hok (.row (.slice (some ⟨g, 0, none⟩) n cap) 58 1 n (ks.map kv)) (by simp)
  have hobj : t.w.heap[b4]? = some (.cells #[.slice (some ⟨g, 0, none⟩) n cap] 234) := hok (.obj b4 _) (by simp)
  rw [blks_SE] at hnd hav
  have hne : b4 ≠ g := by
    simp only [List.nodup_cons, List.mem_singleton] at hnd
    exact fun h => hnd.1 h.symm
  have hb4 : b4 < t.w.heap.size := (Array.getElem?_eq_some_iff.1 hobj).1
  have hrow2 := hrow.2
  rcases hrow2 with ⟨h, _⟩ | ⟨g', cap', cur, he, _, hg, hnc, hcm, hcs, htake⟩
  · cases h
  simp only [Value.slice.injEq, Option.some.injEq, Addr.mk.injEq] at he
  obtain ⟨⟨rfl, _⟩, _, rfl⟩ := he
  have hgs : g < t.w.heap.size := (Array.getElem?_eq_some_iff.1 hg).1
  by_cases h1 : n ≤ 1
  · have hf : Try.prog.funcs.findIdx? (·.name == "internal/reflectlite" ++ ".Swapper$" ++ toString (Lib.swapperK n soE 10)) = some (213 + n) := by
      rcases Nat.eq_zero_or_pos n with h | h
      · subst h
        rw [show Lib.swapperK 0 soE 10 = 1 by simp [Lib.swapperK]]
        kernel_rfl
      · obtain rfl : n = 1 := by omega
        rw [show Lib.swapperK 1 soE 10 = 2 by simp [Lib.swapperK]]
        kernel_rfl
    have hS := Any.sort_Slice_tiny Try.sl6 234 58 soT soE (by kernel_rfl) (by kernel_rfl) (by kernel_rfl) (by kernel_rfl) 10 (fun _ => by kernel_rfl) (some ⟨g, 0, none⟩) n cap h1 _ hf (.func 207) #[] #[.pointer (some ⟨b4, 0, none⟩)] t.w
    refine Calls.mono hS ?_
    rintro e w' ⟨rfl, os, rfl⟩
    have hold : ∀ k, k < t.w.heap.size → (grow t.w os).heap[k]? = t.w.heap[k]? := fun k hk => heap_grow_old _ _ hk
    refine ⟨.tuple #[], SE g b4 n cap ks, rfl, ?_, fun b hb => .inl hb, by rw [blks_SE]; exact hnd, ⟨rfl, rfl, rfl, by simp, fun k hk _ => hold k hk⟩, ?_, ks, List.Perm.refl _, ?_, rfl⟩
    · intro e he
      exact Ent.ok.mod (M := No) (hok e he) ⟨rfl, rfl, rfl, by simp, fun k hk _ => hold k hk⟩ (fun _ _ h => h)
    · intro b hb
      rw [size_grow]
      rcases hb with hb | hb
      · have := t.lt b hb; omega
      · rw [blks_SE] at hb
        have := t.lt b (hav b hb); omega
    · match ks, hn with
      | [], _ => simp
      | [x], _ => simp
      | x :: y :: r, hn => simp at hn; omega
  · have h2 : 2 ≤ n := by omega
    have hd : ks.toArray.size = n := by simpa using hn
    have hcell : ∀ j, j < n → cur[j]? = some (kv ks[j]!) := fun j hj => by
      have h := congrArg (fun l => l[j]?) htake
      simp only [Nat.mul_one] at h
      rw [List.getElem?_take_of_lt hj, List.getElem?_map, List.getElem?_eq_getElem (l := ks) (by omega)] at h
      rw [← Array.getElem?_toList, h, getElem!_pos ks j (by omega)]
      rfl
    have hH : Holds kv t.w g 0 ks.toArray := fun j hj => by
      rw [hd] at hj
      refine ⟨?_, by simp [World.frozen?, hg]⟩
      simp only [World.cell?, hg, Nat.zero_add, hcell j hj]
      simp
    have hless : LessReads Try.prog 207 #[.pointer (some ⟨b4, 0, none⟩)] kv ltN g 0 ks.toArray.size t.w := by
      intro m os dk hs i j hi hj
      have hga : g < (Sort.ahead t.w m).heap.size := hgs
      have hpz : ∀ (w : World) (d : Array Nat), (putRow kv w g 0 d).heap.size = w.heap.size := fun w d => by simp [putRow, mapBlock]
      have := less_u32 g 0 cap b4 n (sortWorld kv t.w g 0 m dk os) (fun t => ((dk[t]! : Nat) : Int)) ?_ (fun q hq => ?_) i j (by omega) (by omega)
      · refine this.mono fun e w' h => ⟨?_, h.2⟩
        rw [h.1]
        simp [ltN]
      · unfold sortWorld
        rw [cell?_grow _ _ _ (by rw [hpz]; exact hb4), cell?_putRow_other _ _ _ _ _ _ (.inl hne)]
        simp [World.cell?, hobj]
      · unfold sortWorld
        rw [cell?_grow _ _ _ (by rw [hpz]; exact hgs)]
        exact cell?_putRow kv _ g 0 ks.toArray dk (holds_ahead _ _ _ _ _ _ hH) hs q (by omega)
    have hS := Any.sort_Slice_sorted Try.sl6 234 58 soT soE (by kernel_rfl) (by kernel_rfl) (by kernel_rfl) (by kernel_rfl) 10 (fun _ => by kernel_rfl) (by kernel_rfl) (fun _ => by kernel_rfl) kv (fun _ => rfl) ltN swo_ltN 207 #[.pointer (some ⟨b4, 0, none⟩)]
      (enters_of Try.func207 (by kernel_rfl) rfl) g 0 cap ks.toArray (by omega) (by omega) 218 (by rw [hd, soK _ h2]; kernel_rfl) true
      (fun args W => run_callFunc_extern Try.func218 (by kernel_rfl) (by kernel_rfl) (by kernel_rfl) (e := Extern.ReflectliteSwapper.swap true) (by kernel_rfl) args W) t.w hless hH hgs
    rw [hd] at hS
    refine Calls.mono hS ?_
    rintro e w' ⟨rfl, d', m, os, hp, hso, rfl⟩
    have hds : d'.size = n := by rw [hp.1, hd]
    have hsz : (putRow kv (Sort.ahead t.w m) g 0 d').heap.size = t.w.heap.size := by simp [putRow, mapBlock, Sort.ahead]
    have hold : ∀ k, k < t.w.heap.size → k ≠ g → (grow (putRow kv (Sort.ahead t.w m) g 0 d') os).heap[k]? = t.w.heap[k]? := fun k hk hkg => by
      rw [heap_grow_old _ _ (by rw [hsz]; exact hk)]
      simp only [putRow, mapBlock, Array.getElem?_modify, Sort.ahead]
      rw [if_neg (fun h => hkg h.symm)]
    have hnew : (grow (putRow kv (Sort.ahead t.w m) g 0 d') os).heap[g]? = some (.cells (putCells kv 0 d' cur) 58 (0, 0)) := by
      rw [heap_grow_old _ _ (by rw [hsz]; exact hgs)]
      simp only [putRow, mapBlock, Array.getElem?_modify, Sort.ahead, if_true, hg, Option.map_some, onCells]
    have hrow' : (grow (putRow kv (Sort.ahead t.w m) g 0 d') os).ownsRow 0 58 1 (.slice (some ⟨g, 0, none⟩) n cap) n (d'.toList.map kv) := by
      refine ⟨by simp [hds], .inr ⟨g, cap, _, rfl, Nat.zero_le _, hnew, hnc, hcm, by simp [putCells, hcs], ?_⟩⟩
      apply List.ext_getElem?
      intro q
      simp only [Nat.mul_one]
      by_cases hq : q < n
      · have hqc : q < cur.size := by rw [hcs]; omega
        rw [List.getElem?_take_of_lt hq, Array.getElem?_toList, List.getElem?_map, Array.getElem?_toList, Array.getElem?_eq_getElem (by omega : q < d'.size)]
        simp only [putCells, Array.getElem?_mapIdx, Array.getElem?_eq_getElem hqc, Option.map_some, Nat.zero_le, true_and, Nat.zero_add, hds, hq, if_true, Nat.sub_zero]
        rw [getElem!_pos d' q (by omega)]
      · rw [List.getElem?_eq_none (by simp; omega), List.getElem?_eq_none (by simp; omega)]
    have hmod : Mod (fun b => b ∈ blks (SE g b4 n cap ks)) t.w (grow (putRow kv (Sort.ahead t.w m) g 0 d') os) := ⟨rfl, rfl, rfl, by rw [size_grow, hsz]; omega, fun k hk hn => hold k hk (fun h => hn (by rw [blks_SE, h]; simp))⟩
    refine ⟨.tuple #[], SE g b4 n cap d'.toList, rfl, ?_, fun b hb => .inl (by rwa [blks_SE] at hb ⊢), by rw [blks_SE]; exact hnd, hmod, ?_, d'.toList, ?_, sorted_of hds hso, rfl⟩
    · intro e he
      simp only [List.mem_cons, List.not_mem_nil, or_false] at he
      rcases he with rfl | rfl
      · exact hrow'
      · exact (hold b4 hb4 hne).trans hobj
    · intro b hb
      rw [size_grow, hsz]
      rcases hb with hb | hb
      · have := t.lt b hb; omega
      · rw [blks_SE] at hb
        have := t.lt b (hav b hb); omega
    · have := perm_of (d := ks.toArray) (d' := d') (by rw [hd]; exact hp)
      simpa using this
end K
end Go.Proofs.Ytmknncmdbmnmgaa
