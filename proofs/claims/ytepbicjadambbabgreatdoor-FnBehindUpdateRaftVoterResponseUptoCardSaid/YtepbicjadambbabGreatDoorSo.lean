import Derived.Test.YtepbicjadambbabGreatDoorG1
import Derived.Shelf.GgSortFunc.Whole
import Derived.Shelf.GgSortFunc.Tiny
import Derived.Deep.QuietTactic
import Derived.Laws.Externs
import Derived.WalkKit
set_option linter.unusedVariables false
namespace Go.Proofs
open Go.Shelf
def Tryz.sl6_ren : Go.Shelf.Ren := ⟨fun | 6 => 68 | 10 => 70 | 11 => 71 | 12 => 72 | 13 => 73 | 14 => 74 | 24 => 67 | 25 => 84 | 26 => 85 | 27 => 86 | 28 => 87 | 29 => 88 | 30 => 89 | 31 => 90 | 32 => 91 | 33 => 92 | 34 => 93 | 35 => 94 | 36 => 95 | 37 => 96 | 38 => 97 | 39 => 98 | n => n, fun | 20 => 20 | 26 => 112 | 35 => 116 | 0 => 0 | 37 => 118 | 3 => 3 | 41 => 87 | 44 => 123 | 49 => 53 | 51 => 70 | 4 => 4 | 54 => 130 | 53 => 129 | 58 => 134 | 5 => 5 | 9 => 9 | 60 => 136 | 64 => 140 | 66 => 142 | 67 => 143 | 17 => 17 | 32 => 113 | 33 => 114 | 82 => 158 | 12 => 12 | 75 => 151 | 76 => 152 | 77 => 153 | 78 => 154 | 79 => 155 | 80 => 156 | n => n, fun | n => n⟩
theorem Tryz.sl6 : Go.Proofs.LaysGg.n6 Tryz.prog Tryz.sl6_ren := {
  mixed := by kernel_rfl
  f6 := Tryz.func68.trans (congrArg some (by kernel_rfl))
  f10 := Tryz.func70.trans (congrArg some (by kernel_rfl))
  f11 := Tryz.func71.trans (congrArg some (by kernel_rfl))
  f12 := Tryz.func72.trans (congrArg some (by kernel_rfl))
  f13 := Tryz.func73.trans (congrArg some (by kernel_rfl))
  f14 := Tryz.func74.trans (congrArg some (by kernel_rfl))
  f24 := Tryz.func67.trans (congrArg some (by kernel_rfl))
  f25 := Tryz.func84.trans (congrArg some (by kernel_rfl))
  f26 := Tryz.func85.trans (congrArg some (by kernel_rfl))
  f27 := Tryz.func86.trans (congrArg some (by kernel_rfl))
  f28 := Tryz.func87.trans (congrArg some (by kernel_rfl))
  f29 := Tryz.func88.trans (congrArg some (by kernel_rfl))
  f30 := Tryz.func89.trans (congrArg some (by kernel_rfl))
  f31 := Tryz.func90.trans (congrArg some (by kernel_rfl))
  f32 := Tryz.func91.trans (congrArg some (by kernel_rfl))
  f33 := Tryz.func92.trans (congrArg some (by kernel_rfl))
  f34 := Tryz.func93.trans (congrArg some (by kernel_rfl))
  f35 := Tryz.func94.trans (congrArg some (by kernel_rfl))
  f36 := Tryz.func95.trans (congrArg some (by kernel_rfl))
  f37 := Tryz.func96.trans (congrArg some (by kernel_rfl))
  f38 := Tryz.func97.trans (congrArg some (by kernel_rfl))
  f39 := Tryz.func98.trans (congrArg some (by kernel_rfl))
  t0 := Tryz.underlying0
  a0 := Tryz.isAgg0
  z0 := Tryz.sizeOf0
  v0 := Tryz.zeroValue0
  i0 := by kernel_rfl
  t3 := Tryz.underlying3
  a3 := Tryz.isAgg3
  z3 := Tryz.sizeOf3
  v3 := Tryz.zeroValue3
  i3 := by kernel_rfl
  t4 := Tryz.underlying4
  a4 := Tryz.isAgg4
  z4 := Tryz.sizeOf4
  v4 := Tryz.zeroValue4
  i4 := by kernel_rfl
  t5 := Tryz.underlying5
  a5 := Tryz.isAgg5
  z5 := Tryz.sizeOf5
  v5 := Tryz.zeroValue5
  i5 := by kernel_rfl
  t9 := Tryz.underlying9
  a9 := Tryz.isAgg9
  z9 := Tryz.sizeOf9
  v9 := Tryz.zeroValue9
  i9 := by kernel_rfl
  t12 := Tryz.underlying12
  a12 := Tryz.isAgg12
  z12 := Tryz.sizeOf12
  v12 := Tryz.zeroValue12
  i12 := by kernel_rfl
  t17 := Tryz.underlying17
  a17 := Tryz.isAgg17
  z17 := Tryz.sizeOf17
  v17 := Tryz.zeroValue17
  i17 := by kernel_rfl
  t20 := Tryz.underlying20
  a20 := Tryz.isAgg20
  z20 := Tryz.sizeOf20
  v20 := Tryz.zeroValue20
  i20 := by kernel_rfl
  t26 := Tryz.underlying112
  a26 := Tryz.isAgg112
  z26 := Tryz.sizeOf112
  v26 := Tryz.zeroValue112
  i26 := by kernel_rfl
  t32 := Tryz.underlying113
  a32 := Tryz.isAgg113
  z32 := Tryz.sizeOf113
  v32 := Tryz.zeroValue113
  i32 := by kernel_rfl
  t33 := Tryz.underlying114
  a33 := Tryz.isAgg114
  z33 := Tryz.sizeOf114
  v33 := Tryz.zeroValue114
  i33 := by kernel_rfl
  t35 := Tryz.underlying116
  a35 := Tryz.isAgg116
  z35 := Tryz.sizeOf116
  v35 := Tryz.zeroValue116
  i35 := by kernel_rfl
  t37 := Tryz.underlying118
  a37 := Tryz.isAgg118
  z37 := Tryz.sizeOf118
  v37 := Tryz.zeroValue118
  i37 := by kernel_rfl
  t41 := Tryz.underlying87
  a41 := Tryz.isAgg87
  z41 := Tryz.sizeOf87
  v41 := Tryz.zeroValue87
  i41 := by kernel_rfl
  t44 := Tryz.underlying123
  a44 := Tryz.isAgg123
  z44 := Tryz.sizeOf123
  v44 := Tryz.zeroValue123
  i44 := by kernel_rfl
  t49 := Tryz.underlying53
  a49 := Tryz.isAgg53
  z49 := Tryz.sizeOf53
  v49 := Tryz.zeroValue53
  i49 := by kernel_rfl
  t51 := Tryz.underlying70
  a51 := Tryz.isAgg70
  z51 := Tryz.sizeOf70
  v51 := Tryz.zeroValue70
  i51 := by kernel_rfl
  t53 := Tryz.underlying129
  a53 := Tryz.isAgg129
  z53 := Tryz.sizeOf129
  v53 := Tryz.zeroValue129
  i53 := by kernel_rfl
  t54 := Tryz.underlying130
  a54 := Tryz.isAgg130
  z54 := Tryz.sizeOf130
  v54 := Tryz.zeroValue130
  i54 := by kernel_rfl
  t58 := Tryz.underlying134
  a58 := Tryz.isAgg134
  z58 := Tryz.sizeOf134
  v58 := Tryz.zeroValue134
  i58 := by kernel_rfl
  t60 := Tryz.underlying136
  a60 := Tryz.isAgg136
  z60 := Tryz.sizeOf136
  v60 := Tryz.zeroValue136
  i60 := by kernel_rfl
  t64 := Tryz.underlying140
  a64 := Tryz.isAgg140
  z64 := Tryz.sizeOf140
  v64 := Tryz.zeroValue140
  i64 := by kernel_rfl
  t66 := Tryz.underlying142
  a66 := Tryz.isAgg142
  z66 := Tryz.sizeOf142
  v66 := Tryz.zeroValue142
  i66 := by kernel_rfl
  t67 := Tryz.underlying143
  a67 := Tryz.isAgg143
  z67 := Tryz.sizeOf143
  v67 := Tryz.zeroValue143
  i67 := by kernel_rfl
  t75 := Tryz.underlying151
  a75 := Tryz.isAgg151
  z75 := Tryz.sizeOf151
  v75 := Tryz.zeroValue151
  i75 := by kernel_rfl
  t76 := Tryz.underlying152
  a76 := Tryz.isAgg152
  z76 := Tryz.sizeOf152
  v76 := Tryz.zeroValue152
  i76 := by kernel_rfl
  t77 := Tryz.underlying153
  a77 := Tryz.isAgg153
  z77 := Tryz.sizeOf153
  v77 := Tryz.zeroValue153
  i77 := by kernel_rfl
  t78 := Tryz.underlying154
  a78 := Tryz.isAgg154
  z78 := Tryz.sizeOf154
  v78 := Tryz.zeroValue154
  i78 := by kernel_rfl
  t79 := Tryz.underlying155
  a79 := Tryz.isAgg155
  z79 := Tryz.sizeOf155
  v79 := Tryz.zeroValue155
  i79 := by kernel_rfl
  t80 := Tryz.underlying156
  a80 := Tryz.isAgg156
  z80 := Tryz.sizeOf156
  v80 := Tryz.zeroValue156
  i80 := by kernel_rfl
  t82 := Tryz.underlying158
  a82 := Tryz.isAgg158
  z82 := Tryz.sizeOf158
  v82 := Tryz.zeroValue158
  i82 := by kernel_rfl }

end Go.Proofs
namespace Go.Proofs.YtepbicjadambbabGreatDoor
namespace K
open Go Go.Lib Go.Sort Go.RowKit
noncomputable def soT : TypeInfo := (Tryz.prog.info? 75).get (by kernel_rfl)
noncomputable def soE : TypeInfo := (Tryz.prog.info? 53).get (by kernel_rfl)
theorem soK (n : Nat) (h2 : 2 ≤ n) : Lib.swapperK n soE 10 = 6 := by
  have a : soE.hasPointers = false := by kernel_rfl
  have b : soE.bytes = 4 := by kernel_rfl
  have c : (n == 0) = false := by simp; omega
  have d : (n == 1) = false := by simp; omega
  simp [Lib.swapperK, a, b, c, d]
set_option maxHeartbeats 2000000 in
theorem less_u32 (blk off c Bs size : Nat) (W : World) (G : Nat → Int) (hs : W.cell? ⟨Bs, 0, none⟩ = some (.slice (some ⟨blk, off, none⟩) size c))
    (hc : ∀ t, t < size → W.cell? ⟨blk, off + t, none⟩ = some (.int .u32 (G t))) (i j : Nat) (hi : i < size) (hj : j < size) :
    Calls Tryz.prog 69 #[.int .i64 i, .int .i64 j, .pointer (some ⟨Bs, 0, none⟩)] W fun e w' => e = .returned (.bool (decide (G i < G j))) ∧ ∃ q, w' = W.drewN q := by
  have ci := hc i hi
  have cj := hc j hj
  go_enter Tryz.func69, Tryz.ntmps69
  go_wp2
  go_quiet (fail)
  go_wp2
  go_ret
  exact ⟨rfl, nq, rfl⟩
def kv (k : Nat) : Value := .int .u32 (k : Int)
def ltN (a b : Nat) : Bool := decide (a < b)
theorem swo_ltN : SWO ltN := ⟨fun x => by simp [ltN], fun x y z h1 h2 => by simp only [ltN, decide_eq_true_eq] at *; omega, fun x y z h1 h2 => by simp only [ltN, decide_eq_false_iff_not] at *; omega⟩
theorem perm_of {d d' : Array Nat} (h : PermIn 0 d.size d d') : d'.toList.Perm d.toList := by
  have h3 := h.2.2
  have e1 : d'.extract 0 d.size = d' := by rw [← h.1]; simp
  rw [e1, Array.extract_size] at h3
  exact h3
theorem sorted_of {d' : Array Nat} {n : Nat} (hs : d'.size = n) (h : SortedIn ltN 0 n d') : d'.toList.Pairwise (· ≤ ·) := by
  rw [List.pairwise_iff_getElem]
  intro i j hi hj hij
  have := h i j (Nat.zero_le _) hij (by simp at hj; omega)
  simp only [ltN, decide_eq_false_iff_not] at this
  rw [getElem!_pos d' j (by simpa using hj), getElem!_pos d' i (by simpa using hi)] at this
  simp only [Array.getElem_toList]
  omega
abbrev SE (g b4 n cap : Nat) (ks : List Nat) : Hp := [.row (.slice (some ⟨g, 0, none⟩) n cap) 53 1 n (ks.map kv), .obj b4 (.cells [.slice (some ⟨g, 0, none⟩) n cap].toArray 75)]
theorem blks_SE (g b4 n cap : Nat) (ks : List Nat) : blks (SE g b4 n cap ks) = [g, b4] := rfl
set_option maxHeartbeats 2000000 in
theorem sort_u32 (t : Vw) (g b4 n cap : Nat) (ks : List Nat) (hn : ks.length = n) (hok : HF (SE g b4 n cap ks) t.w) (hav : ∀ q ∈ blks (SE g b4 n cap ks), t.av q) (hnd : (blks (SE g b4 n cap ks)).Nodup) (hlt : n < 4611686018427387904) :
    CH Tryz.prog 68 [.iface 75 (.slice (some ⟨g, 0, none⟩) n cap), .func (.func 69) #[] #[.pointer (some ⟨b4, 0, none⟩)]] t (SE g b4 n cap ks) fun u r E' => ∃ ks', ks'.Perm ks ∧ ks'.Pairwise (· ≤ ·) ∧ E' = SE g b4 n cap ks' := by
  have hrow : t.w.ownsRow 0 53 1 (.slice (some ⟨g, 0, none⟩) n cap) n (ks.map kv) := hok (.row (.slice (some ⟨g, 0, none⟩) n cap) 53 1 n (ks.map kv)) (by simp)
  have hobj : t.w.heap[b4]? = some (.cells #[.slice (some ⟨g, 0, none⟩) n cap] 75) := hok (.obj b4 _) (by simp)
  rw [blks_SE] at hnd hav
  have hne : b4 ≠ g := by
    simp only [List.nodup_cons, List.mem_singleton] at hnd
    exact fun h => hnd.1 h.symm
  have hb4 : b4 < t.w.heap.size := (Array.getElem?_eq_some_iff.1 hobj).1
  have hrow2 := hrow.2
  rcases hrow2 with ⟨h, _⟩ | ⟨g', cap', cur, he, _, hg, hnc, hcm, hcs, htake⟩
  · cases h
  simp only [Value.slice.injEq, Option.some.injEq, Addr.mk.injEq] at he
  obtain ⟨⟨rfl, _⟩, _, rfl⟩ := he
  have hgs : g < t.w.heap.size := (Array.getElem?_eq_some_iff.1 hg).1
  by_cases h1 : n ≤ 1
  · have hf : Tryz.prog.funcs.findIdx? (·.name == "internal/reflectlite" ++ ".Swapper$" ++ toString (Lib.swapperK n soE 10)) = some (75 + n) := by
      rcases Nat.eq_zero_or_pos n with h | h
      · subst h
        rw [show Lib.swapperK 0 soE 10 = 1 by simp [Lib.swapperK]]
        kernel_rfl
      · obtain rfl : n = 1 := by omega
        rw [show Lib.swapperK 1 soE 10 = 2 by simp [Lib.swapperK]]
        kernel_rfl
    have hS := Any.sort_Slice_tiny Tryz.sl6 75 53 soT soE (by kernel_rfl) (by kernel_rfl) (by kernel_rfl) (by kernel_rfl) 10 (fun _ => by kernel_rfl) (some ⟨g, 0, none⟩) n cap h1 _ hf (.func 69) #[] #[.pointer (some ⟨b4, 0, none⟩)] t.w
    refine Calls.mono hS ?_
    rintro e w' ⟨rfl, os, rfl⟩
    have hold : ∀ k, k < t.w.heap.size → (grow t.w os).heap[k]? = t.w.heap[k]? := fun k hk => heap_grow_old _ _ hk
    refine ⟨.tuple #[], SE g b4 n cap ks, rfl, ?_, fun b hb => .inl hb, by rw [blks_SE]; exact hnd, ⟨rfl, rfl, rfl, by simp, fun k hk _ => hold k hk⟩, ?_, ks, List.Perm.refl _, ?_, rfl⟩
    · intro e he
      exact Ent.ok.mod (M := No) (hok e he) ⟨rfl, rfl, rfl, by simp, fun k hk _ => hold k hk⟩ (fun _ _ h => h)
    · intro b hb
      rw [size_grow]
      rcases hb with hb | hb
      · have := t.lt b hb; omega
      · rw [blks_SE] at hb
        have := t.lt b (hav b hb); omega
    · match ks, hn with
      | [], _ => simp
      | [x], _ => simp
      | x :: y :: r, hn => simp at hn; omega
  · have h2 : 2 ≤ n := by omega
    have hd : ks.toArray.size = n := by simpa using hn
    have hcell : ∀ j, j < n → cur[j]? = some (kv ks[j]!) := fun j hj => by
      have h := congrArg (fun l => l[j]?) htake
      simp only [Nat.mul_one] at h
      rw [List.getElem?_take_of_lt hj, List.getElem?_map, List.getElem?_eq_getElem (l := ks) (by omega)] at h
      rw [← Array.getElem?_toList, h, getElem!_pos ks j (by omega)]
      rfl
    have hH : Holds kv t.w g 0 ks.toArray := fun j hj => by
      rw [hd] at hj
      refine ⟨?_, by simp [World.frozen?, hg]⟩
      simp only [World.cell?, hg, Nat.zero_add, hcell j hj]
      simp
    have hless : LessReads Tryz.prog 69 #[.pointer (some ⟨b4, 0, none⟩)] kv ltN g 0 ks.toArray.size t.w := by
      intro m os dk hs i j hi hj
      have hga : g < (Sort.ahead t.w m).heap.size := hgs
      have hpz : ∀ (w : World) (d : Array Nat), (putRow kv w g 0 d).heap.size = w.heap.size := fun w d => by simp [putRow, mapBlock]
      have := less_u32 g 0 cap b4 n (sortWorld kv t.w g 0 m dk os) (fun t => ((dk[t]! : Nat) : Int)) ?_ (fun q hq => ?_) i j (by omega) (by omega)
      · refine this.mono fun e w' h => ⟨?_, h.2⟩
        rw [h.1]
        simp [ltN]
      · unfold sortWorld
        rw [cell?_grow _ _ _ (by rw [hpz]; exact hb4), cell?_putRow_other _ _ _ _ _ _ (.inl hne)]
        simp [World.cell?, hobj]
      · unfold sortWorld
        rw [cell?_grow _ _ _ (by rw [hpz]; exact hgs)]
        exact cell?_putRow kv _ g 0 ks.toArray dk (holds_ahead _ _ _ _ _ _ hH) hs q (by omega)
    have hS := Any.sort_Slice_sorted Tryz.sl6 75 53 soT soE (by kernel_rfl) (by kernel_rfl) (by kernel_rfl) (by kernel_rfl) 10 (fun _ => by kernel_rfl) (by kernel_rfl) (fun _ => by kernel_rfl) kv (fun _ => rfl) ltN swo_ltN 69 #[.pointer (some ⟨b4, 0, none⟩)]
      (enters_of Tryz.func69 (by kernel_rfl) rfl) g 0 cap ks.toArray (by omega) (by omega) 80 (by rw [hd, soK _ h2]; kernel_rfl) true
      (fun args W => run_callFunc_extern Tryz.func80 (by kernel_rfl) (by kernel_rfl) (by kernel_rfl) (e := Extern.ReflectliteSwapper.swap true) (by kernel_rfl) args W) t.w hless hH hgs
    rw [hd] at hS
    refine Calls.mono hS ?_
    rintro e w' ⟨rfl, d', m, os, hp, hso, rfl⟩
    have hds : d'.size = n := by rw [hp.1, hd]
    have hsz : (putRow kv (Sort.ahead t.w m) g 0 d').heap.size = t.w.heap.size := by simp [putRow, mapBlock, Sort.ahead]
    have hold : ∀ k, k < t.w.heap.size → k ≠ g → (grow (putRow kv (Sort.ahead t.w m) g 0 d') os).heap[k]? = t.w.heap[k]? := fun k hk hkg => by
      rw [heap_grow_old _ _ (by rw [hsz]; exact hk)]
      simp only [putRow, mapBlock, Array.getElem?_modify, Sort.ahead]
      rw [if_neg (fun h => hkg h.symm)]
    have hnew : (grow (putRow kv (Sort.ahead t.w m) g 0 d') os).heap[g]? = some (.cells (putCells kv 0 d' cur) 53 (0, 0)) := by
      rw [heap_grow_old _ _ (by rw [hsz]; exact hgs)]
      simp only [putRow, mapBlock, Array.getElem?_modify, Sort.ahead, if_true, hg, Option.map_some, onCells]
    have hrow' : (grow (putRow kv (Sort.ahead t.w m) g 0 d') os).ownsRow 0 53 1 (.slice (some ⟨g, 0, none⟩) n cap) n (d'.toList.map kv) := by
      refine ⟨by simp [hds], .inr ⟨g, cap, _, rfl, Nat.zero_le _, hnew, hnc, hcm, by simp [putCells, hcs], ?_⟩⟩
      apply List.ext_getElem?
      intro q
      simp only [Nat.mul_one]
      by_cases hq : q < n
      · have hqc : q < cur.size := by rw [hcs]; omega
        rw [List.getElem?_take_of_lt hq, Array.getElem?_toList, List.getElem?_map, Array.getElem?_toList, Array.getElem?_eq_getElem (by omega : q < d'.size)]
        simp only [putCells, Array.getElem?_mapIdx, Array.getElem?_eq_getElem hqc, Option.map_some, Nat.zero_le, true_and, Nat.zero_add, hds, hq, if_true, Nat.sub_zero]
        rw [getElem!_pos d' q (by omega)]
      · rw [List.getElem?_eq_none (by simp; omega), List.getElem?_eq_none (by simp; omega)]
    have hmod : Mod (fun b => b ∈ blks (SE g b4 n cap ks)) t.w (grow (putRow kv (Sort.ahead t.w m) g 0 d') os) := ⟨rfl, rfl, rfl, by rw [size_grow, hsz]; omega, fun k hk hn => hold k hk (fun h => hn (by rw [blks_SE, h]; simp))⟩
    refine ⟨.tuple #[], SE g b4 n cap d'.toList, rfl, ?_, fun b hb => .inl (by rwa [blks_SE] at hb ⊢), by rw [blks_SE]; exact hnd, hmod, ?_, d'.toList, ?_, sorted_of hds hso, rfl⟩
    · intro e he
      simp only [List.mem_cons, List.not_mem_nil, or_false] at he
      rcases he with rfl | rfl
      · exact hrow'
      · exact (hold b4 hb4 hne).trans hobj
    · intro b hb
      rw [size_grow, hsz]
      rcases hb with hb | hb
      · have := t.lt b hb; omega
      · rw [blks_SE] at hb
        have := t.lt b (hav b hb); omega
    · have := perm_of (d := ks.toArray) (d' := d') (by rw [hd]; exact hp)
      simpa using this
end K
end Go.Proofs.YtepbicjadambbabGreatDoor
