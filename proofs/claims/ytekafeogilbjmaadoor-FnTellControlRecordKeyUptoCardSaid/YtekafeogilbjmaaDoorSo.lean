import Derived.Test.YtekafeogilbjmaaDoorG1
import Derived.Shelf.GgSortFunc.Whole
import Derived.Shelf.GgSortFunc.Tiny
import Derived.Deep.QuietTactic
import Derived.Laws.Externs
import Derived.WalkKit
set_option linter.unusedVariables false
namespace Go.Proofs
open Go.Shelf
def Tryd.sl6_ren : Go.Shelf.Ren := ⟨fun | 6 => 60 | 10 => 70 | 11 => 71 | 12 => 72 | 13 => 73 | 14 => 74 | 24 => 87 | 25 => 88 | 26 => 89 | 27 => 90 | 28 => 91 | 29 => 92 | 30 => 93 | 31 => 94 | 32 => 95 | 33 => 96 | 34 => 97 | 35 => 98 | 36 => 99 | 37 => 100 | 38 => 101 | 39 => 102 | n => n, fun | 20 => 20 | 26 => 107 | 35 => 119 | 0 => 0 | 37 => 121 | 3 => 3 | 41 => 110 | 44 => 126 | 49 => 64 | 51 => 91 | 4 => 4 | 54 => 140 | 53 => 139 | 58 => 144 | 5 => 5 | 9 => 9 | 60 => 146 | 64 => 150 | 66 => 152 | 67 => 153 | 17 => 17 | 32 => 116 | 33 => 117 | 82 => 168 | 12 => 12 | 75 => 161 | 76 => 162 | 77 => 163 | 78 => 164 | 79 => 165 | 80 => 166 | n => n, fun | n => n⟩
theorem Tryd.sl6 : Go.Proofs.LaysGg.n6 Tryd.prog Tryd.sl6_ren := {
  mixed := by kernel_rfl
  f6 := Tryd.func60.trans (congrArg some (by kernel_rfl))
  f10 := Tryd.func70.trans (congrArg some (by kernel_rfl))
  f11 := Tryd.func71.trans (congrArg some (by kernel_rfl))
  f12 := Tryd.func72.trans (congrArg some (by kernel_rfl))
  f13 := Tryd.func73.trans (congrArg some (by kernel_rfl))
  f14 := Tryd.func74.trans (congrArg some (by kernel_rfl))
  f24 := Tryd.func87.trans (congrArg some (by kernel_rfl))
  f25 := Tryd.func88.trans (congrArg some (by kernel_rfl))
  f26 := Tryd.func89.trans (congrArg some (by kernel_rfl))
  f27 := Tryd.func90.trans (congrArg some (by kernel_rfl))
  f28 := Tryd.func91.trans (congrArg some (by kernel_rfl))
  f29 := Tryd.func92.trans (congrArg some (by kernel_rfl))
  f30 := Tryd.func93.trans (congrArg some (by kernel_rfl))
  f31 := Tryd.func94.trans (congrArg some (by kernel_rfl))
  f32 := Tryd.func95.trans (congrArg some (by kernel_rfl))
  f33 := Tryd.func96.trans (congrArg some (by kernel_rfl))
  f34 := Tryd.func97.trans (congrArg some (by kernel_rfl))
  f35 := Tryd.func98.trans (congrArg some (by kernel_rfl))
  f36 := Tryd.func99.trans (congrArg some (by kernel_rfl))
  f37 := Tryd.func100.trans (congrArg some (by kernel_rfl))
  f38 := Tryd.func101.trans (congrArg some (by kernel_rfl))
  f39 := Tryd.func102.trans (congrArg some (by kernel_rfl))
  t0 := Tryd.underlying0
  a0 := Tryd.isAgg0
  z0 := Tryd.sizeOf0
  v0 := Tryd.zeroValue0
  i0 := by kernel_rfl
  t3 := Tryd.underlying3
  a3 := Tryd.isAgg3
  z3 := Tryd.sizeOf3
  v3 := Tryd.zeroValue3
  i3 := by kernel_rfl
  t4 := Tryd.underlying4
  a4 := Tryd.isAgg4
  z4 := Tryd.sizeOf4
  v4 := Tryd.zeroValue4
  i4 := by kernel_rfl
  t5 := Tryd.underlying5
  a5 := Tryd.isAgg5
  z5 := Tryd.sizeOf5
  v5 := Tryd.zeroValue5
  i5 := by kernel_rfl
  t9 := Tryd.underlying9
  a9 := Tryd.isAgg9
  z9 := Tryd.sizeOf9
  v9 := Tryd.zeroValue9
  i9 := by kernel_rfl
  t12 := Tryd.underlying12
  a12 := Tryd.isAgg12
  z12 := Tryd.sizeOf12
  v12 := Tryd.zeroValue12
  i12 := by kernel_rfl
  t17 := Tryd.underlying17
  a17 := Tryd.isAgg17
  z17 := Tryd.sizeOf17
  v17 := Tryd.zeroValue17
  i17 := by kernel_rfl
  t20 := Tryd.underlying20
  a20 := Tryd.isAgg20
  z20 := Tryd.sizeOf20
  v20 := Tryd.zeroValue20
  i20 := by kernel_rfl
  t26 := Tryd.underlying107
  a26 := Tryd.isAgg107
  z26 := Tryd.sizeOf107
  v26 := Tryd.zeroValue107
  i26 := by kernel_rfl
  t32 := Tryd.underlying116
  a32 := Tryd.isAgg116
  z32 := Tryd.sizeOf116
  v32 := Tryd.zeroValue116
  i32 := by kernel_rfl
  t33 := Tryd.underlying117
  a33 := Tryd.isAgg117
  z33 := Tryd.sizeOf117
  v33 := Tryd.zeroValue117
  i33 := by kernel_rfl
  t35 := Tryd.underlying119
  a35 := Tryd.isAgg119
  z35 := Tryd.sizeOf119
  v35 := Tryd.zeroValue119
  i35 := by kernel_rfl
  t37 := Tryd.underlying121
  a37 := Tryd.isAgg121
  z37 := Tryd.sizeOf121
  v37 := Tryd.zeroValue121
  i37 := by kernel_rfl
  t41 := Tryd.underlying110
  a41 := Tryd.isAgg110
  z41 := Tryd.sizeOf110
  v41 := Tryd.zeroValue110
  i41 := by kernel_rfl
  t44 := Tryd.underlying126
  a44 := Tryd.isAgg126
  z44 := Tryd.sizeOf126
  v44 := Tryd.zeroValue126
  i44 := by kernel_rfl
  t49 := Tryd.underlying64
  a49 := Tryd.isAgg64
  z49 := Tryd.sizeOf64
  v49 := Tryd.zeroValue64
  i49 := by kernel_rfl
  t51 := Tryd.underlying91
  a51 := Tryd.isAgg91
  z51 := Tryd.sizeOf91
  v51 := Tryd.zeroValue91
  i51 := by kernel_rfl
  t53 := Tryd.underlying139
  a53 := Tryd.isAgg139
  z53 := Tryd.sizeOf139
  v53 := Tryd.zeroValue139
  i53 := by kernel_rfl
  t54 := Tryd.underlying140
  a54 := Tryd.isAgg140
  z54 := Tryd.sizeOf140
  v54 := Tryd.zeroValue140
  i54 := by kernel_rfl
  t58 := Tryd.underlying144
  a58 := Tryd.isAgg144
  z58 := Tryd.sizeOf144
  v58 := Tryd.zeroValue144
  i58 := by kernel_rfl
  t60 := Tryd.underlying146
  a60 := Tryd.isAgg146
  z60 := Tryd.sizeOf146
  v60 := Tryd.zeroValue146
  i60 := by kernel_rfl
  t64 := Tryd.underlying150
  a64 := Tryd.isAgg150
  z64 := Tryd.sizeOf150
  v64 := Tryd.zeroValue150
  i64 := by kernel_rfl
  t66 := Tryd.underlying152
  a66 := Tryd.isAgg152
  z66 := Tryd.sizeOf152
  v66 := Tryd.zeroValue152
  i66 := by kernel_rfl
  t67 := Tryd.underlying153
  a67 := Tryd.isAgg153
  z67 := Tryd.sizeOf153
  v67 := Tryd.zeroValue153
  i67 := by kernel_rfl
  t75 := Tryd.underlying161
  a75 := Tryd.isAgg161
  z75 := Tryd.sizeOf161
  v75 := Tryd.zeroValue161
  i75 := by kernel_rfl
  t76 := Tryd.underlying162
  a76 := Tryd.isAgg162
  z76 := Tryd.sizeOf162
  v76 := Tryd.zeroValue162
  i76 := by kernel_rfl
  t77 := Tryd.underlying163
  a77 := Tryd.isAgg163
  z77 := Tryd.sizeOf163
  v77 := Tryd.zeroValue163
  i77 := by kernel_rfl
  t78 := Tryd.underlying164
  a78 := Tryd.isAgg164
  z78 := Tryd.sizeOf164
  v78 := Tryd.zeroValue164
  i78 := by kernel_rfl
  t79 := Tryd.underlying165
  a79 := Tryd.isAgg165
  z79 := Tryd.sizeOf165
  v79 := Tryd.zeroValue165
  i79 := by kernel_rfl
  t80 := Tryd.underlying166
  a80 := Tryd.isAgg166
  z80 := Tryd.sizeOf166
  v80 := Tryd.zeroValue166
  i80 := by kernel_rfl
  t82 := Tryd.underlying168
  a82 := Tryd.isAgg168
  z82 := Tryd.sizeOf168
  v82 := Tryd.zeroValue168
  i82 := by kernel_rfl }

end Go.Proofs
namespace Go.Proofs.YtekafeogilbjmaaDoor
namespace K
open Go Go.Lib Go.Sort Go.RowKit
noncomputable def soT : TypeInfo := (Tryd.prog.info? 105).get (by kernel_rfl)
noncomputable def soE : TypeInfo := (Tryd.prog.info? 64).get (by kernel_rfl)
theorem soK (n : Nat) (h2 : 2 ≤ n) : Lib.swapperK n soE 10 = 6 := by
  have a : soE.hasPointers = false := by kernel_rfl
  have b : soE.bytes = 4 := by kernel_rfl
  have c : (n == 0) = false := by simp; omega
  have d : (n == 1) = false := by simp; omega
  simp [Lib.swapperK, a, b, c, d]
set_option maxHeartbeats 2000000 in
theorem less_u32 (blk off c Bs size : Nat) (W : World) (G : Nat → Int) (hs : W.cell? ⟨Bs, 0, none⟩ = some (.slice (some ⟨blk, off, none⟩) size c))
    (hc : ∀ t, t < size → W.cell? ⟨blk, off + t, none⟩ = some (.int .u32 (G t))) (i j : Nat) (hi : i < size) (hj : j < size) :
    Calls Tryd.prog 61 #[.int .i64 i, .int .i64 j, .pointer (some ⟨Bs, 0, none⟩)] W fun e w' => e = .returned (.bool (decide (G i < G j))) ∧ ∃ q, w' = W.drewN q := by
  have ci := hc i hi
  have cj := hc j hj
  go_enter Tryd.func61, Tryd.ntmps61
  go_wp2
  go_quiet (fail)
  go_wp2
  go_ret
  exact ⟨rfl, nq, rfl⟩
def kv (k : Nat) : Value := .int .u32 (k : Int)
def ltN (a b : Nat) : Bool := decide (a < b)
theorem swo_ltN : SWO ltN := ⟨fun x => by simp [ltN], fun x y z h1 h2 => by simp only [ltN, decide_eq_true_eq] at *; omega, fun x y z h1 h2 => by simp only [ltN, decide_eq_false_iff_not] at *; omega⟩
theorem perm_of {d d' : Array Nat} (h : PermIn 0 d.size d d') : d'.toList.Perm d.toList := by
  have h3 := h.2.2
  have e1 : d'.extract 0 d.size = d' := by rw [← h.1]; simp
  rw [e1, Array.extract_size] at h3
  exact h3
theorem sorted_of {d' : Array Nat} {n : Nat} (hs : d'.size = n) (h : SortedIn ltN 0 n d') : d'.toList.Pairwise (· ≤ ·) := by
  rw [List.pairwise_iff_getElem]
  intro i j hi hj hij
  have := h i j (Nat.zero_le _) hij (by simp at hj; omega)
  simp only [ltN, decide_eq_false_iff_not] at this
  rw [getElem!_pos d' j (by simpa using hj), getElem!_pos d' i (by simpa using hi)] at this
  simp only [Array.getElem_toList]
  omega
abbrev SE (g b4 n cap : Nat) (ks : List Nat) : Hp := [.row (.slice (some ⟨g, 0, none⟩) n cap) 64 1 n (ks.map kv), .obj b4 (.cells [.slice (some ⟨g, 0, none⟩) n cap].toArray 105)]
theorem blks_SE (g b4 n cap : Nat) (ks : List Nat) : blks (SE g b4 n cap ks) = [g, b4] := rfl
set_option maxHeartbeats 2000000 in
theorem sort_u32 (t : Vw) (g b4 n cap : Nat) (ks : List Nat) (hn : ks.length = n) (hok : HF (SE g b4 n cap ks) t.w) (hav : ∀ q ∈ blks (SE g b4 n cap ks), t.av q) (hnd : (blks (SE g b4 n cap ks)).Nodup) (hlt : n < 4611686018427387904) :
    CH Tryd.prog 60 [.iface 105 (.slice (some ⟨g, 0, none⟩) n cap), .func (.func 61) #[] #[.pointer (some ⟨b4, 0, none⟩)]] t (SE g b4 n cap ks) fun u r E' => ∃ ks', ks'.Perm ks ∧ ks'.Pairwise (· ≤ ·) ∧ E' = SE g b4 n cap ks' := by
  have hrow : t.w.ownsRow 0 64 1 (.slice (some ⟨g, 0, none⟩) n cap) n (ks.map kv) := hok (.row (.slice (some ⟨g, 0, none⟩) n cap) 64 1 n (ks.map kv)) (by simp)
  have hobj : t.w.heap[b4]? = some (.cells #[.slice (some ⟨g, 0, none⟩) n cap] 105) := hok (.obj b4 _) (by simp)
  rw [blks_SE] at hnd hav
  have hne : b4 ≠ g := by
    simp only [List.nodup_cons, List.mem_singleton] at hnd
    exact fun h => hnd.1 h.symm
  have hb4 : b4 < t.w.heap.size := (Array.getElem?_eq_some_iff.1 hobj).1
  have hrow2 := hrow.2
  rcases hrow2 with ⟨h, _⟩ | ⟨g', cap', cur, he, _, hg, hnc, hcm, hcs, htake⟩
  · cases h
  simp only [Value.slice.injEq, Option.some.injEq, Addr.mk.injEq] at he
  obtain ⟨⟨rfl, _⟩, _, rfl⟩ := he
  have hgs : g < t.w.heap.size := (Array.getElem?_eq_some_iff.1 hg).1
  by_cases h1 : n ≤ 1
  · have hf : Tryd.prog.funcs.findIdx? (·.name == "internal/reflectlite" ++ ".Swapper$" ++ toString (Lib.swapperK n soE 10)) = some (78 + n) := by
      rcases Nat.eq_zero_or_pos n with h | h
      · subst h
        rw [show Lib.swapperK 0 soE 10 = 1 by simp [Lib.swapperK]]
        kernel_rfl
      · obtain rfl : n = 1 := by omega
        rw [show Lib.swapperK 1 soE 10 = 2 by simp [Lib.swapperK]]
        kernel_rfl
    have hS := Any.sort_Slice_tiny Tryd.sl6 105 64 soT soE (by kernel_rfl) (by kernel_rfl) (by kernel_rfl) (by kernel_rfl) 10 (fun _ => by kernel_rfl) (some ⟨g, 0, none⟩) n cap h1 _ hf (.func 61) #[] #[.pointer (some ⟨b4, 0, none⟩)] t.w
    refine Calls.mono hS ?_
    rintro e w' ⟨rfl, os, rfl⟩
    have hold : ∀ k, k < t.w.heap.size → (grow t.w os).heap[k]? = t.w.heap[k]? := fun k hk => heap_grow_old _ _ hk
    refine ⟨.tuple #[], SE g b4 n cap ks, rfl, ?_, fun b hb => .inl hb, by rw [blks_SE]; exact hnd, ⟨rfl, rfl, rfl, by simp, fun k hk _ => hold k hk⟩, ?_, ks, List.Perm.refl _, ?_, rfl⟩
    · intro e he
      exact Ent.ok.mod (M := No) (hok e he) ⟨rfl, rfl, rfl, by simp, fun k hk _ => hold k hk⟩ (fun _ _ h => h)
    · intro b hb
      rw [size_grow]
      rcases hb with hb | hb
      · have := t.lt b hb; omega
      · rw [blks_SE] at hb
        have := t.lt b (hav b hb); omega
    · match ks, hn with
      | [], _ => simp
      | [x], _ => simp
      | x :: y :: r, hn => simp at hn; omega
  · have h2 : 2 ≤ n := by omega
    have hd : ks.toArray.size = n := by simpa using hn
    have hcell : ∀ j, j < n → cur[j]? = some (kv ks[j]!) := fun j hj => by
      have h := congrArg (fun l => l[j]?) htake
      simp only [Nat.mul_one] at h
      rw [List.getElem?_take_of_lt hj, List.getElem?_map, List.getElem?_eq_getElem (l := ks) (by omega)] at h
      rw [← Array.getElem?_toList, h, getElem!_pos ks j (by omega)]
      rfl
    have hH : Holds kv t.w g 0 ks.toArray := fun j hj => by
      rw [hd] at hj
      refine ⟨?_, by simp [World.frozen?, hg]⟩
      simp only [World.cell?, hg, Nat.zero_add, hcell j hj]
      simp
    have hless : LessReads Tryd.prog 61 #[.pointer (some ⟨b4, 0, none⟩)] kv ltN g 0 ks.toArray.size t.w := by
      intro m os dk hs i j hi hj
      have hga : g < (Sort.ahead t.w m).heap.size := hgs
      have hpz : ∀ (w : World) (d : Array Nat), (putRow kv w g 0 d).heap.size = w.heap.size := fun w d => by simp [putRow, mapBlock]
      have := less_u32 g 0 cap b4 n (sortWorld kv t.w g 0 m dk os) (fun t => ((dk[t]! : Nat) : Int)) ?_ (fun q hq => ?_) i j (by omega) (by omega)
      · refine this.mono fun e w' h => ⟨?_, h.2⟩
        rw [h.1]
        simp [ltN]
      · unfold sortWorld
        rw [cell?_grow _ _ _ (by rw [hpz]; exact hb4), cell?_putRow_other _ _ _ _ _ _ (.inl hne)]
        simp [World.cell?, hobj]
      · unfold sortWorld
        rw [cell?_grow _ _ _ (by rw [hpz]; exact hgs)]
        exact cell?_putRow kv _ g 0 ks.toArray dk (holds_ahead _ _ _ _ _ _ hH) hs q (by omega)
    have hS := Any.sort_Slice_sorted Tryd.sl6 105 64 soT soE (by kernel_rfl) (by kernel_rfl) (by kernel_rfl) (by kernel_rfl) 10 (fun _ => by kernel_rfl) (by kernel_rfl) (fun _ => by kernel_rfl) kv (fun _ => rfl) ltN swo_ltN 61 #[.pointer (some ⟨b4, 0, none⟩)]
      (enters_of Tryd.func61 (by kernel_rfl) rfl) g 0 cap ks.toArray (by omega) (by omega) 83 (by rw [hd, soK _ h2]; kernel_rfl) true
      (fun args W => run_callFunc_extern Tryd.func83 (by kernel_rfl) (by kernel_rfl) (by kernel_rfl) (e := Extern.ReflectliteSwapper.swap true) (by kernel_rfl) args W) t.w hless hH hgs
    rw [hd] at hS
    refine Calls.mono hS ?_
    rintro e w' ⟨rfl, d', m, os, hp, hso, rfl⟩
    have hds : d'.size = n := by rw [hp.1, hd]
    have hsz : (putRow kv (Sort.ahead t.w m) g 0 d').heap.size = t.w.heap.size := by simp [putRow, mapBlock, Sort.ahead]
    have hold : ∀ k, k < t.w.heap.size → k ≠ g → (grow (putRow kv (Sort.ahead t.w m) g 0 d') os).heap[k]? = t.w.heap[k]? := fun k hk hkg => by
      rw [heap_grow_old _ _ (by rw [hsz]; exact hk)]
      simp only [putRow, mapBlock, Array.getElem?_modify, Sort.ahead]
      rw [if_neg (fun h => hkg h.symm)]
    have hnew : (grow (putRow kv (Sort.ahead t.w m) g 0 d') os).heap[g]? = some (.cells (putCells kv 0 d' cur) 64 (0, 0)) := by
      rw [heap_grow_old _ _ (by rw [hsz]; exact hgs)]
      simp only [putRow, mapBlock, Array.getElem?_modify, Sort.ahead, if_true, hg, Option.map_some, onCells]
    have hrow' : (grow (putRow kv (Sort.ahead t.w m) g 0 d') os).ownsRow 0 64 1 (.slice (some ⟨g, 0, none⟩) n cap) n (d'.toList.map kv) := by
      refine ⟨by simp [hds], .inr ⟨g, cap, _, rfl, Nat.zero_le _, hnew, hnc, hcm, by simp [putCells, hcs], ?_⟩⟩
      apply List.ext_getElem?
      intro q
      simp only [Nat.mul_one]
      by_cases hq : q < n
      · have hqc : q < cur.size := by rw [hcs]; omega
        rw [List.getElem?_take_of_lt hq, Array.getElem?_toList, List.getElem?_map, Array.getElem?_toList, Array.getElem?_eq_getElem (by omega : q < d'.size)]
        simp only [putCells, Array.getElem?_mapIdx, Array.getElem?_eq_getElem hqc, Option.map_some, Nat.zero_le, true_and, Nat.zero_add, hds, hq, if_true, Nat.sub_zero]
        rw [getElem!_pos d' q (by omega)]
      · rw [List.getElem?_eq_none (by simp; omega), List.getElem?_eq_none (by simp; omega)]
    have hmod : Mod (fun b => b ∈ blks (SE g b4 n cap ks)) t.w (grow (putRow kv (Sort.ahead t.w m) g 0 d') os) := ⟨rfl, rfl, rfl, by rw [size_grow, hsz]; omega, fun k hk hn => hold k hk (fun h => hn (by rw [blks_SE, h]; simp))⟩
    refine ⟨.tuple #[], SE g b4 n cap d'.toList, rfl, ?_, fun b hb => .inl (by rwa [blks_SE] at hb ⊢), by rw [blks_SE]; exact hnd, hmod, ?_, d'.toList, ?_, sorted_of hds hso, rfl⟩
    · intro e he
      simp only [List.mem_cons, List.not_mem_nil, or_false] at he
      rcases he with rfl | rfl
      · exact hrow'
      · exact (hold b4 hb4 hne).trans hobj
    · intro b hb
      rw [size_grow, hsz]
      rcases hb with hb | hb
      · have := t.lt b hb; omega
      · rw [blks_SE] at hb
        have := t.lt b (hav b hb); omega
    · have := perm_of (d := ks.toArray) (d' := d') (by rw [hd]; exact hp)
      simpa using this
end K
end Go.Proofs.YtekafeogilbjmaaDoor
