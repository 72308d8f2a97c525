import Derived.Test.YtpphedmelbfnmaaGreatDoorG1
import Derived.Shelf.GgSortFunc.Whole
import Derived.Shelf.GgSortFunc.Tiny
import Derived.Deep.QuietTactic
import Derived.Laws.Externs
import Derived.WalkKit
set_option linter.unusedVariables false
namespace Go.Proofs
open Go.Shelf
def Tryz.sl6_ren : Go.Shelf.Ren := ⟨fun | 6 => 111 | 10 => 124 | 11 => 125 | 12 => 126 | 13 => 127 | 14 => 128 | 24 => 122 | 25 => 138 | 26 => 139 | 27 => 140 | 28 => 141 | 29 => 142 | 30 => 143 | 31 => 144 | 32 => 145 | 33 => 146 | 34 => 147 | 35 => 148 | 36 => 149 | 37 => 150 | 38 => 151 | 39 => 152 | n => n, fun | 20 => 20 | 26 => 150 | 35 => 162 | 0 => 0 | 37 => 164 | 3 => 3 | 41 => 127 | 44 => 169 | 49 => 67 | 51 => 87 | 4 => 4 | 54 => 176 | 53 => 175 | 58 => 180 | 5 => 5 | 9 => 9 | 60 => 182 | 64 => 186 | 66 => 188 | 67 => 189 | 17 => 17 | 32 => 159 | 33 => 160 | 82 => 204 | 12 => 12 | 75 => 197 | 76 => 198 | 77 => 199 | 78 => 200 | 79 => 201 | 80 => 202 | n => n, fun | n => n⟩
theorem Tryz.sl6 : Go.Proofs.LaysGg.n6 Tryz.prog Tryz.sl6_ren := {
  mixed := by kernel_rfl
  f6 := Tryz.func111.trans (congrArg some (by kernel_rfl))
  f10 := Tryz.func124.trans (congrArg some (by kernel_rfl))
  f11 := Tryz.func125.trans (congrArg some (by kernel_rfl))
  f12 := Tryz.func126.trans (congrArg some (by kernel_rfl))
  f13 := Tryz.func127.trans (congrArg some (by kernel_rfl))
  f14 := Tryz.func128.trans (congrArg some (by kernel_rfl))
  f24 := Tryz.func122.trans (congrArg some (by kernel_rfl))
  f25 := Tryz.func138.trans (congrArg some (by kernel_rfl))
  f26 := Tryz.func139.trans (congrArg some (by kernel_rfl))
  f27 := Tryz.func140.trans (congrArg some (by kernel_rfl))
  f28 := Tryz.func141.trans (congrArg some (by kernel_rfl))
  f29 := Tryz.func142.trans (congrArg some (by kernel_rfl))
  f30 := Tryz.func143.trans (congrArg some (by kernel_rfl))
  f31 := Tryz.func144.trans (congrArg some (by kernel_rfl))
  f32 := Tryz.func145.trans (congrArg some (by kernel_rfl))
  f33 := Tryz.func146.trans (congrArg some (by kernel_rfl))
  f34 := Tryz.func147.trans (congrArg some (by kernel_rfl))
  f35 := Tryz.func148.trans (congrArg some (by kernel_rfl))
  f36 := Tryz.func149.trans (congrArg some (by kernel_rfl))
  f37 := Tryz.func150.trans (congrArg some (by kernel_rfl))
  f38 := Tryz.func151.trans (congrArg some (by kernel_rfl))
  f39 := Tryz.func152.trans (congrArg some (by kernel_rfl))
  t0 := Tryz.underlying0
  a0 := Tryz.isAgg0
  z0 := Tryz.sizeOf0
  v0 := Tryz.zeroValue0
  i0 := by kernel_rfl
  t3 := Tryz.underlying3
  a3 := Tryz.isAgg3
  z3 := Tryz.sizeOf3
  v3 := Tryz.zeroValue3
  i3 := by kernel_rfl
  t4 := Tryz.underlying4
  a4 := Tryz.isAgg4
  z4 := Tryz.sizeOf4
  v4 := Tryz.zeroValue4
  i4 := by kernel_rfl
  t5 := Tryz.underlying5
  a5 := Tryz.isAgg5
  z5 := Tryz.sizeOf5
  v5 := Tryz.zeroValue5
  i5 := by kernel_rfl
  t9 := Tryz.underlying9
  a9 := Tryz.isAgg9
  z9 := Tryz.sizeOf9
  v9 := Tryz.zeroValue9
  i9 := by kernel_rfl
  t12 := Tryz.underlying12
  a12 := Tryz.isAgg12
  z12 := Tryz.sizeOf12
  v12 := Tryz.zeroValue12
  i12 := by kernel_rfl
  t17 := Tryz.underlying17
  a17 := Tryz.isAgg17
  z17 := Tryz.sizeOf17
  v17 := Tryz.zeroValue17
  i17 := by kernel_rfl
  t20 := Tryz.underlying20
  a20 := Tryz.isAgg20
  z20 := Tryz.sizeOf20
  v20 := Tryz.zeroValue20
  i20 := by kernel_rfl
  t26 := Tryz.underlying150
  a26 := Tryz.isAgg150
  z26 := Tryz.sizeOf150
  v26 := Tryz.zeroValue150
  i26 := by kernel_rfl
  t32 := Tryz.underlying159
  a32 := Tryz.isAgg159
  z32 := Tryz.sizeOf159
  v32 := Tryz.zeroValue159
  i32 := by kernel_rfl
  t33 := Tryz.underlying160
  a33 := Tryz.isAgg160
  z33 := Tryz.sizeOf160
  v33 := Tryz.zeroValue160
  i33 := by kernel_rfl
  t35 := Tryz.underlying162
  a35 := Tryz.isAgg162
  z35 := Tryz.sizeOf162
  v35 := Tryz.zeroValue162
  i35 := by kernel_rfl
  t37 := Tryz.underlying164
  a37 := Tryz.isAgg164
  z37 := Tryz.sizeOf164
  v37 := Tryz.zeroValue164
  i37 := by kernel_rfl
  t41 := Tryz.underlying127
  a41 := Tryz.isAgg127
  z41 := Tryz.sizeOf127
  v41 := Tryz.zeroValue127
  i41 := by kernel_rfl
  t44 := Tryz.underlying169
  a44 := Tryz.isAgg169
  z44 := Tryz.sizeOf169
  v44 := Tryz.zeroValue169
  i44 := by kernel_rfl
  t49 := Tryz.underlying67
  a49 := Tryz.isAgg67
  z49 := Tryz.sizeOf67
  v49 := Tryz.zeroValue67
  i49 := by kernel_rfl
  t51 := Tryz.underlying87
  a51 := Tryz.isAgg87
  z51 := Tryz.sizeOf87
  v51 := Tryz.zeroValue87
  i51 := by kernel_rfl
  t53 := Tryz.underlying175
  a53 := Tryz.isAgg175
  z53 := Tryz.sizeOf175
  v53 := Tryz.zeroValue175
  i53 := by kernel_rfl
  t54 := Tryz.underlying176
  a54 := Tryz.isAgg176
  z54 := Tryz.sizeOf176
  v54 := Tryz.zeroValue176
  i54 := by kernel_rfl
  t58 := Tryz.underlying180
  a58 := Tryz.isAgg180
  z58 := Tryz.sizeOf180
  v58 := Tryz.zeroValue180
  i58 := by kernel_rfl
  t60 := Tryz.underlying182
  a60 := Tryz.isAgg182
  z60 := Tryz.sizeOf182
  v60 := Tryz.zeroValue182
  i60 := by kernel_rfl
  t64 := Tryz.underlying186
  a64 := Tryz.isAgg186
  z64 := Tryz.sizeOf186
  v64 := Tryz.zeroValue186
  i64 := by kernel_rfl
  t66 := Tryz.underlying188
  a66 := Tryz.isAgg188
  z66 := Tryz.sizeOf188
  v66 := Tryz.zeroValue188
  i66 := by kernel_rfl
  t67 := Tryz.underlying189
  a67 := Tryz.isAgg189
  z67 := Tryz.sizeOf189
  v67 := Tryz.zeroValue189
  i67 := by kernel_rfl
  t75 := Tryz.underlying197
  a75 := Tryz.isAgg197
  z75 := Tryz.sizeOf197
  v75 := Tryz.zeroValue197
  i75 := by kernel_rfl
  t76 := Tryz.underlying198
  a76 := Tryz.isAgg198
  z76 := Tryz.sizeOf198
  v76 := Tryz.zeroValue198
  i76 := by kernel_rfl
  t77 := Tryz.underlying199
  a77 := Tryz.isAgg199
  z77 := Tryz.sizeOf199
  v77 := Tryz.zeroValue199
  i77 := by kernel_rfl
  t78 := Tryz.underlying200
  a78 := Tryz.isAgg200
  z78 := Tryz.sizeOf200
  v78 := Tryz.zeroValue200
  i78 := by kernel_rfl
  t79 := Tryz.underlying201
  a79 := Tryz.isAgg201
  z79 := Tryz.sizeOf201
  v79 := Tryz.zeroValue201
  i79 := by kernel_rfl
  t80 := Tryz.underlying202
  a80 := Tryz.isAgg202
  z80 := Tryz.sizeOf202
  v80 := Tryz.zeroValue202
  i80 := by kernel_rfl
  t82 := Tryz.underlying204
  a82 := Tryz.isAgg204
  z82 := Tryz.sizeOf204
  v82 := Tryz.zeroValue204
  i82 := by kernel_rfl }

end Go.Proofs
namespace Go.Proofs.YtpphedmelbfnmaaGreatDoor
namespace K
open Go Go.Lib Go.Sort Go.RowKit
noncomputable def soT : TypeInfo := (Tryz.prog.info? 92).get (by kernel_rfl)
noncomputable def soE : TypeInfo := (Tryz.prog.info? 67).get (by kernel_rfl)
theorem soK (n : Nat) (h2 : 2 ≤ n) : Lib.swapperK n soE 10 = 6 := by
  have a : soE.hasPointers = false := by kernel_rfl
  have b : soE.bytes = 4 := by kernel_rfl
  have c : (n == 0) = false := by simp; omega
  have d : (n == 1) = false := by simp; omega
  simp [Lib.swapperK, a, b, c, d]
set_option maxHeartbeats 2000000 in
theorem less_u32 (blk off c Bs size : Nat) (W : World) (G : Nat → Int) (hs : W.cell? ⟨Bs, 0, none⟩ = some (.slice (some ⟨blk, off, none⟩) size c))
    (hc : ∀ t, t < size → W.cell? ⟨blk, off + t, none⟩ = some (.int .u32 (G t))) (i j : Nat) (hi : i < size) (hj : j < size) :
    Calls Tryz.prog 112 #[.int .i64 i, .int .i64 j, .pointer (some ⟨Bs, 0, none⟩)] W fun e w' => e = .returned (.bool (decide (G i < G j))) ∧ ∃ q, w' = W.drewN q := by
  have ci := hc i hi
  have cj := hc j hj
  go_enter Tryz.func112, Tryz.ntmps112
  go_wp2
  go_quiet (fail)
  go_wp2
  go_ret
  exact ⟨rfl, nq, rfl⟩
def kv (k : Nat) : Value := .int .u32 (k : Int)
def ltN (a b : Nat) : Bool := decide (a < b)
theorem swo_ltN : SWO ltN := ⟨fun x => by simp [ltN], fun x y z h1 h2 => by simp only [ltN, decide_eq_true_eq] at *; omega, fun x y z h1 h2 => by simp only [ltN, decide_eq_false_iff_not] at *; omega⟩
theorem perm_of {d d' : Array Nat} (h : PermIn 0 d.size d d') : d'.toList.Perm d.toList := by
  have h3 := h.2.2
  have e1 : d'.extract 0 d.size = d' := by rw [← h.1]; simp
  rw [e1, Array.extract_size] at h3
  exact h3
theorem sorted_of {d' : Array Nat} {n : Nat} (hs : d'.size = n) (h : SortedIn ltN 0 n d') : d'.toList.Pairwise (· ≤ ·) := by
  rw [List.pairwise_iff_getElem]
  intro i j hi hj hij
  have := h i j (Nat.zero_le _) hij (by simp at hj; omega)
  simp only [ltN, decide_eq_false_iff_not] at this
  rw [getElem!_pos d' j (by simpa using hj), getElem!_pos d' i (by simpa using hi)] at this
  simp only [Array.getElem_toList]
  omega
abbrev SE (g b4 n cap : Nat) (ks : List Nat) : Hp := [.row (.slice (some ⟨g, 0, none⟩) n cap) 67 1 n (ks.map kv), .obj b4 (.cells [.slice (some ⟨g, 0, none⟩) n cap].toArray 92)]
theorem blks_SE (g b4 n cap : Nat) (ks : List Nat) : blks (SE g b4 n cap ks) = [g, b4] := rfl
set_option maxHeartbeats 2000000 in
theorem sort_u32 (t : Vw) (g b4 n cap : Nat) (ks : List Nat) (hn : ks.length = n) (hok : HF (SE g b4 n cap ks) t.w) (hav : ∀ q ∈ blks (SE g b4 n cap ks), t.av q) (hnd : (blks (SE g b4 n cap ks)).Nodup) (hlt : n < 4611686018427387904) :
    CH Tryz.prog 111 [.iface 92 (.slice (some ⟨g, 0, none⟩) n cap), .func (.func 112) #[] #[.pointer (some ⟨b4, 0, none⟩)]] t (SE g b4 n cap ks) fun u r E' => ∃ ks', ks'.Perm ks ∧ ks'.Pairwise (· ≤ ·) ∧ E' = SE g b4 n cap ks' := by
  have hrow : t.w.ownsRow 0 67 1 (.slice (some ⟨g, 0, none⟩) n cap) n (ks.map kv) := hok (.row (.slice (some ⟨g, 0, none⟩) n cap) 67 1 n (ks.map kv)) (by simp)
  have hobj : t.w.heap[b4]? = some (.cells #[.slice (some ⟨g, 0, none⟩) n cap] 92) := hok (.obj b4 _) (by simp)
  rw [blks_SE] at hnd hav
  have hne : b4 ≠ g := by
    simp only [List.nodup_cons, List.mem_singleton] at hnd
    exact fun h => hnd.1 h.symm
  have hb4 : b4 < t.w.heap.size := (Array.getElem?_eq_some_iff.1 hobj).1
  have hrow2 := hrow.2
  rcases hrow2 with ⟨h, _⟩ | ⟨g', cap', cur, he, _, hg, hnc, hcm, hcs, htake⟩
  · cases h
  simp only [Value.slice.injEq, Option.some.injEq, Addr.mk.injEq] at he
  obtain ⟨⟨rfl, _⟩, _, rfl⟩ := he
  have hgs : g < t.w.heap.size := (Array.getElem?_eq_some_iff.1 hg).1
  by_cases h1 : n ≤ 1
  · have hf : Tryz.prog.funcs.findIdx? (·.name == "internal/reflectlite" ++ ".Swapper$" ++ toString (Lib.swapperK n soE 10)) = some (129 + n) := by
      rcases Nat.eq_zero_or_pos n with h | h
      · subst h
        rw [show Lib.swapperK 0 soE 10 = 1 by simp [Lib.swapperK]]
        kernel_rfl
      · obtain rfl : n = 1 := by omega
        rw [show Lib.swapperK 1 soE 10 = 2 by simp [Lib.swapperK]]
        kernel_rfl
    have hS := Any.sort_Slice_tiny Tryz.sl6 92 67 soT soE (by kernel_rfl) (by kernel_rfl) (by kernel_rfl) (by kernel_rfl) 10 (fun _ => by kernel_rfl) (some ⟨g, 0, none⟩) n cap h1 _ hf (.func 112) #[] #[.pointer (some ⟨b4, 0, none⟩)] t.w
    refine Calls.mono hS ?_
    rintro e w' ⟨rfl, os, rfl⟩
    have hold : ∀ k, k < t.w.heap.size → (grow t.w os).heap[k]? = t.w.heap[k]? := fun k hk => heap_grow_old _ _ hk
    refine ⟨.tuple #[], SE g b4 n cap ks, rfl, ?_, fun b hb => .inl hb, by rw [blks_SE]; exact hnd, ⟨rfl, rfl, rfl, by simp, fun k hk _ => hold k hk⟩, ?_, ks, List.Perm.refl _, ?_, rfl⟩
    · intro e he
      exact Ent.ok.mod (M := No) (hok e he) ⟨rfl, rfl, rfl, by simp, fun k hk _ => hold k hk⟩ (fun _ _ h => h)
    · intro b hb
      rw [size_grow]
      rcases hb with hb | hb
      · have := t.lt b hb; omega
      · rw [blks_SE] at hb
        have := t.lt b (hav b hb); omega
    · match ks, hn with
      | [], _ => simp
      | [x], _ => simp
      | x :: y :: r, hn => simp at hn; omega
  · have h2 : 2 ≤ n := by omega
    have hd : ks.toArray.size = n := by simpa using hn
    have hcell : ∀ j, j < n → cur[j]? = some (kv ks[j]!) := fun j hj => by
      have h := congrArg (fun l => l[j]?) htake
      simp only [Nat.mul_one] at h
      rw [List.getElem?_take_of_lt hj, List.getElem?_map, List.getElem?_eq_getElem (l := ks) (by omega)] at h
      rw [← Array.getElem?_toList, h, getElem!_pos ks j (by omega)]
      rfl
    have hH : Holds kv t.w g 0 ks.toArray := fun j hj => by
      rw [hd] at hj
      refine ⟨?_, by simp [World.frozen?, hg]⟩
      simp only [World.cell?, hg, Nat.zero_add, hcell j hj]
      simp
    have hless : LessReads Tryz.prog 112 #[.pointer (some ⟨b4, 0, none⟩)] kv ltN g 0 ks.toArray.size t.w := by
      intro m os dk hs i j hi hj
      have hga : g < (Sort.ahead t.w m).heap.size := hgs
      have hpz : ∀ (w : World) (d : Array Nat), (putRow kv w g 0 d).heap.size = w.heap.size := fun w d => by simp [putRow, mapBlock]
      have := less_u32 g 0 cap b4 n (sortWorld kv t.w g 0 m dk os) (fun t => ((dk[t]! : Nat) : Int)) ?_ (fun q hq => ?_) i j (by omega) (by omega)
      · refine this.mono fun e w' h => ⟨?_, h.2⟩
        rw [h.1]
        simp [ltN]
      · unfold sortWorld
        rw [cell?_grow _ _ _ (by rw [hpz]; exact hb4), cell?_putRow_other _ _ _ _ _ _ (.inl hne)]
        simp [World.cell?, hobj]
      · unfold sortWorld
        rw [cell?_grow _ _ _ (by rw [hpz]; exact hgs)]
        exact cell?_putRow kv _ g 0 ks.toArray dk (holds_ahead _ _ _ _ _ _ hH) hs q (by omega)
    have hS := Any.sort_Slice_sorted Tryz.sl6 92 67 soT soE (by kernel_rfl) (by kernel_rfl) (by kernel_rfl) (by kernel_rfl) 10 (fun _ => by kernel_rfl) (by kernel_rfl) (fun _ => by kernel_rfl) kv (fun _ => rfl) ltN swo_ltN 112 #[.pointer (some ⟨b4, 0, none⟩)]
      (enters_of Tryz.func112 (by kernel_rfl) rfl) g 0 cap ks.toArray (by omega) (by omega) 134 (by rw [hd, soK _ h2]; kernel_rfl) true
      (fun args W => run_callFunc_extern Tryz.func134 (by kernel_rfl) (by kernel_rfl) (by kernel_rfl) (e := Extern.ReflectliteSwapper.swap true) (by kernel_rfl) args W) t.w hless hH hgs
    rw [hd] at hS
    refine Calls.mono hS ?_
    rintro e w' ⟨rfl, d', m, os, hp, hso, rfl⟩
    have hds : d'.size = n := by rw [hp.1, hd]
    have hsz : (putRow kv (Sort.ahead t.w m) g 0 d').heap.size = t.w.heap.size := by simp [putRow, mapBlock, Sort.ahead]
    have hold : ∀ k, k < t.w.heap.size → k ≠ g → (grow (putRow kv (Sort.ahead t.w m) g 0 d') os).heap[k]? = t.w.heap[k]? := fun k hk hkg => by
      rw [heap_grow_old _ _ (by rw [hsz]; exact hk)]
      simp only [putRow, mapBlock, Array.getElem?_modify, Sort.ahead]
      rw [if_neg (fun h => hkg h.symm)]
    have hnew : (grow (putRow kv (Sort.ahead t.w m) g 0 d') os).heap[g]? = some (.cells (putCells kv 0 d' cur) 67 (0, 0)) := by
      rw [heap_grow_old _ _ (by rw [hsz]; exact hgs)]
      simp only [putRow, mapBlock, Array.getElem?_modify, Sort.ahead, if_true, hg, Option.map_some, onCells]
    have hrow' : (grow (putRow kv (Sort.ahead t.w m) g 0 d') os).ownsRow 0 67 1 (.slice (some ⟨g, 0, none⟩) n cap) n (d'.toList.map kv) := by
      refine ⟨by simp [hds], .inr ⟨g, cap, _, rfl, Nat.zero_le _, hnew, hnc, hcm, by simp [putCells, hcs], ?_⟩⟩
      apply List.ext_getElem?
      intro q
      simp only [Nat.mul_one]
      by_cases hq : q < n
      · have hqc : q < cur.size := by rw [hcs]; omega
        rw [List.getElem?_take_of_lt hq, Array.getElem?_toList, List.getElem?_map, Array.getElem?_toList, Array.getElem?_eq_getElem (by omega : q < d'.size)]
        simp only [putCells, Array.getElem?_mapIdx, Array.getElem?_eq_getElem hqc, Option.map_some, Nat.zero_le, true_and, Nat.zero_add, hds, hq, if_true, Nat.sub_zero]
        rw [getElem!_pos d' q (by omega)]
      · rw [List.getElem?_eq_none (by simp; omega), List.getElem?_eq_none (by simp; omega)]
    have hmod : Mod (fun b => b ∈ blks (SE g b4 n cap ks)) t.w (grow (putRow kv (Sort.ahead t.w m) g 0 d') os) := ⟨rfl, rfl, rfl, by rw [size_grow, hsz]; omega, fun k hk hn => hold k hk (fun h => hn (by rw [blks_SE, h]; simp))⟩
    refine ⟨.tuple #[], SE g b4 n cap d'.toList, rfl, ?_, fun b hb => .inl (by rwa [blks_SE] at hb ⊢), by rw [blks_SE]; exact hnd, hmod, ?_, d'.toList, ?_, sorted_of hds hso, rfl⟩
    · intro e he
      simp only [List.mem_cons, List.not_mem_nil, or_false] at he
      rcases he with rfl | rfl
      · exact hrow'
      · exact (hold b4 hb4 hne).trans hobj
    · intro b hb
      rw [size_grow, hsz]
      rcases hb with hb | hb
      · have := t.lt b hb; omega
      · rw [blks_SE] at hb
        have := t.lt b (hav b hb); omega
    · have := perm_of (d := ks.toArray) (d' := d') (by rw [hd]; exact hp)
      simpa using this
end K
end Go.Proofs.YtpphedmelbfnmaaGreatDoor
