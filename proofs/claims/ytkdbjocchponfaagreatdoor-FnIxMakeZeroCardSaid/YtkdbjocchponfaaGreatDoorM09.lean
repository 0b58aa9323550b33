/-
  DERIVED: THE SHELF's CONTRACTS AT THIS DUMP, IN PLAIN WORDS (tools/lay-plain.mjs out of 'TryzShelf.lean', which tools/lay-shelf.mjs wrote): THE SAME DECLARATIONS UNDER THE SAME NAMES: 'import', 'namespace', 'open', 'def', 'theorem' AND NOTHING ELSE: no command of the shelf's: FOR A HAND-IN. Each laying: the table of numbers ('.._ren') and one theorem, a field a fact of the dump's own or the kernel's comparison; each contract: ONE APPLICATION.
  laws.ixSorted: a new row, sorted; laws.ixSame.
  sort.Slice with the closures of spec.Offsets and spec.Codes.
  recordSet: a row of digests with their offsets: its methods; sorted by sort.Sort.
  singleWidthIndex.Less.
  sort.Search over a closure that leaves all old blocks as they were.
  bytes.Equal; the closure of singleWidthIndex.getAll.
  (No condition beyond those that each theorem states.)
-/
import Derived.Ground.GgsProg
import Derived.Shelf.GgSortFunc.Tiny
import Derived.Shelf.GgSortFunc.Whole
import Derived.Test.YtkdbjocchponfaaGreatDoorProg
import Derived.Test.YtkdbjocchponfaaGreatDoorM01
import Derived.Test.YtkdbjocchponfaaGreatDoorM05
import Derived.Deep.QuietTactic
import Derived.Deep.RegionHeld3
import Derived.Lib.RowBridge
import Derived.Lib.SortBridge
import Derived.Sort.LotA
import Derived.LoopTactic
import Derived.WalkKit
import Derived.Test.YtkdbjocchponfaaGreatDoorM08
import Derived.Test.YtkdbjocchponfaaGreatDoorM07
import Derived.Lib.Bytealg
import Derived.Laws.Externs
import Derived.Deep.MidRow
import Derived.Deep.RegionWith
import Derived.WalkSpells
import Derived.Shelf.Abstract
import Derived.Deep.LoopGhost
import Derived.IntWalk
import Derived.Laws.IdiomStrings
import Derived.Laws.BytesString
namespace Go.Proofs
open Go.Shelf
open Go.RowKit Go.Lib Go.Sort in
open Go.RowKit Go.Lib Go.Sort in
def Tryz.laysGg6_ren : Go.Shelf.Ren := ⟨fun | 6 => 74 | 10 => 90 | 11 => 91 | 12 => 92 | 13 => 93 | 14 => 94 | 24 => 113 | 25 => 114 | 26 => 115 | 27 => 116 | 28 => 117 | 29 => 118 | 30 => 119 | 31 => 120 | 32 => 121 | 33 => 122 | 34 => 137 | 35 => 138 | 36 => 139 | 37 => 140 | 38 => 141 | 39 => 155 | n => n, fun | 20 => 20 | 26 => 147 | 35 => 198 | 0 => 0 | 37 => 200 | 3 => 3 | 41 => 90 | 44 => 206 | 49 => 233 | 51 => 30 | 4 => 4 | 54 => 237 | 53 => 236 | 58 => 241 | 5 => 5 | 9 => 9 | 60 => 260 | 64 => 263 | 66 => 289 | 67 => 290 | 17 => 17 | 32 => 195 | 33 => 196 | 82 => 335 | 12 => 12 | 75 => 328 | 76 => 329 | 77 => 330 | 78 => 331 | 79 => 332 | 80 => 333 | n => n, fun | n => n⟩
theorem Tryz.laysGg6 : Go.Proofs.LaysGg.n6 Tryz.prog Tryz.laysGg6_ren := {
  mixed := by kernel_rfl
  f6 := Tryz.func74.trans (congrArg some (by kernel_rfl))
  f10 := Tryz.func90.trans (congrArg some (by kernel_rfl))
  f11 := Tryz.func91.trans (congrArg some (by kernel_rfl))
  f12 := Tryz.func92.trans (congrArg some (by kernel_rfl))
  f13 := Tryz.func93.trans (congrArg some (by kernel_rfl))
  f14 := Tryz.func94.trans (congrArg some (by kernel_rfl))
  f24 := Tryz.func113.trans (congrArg some (by kernel_rfl))
  f25 := Tryz.func114.trans (congrArg some (by kernel_rfl))
  f26 := Tryz.func115.trans (congrArg some (by kernel_rfl))
  f27 := Tryz.func116.trans (congrArg some (by kernel_rfl))
  f28 := Tryz.func117.trans (congrArg some (by kernel_rfl))
  f29 := Tryz.func118.trans (congrArg some (by kernel_rfl))
  f30 := Tryz.func119.trans (congrArg some (by kernel_rfl))
  f31 := Tryz.func120.trans (congrArg some (by kernel_rfl))
  f32 := Tryz.func121.trans (congrArg some (by kernel_rfl))
  f33 := Tryz.func122.trans (congrArg some (by kernel_rfl))
  f34 := Tryz.func137.trans (congrArg some (by kernel_rfl))
  f35 := Tryz.func138.trans (congrArg some (by kernel_rfl))
  f36 := Tryz.func139.trans (congrArg some (by kernel_rfl))
  f37 := Tryz.func140.trans (congrArg some (by kernel_rfl))
  f38 := Tryz.func141.trans (congrArg some (by kernel_rfl))
  f39 := Tryz.func155.trans (congrArg some (by kernel_rfl))
  t0 := Tryz.underlying0
  a0 := Tryz.isAgg0
  z0 := Tryz.sizeOf0
  v0 := Tryz.zeroValue0
  i0 := by kernel_rfl
  t3 := Tryz.underlying3
  a3 := Tryz.isAgg3
  z3 := Tryz.sizeOf3
  v3 := Tryz.zeroValue3
  i3 := by kernel_rfl
  t4 := Tryz.underlying4
  a4 := Tryz.isAgg4
  z4 := Tryz.sizeOf4
  v4 := Tryz.zeroValue4
  i4 := by kernel_rfl
  t5 := Tryz.underlying5
  a5 := Tryz.isAgg5
  z5 := Tryz.sizeOf5
  v5 := Tryz.zeroValue5
  i5 := by kernel_rfl
  t9 := Tryz.underlying9
  a9 := Tryz.isAgg9
  z9 := Tryz.sizeOf9
  v9 := Tryz.zeroValue9
  i9 := by kernel_rfl
  t12 := Tryz.underlying12
  a12 := Tryz.isAgg12
  z12 := Tryz.sizeOf12
  v12 := Tryz.zeroValue12
  i12 := by kernel_rfl
  t17 := Tryz.underlying17
  a17 := Tryz.isAgg17
  z17 := Tryz.sizeOf17
  v17 := Tryz.zeroValue17
  i17 := by kernel_rfl
  t20 := Tryz.underlying20
  a20 := Tryz.isAgg20
  z20 := Tryz.sizeOf20
  v20 := Tryz.zeroValue20
  i20 := by kernel_rfl
  t26 := Tryz.underlying147
  a26 := Tryz.isAgg147
  z26 := Tryz.sizeOf147
  v26 := Tryz.zeroValue147
  i26 := by kernel_rfl
  t32 := Tryz.underlying195
  a32 := Tryz.isAgg195
  z32 := Tryz.sizeOf195
  v32 := Tryz.zeroValue195
  i32 := by kernel_rfl
  t33 := Tryz.underlying196
  a33 := Tryz.isAgg196
  z33 := Tryz.sizeOf196
  v33 := Tryz.zeroValue196
  i33 := by kernel_rfl
  t35 := Tryz.underlying198
  a35 := Tryz.isAgg198
  z35 := Tryz.sizeOf198
  v35 := Tryz.zeroValue198
  i35 := by kernel_rfl
  t37 := Tryz.underlying200
  a37 := Tryz.isAgg200
  z37 := Tryz.sizeOf200
  v37 := Tryz.zeroValue200
  i37 := by kernel_rfl
  t41 := Tryz.underlying90
  a41 := Tryz.isAgg90
  z41 := Tryz.sizeOf90
  v41 := Tryz.zeroValue90
  i41 := by kernel_rfl
  t44 := Tryz.underlying206
  a44 := Tryz.isAgg206
  z44 := Tryz.sizeOf206
  v44 := Tryz.zeroValue206
  i44 := by kernel_rfl
  t49 := Tryz.underlying233
  a49 := Tryz.isAgg233
  z49 := Tryz.sizeOf233
  v49 := Tryz.zeroValue233
  i49 := by kernel_rfl
  t51 := Tryz.underlying30
  a51 := Tryz.isAgg30
  z51 := Tryz.sizeOf30
  v51 := Tryz.zeroValue30
  i51 := by kernel_rfl
  t53 := Tryz.underlying236
  a53 := Tryz.isAgg236
  z53 := Tryz.sizeOf236
  v53 := Tryz.zeroValue236
  i53 := by kernel_rfl
  t54 := Tryz.underlying237
  a54 := Tryz.isAgg237
  z54 := Tryz.sizeOf237
  v54 := Tryz.zeroValue237
  i54 := by kernel_rfl
  t58 := Tryz.underlying241
  a58 := Tryz.isAgg241
  z58 := Tryz.sizeOf241
  v58 := Tryz.zeroValue241
  i58 := by kernel_rfl
  t60 := Tryz.underlying260
  a60 := Tryz.isAgg260
  z60 := Tryz.sizeOf260
  v60 := Tryz.zeroValue260
  i60 := by kernel_rfl
  t64 := Tryz.underlying263
  a64 := Tryz.isAgg263
  z64 := Tryz.sizeOf263
  v64 := Tryz.zeroValue263
  i64 := by kernel_rfl
  t66 := Tryz.underlying289
  a66 := Tryz.isAgg289
  z66 := Tryz.sizeOf289
  v66 := Tryz.zeroValue289
  i66 := by kernel_rfl
  t67 := Tryz.underlying290
  a67 := Tryz.isAgg290
  z67 := Tryz.sizeOf290
  v67 := Tryz.zeroValue290
  i67 := by kernel_rfl
  t75 := Tryz.underlying328
  a75 := Tryz.isAgg328
  z75 := Tryz.sizeOf328
  v75 := Tryz.zeroValue328
  i75 := by kernel_rfl
  t76 := Tryz.underlying329
  a76 := Tryz.isAgg329
  z76 := Tryz.sizeOf329
  v76 := Tryz.zeroValue329
  i76 := by kernel_rfl
  t77 := Tryz.underlying330
  a77 := Tryz.isAgg330
  z77 := Tryz.sizeOf330
  v77 := Tryz.zeroValue330
  i77 := by kernel_rfl
  t78 := Tryz.underlying331
  a78 := Tryz.isAgg331
  z78 := Tryz.sizeOf331
  v78 := Tryz.zeroValue331
  i78 := by kernel_rfl
  t79 := Tryz.underlying332
  a79 := Tryz.isAgg332
  z79 := Tryz.sizeOf332
  v79 := Tryz.zeroValue332
  i79 := by kernel_rfl
  t80 := Tryz.underlying333
  a80 := Tryz.isAgg333
  z80 := Tryz.sizeOf333
  v80 := Tryz.zeroValue333
  i80 := by kernel_rfl
  t82 := Tryz.underlying335
  a82 := Tryz.isAgg335
  z82 := Tryz.sizeOf335
  v82 := Tryz.zeroValue335
  i82 := by kernel_rfl }
end Go.Proofs
namespace Go.Proofs.YtkdbjocchponfaaGreatDoor
open Go.Shelf Go.RowKit Go.Lib Go.Sort

theorem Off.cellS {S : List Nat} {w w' : World} {p : Addr} {v : Value} (h : Off S w w') (hc : w.cell? p = some v) (hp : p.block ∉ S) : w'.cell? p = some v :=
  (World.cell?_of_block (h.block p.block (World.block_lt_of_cell? w _ hc) hp)).trans hc
/-- A row of uint64 that lies in memory. -/
def U64s (w : World) (A : Option Addr) (zs : List Int) : Prop := ∃ b o, A = some ⟨b, o, none⟩ ∧ b < w.heap.size ∧ ∀ j (h : j < zs.length), w.cell? ⟨b, o + j, none⟩ = some (.int .u64 zs[j])
def srtI (zs : List Int) : List Int := zs.mergeSort fun x y => decide (x ≤ y)
theorem srtI_len (zs : List Int) : (srtI zs).length = zs.length := List.length_mergeSort ..
noncomputable def uT : TypeInfo := (Tryz.prog.info? 92).get (by kernel_rfl)
noncomputable def uE : TypeInfo := (Tryz.prog.info? 30).get (by kernel_rfl)
theorem uK (n : Nat) (h2 : 2 ≤ n) : Lib.swapperK n uE 11 = 5 := by
  have a : uE.hasPointers = false := by kernel_rfl
  have b : uE.bytes = 8 := by kernel_rfl
  have c : (n == 0) = false := by simp; omega
  have d : (n == 1) = false := by simp; omega
  simp [Lib.swapperK, a, b, c, d]

theorem u64_sorted_eq (d d' : Array Int) (hp : PermIn 0 d.size d d') (hs : SortedIn ltInt 0 d.size d') : d' = (srtI d.toList).toArray := by
  have h := sorted_unique_holds (lt := ltInt) swo_ltInt (fun x y h1 h2 => by simp only [ltInt, decide_eq_false_iff_not] at h1 h2; omega) d d' hp hs
  have e : (fun x y : Int => !ltInt y x) = fun x y => decide (x ≤ y) := by
    funext x y
    simp only [ltInt]
    by_cases h : x ≤ y
    · first | (simp [h]; done) | (simp [h]; omega)
    · first | (simp [h]; done) | (simp [h]; omega)
  rw [e] at h
  unfold srtI
  rw [← h]

theorem off_putRow (w : World) (n blk off : Nat) (d : Array Int) (os : Array Obj) : Off [blk] w (grow (putRow (Value.int .u64) (Sort.ahead w n) blk off d) os) := by
  refine ⟨rfl, rfl, rfl, by rw [size_grow]; simp [putRow, mapBlock, Sort.ahead], fun i hi hn => ?_⟩
  have hne : blk ≠ i := fun e => hn (by simp [e])
  rw [heap_grow_old _ _ (by simpa [putRow, mapBlock, Sort.ahead] using hi)]
  simp [putRow, mapBlock, Sort.ahead, Array.getElem?_modify, hne]
theorem off_grow (w : World) (os : Array Obj) : Off [] w (grow w os) := ⟨rfl, rfl, rfl, by rw [size_grow]; omega, fun i hi _ => heap_grow_old _ _ hi⟩

end Go.Proofs.YtkdbjocchponfaaGreatDoor
namespace Go.Proofs.YtkdbjocchponfaaGreatDoor
open Go.Shelf Go.RowKit Go.Lib Go.Sort

set_option maxHeartbeats 2000000 in
set_option maxRecDepth 100000 in
theorem lessU64C (blk off c Bs size : Nat) (W : World) (G : Nat → Int) (hs : W.cell? ⟨Bs, 0, none⟩ = some (.slice (some ⟨blk, off, none⟩) size c))
    (hc : ∀ t, t < size → W.cell? ⟨blk, off + t, none⟩ = some (.int .u64 (G t))) (i j : Nat) (hi : i < size) (hj : j < size) :
    Calls Tryz.prog 75 #[.int .i64 i, .int .i64 j, .pointer (some ⟨Bs, 0, none⟩)] W fun e w' => e = .returned (.bool (decide (G i < G j))) ∧ ∃ q, w' = W.drewN q := by
  have ci := hc i hi
  have cj := hc j hj
  go_enter Tryz.func75, Tryz.ntmps75
  go_wp2
  go_quiet (fail)
  go_wp2
  go_ret
  exact ⟨rfl, nq, rfl⟩

set_option maxHeartbeats 2000000 in
set_option maxRecDepth 100000 in
/-- sort.Slice with the law's closure, at two elements or more. -/
theorem sortU64C (blk off c Bs : Nat) (d : Array Int) (h2 : 2 ≤ d.size) (h12 : d.size < 4611686018427387904) (w : World) (hH : Holds (Value.int .u64) w blk off d) (hblk : blk < w.heap.size) (hb : Blk w Bs 92 #[.slice (some ⟨blk, off, none⟩) d.size c]) (hne : Bs ≠ blk) :
    Calls Tryz.prog 74 #[.iface 92 (.slice (some ⟨blk, off, none⟩) d.size c), .func (.func 75) #[] #[.pointer (some ⟨Bs, 0, none⟩)]] w fun e w' =>
      e = .returned (.tuple #[]) ∧ ∃ n os, w' = grow (putRow (Value.int .u64) (Sort.ahead w n) blk off (srtI d.toList).toArray) os := by
  have hcell : w.cell? ⟨Bs, 0, none⟩ = some (.slice (some ⟨blk, off, none⟩) d.size c) := hb.cell 0
  have hBl := hb.lt
  have hless : LessReads Tryz.prog 75 #[.pointer (some ⟨Bs, 0, none⟩)] (Value.int .u64) ltInt blk off d.size w := by
    intro m os dk hs i j hi hj
    have e : sortWorld (Value.int .u64) w blk off m dk os = putRow (Value.int .u64) (grow (Sort.ahead w m) os) blk off dk := by
      unfold sortWorld; rw [putRow_grow _ (Sort.ahead w m) _ blk off _ hblk]
    have hHg : Holds (Value.int .u64) (grow (Sort.ahead w m) os) blk off d := holds_grow _ _ _ blk off d hblk (holds_ahead _ _ _ _ _ _ hH)
    refine lessU64C blk off c Bs d.size _ (fun t => dk[t]!) ?_ (fun t ht => ?_) i j hi hj
    · rw [e, cell?_putRow_other _ _ blk off dk _ (Or.inl (by show Bs ≠ blk; exact hne)), cell?_grow _ _ _ (by show Bs < w.heap.size; exact hBl)]
      exact hcell
    · rw [e]; exact cell?_putRow _ _ blk off d dk hHg hs t (by omega)
  have hS := Any.sort_Slice_sorted Tryz.laysGg6 92 30 uT uE (by kernel_rfl) (by kernel_rfl) (by kernel_rfl) (by kernel_rfl) 11 (fun _ => by kernel_rfl) (by kernel_rfl) (fun _ => by kernel_rfl) (Value.int .u64) (fun _ => rfl) ltInt swo_ltInt 75 _
    (enters_of Tryz.func75 (by kernel_rfl) rfl) blk off c d h2 h12 108 (by rw [uK _ h2]; kernel_rfl) true
    (fun args W => run_callFunc_extern Tryz.func108 (by kernel_rfl) (by kernel_rfl) (by kernel_rfl) (e := Extern.ReflectliteSwapper.swap true) (by kernel_rfl) args W) _ hless hH hblk
  change Calls Tryz.prog 74 _ _ _ at hS
  refine hS.mono ?_
  rintro e w' ⟨rfl, d', n, os, hp, hso, rfl⟩
  rw [u64_sorted_eq d d' hp hso]
  exact ⟨rfl, n, os, rfl⟩

/-- .. at none or one. -/
theorem sortTinyC (p : Option Addr) (n c Bs : Nat) (h1 : n ≤ 1) (w : World) :
    Calls Tryz.prog 74 #[.iface 92 (.slice p n c), .func (.func 75) #[] #[.pointer (some ⟨Bs, 0, none⟩)]] w fun e w' => e = .returned (.tuple #[]) ∧ ∃ os, w' = grow w os := by
  have h01 : n = 0 ∨ n = 1 := by omega
  rcases h01 with rfl | rfl
  · have hS := Any.sort_Slice_tiny Tryz.laysGg6 92 30 uT uE (by kernel_rfl) (by kernel_rfl) (by kernel_rfl) (by kernel_rfl) 11 (fun _ => by kernel_rfl) p 0 c (by omega) 104 (by rw [show Lib.swapperK 0 uE 11 = 1 by simp [Lib.swapperK]]; kernel_rfl) (.func 75) #[] #[.pointer (some ⟨Bs, 0, none⟩)] w
    exact hS
  · have hS := Any.sort_Slice_tiny Tryz.laysGg6 92 30 uT uE (by kernel_rfl) (by kernel_rfl) (by kernel_rfl) (by kernel_rfl) 11 (fun _ => by kernel_rfl) p 1 c (by omega) 105 (by rw [show Lib.swapperK 1 uE 11 = 2 by simp [Lib.swapperK]]; kernel_rfl) (.func 75) #[] #[.pointer (some ⟨Bs, 0, none⟩)] w
    exact hS

/-- sort.Slice with the law's closure over a row, at every length. -/
theorem sortAllC (blk c Bs n : Nat) (zs : List Int) (sp : List Value) (hn : zs.length = n) (h12 : n ≤ 1000) (w : World) (hB : Blk w blk 30 (zs.map (Value.int .u64) ++ sp).toArray) (hb : Blk w Bs 92 #[.slice (some ⟨blk, 0, none⟩) n c]) (hne : Bs ≠ blk) :
    Calls Tryz.prog 74 #[.iface 92 (.slice (some ⟨blk, 0, none⟩) n c), .func (.func 75) #[] #[.pointer (some ⟨Bs, 0, none⟩)]] w fun e w' =>
      e = .returned (.tuple #[]) ∧ Off [blk] w w' ∧ ∀ j (h : j < (srtI zs).length), w'.cell? ⟨blk, j, none⟩ = some (.int .u64 (srtI zs)[j]) := by
  have hblk := hB.lt
  have hcell : ∀ j (h : j < zs.length), w.cell? ⟨blk, j, none⟩ = some (.int .u64 zs[j]) := fun j h => by
    rw [hB.cell]
    simp [List.getElem?_append, h]
  have hH : Holds (Value.int .u64) w blk 0 zs.toArray := fun j hj => by
    have hj' : j < zs.length := by simpa using hj
    refine ⟨?_, by rw [Nat.zero_add]; exact hB.frozen _⟩
    rw [Nat.zero_add, hcell j hj']
    simp [hj']
  by_cases h2 : 2 ≤ n
  · have h := sortU64C blk 0 c Bs zs.toArray (by simpa [hn] using h2) (by simp [hn]; omega) w hH hblk (by simpa [hn] using hb) hne
    rw [show zs.toArray.size = n by simp [hn]] at h
    refine h.mono ?_
    rintro e w' ⟨rfl, m, os, rfl⟩
    refine ⟨rfl, off_putRow _ _ _ _ _ _, fun j hj => ?_⟩
    have hl : (srtI zs).length = zs.length := srtI_len zs
    have := cell?_grow (putRow (Value.int .u64) (Sort.ahead w m) blk 0 (srtI zs.toArray.toList).toArray) os ⟨blk, j, none⟩ (by simpa [putRow, mapBlock, Sort.ahead] using hblk)
    rw [this]
    have h3 := cell?_putRow (Value.int .u64) (Sort.ahead w m) blk 0 zs.toArray (srtI zs.toArray.toList).toArray (holds_ahead _ _ _ _ _ _ hH) (by simp [hl]) j (by simp; omega)
    rw [Nat.zero_add] at h3
    rw [h3]
    simp [hj]
  · have hm : srtI zs = zs := by
      unfold srtI
      match zs, hn with
      | [], _ => simp
      | [x], _ => simp
      | x :: y :: r, hn => simp at hn; omega
    refine (sortTinyC _ n c Bs (by omega) w).mono ?_
    rintro e w' ⟨rfl, os, rfl⟩
    refine ⟨rfl, (off_grow w os).mono (fun x hx => by simp at hx), fun j hj => ?_⟩
    rw [cell?_grow _ _ _ (by exact hblk)]
    have hj' : j < zs.length := by rw [← srtI_len]; exact hj
    rw [hcell j hj']
    simp [hm]

end Go.Proofs.YtkdbjocchponfaaGreatDoor
namespace Go.Proofs.YtkdbjocchponfaaGreatDoor
open Go.RowKit

/-- Bytes read by the library's body-less functions. -/
theorem run_loadBytes {P : Program} (w : World) (b : Nat) : ∀ (l : List UInt8) (o : Nat) (acc : ByteArray), Seg w b o l →
    ∃ r : ByteArray, (Extern.Bytes.loadBytes ⟨b, o, none⟩ l.length acc).run P w = .ok r w ∧ r.data.toList = acc.data.toList ++ l
  | [], o, acc, _ => ⟨acc, rfl, by simp⟩
  | x :: l, o, acc, h => by
    have h0 := h 0 (by simp)
    simp only [Nat.add_zero, List.getElem_cons_zero] at h0
    have h1 : Seg w b (o + 1) l := by simpa using h.drop 1 (by simp)
    obtain ⟨r, hr, he⟩ := run_loadBytes (P := P) w b l (o + 1) (acc.push x) h1
    refine ⟨r, ?_, by rw [he]; simp [ByteArray.push]⟩
    have hx : (x.toNat : Int).toNat.toUInt8 = x := by simp
    have hload : (load ⟨b, o, none⟩).run P w = .ok (.int .u8 (x.toNat : Int)) w := by simp [load, Sem.run, h0]
    show (Extern.Bytes.loadBytes ⟨b, o, none⟩ (l.length + 1) acc).run P w = _
    unfold Extern.Bytes.loadBytes
    rw [Sem.run_bind, hload]
    simp only [Result.andThen, hx]
    rw [add_plain]
    exact hr

/-- A slice value that reads as the bytes l in w. -/
def DgIn (w : World) (v : Value) (l : List UInt8) : Prop := ∃ (A : Option Addr) (C b o : Nat), v = .slice A l.length C ∧ (0 < l.length → A = some ⟨b, o, none⟩) ∧ Seg w b o l
theorem DgIn.bytes {P : Program} {w : World} {v : Value} {l : List UInt8} (h : DgIn w v l) : ∃ r : ByteArray, (Extern.Bytes.bytesOf v).run P w = .ok r w ∧ r.data.toList = l := by
  obtain ⟨A, C, b, o, rfl, hA, hs⟩ := h
  rcases Nat.eq_zero_or_pos l.length with h0 | h0
  · obtain rfl : l = [] := List.eq_nil_of_length_eq_zero h0
    cases A with
    | none => exact ⟨ByteArray.empty, rfl, rfl⟩
    | some a => exact ⟨ByteArray.empty, rfl, rfl⟩
  · rw [hA h0]
    obtain ⟨r, hr, he⟩ := run_loadBytes (P := P) w b l o ByteArray.empty hs
    exact ⟨r, hr, by simpa using he⟩

theorem DgIn.off0 {w w' : World} {v : Value} {l : List UInt8} (h : DgIn w v l) (ho : Off [] w w') : DgIn w' v l := by
  obtain ⟨A, C, b, o, h1, h2, h3⟩ := h
  exact ⟨A, C, b, o, h1, h2, h3.off ho (by simp)⟩
theorem compare_lt : ∀ (a b : List UInt8), (Lib.compareBytes a b < 0) ↔ a < b
  | [], [] => by simp [Lib.compareBytes]
  | [], _ :: _ => by simp [Lib.compareBytes]
  | _ :: _, [] => by simp [Lib.compareBytes]
  | x :: a, y :: b => by
    simp only [Lib.compareBytes, List.cons_lt_cons_iff]
    split
    · rename_i h; simp [h]
    · rename_i h
      split
      · rename_i h2
        have : x ≠ y := fun e => by subst e; exact h h2
        simp [h, this]
      · rename_i h2
        have e : x = y := UInt8.le_antisymm (UInt8.not_lt.1 h2) (UInt8.not_lt.1 h)
        simp [e, compare_lt a b]

set_option maxRecDepth 100000 in
set_option maxHeartbeats 1000000 in
theorem bytesCompare_any (v1 v2 : Value) (l1 l2 : List UInt8) (w : World) (h1 : DgIn w v1 l1) (h2 : DgIn w v2 l2) :
    Calls Tryz.prog 331 #[v1, v2] w fun e w' => e = .returned (.int .i64 (Lib.compareBytes l1 l2)) ∧ w' = w := by
  obtain ⟨r1, hr1, e1⟩ := h1.bytes (P := Tryz.prog)
  obtain ⟨r2, hr2, e2⟩ := h2.bytes (P := Tryz.prog)
  have hx : (Extern.BytealgCompare.compare #[v1, v2]).run Tryz.prog w = .ok (.int .i64 (Lib.compareBytes l1 l2)) w := by
    change Sem.run Tryz.prog (do pure (goInt (Extern.BytealgCompare.cmp (← Extern.Bytes.bytesOf v1) (← Extern.Bytes.bytesOf v2)))) w = _
    rw [Sem.run_bind, hr1]
    simp only [Result.andThen]
    rw [Sem.run_bind, hr2]
    simp only [Result.andThen, Sem.run_pure, goInt, Lib.cmp_eq, e1, e2]
  have hc : (callFunc 332 #[v1, v2]).run Tryz.prog w = .ok (.value (.int .i64 (Lib.compareBytes l1 l2))) w := by
    rw [run_callFunc_extern Tryz.func332 (by kernel_rfl) (by kernel_rfl) (by kernel_rfl) (e := Extern.BytealgCompare.compare) (by kernel_rfl), hx]
    rfl
  go_enter Tryz.func331, Tryz.ntmps331
  go_wp2
  go_ret
  exact ⟨rfl, rfl⟩

/-- A digest with its offset, as it lies in a row. -/
structure DR where
  v : Value
  d : List UInt8
  off : Nat
instance : Inhabited DR := ⟨⟨undef, [], 0⟩⟩
def DR.cells (r : DR) : List Value := [r.v, .int .u64 (r.off : Int)]
def flat2 (l : List DR) : List Value := l.flatMap DR.cells
theorem flat2_length (l : List DR) : (flat2 l).length = l.length * 2 := by
  induction l with
  | nil => rfl
  | cons a l ih => simp only [flat2, List.flatMap_cons, List.length_append, List.length_cons] at ih ⊢; rw [ih]; simp [DR.cells]; omega
theorem flat2_append (a b : List DR) : flat2 (a ++ b) = flat2 a ++ flat2 b := by simp [flat2]
theorem flat2_get (l : List DR) (i : Nat) (h : i < l.length) : (flat2 l)[i * 2]? = some l[i].v ∧ (flat2 l)[i * 2 + 1]? = some (.int .u64 (l[i].off : Int)) := by
  have hs : l = l.take i ++ (l[i] :: l.drop (i + 1)) := by rw [← List.drop_eq_getElem_cons h, List.take_append_drop]
  have hp : (flat2 (l.take i)).length = i * 2 := by rw [flat2_length, List.length_take]; omega
  have e : flat2 l = flat2 (l.take i) ++ (l[i].v :: .int .u64 (l[i].off : Int) :: flat2 (l.drop (i + 1))) := by
    conv => lhs; rw [hs, flat2_append]
    rfl
  rw [e]
  constructor
  · rw [List.getElem?_append_right (by omega), hp]; simp
  · rw [List.getElem?_append_right (by omega), hp]; simp
theorem blk_set2 {w : World} {g : Nat} {t : TypeId} (l : List DR) (sp : List Value) (i : Nat) (hi : i < l.length) (r : DR) (h : Blk w g t (flat2 l ++ sp).toArray) :
    Blk ((w.setCell ⟨g, i * 2, none⟩ r.v).setCell ⟨g, i * 2 + 1, none⟩ (.int .u64 (r.off : Int))) g t (flat2 (l.set i r) ++ sp).toArray := by
  have hs : l = l.take i ++ (l[i] :: l.drop (i + 1)) := by rw [← List.drop_eq_getElem_cons hi, List.take_append_drop]
  have hp : (flat2 (l.take i)).length = i * 2 := by rw [flat2_length, List.length_take]; omega
  have e1 : flat2 l ++ sp = flat2 (l.take i) ++ (l[i].cells ++ (flat2 (l.drop (i + 1)) ++ sp)) := by
    conv => lhs; rw [hs, flat2_append]
    simp only [flat2, List.flatMap_cons, List.append_assoc]
  have e2 : flat2 (l.set i r) ++ sp = flat2 (l.take i) ++ (r.cells ++ (flat2 (l.drop (i + 1)) ++ sp)) := by
    rw [List.set_eq_take_append_cons_drop, if_pos hi, flat2_append]
    simp [flat2]
  rw [e1] at h
  rw [e2]
  exact Blk.setCells r.cells (i * 2) w _ l[i].cells _ hp rfl h

/-- What a digest's slice needs to be read whatever is done to block g: it lies in another old block of w0. -/
def RdR (w0 : World) (g : Nat) (r : DR) : Prop := ∃ (A : Option Addr) (C b o : Nat), r.v = .slice A r.d.length C ∧ (0 < r.d.length → A = some ⟨b, o, none⟩ ∧ b < w0.heap.size ∧ b ≠ g) ∧ Seg w0 b o r.d
theorem RdR.dg {w0 w : World} {g : Nat} {r : DR} (h : RdR w0 g r) (ho : Off [g] w0 w) : DgIn w r.v r.d := by
  obtain ⟨A, C, b, o, hv, hA, hs⟩ := h
  refine ⟨A, C, b, o, hv, fun h0 => (hA h0).1, ?_⟩
  by_cases h0 : 0 < r.d.length
  · exact ho.seg hs (by simp; exact (hA h0).2.2)
  · have : r.d = [] := List.eq_nil_of_length_eq_zero (by omega)
    rw [this]
    exact Seg.nil

/-- The row in block g, of N digests and what lies behind them. -/
structure RowAt (w0 : World) (g : Nat) (sp : List Value) (N : Nat) (d : Array DR) (w : World) : Prop where
  off : Off [g] w0 w
  blk : Blk w g 357 (flat2 d.toList ++ sp).toArray
  size : d.size = N
  rd : ∀ r, r ∈ d.toList → RdR w0 g r

def ltDR (a b : DR) : Bool := Sort.ltStr a.d b.d
theorem swo_ltDR : Sort.SWO ltDR where
  irrefl x := Sort.swo_ltStr.irrefl x.d
  trans x y z := Sort.swo_ltStr.trans x.d y.d z.d
  ntrans x y z := Sort.swo_ltStr.ntrans x.d y.d z.d

theorem get_list {α : Type} [Inhabited α] (d : Array α) (i : Nat) (hi : i < d.size) : d[i]! = d.toList[i]'(by simpa using hi) := by
  rw [getElem!_pos d i hi]; simp

set_option maxRecDepth 100000 in
set_option maxHeartbeats 1000000 in
theorem rsLen_any (A : Option Addr) (n c : Nat) (w : World) : Calls Tryz.prog 328 #[.slice A n c] w fun e w' => e = .returned (.int .i64 n) ∧ w = w' := by
  go_enter Tryz.func328, Tryz.ntmps328
  go_wp2
  go_ret
  exact ⟨rfl, rfl⟩

set_option maxRecDepth 100000 in
set_option maxHeartbeats 2000000 in
theorem rsLess_any (g n c : Nat) (w : World) (i j : Nat) (hi : i < n) (hj : j < n) (v1 v2 : Value) (l1 l2 : List UInt8) (hc1 : w.cell? ⟨g, i * 2, none⟩ = some v1) (hc2 : w.cell? ⟨g, j * 2, none⟩ = some v2) (h1 : DgIn w v1 l1) (h2 : DgIn w v2 l2) :
    Calls Tryz.prog 329 #[.slice (some ⟨g, 0, none⟩) n c, .int .i64 i, .int .i64 j] w fun e w' => e = .returned (.bool (Sort.ltStr l1 l2)) ∧ Drew w w' := by
  obtain ⟨A1, C1, b1, o1, rfl, _⟩ := id h1
  obtain ⟨A2, C2, b2, o2, rfl, _⟩ := id h2
  have HC : Hid (∀ W, Drew w W → Calls Tryz.prog 331 #[.slice A1 l1.length C1, .slice A2 l2.length C2] W fun e w' => e = .returned (.int .i64 (Lib.compareBytes l1 l2)) ∧ w' = W) := fun W hW => by
    obtain ⟨q, rfl⟩ := hW
    exact bytesCompare_any _ _ l1 l2 _ h1 h2
  have hlt : decide (Lib.compareBytes l1 l2 < 0) = Sort.ltStr l1 l2 := by
    unfold Sort.ltStr
    exact decide_eq_decide.2 (compare_lt l1 l2)
  have HLT := Lib.hid hlt
  have hii : (i : Int) < (n : Int) := by omega
  have hjj : (j : Int) < (n : Int) := by omega
  have hi0 : (0 : Int) ≤ (i : Int) := by omega
  have hj0 : (0 : Int) ≤ (j : Int) := by omega
  clear h1 h2 hlt
  go_enter Tryz.func329, Tryz.ntmps329
  go_wp2
  go_region_held3 (fun w' => Drew w w' ∧ w'.cell? ⟨g, i * 2, none⟩ = some (.slice A1 l1.length C1) ∧ w'.cell? ⟨g, j * 2, none⟩ = some (.slice A2 l2.length C2))
    (first | (exact ⟨Drew.refl _, hc1, hc2⟩) | (exact ⟨Drew.one _, hc1, hc2⟩)) (first | (go_at_call 331; refine (HC.out _ (by repeat' (first | exact Drew.refl _ | exact Drew.one _ | refine Drew.more ?_ 1))).mono ?_; rintro e w1 ⟨rfl, rfl⟩))
  all_goals go_wp2
  all_goals go_ret
  all_goals exact ⟨by rw [← HLT.out]; rfl, by repeat' (first | exact Drew.refl _ | exact Drew.one _ | refine Drew.more ?_ 1)⟩

set_option maxRecDepth 100000 in
set_option maxHeartbeats 4000000 in
theorem rsSwap_any (g n c : Nat) (w : World) (i j : Nat) (hi : i < n) (hj : j < n) (x y : DR) (hx0 : w.cell? ⟨g, i * 2, none⟩ = some x.v) (hx1 : w.cell? ⟨g, i * 2 + 1, none⟩ = some (.int .u64 (x.off : Int))) (hy0 : w.cell? ⟨g, j * 2, none⟩ = some y.v) (hy1 : w.cell? ⟨g, j * 2 + 1, none⟩ = some (.int .u64 (y.off : Int)))
    (hf : ∀ k, w.frozen? ⟨g, k, none⟩ = false) (hxv : ∃ A l C, x.v = .slice A l C) (hyv : ∃ A l C, y.v = .slice A l C) :
    Calls Tryz.prog 330 #[.slice (some ⟨g, 0, none⟩) n c, .int .i64 i, .int .i64 j] w fun e w' => e = .returned (.tuple #[]) ∧
      Drew ((((w.setCell ⟨g, i * 2, none⟩ y.v).setCell ⟨g, i * 2 + 1, none⟩ (.int .u64 (y.off : Int))).setCell ⟨g, j * 2, none⟩ x.v).setCell ⟨g, j * 2 + 1, none⟩ (.int .u64 (x.off : Int))) w' := by
  obtain ⟨A1, l1, C1, ex⟩ := hxv
  obtain ⟨A2, l2, C2, ey⟩ := hyv
  rw [ex] at hx0 ⊢
  rw [ey] at hy0 ⊢
  have hii : (i : Int) < (n : Int) := by omega
  have hjj : (j : Int) < (n : Int) := by omega
  have hi0 : (0 : Int) ≤ (i : Int) := by omega
  have hj0 : (0 : Int) ≤ (j : Int) := by omega
  have fi0 := hf (i * 2); have fi1 := hf (i * 2 + 1); have fj0 := hf (j * 2); have fj1 := hf (j * 2 + 1)
  obtain ⟨u1, s1⟩ := cell?_setCell_some (w := w) (p := ⟨g, i * 2, none⟩) (x := .slice A2 l2 C2) (q := ⟨g, i * 2 + 1, none⟩) hx1
  obtain ⟨u2, s2⟩ := cell?_setCell_some (w := w) (p := ⟨g, i * 2, none⟩) (x := .slice A2 l2 C2) (q := ⟨g, j * 2, none⟩) hy0
  obtain ⟨u3, s3⟩ := cell?_setCell_some (w := w.setCell ⟨g, i * 2, none⟩ (.slice A2 l2 C2)) (p := ⟨g, i * 2 + 1, none⟩) (x := .int .u64 (y.off : Int)) (q := ⟨g, j * 2, none⟩) s2
  obtain ⟨u4, s4⟩ := cell?_setCell_some (w := w) (p := ⟨g, i * 2, none⟩) (x := .slice A2 l2 C2) (q := ⟨g, j * 2 + 1, none⟩) hy1
  obtain ⟨u5, s5⟩ := cell?_setCell_some (w := w.setCell ⟨g, i * 2, none⟩ (.slice A2 l2 C2)) (p := ⟨g, i * 2 + 1, none⟩) (x := .int .u64 (y.off : Int)) (q := ⟨g, j * 2 + 1, none⟩) s4
  obtain ⟨u6, s6⟩ := cell?_setCell_some (w := (w.setCell ⟨g, i * 2, none⟩ (.slice A2 l2 C2)).setCell ⟨g, i * 2 + 1, none⟩ (.int .u64 (y.off : Int))) (p := ⟨g, j * 2, none⟩) (x := .slice A1 l1 C1) (q := ⟨g, j * 2 + 1, none⟩) s5
  clear hf ex ey
  go_enter Tryz.func330, Tryz.ntmps330
  go_wp2
  go_region
  all_goals (try go_wp2)
  all_goals go_end0
  all_goals exact ⟨rfl, 1, rfl⟩

/-- What stands at place i of a row. -/
theorem RowAt.at {w0 w : World} {g N : Nat} {sp : List Value} {d : Array DR} (h : RowAt w0 g sp N d w) (i : Nat) (hi : i < N) :
    w.cell? ⟨g, i * 2, none⟩ = some d[i]!.v ∧ w.cell? ⟨g, i * 2 + 1, none⟩ = some (.int .u64 (d[i]!.off : Int)) ∧ RdR w0 g d[i]! := by
  have hs := h.size
  have hl : i < d.toList.length := by simp; omega
  have he := get_list d i (by omega)
  obtain ⟨h1, h2⟩ := flat2_get d.toList i hl
  have hlen := flat2_length d.toList
  refine ⟨?_, ?_, h.rd _ (by rw [he]; exact List.getElem_mem _)⟩
  · rw [h.blk.cell, he]
    show (flat2 d.toList ++ sp).toArray[i * 2]? = _
    rw [List.getElem?_toArray, List.getElem?_append_left (by omega)]; exact h1
  · rw [h.blk.cell, he]
    show (flat2 d.toList ++ sp).toArray[i * 2 + 1]? = _
    rw [List.getElem?_toArray, List.getElem?_append_left (by omega)]; exact h2
theorem rdR_slice {w0 : World} {g : Nat} {r : DR} (h : RdR w0 g r) : ∃ A l C, r.v = .slice A l C := by obtain ⟨A, C, b, o, hv, _⟩ := h; exact ⟨A, _, C, hv⟩
theorem swp_toList (d : Array DR) (i j : Nat) (_hi : i < d.size) (_hj : j < d.size) : (Sort.swp d i j).toList = (d.toList.set i d[j]!).set j d[i]! := by simp [Sort.swp]

theorem srt_row (w0 : World) (g n c : Nat) (sp : List Value) (_hn : n < 4611686018427387904) (hg : g < w0.heap.size) :
    Srt (lt := ltDR) 359 (.slice (some ⟨g, 0, none⟩) n c) 329 330 n w0.heap.size (RowAt w0 g sp n) where
  size h := h.size
  room h := h.off.size
  fresh h ho hS := ⟨h.off.then ho (fun x hx => Or.inr (hS x hx)), h.blk.off ho (fun hx => by have := hS _ hx; omega), h.size, h.rd⟩
  mLess w := by kernel_rfl
  mSwap w := by kernel_rfl
  eLess args w := enters_of Tryz.func329 (by kernel_rfl) rfl args w
  eSwap args w := enters_of Tryz.func330 (by kernel_rfl) rfl args w
  less {d w} i j h hi hj := by
    obtain ⟨c1, _, r1⟩ := h.at i hi
    obtain ⟨c2, _, r2⟩ := h.at j hj
    exact rsLess_any g n c w i j hi hj _ _ _ _ c1 c2 (r1.dg h.off) (r2.dg h.off)
  swap {d w} i j h hi hj := by
    obtain ⟨c1, c1', r1⟩ := h.at i hi
    obtain ⟨c2, c2', r2⟩ := h.at j hj
    have hs := h.size
    refine (rsSwap_any g n c w i j hi hj d[i]! d[j]! c1 c1' c2 c2' (fun k => h.blk.frozen k) (rdR_slice r1) (rdR_slice r2)).mono ?_
    rintro e w' ⟨he, hD⟩
    have hb := blk_set2 (d.toList.set i d[j]!) sp j (by simp; omega) d[i]! (blk_set2 d.toList sp i (by simp; omega) d[j]! h.blk)
    refine ⟨he, ⟨?_, ?_, by rw [Sort.size_swp]; exact hs, ?_⟩, ?_⟩
    · exact (((((h.off.setCell (p := ⟨g, _, none⟩) (Or.inl (List.mem_singleton.2 rfl)) _).setCell (p := ⟨g, _, none⟩) (Or.inl (List.mem_singleton.2 rfl)) _).setCell (p := ⟨g, _, none⟩) (Or.inl (List.mem_singleton.2 rfl)) _).setCell (p := ⟨g, _, none⟩) (Or.inl (List.mem_singleton.2 rfl)) _).then (Off.ofDrew (S := []) hD) (fun x hx => by simp at hx))
    · rw [swp_toList d i j (by omega) (by omega)]
      exact hD.blk hb
    · intro r hr
      rw [swp_toList d i j (by omega) (by omega)] at hr
      rcases List.mem_or_eq_of_mem_set hr with hr | rfl
      · rcases List.mem_or_eq_of_mem_set hr with hr | rfl
        · exact h.rd r hr
        · exact r2
      · exact r1
    · obtain ⟨q, rfl⟩ := hD
      refine ⟨by simp [World.setCell], fun k hk => ?_⟩
      have hne : ∀ o, k ≠ (⟨g, o, none⟩ : Addr).block := fun o e => by have : k = g := e; omega
      show (((((_ : World).setCell _ _).setCell _ _).setCell _ _).setCell _ _).heap[k]? = _
      rw [Below.heap_setCell _ _ _ k (hne _), Below.heap_setCell _ _ _ k (hne _), Below.heap_setCell _ _ _ k (hne _), Below.heap_setCell _ _ _ k (hne _)]
end Go.Proofs.YtkdbjocchponfaaGreatDoor
namespace Go.Proofs.YtkdbjocchponfaaGreatDoor
open Go.RowKit

end Go.Proofs.YtkdbjocchponfaaGreatDoor
namespace Go.Proofs.YtkdbjocchponfaaGreatDoor
open Go.RowKit

end Go.Proofs.YtkdbjocchponfaaGreatDoor
namespace Go.Proofs.YtkdbjocchponfaaGreatDoor
open Go.RowKit

end Go.Proofs.YtkdbjocchponfaaGreatDoor
