/-
  DERIVED: THE SHELF's CONTRACTS AT THIS DUMP, IN PLAIN WORDS (tools/lay-plain.mjs out of 'TryzShelf.lean', which tools/lay-shelf.mjs wrote): THE SAME DECLARATIONS UNDER THE SAME NAMES: 'import', 'namespace', 'open', 'def', 'theorem' AND NOTHING ELSE: no command of the shelf's: FOR A HAND-IN. Each laying: the table of numbers ('.._ren') and one theorem, a field a fact of the dump's own or the kernel's comparison; each contract: ONE APPLICATION.
  laws.ixSorted: a new row, sorted; laws.ixSame.
  laws.ixSame: two equal rows.
  (No condition beyond those that each theorem states.)
-/
import Derived.Ground.GgsProg
import Derived.Shelf.GgSortFunc.Tiny
import Derived.Shelf.GgSortFunc.Whole
import Derived.Test.YtcgggcjmmphldaaGreatDoorProg
import Derived.Test.YtcgggcjmmphldaaGreatDoorHa4
import Derived.Test.YtcgggcjmmphldaaGreatDoorHa6
import Derived.Test.YtcgggcjmmphldaaGreatDoorHa1
import Derived.Deep.QuietTactic
import Derived.Deep.RegionHeld3
import Derived.Lib.RowBridge
import Derived.Lib.SortBridge
import Derived.Sort.LotA
import Derived.LoopTactic
import Derived.WalkKit
namespace Go.Proofs
open Go.Shelf
def Tryz.laysGg26_ren : Go.Shelf.Ren := ⟨fun | 26 => 78 | n => n, fun | 44 => 98 | 3 => 3 | 0 => 0 | 4 => 4 | 26 => 56 | 37 => 92 | n => n, fun | n => n⟩
theorem Tryz.laysGg26 : Go.Proofs.LaysGg.n26 Tryz.prog Tryz.laysGg26_ren := {
  mixed := by kernel_rfl
  f26 := Tryz.func78.trans (congrArg some (by kernel_rfl))
  t0 := Tryz.underlying0
  a0 := Tryz.isAgg0
  z0 := Tryz.sizeOf0
  v0 := Tryz.zeroValue0
  i0 := by kernel_rfl
  t3 := Tryz.underlying3
  a3 := Tryz.isAgg3
  z3 := Tryz.sizeOf3
  v3 := Tryz.zeroValue3
  i3 := by kernel_rfl
  t4 := Tryz.underlying4
  a4 := Tryz.isAgg4
  z4 := Tryz.sizeOf4
  v4 := Tryz.zeroValue4
  i4 := by kernel_rfl
  t26 := Tryz.underlying56
  a26 := Tryz.isAgg56
  z26 := Tryz.sizeOf56
  v26 := Tryz.zeroValue56
  i26 := by kernel_rfl
  t37 := Tryz.underlying92
  a37 := Tryz.isAgg92
  z37 := Tryz.sizeOf92
  v37 := Tryz.zeroValue92
  i37 := by kernel_rfl
  t44 := Tryz.underlying98
  a44 := Tryz.isAgg98
  z44 := Tryz.sizeOf98
  v44 := Tryz.zeroValue98
  i44 := by kernel_rfl }
open Go.RowKit Go.Lib Go.Sort in
theorem Tryz.insertionSort_func_none (lf : Fn) (la lb : Array Value) (f : Nat) (sb : Array Value) (a b : Nat) (h : b ≤ a + 1) (ha : a < 4611686018427387904) (w : World) :
    Calls Tryz.prog 78 #[.agg #[.func lf la lb, .func (.func f) #[] sb], .int .i64 a, .int .i64 b] w fun e w' => e = .returned (.tuple #[]) ∧ w' = w.alloc (.cells #[.func lf la lb, .func (.func f) #[] sb] 98) := Any.insertionSort_func_none Tryz.laysGg26 lf la lb f sb a b h ha w
def Tryz.laysGg14_ren : Go.Shelf.Ren := ⟨fun | 14 => 47 | 26 => 78 | 27 => 79 | 28 => 80 | 29 => 81 | 30 => 82 | 31 => 83 | 32 => 84 | 33 => 85 | 34 => 107 | 35 => 108 | 36 => 109 | 37 => 110 | 38 => 111 | 13 => 46 | 39 => 125 | 24 => 76 | 25 => 77 | n => n, fun | 44 => 98 | 3 => 3 | 0 => 0 | 4 => 4 | 54 => 147 | 53 => 146 | 26 => 56 | 58 => 151 | 37 => 92 | 60 => 191 | 41 => 47 | 51 => 23 | 64 => 195 | 66 => 226 | 67 => 227 | 49 => 143 | 5 => 5 | 9 => 9 | n => n, fun | n => n⟩
theorem Tryz.laysGg14 : Go.Proofs.LaysGg.n14 Tryz.prog Tryz.laysGg14_ren := {
  mixed := by kernel_rfl
  f13 := Tryz.func46.trans (congrArg some (by kernel_rfl))
  f14 := Tryz.func47.trans (congrArg some (by kernel_rfl))
  f24 := Tryz.func76.trans (congrArg some (by kernel_rfl))
  f25 := Tryz.func77.trans (congrArg some (by kernel_rfl))
  f26 := Tryz.func78.trans (congrArg some (by kernel_rfl))
  f27 := Tryz.func79.trans (congrArg some (by kernel_rfl))
  f28 := Tryz.func80.trans (congrArg some (by kernel_rfl))
  f29 := Tryz.func81.trans (congrArg some (by kernel_rfl))
  f30 := Tryz.func82.trans (congrArg some (by kernel_rfl))
  f31 := Tryz.func83.trans (congrArg some (by kernel_rfl))
  f32 := Tryz.func84.trans (congrArg some (by kernel_rfl))
  f33 := Tryz.func85.trans (congrArg some (by kernel_rfl))
  f34 := Tryz.func107.trans (congrArg some (by kernel_rfl))
  f35 := Tryz.func108.trans (congrArg some (by kernel_rfl))
  f36 := Tryz.func109.trans (congrArg some (by kernel_rfl))
  f37 := Tryz.func110.trans (congrArg some (by kernel_rfl))
  f38 := Tryz.func111.trans (congrArg some (by kernel_rfl))
  f39 := Tryz.func125.trans (congrArg some (by kernel_rfl))
  t0 := Tryz.underlying0
  a0 := Tryz.isAgg0
  z0 := Tryz.sizeOf0
  v0 := Tryz.zeroValue0
  i0 := by kernel_rfl
  t3 := Tryz.underlying3
  a3 := Tryz.isAgg3
  z3 := Tryz.sizeOf3
  v3 := Tryz.zeroValue3
  i3 := by kernel_rfl
  t4 := Tryz.underlying4
  a4 := Tryz.isAgg4
  z4 := Tryz.sizeOf4
  v4 := Tryz.zeroValue4
  i4 := by kernel_rfl
  t5 := Tryz.underlying5
  a5 := Tryz.isAgg5
  z5 := Tryz.sizeOf5
  v5 := Tryz.zeroValue5
  i5 := by kernel_rfl
  t9 := Tryz.underlying9
  a9 := Tryz.isAgg9
  z9 := Tryz.sizeOf9
  v9 := Tryz.zeroValue9
  i9 := by kernel_rfl
  t26 := Tryz.underlying56
  a26 := Tryz.isAgg56
  z26 := Tryz.sizeOf56
  v26 := Tryz.zeroValue56
  i26 := by kernel_rfl
  t37 := Tryz.underlying92
  a37 := Tryz.isAgg92
  z37 := Tryz.sizeOf92
  v37 := Tryz.zeroValue92
  i37 := by kernel_rfl
  t41 := Tryz.underlying47
  a41 := Tryz.isAgg47
  z41 := Tryz.sizeOf47
  v41 := Tryz.zeroValue47
  i41 := by kernel_rfl
  t44 := Tryz.underlying98
  a44 := Tryz.isAgg98
  z44 := Tryz.sizeOf98
  v44 := Tryz.zeroValue98
  i44 := by kernel_rfl
  t49 := Tryz.underlying143
  a49 := Tryz.isAgg143
  z49 := Tryz.sizeOf143
  v49 := Tryz.zeroValue143
  i49 := by kernel_rfl
  t51 := Tryz.underlying23
  a51 := Tryz.isAgg23
  z51 := Tryz.sizeOf23
  v51 := Tryz.zeroValue23
  i51 := by kernel_rfl
  t53 := Tryz.underlying146
  a53 := Tryz.isAgg146
  z53 := Tryz.sizeOf146
  v53 := Tryz.zeroValue146
  i53 := by kernel_rfl
  t54 := Tryz.underlying147
  a54 := Tryz.isAgg147
  z54 := Tryz.sizeOf147
  v54 := Tryz.zeroValue147
  i54 := by kernel_rfl
  t58 := Tryz.underlying151
  a58 := Tryz.isAgg151
  z58 := Tryz.sizeOf151
  v58 := Tryz.zeroValue151
  i58 := by kernel_rfl
  t60 := Tryz.underlying191
  a60 := Tryz.isAgg191
  z60 := Tryz.sizeOf191
  v60 := Tryz.zeroValue191
  i60 := by kernel_rfl
  t64 := Tryz.underlying195
  a64 := Tryz.isAgg195
  z64 := Tryz.sizeOf195
  v64 := Tryz.zeroValue195
  i64 := by kernel_rfl
  t66 := Tryz.underlying226
  a66 := Tryz.isAgg226
  z66 := Tryz.sizeOf226
  v66 := Tryz.zeroValue226
  i66 := by kernel_rfl
  t67 := Tryz.underlying227
  a67 := Tryz.isAgg227
  z67 := Tryz.sizeOf227
  v67 := Tryz.zeroValue227
  i67 := by kernel_rfl }
open Go.RowKit Go.Lib Go.Sort in
theorem Tryz.pdqsort_func_tiny (lf : Fn) (la lb : Array Value) (f : Nat) (sb : Array Value) (n : Nat) (h : n ≤ 1) (lim : Int) (w : World) :
    Calls Tryz.prog 47 #[.agg #[.func lf la lb, .func (.func f) #[] sb], .int .i64 0, .int .i64 n, .int .i64 lim] w fun e w' => e = .returned (.tuple #[]) ∧ w' = (w.alloc (.cells #[.func lf la lb, .func (.func f) #[] sb] 98)).alloc (.cells #[.func lf la lb, .func (.func f) #[] sb] 98) := Any.pdqsort_func_tiny Tryz.laysGg14 lf la lb f sb n h lim w
def Tryz.laysGg6_ren : Go.Shelf.Ren := ⟨fun | 6 => 25 | 10 => 43 | 11 => 44 | 12 => 45 | 13 => 46 | 14 => 47 | 24 => 76 | 25 => 77 | 26 => 78 | 27 => 79 | 28 => 80 | 29 => 81 | 30 => 82 | 31 => 83 | 32 => 84 | 33 => 85 | 34 => 107 | 35 => 108 | 36 => 109 | 37 => 110 | 38 => 111 | 39 => 125 | n => n, fun | 20 => 20 | 26 => 56 | 35 => 90 | 0 => 0 | 37 => 92 | 3 => 3 | 41 => 47 | 44 => 98 | 49 => 143 | 51 => 23 | 4 => 4 | 54 => 147 | 53 => 146 | 58 => 151 | 5 => 5 | 9 => 9 | 60 => 191 | 64 => 195 | 66 => 226 | 67 => 227 | 17 => 17 | 32 => 87 | 33 => 88 | 82 => 266 | 12 => 12 | 75 => 260 | 76 => 261 | 77 => 262 | 78 => 225 | 79 => 263 | 80 => 264 | n => n, fun | n => n⟩
theorem Tryz.laysGg6 : Go.Proofs.LaysGg.n6 Tryz.prog Tryz.laysGg6_ren := {
  mixed := by kernel_rfl
  f6 := Tryz.func25.trans (congrArg some (by kernel_rfl))
  f10 := Tryz.func43.trans (congrArg some (by kernel_rfl))
  f11 := Tryz.func44.trans (congrArg some (by kernel_rfl))
  f12 := Tryz.func45.trans (congrArg some (by kernel_rfl))
  f13 := Tryz.func46.trans (congrArg some (by kernel_rfl))
  f14 := Tryz.func47.trans (congrArg some (by kernel_rfl))
  f24 := Tryz.func76.trans (congrArg some (by kernel_rfl))
  f25 := Tryz.func77.trans (congrArg some (by kernel_rfl))
  f26 := Tryz.func78.trans (congrArg some (by kernel_rfl))
  f27 := Tryz.func79.trans (congrArg some (by kernel_rfl))
  f28 := Tryz.func80.trans (congrArg some (by kernel_rfl))
  f29 := Tryz.func81.trans (congrArg some (by kernel_rfl))
  f30 := Tryz.func82.trans (congrArg some (by kernel_rfl))
  f31 := Tryz.func83.trans (congrArg some (by kernel_rfl))
  f32 := Tryz.func84.trans (congrArg some (by kernel_rfl))
  f33 := Tryz.func85.trans (congrArg some (by kernel_rfl))
  f34 := Tryz.func107.trans (congrArg some (by kernel_rfl))
  f35 := Tryz.func108.trans (congrArg some (by kernel_rfl))
  f36 := Tryz.func109.trans (congrArg some (by kernel_rfl))
  f37 := Tryz.func110.trans (congrArg some (by kernel_rfl))
  f38 := Tryz.func111.trans (congrArg some (by kernel_rfl))
  f39 := Tryz.func125.trans (congrArg some (by kernel_rfl))
  t0 := Tryz.underlying0
  a0 := Tryz.isAgg0
  z0 := Tryz.sizeOf0
  v0 := Tryz.zeroValue0
  i0 := by kernel_rfl
  t3 := Tryz.underlying3
  a3 := Tryz.isAgg3
  z3 := Tryz.sizeOf3
  v3 := Tryz.zeroValue3
  i3 := by kernel_rfl
  t4 := Tryz.underlying4
  a4 := Tryz.isAgg4
  z4 := Tryz.sizeOf4
  v4 := Tryz.zeroValue4
  i4 := by kernel_rfl
  t5 := Tryz.underlying5
  a5 := Tryz.isAgg5
  z5 := Tryz.sizeOf5
  v5 := Tryz.zeroValue5
  i5 := by kernel_rfl
  t9 := Tryz.underlying9
  a9 := Tryz.isAgg9
  z9 := Tryz.sizeOf9
  v9 := Tryz.zeroValue9
  i9 := by kernel_rfl
  t12 := Tryz.underlying12
  a12 := Tryz.isAgg12
  z12 := Tryz.sizeOf12
  v12 := Tryz.zeroValue12
  i12 := by kernel_rfl
  t17 := Tryz.underlying17
  a17 := Tryz.isAgg17
  z17 := Tryz.sizeOf17
  v17 := Tryz.zeroValue17
  i17 := by kernel_rfl
  t20 := Tryz.underlying20
  a20 := Tryz.isAgg20
  z20 := Tryz.sizeOf20
  v20 := Tryz.zeroValue20
  i20 := by kernel_rfl
  t26 := Tryz.underlying56
  a26 := Tryz.isAgg56
  z26 := Tryz.sizeOf56
  v26 := Tryz.zeroValue56
  i26 := by kernel_rfl
  t32 := Tryz.underlying87
  a32 := Tryz.isAgg87
  z32 := Tryz.sizeOf87
  v32 := Tryz.zeroValue87
  i32 := by kernel_rfl
  t33 := Tryz.underlying88
  a33 := Tryz.isAgg88
  z33 := Tryz.sizeOf88
  v33 := Tryz.zeroValue88
  i33 := by kernel_rfl
  t35 := Tryz.underlying90
  a35 := Tryz.isAgg90
  z35 := Tryz.sizeOf90
  v35 := Tryz.zeroValue90
  i35 := by kernel_rfl
  t37 := Tryz.underlying92
  a37 := Tryz.isAgg92
  z37 := Tryz.sizeOf92
  v37 := Tryz.zeroValue92
  i37 := by kernel_rfl
  t41 := Tryz.underlying47
  a41 := Tryz.isAgg47
  z41 := Tryz.sizeOf47
  v41 := Tryz.zeroValue47
  i41 := by kernel_rfl
  t44 := Tryz.underlying98
  a44 := Tryz.isAgg98
  z44 := Tryz.sizeOf98
  v44 := Tryz.zeroValue98
  i44 := by kernel_rfl
  t49 := Tryz.underlying143
  a49 := Tryz.isAgg143
  z49 := Tryz.sizeOf143
  v49 := Tryz.zeroValue143
  i49 := by kernel_rfl
  t51 := Tryz.underlying23
  a51 := Tryz.isAgg23
  z51 := Tryz.sizeOf23
  v51 := Tryz.zeroValue23
  i51 := by kernel_rfl
  t53 := Tryz.underlying146
  a53 := Tryz.isAgg146
  z53 := Tryz.sizeOf146
  v53 := Tryz.zeroValue146
  i53 := by kernel_rfl
  t54 := Tryz.underlying147
  a54 := Tryz.isAgg147
  z54 := Tryz.sizeOf147
  v54 := Tryz.zeroValue147
  i54 := by kernel_rfl
  t58 := Tryz.underlying151
  a58 := Tryz.isAgg151
  z58 := Tryz.sizeOf151
  v58 := Tryz.zeroValue151
  i58 := by kernel_rfl
  t60 := Tryz.underlying191
  a60 := Tryz.isAgg191
  z60 := Tryz.sizeOf191
  v60 := Tryz.zeroValue191
  i60 := by kernel_rfl
  t64 := Tryz.underlying195
  a64 := Tryz.isAgg195
  z64 := Tryz.sizeOf195
  v64 := Tryz.zeroValue195
  i64 := by kernel_rfl
  t66 := Tryz.underlying226
  a66 := Tryz.isAgg226
  z66 := Tryz.sizeOf226
  v66 := Tryz.zeroValue226
  i66 := by kernel_rfl
  t67 := Tryz.underlying227
  a67 := Tryz.isAgg227
  z67 := Tryz.sizeOf227
  v67 := Tryz.zeroValue227
  i67 := by kernel_rfl
  t75 := Tryz.underlying260
  a75 := Tryz.isAgg260
  z75 := Tryz.sizeOf260
  v75 := Tryz.zeroValue260
  i75 := by kernel_rfl
  t76 := Tryz.underlying261
  a76 := Tryz.isAgg261
  z76 := Tryz.sizeOf261
  v76 := Tryz.zeroValue261
  i76 := by kernel_rfl
  t77 := Tryz.underlying262
  a77 := Tryz.isAgg262
  z77 := Tryz.sizeOf262
  v77 := Tryz.zeroValue262
  i77 := by kernel_rfl
  t78 := Tryz.underlying225
  a78 := Tryz.isAgg225
  z78 := Tryz.sizeOf225
  v78 := Tryz.zeroValue225
  i78 := by kernel_rfl
  t79 := Tryz.underlying263
  a79 := Tryz.isAgg263
  z79 := Tryz.sizeOf263
  v79 := Tryz.zeroValue263
  i79 := by kernel_rfl
  t80 := Tryz.underlying264
  a80 := Tryz.isAgg264
  z80 := Tryz.sizeOf264
  v80 := Tryz.zeroValue264
  i80 := by kernel_rfl
  t82 := Tryz.underlying266
  a82 := Tryz.isAgg266
  z82 := Tryz.sizeOf266
  v82 := Tryz.zeroValue266
  i82 := by kernel_rfl }
end Go.Proofs
namespace Go.Proofs.YtcgggcjmmphldaaGreatDoor
open Go.Shelf Go.RowKit Go.Lib Go.Sort

theorem Off.cellS {S : List Nat} {w w' : World} {p : Addr} {v : Value} (h : Off S w w') (hc : w.cell? p = some v) (hp : p.block ∉ S) : w'.cell? p = some v :=
  (World.cell?_of_block (h.block p.block (World.block_lt_of_cell? w _ hc) hp)).trans hc
/-- A row of uint64 that lies in memory. -/
def U64s (w : World) (A : Option Addr) (zs : List Int) : Prop := ∃ b o, A = some ⟨b, o, none⟩ ∧ b < w.heap.size ∧ ∀ j (h : j < zs.length), w.cell? ⟨b, o + j, none⟩ = some (.int .u64 zs[j])
def srtI (zs : List Int) : List Int := zs.mergeSort fun x y => decide (x ≤ y)
theorem srtI_len (zs : List Int) : (srtI zs).length = zs.length := List.length_mergeSort ..
theorem srtI_perm {a b : List Int} (h : a.Perm b) : srtI a = srtI b := by
  have ha := List.pairwise_mergeSort (le := fun x y : Int => decide (x ≤ y)) (by intro a b c; simp; omega) (by intro a b; simp; omega) a
  have hb := List.pairwise_mergeSort (le := fun x y : Int => decide (x ≤ y)) (by intro a b c; simp; omega) (by intro a b; simp; omega) b
  exact ((List.mergeSort_perm a _).trans (h.trans (List.mergeSort_perm b _).symm)).eq_of_pairwise (fun x y _ _ h1 h2 => by simp at h1 h2; omega) ha hb

noncomputable def uT : TypeInfo := (Tryz.prog.info? 33).get (by kernel_rfl)
noncomputable def uE : TypeInfo := (Tryz.prog.info? 23).get (by kernel_rfl)
theorem uK (n : Nat) (h2 : 2 ≤ n) : Lib.swapperK n uE 11 = 5 := by
  have a : uE.hasPointers = false := by kernel_rfl
  have b : uE.bytes = 8 := by kernel_rfl
  have c : (n == 0) = false := by simp; omega
  have d : (n == 1) = false := by simp; omega
  simp [Lib.swapperK, a, b, c, d]

theorem u64_sorted_eq (d d' : Array Int) (hp : PermIn 0 d.size d d') (hs : SortedIn ltInt 0 d.size d') : d' = (srtI d.toList).toArray := by
  have h := sorted_unique_holds (lt := ltInt) swo_ltInt (fun x y h1 h2 => by simp only [ltInt, decide_eq_false_iff_not] at h1 h2; omega) d d' hp hs
  have e : (fun x y : Int => !ltInt y x) = fun x y => decide (x ≤ y) := by
    funext x y
    simp only [ltInt]
    by_cases h : x ≤ y
    · first | (simp [h]; done) | (simp [h]; omega)
    · first | (simp [h]; done) | (simp [h]; omega)
  rw [e] at h
  unfold srtI
  rw [← h]

set_option maxHeartbeats 2000000 in
set_option maxRecDepth 100000 in
theorem lessU64 (blk off c Bs size : Nat) (W : World) (G : Nat → Int) (hs : W.cell? ⟨Bs, 0, none⟩ = some (.slice (some ⟨blk, off, none⟩) size c))
    (hc : ∀ t, t < size → W.cell? ⟨blk, off + t, none⟩ = some (.int .u64 (G t))) (i j : Nat) (hi : i < size) (hj : j < size) :
    Calls Tryz.prog 26 #[.int .i64 i, .int .i64 j, .pointer (some ⟨Bs, 0, none⟩)] W fun e w' => e = .returned (.bool (decide (G i < G j))) ∧ ∃ q, w' = W.drewN q := by
  have ci := hc i hi
  have cj := hc j hj
  go_enter Tryz.func26, Tryz.ntmps26
  go_wp2
  go_quiet (fail)
  go_wp2
  go_ret
  exact ⟨rfl, nq, rfl⟩

set_option maxHeartbeats 2000000 in
set_option maxRecDepth 100000 in
/-- sort.Slice with the law's closure, at two elements or more. -/
theorem sortU64 (blk off c Bs : Nat) (d : Array Int) (h2 : 2 ≤ d.size) (h12 : d.size < 4611686018427387904) (w : World) (hH : Holds (Value.int .u64) w blk off d) (hblk : blk < w.heap.size) (hb : Blk w Bs 33 #[.slice (some ⟨blk, off, none⟩) d.size c]) (hne : Bs ≠ blk) :
    Calls Tryz.prog 25 #[.iface 33 (.slice (some ⟨blk, off, none⟩) d.size c), .func (.func 26) #[] #[.pointer (some ⟨Bs, 0, none⟩)]] w fun e w' =>
      e = .returned (.tuple #[]) ∧ ∃ n os, w' = grow (putRow (Value.int .u64) (Sort.ahead w n) blk off (srtI d.toList).toArray) os := by
  have hcell : w.cell? ⟨Bs, 0, none⟩ = some (.slice (some ⟨blk, off, none⟩) d.size c) := hb.cell 0
  have hBl := hb.lt
  have hless : LessReads Tryz.prog 26 #[.pointer (some ⟨Bs, 0, none⟩)] (Value.int .u64) ltInt blk off d.size w := by
    intro m os dk hs i j hi hj
    have e : sortWorld (Value.int .u64) w blk off m dk os = putRow (Value.int .u64) (grow (Sort.ahead w m) os) blk off dk := by
      unfold sortWorld; rw [putRow_grow _ (Sort.ahead w m) _ blk off _ hblk]
    have hHg : Holds (Value.int .u64) (grow (Sort.ahead w m) os) blk off d := holds_grow _ _ _ blk off d hblk (holds_ahead _ _ _ _ _ _ hH)
    refine lessU64 blk off c Bs d.size _ (fun t => dk[t]!) ?_ (fun t ht => ?_) i j hi hj
    · rw [e, cell?_putRow_other _ _ blk off dk _ (Or.inl (by show Bs ≠ blk; exact hne)), cell?_grow _ _ _ (by show Bs < w.heap.size; exact hBl)]
      exact hcell
    · rw [e]; exact cell?_putRow _ _ blk off d dk hHg hs t (by omega)
  have hS := Any.sort_Slice_sorted Tryz.laysGg6 33 23 uT uE (by kernel_rfl) (by kernel_rfl) (by kernel_rfl) (by kernel_rfl) 11 (fun _ => by kernel_rfl) (by kernel_rfl) (fun _ => by kernel_rfl) (Value.int .u64) (fun _ => rfl) ltInt swo_ltInt 26 _
    (enters_of Tryz.func26 (by kernel_rfl) rfl) blk off c d h2 h12 71 (by rw [uK _ h2]; kernel_rfl) true
    (fun args W => run_callFunc_extern Tryz.func71 (by kernel_rfl) (by kernel_rfl) (by kernel_rfl) (e := Extern.ReflectliteSwapper.swap true) (by kernel_rfl) args W) _ hless hH hblk
  change Calls Tryz.prog 25 _ _ _ at hS
  refine hS.mono ?_
  rintro e w' ⟨rfl, d', n, os, hp, hso, rfl⟩
  rw [u64_sorted_eq d d' hp hso]
  exact ⟨rfl, n, os, rfl⟩

/-- .. at none or one. -/
theorem sortTiny (p : Option Addr) (n c Bs : Nat) (h1 : n ≤ 1) (w : World) :
    Calls Tryz.prog 25 #[.iface 33 (.slice p n c), .func (.func 26) #[] #[.pointer (some ⟨Bs, 0, none⟩)]] w fun e w' => e = .returned (.tuple #[]) ∧ ∃ os, w' = grow w os := by
  have h01 : n = 0 ∨ n = 1 := by omega
  rcases h01 with rfl | rfl
  · have hS := Any.sort_Slice_tiny Tryz.laysGg6 33 23 uT uE (by kernel_rfl) (by kernel_rfl) (by kernel_rfl) (by kernel_rfl) 11 (fun _ => by kernel_rfl) p 0 c (by omega) 67 (by rw [show Lib.swapperK 0 uE 11 = 1 by simp [Lib.swapperK]]; kernel_rfl) (.func 26) #[] #[.pointer (some ⟨Bs, 0, none⟩)] w
    exact hS
  · have hS := Any.sort_Slice_tiny Tryz.laysGg6 33 23 uT uE (by kernel_rfl) (by kernel_rfl) (by kernel_rfl) (by kernel_rfl) 11 (fun _ => by kernel_rfl) p 1 c (by omega) 68 (by rw [show Lib.swapperK 1 uE 11 = 2 by simp [Lib.swapperK]]; kernel_rfl) (.func 26) #[] #[.pointer (some ⟨Bs, 0, none⟩)] w
    exact hS

theorem off_putRow (w : World) (n blk off : Nat) (d : Array Int) (os : Array Obj) : Off [blk] w (grow (putRow (Value.int .u64) (Sort.ahead w n) blk off d) os) := by
  refine ⟨rfl, rfl, rfl, by rw [size_grow]; simp [putRow, mapBlock, Sort.ahead], fun i hi hn => ?_⟩
  have hne : blk ≠ i := fun e => hn (by simp [e])
  rw [heap_grow_old _ _ (by simpa [putRow, mapBlock, Sort.ahead] using hi)]
  simp [putRow, mapBlock, Sort.ahead, Array.getElem?_modify, hne]
theorem off_grow (w : World) (os : Array Obj) : Off [] w (grow w os) := ⟨rfl, rfl, rfl, by rw [size_grow]; omega, fun i hi _ => heap_grow_old _ _ hi⟩

/-- sort.Slice with the law's closure over a row, at every length. -/
theorem sortAll (blk c Bs n : Nat) (zs : List Int) (sp : List Value) (hn : zs.length = n) (h12 : n ≤ 1000) (w : World) (hB : Blk w blk 23 (zs.map (Value.int .u64) ++ sp).toArray) (hb : Blk w Bs 33 #[.slice (some ⟨blk, 0, none⟩) n c]) (hne : Bs ≠ blk) :
    Calls Tryz.prog 25 #[.iface 33 (.slice (some ⟨blk, 0, none⟩) n c), .func (.func 26) #[] #[.pointer (some ⟨Bs, 0, none⟩)]] w fun e w' =>
      e = .returned (.tuple #[]) ∧ Off [blk] w w' ∧ ∀ j (h : j < (srtI zs).length), w'.cell? ⟨blk, j, none⟩ = some (.int .u64 (srtI zs)[j]) := by
  have hblk := hB.lt
  have hcell : ∀ j (h : j < zs.length), w.cell? ⟨blk, j, none⟩ = some (.int .u64 zs[j]) := fun j h => by
    rw [hB.cell]
    simp [List.getElem?_append, h]
  have hH : Holds (Value.int .u64) w blk 0 zs.toArray := fun j hj => by
    have hj' : j < zs.length := by simpa using hj
    refine ⟨?_, by rw [Nat.zero_add]; exact hB.frozen _⟩
    rw [Nat.zero_add, hcell j hj']
    simp [hj']
  by_cases h2 : 2 ≤ n
  · have h := sortU64 blk 0 c Bs zs.toArray (by simpa [hn] using h2) (by simp [hn]; omega) w hH hblk (by simpa [hn] using hb) hne
    rw [show zs.toArray.size = n by simp [hn]] at h
    refine h.mono ?_
    rintro e w' ⟨rfl, m, os, rfl⟩
    refine ⟨rfl, off_putRow _ _ _ _ _ _, fun j hj => ?_⟩
    have hl : (srtI zs).length = zs.length := srtI_len zs
    have := cell?_grow (putRow (Value.int .u64) (Sort.ahead w m) blk 0 (srtI zs.toArray.toList).toArray) os ⟨blk, j, none⟩ (by simpa [putRow, mapBlock, Sort.ahead] using hblk)
    rw [this]
    have h3 := cell?_putRow (Value.int .u64) (Sort.ahead w m) blk 0 zs.toArray (srtI zs.toArray.toList).toArray (holds_ahead _ _ _ _ _ _ hH) (by simp [hl]) j (by simp; omega)
    rw [Nat.zero_add] at h3
    rw [h3]
    simp [hj]
  · have hm : srtI zs = zs := by
      unfold srtI
      match zs, hn with
      | [], _ => simp
      | [x], _ => simp
      | x :: y :: r, hn => simp at hn; omega
    refine (sortTiny _ n c Bs (by omega) w).mono ?_
    rintro e w' ⟨rfl, os, rfl⟩
    refine ⟨rfl, (off_grow w os).mono (fun x hx => by simp at hx), fun j hj => ?_⟩
    rw [cell?_grow _ _ _ (by exact hblk)]
    have hj' : j < zs.length := by rw [← srtI_len]; exact hj
    rw [hcell j hj']
    simp [hm]

theorem own_some {w : World} {e n : Nat} {v : Value} {xs : List Value} (h : w.ownsRow 0 e 1 v n xs) (hv : v ≠ .slice none 0 0) : ∃ g cap sp, v = .slice (some ⟨g, 0, none⟩) n cap ∧ Blk w g e (xs ++ sp).toArray := by
  rcases id h.2 with ⟨rfl, h0⟩ | ⟨g, cap, cur, rfl, hbg, hg, hnc, hcm, hcs, htake⟩
  · exact absurd rfl hv
  · refine ⟨g, cap, cur.toList.drop (n * 1), rfl, ?_⟩
    have hcur : cur = (xs ++ cur.toList.drop (n * 1)).toArray := by
      have := List.take_append_drop (n * 1) cur.toList
      rw [htake] at this
      rw [this]
    show _ = _
    rw [← hcur]
    exact hg

set_option maxHeartbeats 4000000 in
set_option maxRecDepth 100000 in
theorem ixSorted_any (w : World) (A : Option Addr) (c n : Nat) (zs : List Int) (hn : zs.length = n) (hz : U64s w A zs) (hs : n ≤ 1000) :
    Calls Tryz.prog 14 #[.slice A n c] w fun e w' => ∃ A' c', e = .returned (.slice A' n c') ∧ U64s w' A' (srtI zs) ∧ Off [] w w' := by
  obtain ⟨b, o, rfl, hb, hcz⟩ := hz
  obtain ⟨i0, hi, hz0, hz1, hz2⟩ := info_parts (show (Tryz.prog.info? 23).map (fun i => (i.zero, i.size, i.bytes)) = some (some (.int .u64 0), 1, 8) by kernel_rfl)
  have HC := Lib.hid hcz
  have HB := Lib.hid hb
  have hB0 : Blk (w.alloc (.cells #[] 23)) w.heap.size 23 ([] ++ ([] : List Value)).toArray := Blk.new' w _ _ rfl
  have HN := Lib.hid hn
  have hnews : ∀ j u, (zs.map (Value.int .u64))[j]? = some u → (w.alloc (.cells #[] 23)).cell? ((⟨b, o, none⟩ : Addr).add j) = some u := fun j u hj => by
    rw [List.getElem?_map, Option.map_eq_some_iff] at hj
    obtain ⟨z, hz, rfl⟩ := hj
    obtain ⟨hjl, rfl⟩ := List.getElem?_eq_some_iff.1 hz
    rw [add_plain]
    exact (Off.alloc (Off.refl [] w) _).cellS (hcz j hjl) (by simp)
  have HNW := Lib.hid hnews
  have HB0 := Lib.hid hB0
  clear hcz hb hn hnews hB0
  go_enter Tryz.func14, Tryz.ntmps14
  go_wp2_with (first
    | (at_builtin
       refine wpList_append_own_at _ rfl _ _ 33 rfl 0 23 i0 _ 1 8 Tryz.underlying33 hi hz0 hz1 hz2 rfl (by decide) (.slice (some ⟨w.heap.size, 0, none⟩) 0 0) 0 [] rfl (owns_blk (sp := []) HB0.out rfl rfl (Nat.le_refl _) (by unfold maxLen; omega)) ⟨b, o, none⟩ n c (zs.map (Value.int .u64)) rfl (by rw [List.length_map, HN.out, Nat.mul_one]) HNW.out (fun u hu => by obtain ⟨z, _, rfl⟩ := List.mem_map.1 hu; rfl) (by unfold maxLen; omega) (by omega) (Nat.zero_le _) ?_
       intro v' w2 hown hgr hnil hat
       obtain ⟨g, cap, sp, rfl, hB2⟩ := own_some hown (fun e => by have := (hnil.1 e).1; cases this)
       have ho2 : Off [w.heap.size] w w2 := (Off.alloc (Off.refl [w.heap.size] w) _).then (off_grown_own (S := [w.heap.size]) hgr (fun g hg => by simpa [Value.ownBlock] using hg.symm)) (fun x hx => Or.inl hx)
       have hg2 : w.heap.size ≤ g := by
         rcases hat with hat | hat
         · simp [Value.ownBlock] at hat; omega
         · simp [Value.ownBlock] at hat; omega
       rw [Nat.zero_add]
       have HB2 := Lib.hid hB2
       have HO2 := Lib.hid ho2
       clear hown hgr hnil hat hB2 ho2)
    | (go_at_call 25
       refine (sortAll g cap w2.heap.size n zs sp HN.out hs _ (HB2.out.alloc _) (Blk.new' _ _ _ rfl) (by have := HB2.out.lt; omega)).mono ?_
       rintro e w3 ⟨rfl, ho3, hc3⟩
       have hbox : w3.cell? ⟨w2.heap.size, 0, none⟩ = some (.slice (some ⟨g, 0, none⟩) n cap) := ((Blk.new' w2 _ _ rfl).off ho3 (by have := HB2.out.lt; simp; omega)).cell 0
       have HO3 := Lib.hid ho3
       have HC3 := Lib.hid hc3
       clear ho3 hc3))
  go_ret
  refine ⟨some ⟨g, 0, none⟩, cap, rfl, ⟨g, 0, rfl, ?_, fun j hj => ?_⟩, ?_⟩
  · have := HB2.out.lt; have h3 := HO3.out.size; simp at h3 ⊢; omega
  · rw [Nat.zero_add]; exact HC3.out j hj
  · exact (HO2.out.then ((Off.alloc (Off.refl [g] w2) _).then HO3.out (fun x hx => Or.inl hx)) (fun x hx => by simp at hx; right; omega)).mono (fun x hx => by simp at hx; right; omega)
end Go.Proofs.YtcgggcjmmphldaaGreatDoor
namespace Go.Proofs.YtcgggcjmmphldaaGreatDoor
open Go.RowKit

set_option maxHeartbeats 4000000 in
set_option maxRecDepth 100000 in
theorem ixSame_any (w : World) (A1 A2 : Option Addr) (c1 c2 n : Nat) (zs : List Int) (hn : zs.length = n) (h1 : U64s w A1 zs) (h2 : U64s w A2 zs) (hs : n ≤ 1000) :
    Calls Tryz.prog 13 #[.slice A1 n c1, .slice A2 n c2] w fun e w' => e = .returned (.bool true) ∧ Off [] w w' := by
  obtain ⟨b1, o1, rfl, hb1, hc1⟩ := h1
  obtain ⟨b2, o2, rfl, hb2, hc2⟩ := h2
  have HC1 := Lib.hid hc1
  have HC2 := Lib.hid hc2
  clear hc1 hc2
  have hnn : decide ((n : Int) < (n : Int)) = false := by simp
  go_enter Tryz.func13, Tryz.ntmps13
  go_wp2_with fail
  go_loopg [5, 13] n (fun kx s5 s13 wr => ∃ j : Nat, s13 = .int .i64 (j : Int) ∧ j ≤ n ∧ n - j ≤ kx ∧ Hid (Off [] w wr))
  case atStart => exact ⟨0, rfl, Nat.zero_le _, by omega, Lib.hid (Off.refl [] w)⟩
  case round =>
    rename World => wr
    obtain ⟨j, rfl, hjn, hkx, HO⟩ := hrel
    by_cases hlt : j < n
    · have hz : j < zs.length := by omega
      obtain ⟨z, hz'⟩ : ∃ z, z = zs[j] := ⟨_, rfl⟩
      have e1 : wr.cell? ⟨b1, o1 + j, none⟩ = some (.int .u64 z) := by rw [hz']; exact HO.out.cellS (HC1.out j hz) (by simp)
      have e2 : wr.cell? ⟨b2, o2 + j, none⟩ = some (.int .u64 z) := by rw [hz']; exact HO.out.cellS (HC2.out j hz) (by simp)
      clear hz'
      go_wp2_with fail
      go_quiet (fail)
      go_wp2_with fail
      go_roundg (n - (j + 1))
      case measure => omega
      case rel => exact ⟨j + 1, rfl, by omega, by omega, Lib.hid (HO.out.drewN _)⟩
    · obtain rfl : j = n := by omega
      go_wp2_with fail
      go_ret
      exact ⟨rfl, HO.out⟩
end Go.Proofs.YtcgggcjmmphldaaGreatDoor
