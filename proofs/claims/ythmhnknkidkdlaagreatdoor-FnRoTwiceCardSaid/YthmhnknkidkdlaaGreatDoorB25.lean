/-
  multiWidthIndex.Marshal into a bytes.Buffer.
  slices.Sort at uint64: the row; insertion, reversal, the heap. (Printed for each kind: b.sh fills in the element's type and kind.)
  (No condition beyond those that each theorem states.)
-/
import Derived.Test.YthmhnknkidkdlaaGreatDoorB16
import Derived.Test.YthmhnknkidkdlaaGreatDoorB20
import Derived.Test.YthmhnknkidkdlaaGreatDoorB24
import Derived.Test.YthmhnknkidkdlaaGreatDoorProg
import Derived.Test.YthmhnknkidkdlaaGreatDoorB02
import Derived.Sort.AssemblyPlain
import Derived.Sort.WalkB12
import Derived.Sort.WalkB2
import Derived.Sort.WalkB3
import Derived.Sort.WalkA
import Derived.Shelf.Abstract
import Derived.Deep.LoopGhost
import Derived.LoopTactic
import Derived.IntWalk
import Derived.BigQuiet
import Derived.CellFam
namespace Go.Proofs.YthmhnknkidkdlaaGreatDoor
open Go.RowKit

theorem Off.cell {S : List Nat} {w w' : World} {p : Addr} {v : Value} (h : Off S w w') (hc : w.cell? p = some v) (hp : p.block ∉ S) : w'.cell? p = some v :=
  (World.cell?_of_block (h.block p.block (World.block_lt_of_cell? w _ hc) hp)).trans hc
theorem Tryz.infoU32 : (Tryz.prog.info? 262).map (fun i => (i.zero, i.size, i.bytes)) = some (some (.int .u32 0), 1, 4) := by kernel_rfl
theorem make32 (n : Nat) (hn : n < 1000000) : ∃ Z : List Value, Z.length = n ∧ ∀ W : World, (Instr.makeSlice 327 (.int .i64 0) (.int .i64 (n : Int))).run Tryz.prog W = .ok (.slice (some ⟨W.heap.size, 0, none⟩) 0 n) (W.alloc (.cells Z.toArray 262)) := by
  obtain ⟨i0, hi, hz0, hz1, hz2⟩ := info_parts Tryz.infoU32
  refine ⟨(madeCells (Value.int .u32 0).cells (n * i0.size)).toList, by simp [size_madeCells, hz1], fun W => ?_⟩
  have hr := run_make (P := Tryz.prog) W 327 262 i0 _ Tryz.underlying327 hi hz0 .i64 .i64 0 (n : Int) (by omega) (by omega) (by rw [hz2]; omega) (by omega)
  simpa using hr
theorem zeroSW (w : World) : (zeroValue 318).run Tryz.prog w = .ok (.agg #[.int .u32 0, .int .u64 0, .slice none 0 0]) w := by kernel_rfl

def wB (S : Nat → List Rw) (n : Nat) : List UInt8 := bucketB (n, S n)
theorem mwB_map (Ds : List Nat) (S : Nat → List Rw) : mwB (Ds.map fun n => (n, S n)) = Lib.leBytes 4 Ds.length ++ Ds.flatMap (wB S) := by
  simp only [mwB, List.flatMap_map, List.length_map]
  rfl

theorem keys_sorted (D : List Nat) (hnd : D.Nodup) (z : Nat) (ys : List Int) (hp : ys.Perm (ints (D.map (· + z)))) (ha : ys.Pairwise (· ≤ ·)) : ∃ Ds : List Nat, Ds.Perm D ∧ Ds.Pairwise (· < ·) ∧ ys = ints (Ds.map (· + z)) := by
  have hmem : ∀ x, x ∈ ys → ∃ n : Nat, x = ((n + z : Nat) : Int) := fun x hx => by
    have := hp.mem_iff.1 hx
    simp [ints] at this
    obtain ⟨n, _, hn⟩ := this
    exact ⟨n, by omega⟩
  have hkn : (ints (D.map (· + z))).Nodup := by
    unfold ints List.Nodup
    rw [List.pairwise_map, List.pairwise_map]
    exact hnd.imp fun h e => h (by omega)
  have hyn : ys.Nodup := hp.nodup_iff.2 hkn
  refine ⟨ys.map fun x => x.toNat - z, ?_, ?_, ?_⟩
  · have := hp.map fun x : Int => x.toNat - z
    refine this.trans (List.Perm.of_eq ?_)
    simp only [ints, List.map_map]
    conv => rhs; rw [← List.map_id D]
    refine List.map_congr_left fun n _ => ?_
    show (((n + z : Nat) : Int)).toNat - z = n
    omega
  · rw [List.pairwise_map]
    refine (ha.and hyn).imp_of_mem ?_
    rintro x y hx hy ⟨h1, h2⟩
    obtain ⟨n, rfl⟩ := hmem x hx
    obtain ⟨m, rfl⟩ := hmem y hy
    have : ((n + z : Nat) : Int) ≠ ((m + z : Nat) : Int) := h2
    show ((n + z : Nat) : Int).toNat - z < ((m + z : Nat) : Int).toNat - z
    omega
  · simp only [ints, List.map_map]
    conv => lhs; rw [← List.map_id ys]
    refine List.map_congr_left fun x hx => ?_
    obtain ⟨n, rfl⟩ := hmem x hx
    show ((n + z : Nat) : Int) = (((n + z : Nat) : Int).toNat - z + z : Nat)
    omega
theorem oneInt (q : IntKind) (x : Int) : ∀ u ∈ [Value.int q x], u.oneCell' = true := by simp [Value.oneCell']

/-- What the first loop has gathered: the keys P; L are still to come. -/
structure Kys (w1 wq : World) (mm rr g cap n : Nat) (q : IntKind) (kt : TypeId) (K : List Int) (V : Int → Value) (P L : List Int) (sp : List Value) : Prop where
  perm : (P ++ L).Perm K
  blk : Blk wq g kt (P.map (Value.int q) ++ sp).toArray
  sp : sp.length + P.length * 1 = cap * 1
  le : P.length ≤ cap
  cm : cap ≤ maxLen
  rg : Rg Tryz.prog kt q wq mm rr n K V L
  off : Off [] w1 wq
  g1 : w1.heap.size ≤ g
  g2 : g ≠ rr
  r1 : w1.heap.size ≤ rr
  r2 : rr < wq.heap.size

end Go.Proofs.YthmhnknkidkdlaaGreatDoor
namespace Go.Proofs.YthmhnknkidkdlaaGreatDoor.Ord64
open Go.RowKit Go.Sort Go.Lib

/-- The row in block g holds d; of what was in w0 nothing else has changed. -/
structure OrdAt (g o : Nat) (t : TypeId) (w0 : World) (N : Nat) (d : Array Int) (w : World) : Prop where
  at0 : o = 0
  size : d.size = N
  off : Off [g] w0 w
  blk : ∃ sp : List Value, Blk w g t (d.toList.map (Value.int .u64) ++ sp).toArray
  room : g < w0.heap.size

variable {g o N : Nat} {t : TypeId} {w0 w w' : World} {d : Array Int} {G : Nat → Int}
theorem OrdAt.carry {S : List Nat} (h : OrdAt g o t w0 N d w) (k : Off S w w') (hS : ∀ x, x ∈ S → w0.heap.size ≤ x) : OrdAt g o t w0 N d w' := by
  obtain ⟨sp, hb⟩ := h.blk
  exact ⟨h.at0, h.size, h.off.then k (fun x hx => Or.inr (hS x hx)), ⟨sp, hb.off k (fun hx => by have := hS g hx; have := h.room; omega)⟩, h.room⟩
theorem OrdAt.drewN (h : OrdAt g o t w0 N d w) (n : Nat) : OrdAt g o t w0 N d (w.drewN n) := h.carry ((Off.refl [] w).drewN n) (fun x hx => by simp at hx)
theorem OrdAt.fresh {S : List Nat} (h : OrdAt g o t w0 N d w) (k : Off S w w') (hS : ∀ x, x ∈ S → w0.heap.size ≤ x) : OrdAt g o t w0 N d w' := h.carry k hS
theorem OrdAt.cell (h : OrdAt g o t w0 N d w) (HG : Hid (∀ i, G i = d[i]!)) : ∀ i, i < N → w.cell? ⟨g, o + i, none⟩ = some (.int .u64 (G i)) := fun i hi => by
  obtain ⟨sp, hb⟩ := h.blk
  rw [hb.cell, h.at0, Nat.zero_add, HG.out]
  have hl : i < d.size := by rw [h.size]; exact hi
  rw [List.getElem?_toArray, List.getElem?_append_left (by simpa using hl)]
  simp [hl]
theorem OrdAt.frz (h : OrdAt g o t w0 N d w) : ∀ i, i < N → w.frozen? ⟨g, o + i, none⟩ = false := fun i _ => by
  obtain ⟨sp, hb⟩ := h.blk
  exact hb.frozen _
theorem named (d : Array Int) : ∃ G : Nat → Int, Hid (∀ i, G i = d[i]!) := ⟨fun i => d[i]!, fun _ => rfl⟩
theorem set_row (d : Array Int) (sp : List Value) (i : Nat) (x : Int) (hi : i < d.size) : ((d.toList.map (Value.int .u64) ++ sp).toArray).setIfInBounds i (.int .u64 x) = ((d.setIfInBounds i x).toList.map (Value.int .u64) ++ sp).toArray := by
  rw [List.setIfInBounds_toArray]
  congr 1
  rw [List.set_append_left _ _ (by simpa using hi), Array.toList_setIfInBounds, List.map_set]
theorem OrdAt.swp (h : OrdAt g o t w0 N d w) (HG : Hid (∀ i, G i = d[i]!)) (n i j : Nat) (hi : i < N) (hj : j < N) :
    OrdAt g o t w0 N (swp d i j) (((w.drewN n).setCell ⟨g, o + i, none⟩ (.int .u64 (G j))).setCell ⟨g, o + j, none⟩ (.int .u64 (G i))) := by
  obtain ⟨sp, hb⟩ := h.blk
  refine ⟨h.at0, by rw [size_swp]; exact h.size, (((h.off.drewN n).setCell (p := ⟨g, o + i, none⟩) (Or.inl (List.mem_singleton.2 rfl)) _).setCell (p := ⟨g, o + j, none⟩) (Or.inl (List.mem_singleton.2 rfl)) _), ⟨sp, ?_⟩, h.room⟩
  have h1 := ((hb.drewN n).set_ (o + i) (.int .u64 (G j))).set_ (o + j) (.int .u64 (G i))
  refine h1.eq ?_
  rw [h.at0, Nat.zero_add, Nat.zero_add, HG.out, HG.out, set_row _ _ _ _ (by rw [h.size]; exact hi), set_row _ _ _ _ (by rw [Array.size_setIfInBounds, h.size]; exact hj)]
  rfl

set_option maxRecDepth 100000 in
theorem isNaN (x : Int) (w : World) : Calls Tryz.prog 220 #[.int .u64 x] w fun e w' => e = .returned (.bool false) ∧ w' = w := by
  go_enter Tryz.func220, Tryz.ntmps220
  go_wp2
  go_ret
  exact ⟨by simp, rfl⟩

set_option maxRecDepth 100000 in
theorem less (x y : Int) (w : World) : Calls Tryz.prog 206 #[.int .u64 x, .int .u64 y] w fun e w' => e = .returned (.bool (Sort.ltInt x y)) ∧ w' = w := by
  go_enter Tryz.func206, Tryz.ntmps206
  go_wp2_with (go_at_call 220; refine (isNaN _ _).mono ?_; rintro e w' ⟨rfl, rfl⟩)
  go_ret
  exact ⟨rfl, rfl⟩

set_option maxHeartbeats 2000000 in
set_option maxRecDepth 100000 in
theorem insertionSort_ord (cap a b : Nat) (d : Array Int) (w : World) (hA : OrdAt g o t w0 N d w) (hab : a ≤ b) (hb : b ≤ N) (hN : N < 4611686018427387904) :
    Calls Tryz.prog 200 #[.slice (some ⟨g, o, none⟩) N cap, .int .i64 a, .int .i64 b] w fun e w' => e = .returned (.tuple #[]) ∧ OrdAt g o t w0 N (insertionSort ltInt d a b) w' := by
  go_enter Tryz.func200, Tryz.ntmps200
  go_wp2
  go_loopw [6] (fun vi wr => ∃ (i : Nat) (dk : Array Int), vi = .int .i64 i ∧ a < i ∧ i ≤ b + 1 ∧ OrdAt g o t w0 N dk wr ∧ Hid (insOuter ltInt a b i dk = insOuter ltInt a b (a + 1) d)) (fun vi _ => b + 1 - (intOf vi).toNat)
  case atStart => exact ⟨a + 1, d, by go_num, by omega, by omega, hA, rfl⟩
  case round =>
    clear hA
    obtain ⟨i, dk, rfl, hai, hib, hA, HO⟩ := hrel
    go_wp2
    · go_loopw [7] (fun vj wr2 => ∃ (j : Nat) (dj : Array Int), vj = .int .i64 j ∧ a ≤ j ∧ j ≤ i ∧ OrdAt g o t w0 N dj wr2 ∧ Hid (insInner ltInt a j dj = insInner ltInt a i dk)) (fun vj _ => (intOf vj).toNat)
      case atStart => exact ⟨i, dk, rfl, by omega, Nat.le_refl _, hA, rfl⟩
      case round =>
        clear hA
        obtain ⟨j, dj, rfl, haj, hji, hA, HI⟩ := hrel
        have hlt : i < b := by assumption
        obtain ⟨G, HG⟩ := named dj
        have out : (j ≤ a ∨ ltInt (G j) (G (j - 1)) = false) → ∀ W, OrdAt g o t w0 N dj W → ∃ i' dk', Value.int .i64 ((i : Int) + 1) = .int .i64 (i' : Nat) ∧ a < i' ∧ i' ≤ b + 1 ∧ OrdAt g o t w0 N dk' W ∧ Hid (insOuter ltInt a b i' dk' = insOuter ltInt a b (a + 1) d) := fun hs W hW =>
          ⟨i + 1, dj, by go_num, by omega, by omega, hW, by show _ = _; rw [← HO.out, insOuter_go _ _ _ _ _ hlt, ← HI.out, insInner_stop _ _ _ _ (by rw [← HG.out, ← HG.out]; exact hs)]⟩
        have OUT : Hid _ := out
        clear out
        have hcw := hA.cell HG
        have hfw := hA.frz
        go_wp2
        by_cases hja : a < j
        · go_quiet (first | (go_at_call 206; refine Calls.quiet_of_same (less _ _ _)))
          go_wp2
          · have hl : ltInt (G j) (G (j - 1)) = true := by assumption
            go_region
            all_goals go_wp2
            go_roundw
            case rel => exact ⟨j - 1, swp dj j (j - 1), by congr 1; omega, by omega, by omega, hA.swp HG (nq + 1) j (j - 1) (by omega) (by omega), by show _ = _; rw [← HI.out, insInner_go ltInt a j dj hja (by rw [← HG.out, ← HG.out]; exact hl)]⟩
            case measure => simp [intOf]; omega
          · have hl : ltInt (G j) (G (j - 1)) = false := by assumption
            go_roundw
            case rel => exact OUT.out (Or.inr hl) _ (hA.drewN nq)
            case measure => simp [intOf]; omega
        · go_quiet (first | (go_at_call 206; refine Calls.quiet_of_same (less _ _ _)))
          go_wp2
          go_roundw
          case rel => exact OUT.out (Or.inl (by omega)) _ (hA.drewN nq)
          case measure => simp [intOf]; omega
    · have hge : ¬ i < b := by assumption
      go_end0
      exact ⟨rfl, by unfold insertionSort; rw [← HO.out, insOuter_stop _ _ _ _ _ hge]; exact hA⟩

set_option maxHeartbeats 1600000 in
set_option maxRecDepth 1000000 in
theorem reverseRange_ord (cap a b : Nat) (d : Array Int) (w : World) (hA : OrdAt g o t w0 N d w) (hab : a ≤ b) (hb : b ≤ N) (hN : N < 4611686018427387904) :
    Calls Tryz.prog 204 #[.slice (some ⟨g, o, none⟩) N cap, .int .i64 a, .int .i64 b] w fun e w' => e = .returned (.tuple #[]) ∧ OrdAt g o t w0 N (reverseRange d a b) w' := by
  go_enter Tryz.func204, Tryz.ntmps204
  go_wp2
  go_loopg [6, 7] (b - a) (fun k s6 s7 wr => ∃ (i jn : Nat) (jz : Int) (dk : Array Int), s6 = .int .i64 i ∧ s7 = .int .i64 jz ∧ ((i : Int) < jz → jz = jn ∧ jn < N) ∧ (¬ (i : Int) < jz → ¬ i < jn) ∧ jn - i ≤ k ∧
    OrdAt g o t w0 N dk wr ∧ Hid (reverseLoop i jn dk = reverseLoop a (b - 1) d))
  case atStart => exact ⟨a, b - 1, (b : Int) - 1, d, rfl, rfl, fun h => ⟨by omega, by omega⟩, fun h => by omega, by omega, hA, rfl⟩
  case round =>
    clear hA
    obtain ⟨i, jn, jz, dk, rfl, rfl, h1, h2, hk, hA, HE⟩ := hrel
    by_cases hlt : (i : Int) < jz
    · obtain ⟨rfl, hjn⟩ := h1 hlt
      have hij : i < jn := by omega
      obtain ⟨G, HG⟩ := named dk
      have ci := hA.cell HG i (by omega)
      have fi := hA.frz i (by omega)
      have cj := hA.cell HG jn (by omega)
      have fj := hA.frz jn (by omega)
      clear h1 h2
      go_wp2_with fail
      go_region
      go_wp2
      go_roundg (jn - 1 - (i + 1))
      case measure => omega
      case rel =>
        have heq := HE.out
        rw [reverseLoop, if_pos hij] at heq
        exact ⟨i + 1, jn - 1, (jn : Int) - 1, swp dk i jn, by simp, rfl, fun h => ⟨by omega, by omega⟩, fun h => by omega, Nat.le_refl _, hA.swp HG 1 i jn (by omega) (by omega), heq⟩
    · have hnot := h2 hlt
      go_wp2
      go_end0
      refine ⟨rfl, ?_⟩
      have heq := HE.out
      rw [reverseLoop, if_neg hnot] at heq
      rw [reverseRange, ← heq]
      exact hA

set_option maxHeartbeats 4000000 in
set_option maxRecDepth 1000000 in
theorem siftDown_ord (cap lo hi first : Nat) (d : Array Int) (w : World) (hA : OrdAt g o t w0 N d w) (hlo : lo ≤ hi) (hb : first + hi ≤ N) (hN : N < 4611686018427387904) :
    Calls Tryz.prog 215 #[.slice (some ⟨g, o, none⟩) N cap, .int .i64 lo, .int .i64 hi, .int .i64 first] w fun e w' => e = .returned (.tuple #[]) ∧ OrdAt g o t w0 N (siftDown ltInt hi first lo d) w' := by
  go_enter Tryz.func215, Tryz.ntmps215
  go_wp2
  go_loopg [8] (hi - lo) (fun kx s8 wr => ∃ (root : Nat) (dk : Array Int), s8 = .int .i64 root ∧ root ≤ hi ∧ hi - root ≤ kx ∧ OrdAt g o t w0 N dk wr ∧ Hid (siftDown ltInt hi first root dk = siftDown ltInt hi first lo d))
  case atStart => exact ⟨lo, d, rfl, hlo, Nat.le_refl _, hA, rfl⟩
  case round =>
    clear hA
    obtain ⟨root, dk, rfl, hr, hkx, hA, HE⟩ := hrel
    by_cases h0 : hi ≤ 2 * root + 1
    · have h0z : (hi : Int) ≤ 2 * (root : Int) + 1 := by omega
      go_wp2
      go_end0
      refine ⟨rfl, ?_⟩
      rw [← HE.out, sd_end ltInt dk h0]
      exact hA
    · have h0z : ¬ ((hi : Int) ≤ 2 * (root : Int) + 1) := by omega
      obtain ⟨G, HG⟩ := named dk
      have hcw := hA.cell HG
      have hfw := hA.frz
      by_cases h1 : 2 * root + 2 < hi
      · have h1z : 2 * (root : Int) + 1 + 1 < (hi : Int) := by omega
        go_wp2_with fail
        go_big_quiet (first | (go_at_call 206; refine Calls.quiet_of_same (less _ _ _)))
        go_wp2_with fail
        · have hL : ltInt dk[first + (2 * root + 1)]! dk[first + (2 * root + 2)]! = true := by rw [← HG.out, ← HG.out]; assumption
          revert nq; intro nq1
          have hA2 := hA.drewN nq1
          clear hcw hfw hA
          generalize wr.drewN nq1 = wr2 at hA2 ⊢
          have hcw2 := hA2.cell HG
          have hfw2 := hA2.frz
          go_big_quiet (first | (go_at_call 206; refine Calls.quiet_of_same (less _ _ _)))
          go_wp2_with fail
          · have hS : ltInt dk[first + root]! dk[first + (2 * root + 2)]! = false := by
              have : (!ltInt (G (first + root)) (G (first + 2 * root + 2))) = true := by assumption
              rw [← HG.out, ← HG.out]
              simpa [Nat.add_assoc] using this
            (try simp only [Exit.inBlock, Exit.then]); refine bodyPost_ret (results_none rfl _ _ _) rfl ?_
            refine ⟨rfl, ?_⟩
            rw [← HE.out, sd_right_stop ltInt dk h1 hL hS]
            exact hA2.drewN nq
          · have hS : ltInt dk[first + root]! dk[first + (2 * root + 2)]! = true := by
              have : (!ltInt (G (first + root)) (G (first + 2 * root + 2))) = false := by assumption
              rw [← HG.out, ← HG.out]
              simpa [Nat.add_assoc] using this
            have hA3 := hA2.drewN nq
            clear hcw2 hfw2 hA2
            generalize wr2.drewN nq = wr3 at hA3 ⊢
            have hcw3 := hA3.cell HG
            have hfw3 := hA3.frz
            go_region
            go_wp2
            go_roundg (hi - (2 * root + 2))
            case measure => omega
            case rel => exact ⟨2 * root + 2, swp dk (first + root) (first + (2 * root + 2)), by simp <;> omega, by omega, Nat.le_refl _, hA3.swp HG 1 (first + root) (first + (2 * root + 2)) (by omega) (by omega), (show Hid _ from by rw [← HE.out, sd_right_go ltInt dk h1 hL hS]; exact rfl)⟩
        · have hL : ltInt dk[first + (2 * root + 1)]! dk[first + (2 * root + 2)]! = false := by rw [← HG.out, ← HG.out]; assumption
          revert nq; intro nq1
          have hA2 := hA.drewN nq1
          clear hcw hfw hA
          generalize wr.drewN nq1 = wr2 at hA2 ⊢
          have hcw2 := hA2.cell HG
          have hfw2 := hA2.frz
          go_big_quiet (first | (go_at_call 206; refine Calls.quiet_of_same (less _ _ _)))
          go_wp2_with fail
          · have hS : ltInt dk[first + root]! dk[first + (2 * root + 1)]! = false := by
              have : (!ltInt (G (first + root)) (G (first + 2 * root + 1))) = true := by assumption
              rw [← HG.out, ← HG.out]
              simpa [Nat.add_assoc] using this
            (try simp only [Exit.inBlock, Exit.then]); refine bodyPost_ret (results_none rfl _ _ _) rfl ?_
            refine ⟨rfl, ?_⟩
            rw [← HE.out, sd_left_stop ltInt dk (by omega) (fun _ => hL) hS]
            exact hA2.drewN nq
          · have hS : ltInt dk[first + root]! dk[first + (2 * root + 1)]! = true := by
              have : (!ltInt (G (first + root)) (G (first + 2 * root + 1))) = false := by assumption
              rw [← HG.out, ← HG.out]
              simpa [Nat.add_assoc] using this
            have hA3 := hA2.drewN nq
            clear hcw2 hfw2 hA2
            generalize wr2.drewN nq = wr3 at hA3 ⊢
            have hcw3 := hA3.cell HG
            have hfw3 := hA3.frz
            go_region
            go_wp2
            go_roundg (hi - (2 * root + 1))
            case measure => omega
            case rel => exact ⟨2 * root + 1, swp dk (first + root) (first + (2 * root + 1)), by simp <;> omega, by omega, Nat.le_refl _, hA3.swp HG 1 (first + root) (first + (2 * root + 1)) (by omega) (by omega), (show Hid _ from by rw [← HE.out, sd_left_go ltInt dk (by omega) (fun _ => hL) hS]; exact rfl)⟩
      · have h1z : decide (2 * (root : Int) + 1 + 1 < (hi : Int)) = false := decide_eq_false (by omega)
        go_wp2_with fail
        go_big_quiet (first | (go_at_call 206; refine Calls.quiet_of_same (less _ _ _)))
        go_wp2_with fail
        revert nq; intro nq1
        have hA2 := hA.drewN nq1
        clear hcw hfw hA
        generalize wr.drewN nq1 = wr2 at hA2 ⊢
        have hcw2 := hA2.cell HG
        have hfw2 := hA2.frz
        go_big_quiet (first | (go_at_call 206; refine Calls.quiet_of_same (less _ _ _)))
        go_wp2_with fail
        · have hS : ltInt dk[first + root]! dk[first + (2 * root + 1)]! = false := by
            have : (!ltInt (G (first + root)) (G (first + 2 * root + 1))) = true := by assumption
            rw [← HG.out, ← HG.out]
            simpa [Nat.add_assoc] using this
          (try simp only [Exit.inBlock, Exit.then]); refine bodyPost_ret (results_none rfl _ _ _) rfl ?_
          refine ⟨rfl, ?_⟩
          rw [← HE.out, sd_left_stop ltInt dk (by omega) (fun h => absurd h h1) hS]
          exact hA2.drewN nq
        · have hS : ltInt dk[first + root]! dk[first + (2 * root + 1)]! = true := by
            have : (!ltInt (G (first + root)) (G (first + 2 * root + 1))) = false := by assumption
            rw [← HG.out, ← HG.out]
            simpa [Nat.add_assoc] using this
          have hA3 := hA2.drewN nq
          clear hcw2 hfw2 hA2
          generalize wr2.drewN nq = wr3 at hA3 ⊢
          have hcw3 := hA3.cell HG
          have hfw3 := hA3.frz
          go_region
          go_wp2
          go_roundg (hi - (2 * root + 1))
          case measure => omega
          case rel => exact ⟨2 * root + 1, swp dk (first + root) (first + (2 * root + 1)), by simp <;> omega, by omega, Nat.le_refl _, hA3.swp HG 1 (first + root) (first + (2 * root + 1)) (by omega) (by omega), (show Hid _ from by rw [← HE.out, sd_left_go ltInt dk (by omega) (fun h => absurd h h1) hS]; exact rfl)⟩

set_option maxHeartbeats 4000000 in
set_option maxRecDepth 1000000 in
theorem heapSort_ord (cap a b : Nat) (d : Array Int) (w : World) (hA : OrdAt g o t w0 N d w) (hab : a ≤ b) (hb : b ≤ N) (hN : N < 4611686018427387904) :
    Calls Tryz.prog 201 #[.slice (some ⟨g, o, none⟩) N cap, .int .i64 a, .int .i64 b] w fun e w' => e = .returned (.tuple #[]) ∧ OrdAt g o t w0 N (heapSort ltInt d a b) w' := by
  have ecast : ((b - a : Nat) : Int) = (b : Int) - (a : Int) := by omega
  go_enter Tryz.func201, Tryz.ntmps201
  go_wp2
  go_loopg [9] ((b - a - 1) / 2 + 1) (fun kx s9 wr => s9 = .int .i64 ((kx : Int) - 1) ∧ kx ≤ (b - a - 1) / 2 + 1 ∧ ∃ (dk : Array Int), OrdAt g o t w0 N dk wr ∧ Hid (heapBuild ltInt (b - a) a kx dk = heapBuild ltInt (b - a) a ((b - a - 1) / 2 + 1) d))
  case atStart => exact ⟨by rw [half_start hab], Nat.le_refl _, d, hA, rfl⟩
  case round =>
    clear hA
    obtain ⟨rfl, hkk, dk, hA, HE⟩ := hrel
    cases gk with
    | zero =>
      have hB : dk = heapBuild ltInt (b - a) a ((b - a - 1) / 2 + 1) d := HE.out
      have HB := Lib.hid hB
      clear HE hkk hB
      go_wp2
      go_loopg [10] (b - a) (fun kx s10 wr2 => s10 = .int .i64 ((kx : Int) - 1) ∧ kx ≤ b - a ∧ ∃ (dj : Array Int), OrdAt g o t w0 N dj wr2 ∧ Hid (heapPop ltInt a kx dj = heapPop ltInt a (b - a) dk))
      case atStart => exact ⟨by rw [ecast], Nat.le_refl _, dk, hA, rfl⟩
      case round =>
        clear hA
        obtain ⟨rfl, hkk, dj, hA, HE2⟩ := hrel
        cases gk with
        | zero =>
          go_wp2
          go_end0
          have e : dj = heapSort ltInt d a b := by rw [heapSort, ← HB.out, ← HE2.out]; rfl
          rw [← e]
          exact ⟨rfl, hA⟩
        | succ kx =>
          have hcall : ∀ w2, OrdAt g o t w0 N (swp dj a (a + kx)) w2 → _ := fun w2 h2 => siftDown_ord cap 0 kx a (swp dj a (a + kx)) w2 h2 (Nat.zero_le _) (by omega) hN
          have HC := Lib.hid hcall
          clear hcall
          obtain ⟨G, HG⟩ := named dj
          have hsw := hA.swp HG 1 a (a + kx) (by omega) (by omega)
          have HSW := Lib.hid hsw
          clear hsw
          have hcw := hA.cell HG
          have hfw := hA.frz
          rcases Nat.eq_zero_or_pos kx with hk0 | hkp
          · subst hk0
            go_wp2_with fail
            go_region
            go_wp2_with fail
            refine (HC.out _ HSW.out).mono ?_
            rintro e w1 ⟨rfl, hA3⟩
            go_wp2
            go_roundg 0
            case measure => omega
            case rel => exact ⟨by simp, by omega, siftDown ltInt 0 a 0 (swp dj a (a + 0)), hA3, HE2⟩
          · go_wp2_with fail
            go_region
            go_wp2_with fail
            refine (HC.out _ HSW.out).mono ?_
            rintro e w1 ⟨rfl, hA3⟩
            go_wp2
            go_roundg kx
            case measure => omega
            case rel => exact ⟨by simp, by omega, siftDown ltInt kx a 0 (swp dj a (a + kx)), hA3, HE2⟩
    | succ kx =>
      have hcall := siftDown_ord cap kx (b - a) a dk wr hA (by omega) (by omega) hN
      rw [ecast] at hcall
      go_wp2_with (go_at_call 215; refine hcall.mono ?_; rintro e w1 ⟨rfl, hA2⟩)
      go_roundg kx
      case measure => omega
      case rel => exact ⟨by simp, by omega, siftDown ltInt (b - a) a kx dk, hA2, HE⟩
end Go.Proofs.YthmhnknkidkdlaaGreatDoor.Ord64
