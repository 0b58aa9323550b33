/-
  What multiWidthIndex.Load lays down: of each width its rows, sorted, as bytes of a block of their own, in the map.
  Writing into a bytes.Buffer: numbers, and an index's rows.
  singleWidthIndex.Marshal into a bytes.Buffer.
  slices.Sort at uint32: the row; insertion, reversal, the heap. (Printed for each kind: b.sh fills in the element's type and kind.)
  (No condition beyond those that each theorem states.)
-/
import Derived.Test.YthmhnknkidkdlaaGreatDoorB15
import Derived.Test.YthmhnknkidkdlaaGreatDoorB14
import Derived.Test.YthmhnknkidkdlaaGreatDoorProg
import Derived.Test.YthmhnknkidkdlaaGreatDoorB02
import Derived.Test.YthmhnknkidkdlaaGreatDoorB05
import Derived.Test.YthmhnknkidkdlaaGreatDoorB01
import Derived.Lib.BufferOld
import Derived.Lib.BufferKept
import Derived.Deep.RegionHeld3
import Derived.Sort.AssemblyPlain
import Derived.Sort.WalkB12
import Derived.Sort.WalkB2
import Derived.Sort.WalkB3
import Derived.Sort.WalkA
import Derived.Shelf.Abstract
import Derived.Deep.LoopGhost
import Derived.LoopTactic
import Derived.IntWalk
import Derived.BigQuiet
import Derived.CellFam
namespace Go.Proofs.YthmhnknkidkdlaaGreatDoor
open Go.RowKit Go.Maps

/-- A width's index as it lies in the map: its width, its number of rows, its bytes. -/
def swv (n k C : Nat) : Value := .agg #[.int .u32 ((n + 8 : Nat) : Int), .int .u64 (k : Int), .slice (some ⟨C, 0, none⟩) ((n + 8) * k) ((n + 8) * k)]

/-- Block mm is a multiWidthIndex: the widths of digests D, at each the rows S, their bytes in blocks from B on. -/
structure MwAt (B : Nat) (w : World) (mm : Nat) (D : List Nat) (S : Nat → List Rw) : Prop where
  ex : ∃ (V : Nat → Value) (C : Nat → Nat), MpN Tryz.prog 262 .u32 w mm D.length (D.map (· + 8)) V ∧ ∀ n, n ∈ D → V (n + 8) = swv n (S n).length (C n) ∧ Seg w (C n) 0 (rowsB (S n)) ∧ B ≤ C n ∧ C n < w.heap.size ∧ ∀ r, r ∈ S n → r.d.length = n

theorem MwAt.off {B : Nat} {w w' : World} {mm : Nat} {D : List Nat} {S : Nat → List Rw} {T : List Nat} (h : MwAt B w mm D S) (ho : Off T w w') (hm : mm ∉ T) (hT : ∀ x, x ∈ T → x < B ∨ w.heap.size ≤ x) : MwAt B w' mm D S := by
  obtain ⟨V, C, hmp, hrow⟩ := h.ex
  exact ⟨V, C, hmp.off ho hm, fun n hn => by
    obtain ⟨h1, h2, h3, h4, h5⟩ := hrow n hn
    exact ⟨h1, h2.off ho (fun hx => by have := hT _ hx; omega), h3, Nat.lt_of_lt_of_le h4 ho.size, h5⟩⟩
theorem MwAt.lt {B : Nat} {w : World} {mm : Nat} {D : List Nat} {S : Nat → List Rw} (h : MwAt B w mm D S) : mm < w.heap.size := by obtain ⟨V, C, hmp, _⟩ := h.ex; exact hmp.lt
theorem MwAt.nodup {B : Nat} {w : World} {mm : Nat} {D : List Nat} {S : Nat → List Rw} (h : MwAt B w mm D S) : D.Nodup := by
  obtain ⟨V, C, hmp, _⟩ := h.ex
  exact (List.pairwise_map.1 hmp.nodup).imp fun hne e => hne (by rw [e])

structure Pack (w wr : World) (mb mm rb n : Nat) (K : List Nat) (V : Nat → Value) (G : Nat → Nat) (R : Nat → List DR) (L : List Int) (D : List Nat) (S : Nat → List Rw) : Prop where
  off : Off [mm] w wr
  rg : Rg Tryz.prog 3 .i64 wr mb rb (2 * n) (ints K) (fun x => V x.toNat) L
  mw : MwAt (rb + 1) wr mm D S
  dmem : ∀ j, j ∈ D ↔ j ∈ K ∧ (j : Int) ∉ L
  srt : ∀ j, j ∈ D → (S j).Perm ((R j).map DR.rw) ∧ Srtd (S j)
  row : ∀ j, j ∈ K → (j : Int) ∈ L → ∃ cap sp, V j = .slice (some ⟨G j, 0, none⟩) (R j).length cap ∧ (R j).length ≤ cap ∧ cap ≤ maxLen ∧ sp.length + (R j).length * 2 = cap * 2 ∧ Blk wr (G j) 313 (flat2 (R j) ++ sp).toArray
  gb : ∀ j, j ∈ K → w.heap.size < G j ∧ G j < rb
  inj : ∀ j, j ∈ K → ∀ k, k ∈ K → G j = G k → j = k
  wid : ∀ j, j ∈ K → ∀ r, r ∈ R j → r.d.length = j
  rd : ∀ j, j ∈ K → ∀ r, r ∈ R j → ∃ (A : Option Addr) (C b o : Nat), r.v = .slice A r.d.length C ∧ (0 < r.d.length → A = some ⟨b, o, none⟩ ∧ w.heap.size < b ∧ b < rb ∧ ∀ m, m ∈ K → b ≠ G m) ∧ Seg wr b o r.d
  hmb : mb = w.heap.size
  hmm : mm < w.heap.size
  hrb : w.heap.size < rb ∧ rb < wr.heap.size

theorem Pack.step {w wr w' : World} {mb mm rb n : Nat} {K : List Nat} {V : Nat → Value} {G : Nat → Nat} {R : Nat → List DR} {L : List Int} {D : List Nat} {S : Nat → List Rw} (h : Pack w wr mb mm rb n K V G R L D S) (j : Nat) (hj : j ∈ K) (hjL : (j : Int) ∈ L)
    (hoff : Off [rb, G j, mm] wr w') (hrg : Rg Tryz.prog 3 .i64 w' mb rb (2 * n) (ints K) (fun x => V x.toNat) (L.erase (j : Int))) (V2 : Nat → Value) (C : Nat → Nat) (C' : Nat) (s : List Rw)
    (hold : ∀ k, k ∈ D → V2 (k + 8) = swv k (S k).length (C k) ∧ Seg wr (C k) 0 (rowsB (S k)) ∧ rb + 1 ≤ C k ∧ C k < wr.heap.size ∧ ∀ r, r ∈ S k → r.d.length = k)
    (hmp : MpN Tryz.prog 262 .u32 w' mm (D.length + 1) (if j + 8 ∈ D.map (· + 8) then D.map (· + 8) else D.map (· + 8) ++ [j + 8]) (fun k => if k = j + 8 then swv j s.length C' else V2 k))
    (hC : wr.heap.size ≤ C') (hC2 : C' < w'.heap.size) (hseg : Seg w' C' 0 (rowsB s)) (hperm : s.Perm ((R j).map DR.rw)) (hsrt : Srtd s) :
    Pack w w' mb mm rb n K V G R (L.erase (j : Int)) (D ++ [j]) (fun k => if k = j then s else S k) := by
  have hjD : j ∉ D := fun hx => ((h.dmem j).1 hx).2 hjL
  have hjD8 : j + 8 ∉ D.map (· + 8) := fun hx => by
    obtain ⟨k, hk, e⟩ := List.mem_map.1 hx
    exact hjD (by rw [show j = k by omega]; exact hk)
  rw [if_neg hjD8] at hmp
  have hLn := h.rg.nodup
  have hmm := h.hmm
  have hrb := h.hrb
  have hgj := h.gb j hj
  have hws := h.off.size
  refine ⟨?_, hrg, ?_, ?_, ?_, ?_, h.gb, h.inj, h.wid, ?_, h.hmb, hmm, ⟨hrb.1, Nat.lt_of_lt_of_le hrb.2 hoff.size⟩⟩
  · refine h.off.then hoff (fun x hx => ?_)
    simp at hx
    rcases hx with rfl | rfl | rfl
    · right; omega
    · right; omega
    · left; simp
  · refine ⟨fun k => if k = j + 8 then swv j s.length C' else V2 k, fun k => if k = j then C' else C k, by simpa using hmp, fun k hk => ?_⟩
    rcases List.mem_append.1 hk with hk | hk
    · have hne : k ≠ j := fun e => hjD (by rw [← e]; exact hk)
      obtain ⟨h1, h2, h3, h4, h5⟩ := hold k hk
      simp only [if_neg hne, if_neg (show ¬ k + 8 = j + 8 by omega)]
      exact ⟨h1, h2.off hoff (by simp; omega), h3, Nat.lt_of_lt_of_le h4 hoff.size, h5⟩
    · simp at hk
      subst hk
      simp only [if_true]
      refine ⟨trivial, hseg, by omega, hC2, fun r hr => ?_⟩
      obtain ⟨x, hx, rfl⟩ := List.mem_map.1 (hperm.mem_iff.1 hr)
      exact h.wid k hj x hx
  · intro k
    rw [List.mem_append, h.dmem]
    constructor
    · rintro (⟨h1, h2⟩ | h1)
      · exact ⟨h1, fun hx => h2 (List.mem_of_mem_erase hx)⟩
      · simp at h1
        subst h1
        exact ⟨hj, hLn.not_mem_erase⟩
    · rintro ⟨h1, h2⟩
      by_cases he : k = j
      · right; simp [he]
      · left
        exact ⟨h1, fun hx => h2 ((List.mem_erase_of_ne (by omega)).2 hx)⟩
  · intro k hk
    by_cases he : k = j
    · subst he; simp only [if_true]; exact ⟨hperm, hsrt⟩
    · simp only [if_neg he]
      rcases List.mem_append.1 hk with hk | hk
      · exact h.srt k hk
      · simp at hk; exact absurd hk he
  · intro k hk hkL
    have hne : k ≠ j := fun e => by subst e; exact hLn.not_mem_erase hkL
    obtain ⟨cap, sp, e1, e2, e3, e4, hb⟩ := h.row k hk (List.mem_of_mem_erase hkL)
    have hgk := h.gb k hk
    exact ⟨cap, sp, e1, e2, e3, e4, hb.off hoff (by simp; exact ⟨by omega, fun e => hne (h.inj k hk j hj e), by omega⟩)⟩
  · intro k hk r hr
    obtain ⟨A, C0, b, o, e1, e2, e3⟩ := h.rd k hk r hr
    refine ⟨A, C0, b, o, e1, e2, ?_⟩
    by_cases h0 : 0 < r.d.length
    · obtain ⟨f1, f2, f3, f4⟩ := e2 h0
      exact e3.off hoff (by simp; exact ⟨by omega, f4 j hj, by omega⟩)
    · have : r.d = [] := List.eq_nil_of_length_eq_zero (by omega)
      rw [this]; exact Seg.nil

end Go.Proofs.YthmhnknkidkdlaaGreatDoor
namespace Go.Proofs.YthmhnknkidkdlaaGreatDoor
open Go.RowKit

theorem kept_of_below {b : Option Nat} {e : TypeId} {w w' : World} (k : Below w.heap.size w w') : Lib.OthersKept e b w w' := fun i o hi _ _ => by
  have hlt : i < w.heap.size := by
    rcases Nat.lt_or_ge i w.heap.size with h | h
    · exact h
    · rw [Array.getElem?_eq_none h] at hi; cases hi
  exact (k.block i hlt).trans hi
/-- A block of another type than bytes, not the buffer, is kept. -/
theorem kept_blk {b g : Nat} {e t : TypeId} {w w' : World} {cs : Array Value} (k : Lib.OthersKept e (some b) w w') (h : Blk w g t cs) (hg : g ≠ b) (ht : t ≠ e) : Blk w' g t cs :=
  k g _ h (fun x => hg (by injection x)) (fun c fz x => ht (by injection x))

theorem run_makeB4 (W : World) : (Instr.makeSlice 47 (.int .i64 4) (.int .i64 4)).run Tryz.prog W = .ok (.slice (some ⟨W.heap.size, 0, none⟩) 4 4) (W.alloc (.cells #[.int .u8 0, .int .u8 0, .int .u8 0, .int .u8 0] 5)) := by
  obtain ⟨ib0, hbi, hbz0, hbz1, hbz2⟩ := info_parts Tryz.infoByte
  exact run_makeBytes Tryz.underlying47 hbi hbz0 hbz1 hbz2 4 (by omega) W
theorem run_makeB8 (W : World) : (Instr.makeSlice 47 (.int .i64 8) (.int .i64 8)).run Tryz.prog W = .ok (.slice (some ⟨W.heap.size, 0, none⟩) 8 8) (W.alloc (.cells #[.int .u8 0, .int .u8 0, .int .u8 0, .int .u8 0, .int .u8 0, .int .u8 0, .int .u8 0, .int .u8 0] 5)) := by
  obtain ⟨ib0, hbi, hbz0, hbz1, hbz2⟩ := info_parts Tryz.infoByte
  exact run_makeBytes Tryz.underlying47 hbi hbz0 hbz1 hbz2 8 (by omega) W
theorem method_bufWrite (a : Addr) (w : World) : (method 480 57 (.pointer (some a)) "Write").run Tryz.prog w = .ok (150, .pointer (some a)) w := by kernel_rfl
theorem nil_bufWrite (a : Addr) (w : World) : (nilAhead 480 57 (.pointer (some a)) "Write").run Tryz.prog w = .ok (some false) w := by kernel_rfl

end Go.Proofs.YthmhnknkidkdlaaGreatDoor
namespace Go.Proofs.YthmhnknkidkdlaaGreatDoor
open Go.RowKit

end Go.Proofs.YthmhnknkidkdlaaGreatDoor
namespace Go.Proofs.YthmhnknkidkdlaaGreatDoor.Ord32
open Go.RowKit Go.Sort Go.Lib

/-- The row in block g holds d; of what was in w0 nothing else has changed. -/
structure OrdAt (g o : Nat) (t : TypeId) (w0 : World) (N : Nat) (d : Array Int) (w : World) : Prop where
  at0 : o = 0
  size : d.size = N
  off : Off [g] w0 w
  blk : ∃ sp : List Value, Blk w g t (d.toList.map (Value.int .u32) ++ sp).toArray
  room : g < w0.heap.size

variable {g o N : Nat} {t : TypeId} {w0 w w' : World} {d : Array Int} {G : Nat → Int}
theorem OrdAt.carry {S : List Nat} (h : OrdAt g o t w0 N d w) (k : Off S w w') (hS : ∀ x, x ∈ S → w0.heap.size ≤ x) : OrdAt g o t w0 N d w' := by
  obtain ⟨sp, hb⟩ := h.blk
  exact ⟨h.at0, h.size, h.off.then k (fun x hx => Or.inr (hS x hx)), ⟨sp, hb.off k (fun hx => by have := hS g hx; have := h.room; omega)⟩, h.room⟩
theorem OrdAt.drewN (h : OrdAt g o t w0 N d w) (n : Nat) : OrdAt g o t w0 N d (w.drewN n) := h.carry ((Off.refl [] w).drewN n) (fun x hx => by simp at hx)
theorem OrdAt.fresh {S : List Nat} (h : OrdAt g o t w0 N d w) (k : Off S w w') (hS : ∀ x, x ∈ S → w0.heap.size ≤ x) : OrdAt g o t w0 N d w' := h.carry k hS
theorem OrdAt.cell (h : OrdAt g o t w0 N d w) (HG : Hid (∀ i, G i = d[i]!)) : ∀ i, i < N → w.cell? ⟨g, o + i, none⟩ = some (.int .u32 (G i)) := fun i hi => by
  obtain ⟨sp, hb⟩ := h.blk
  rw [hb.cell, h.at0, Nat.zero_add, HG.out]
  have hl : i < d.size := by rw [h.size]; exact hi
  rw [List.getElem?_toArray, List.getElem?_append_left (by simpa using hl)]
  simp [hl]
theorem OrdAt.frz (h : OrdAt g o t w0 N d w) : ∀ i, i < N → w.frozen? ⟨g, o + i, none⟩ = false := fun i _ => by
  obtain ⟨sp, hb⟩ := h.blk
  exact hb.frozen _
theorem named (d : Array Int) : ∃ G : Nat → Int, Hid (∀ i, G i = d[i]!) := ⟨fun i => d[i]!, fun _ => rfl⟩
theorem set_row (d : Array Int) (sp : List Value) (i : Nat) (x : Int) (hi : i < d.size) : ((d.toList.map (Value.int .u32) ++ sp).toArray).setIfInBounds i (.int .u32 x) = ((d.setIfInBounds i x).toList.map (Value.int .u32) ++ sp).toArray := by
  rw [List.setIfInBounds_toArray]
  congr 1
  rw [List.set_append_left _ _ (by simpa using hi), Array.toList_setIfInBounds, List.map_set]
theorem OrdAt.swp (h : OrdAt g o t w0 N d w) (HG : Hid (∀ i, G i = d[i]!)) (n i j : Nat) (hi : i < N) (hj : j < N) :
    OrdAt g o t w0 N (swp d i j) (((w.drewN n).setCell ⟨g, o + i, none⟩ (.int .u32 (G j))).setCell ⟨g, o + j, none⟩ (.int .u32 (G i))) := by
  obtain ⟨sp, hb⟩ := h.blk
  refine ⟨h.at0, by rw [size_swp]; exact h.size, (((h.off.drewN n).setCell (p := ⟨g, o + i, none⟩) (Or.inl (List.mem_singleton.2 rfl)) _).setCell (p := ⟨g, o + j, none⟩) (Or.inl (List.mem_singleton.2 rfl)) _), ⟨sp, ?_⟩, h.room⟩
  have h1 := ((hb.drewN n).set_ (o + i) (.int .u32 (G j))).set_ (o + j) (.int .u32 (G i))
  refine h1.eq ?_
  rw [h.at0, Nat.zero_add, Nat.zero_add, HG.out, HG.out, set_row _ _ _ _ (by rw [h.size]; exact hi), set_row _ _ _ _ (by rw [Array.size_setIfInBounds, h.size]; exact hj)]
  rfl

set_option maxRecDepth 100000 in
theorem isNaN (x : Int) (w : World) : Calls Tryz.prog 235 #[.int .u32 x] w fun e w' => e = .returned (.bool false) ∧ w' = w := by
  go_enter Tryz.func235, Tryz.ntmps235
  go_wp2
  go_ret
  exact ⟨by simp, rfl⟩

set_option maxRecDepth 100000 in
theorem less (x y : Int) (w : World) : Calls Tryz.prog 227 #[.int .u32 x, .int .u32 y] w fun e w' => e = .returned (.bool (Sort.ltInt x y)) ∧ w' = w := by
  go_enter Tryz.func227, Tryz.ntmps227
  go_wp2_with (go_at_call 235; refine (isNaN _ _).mono ?_; rintro e w' ⟨rfl, rfl⟩)
  go_ret
  exact ⟨rfl, rfl⟩

set_option maxHeartbeats 2000000 in
set_option maxRecDepth 100000 in
theorem insertionSort_ord (cap a b : Nat) (d : Array Int) (w : World) (hA : OrdAt g o t w0 N d w) (hab : a ≤ b) (hb : b ≤ N) (hN : N < 4611686018427387904) :
    Calls Tryz.prog 221 #[.slice (some ⟨g, o, none⟩) N cap, .int .i64 a, .int .i64 b] w fun e w' => e = .returned (.tuple #[]) ∧ OrdAt g o t w0 N (insertionSort ltInt d a b) w' := by
  go_enter Tryz.func221, Tryz.ntmps221
  go_wp2
  go_loopw [6] (fun vi wr => ∃ (i : Nat) (dk : Array Int), vi = .int .i64 i ∧ a < i ∧ i ≤ b + 1 ∧ OrdAt g o t w0 N dk wr ∧ Hid (insOuter ltInt a b i dk = insOuter ltInt a b (a + 1) d)) (fun vi _ => b + 1 - (intOf vi).toNat)
  case atStart => exact ⟨a + 1, d, by go_num, by omega, by omega, hA, rfl⟩
  case round =>
    clear hA
    obtain ⟨i, dk, rfl, hai, hib, hA, HO⟩ := hrel
    go_wp2
    · go_loopw [7] (fun vj wr2 => ∃ (j : Nat) (dj : Array Int), vj = .int .i64 j ∧ a ≤ j ∧ j ≤ i ∧ OrdAt g o t w0 N dj wr2 ∧ Hid (insInner ltInt a j dj = insInner ltInt a i dk)) (fun vj _ => (intOf vj).toNat)
      case atStart => exact ⟨i, dk, rfl, by omega, Nat.le_refl _, hA, rfl⟩
      case round =>
        clear hA
        obtain ⟨j, dj, rfl, haj, hji, hA, HI⟩ := hrel
        have hlt : i < b := by assumption
        obtain ⟨G, HG⟩ := named dj
        have out : (j ≤ a ∨ ltInt (G j) (G (j - 1)) = false) → ∀ W, OrdAt g o t w0 N dj W → ∃ i' dk', Value.int .i64 ((i : Int) + 1) = .int .i64 (i' : Nat) ∧ a < i' ∧ i' ≤ b + 1 ∧ OrdAt g o t w0 N dk' W ∧ Hid (insOuter ltInt a b i' dk' = insOuter ltInt a b (a + 1) d) := fun hs W hW =>
          ⟨i + 1, dj, by go_num, by omega, by omega, hW, by show _ = _; rw [← HO.out, insOuter_go _ _ _ _ _ hlt, ← HI.out, insInner_stop _ _ _ _ (by rw [← HG.out, ← HG.out]; exact hs)]⟩
        have OUT : Hid _ := out
        clear out
        have hcw := hA.cell HG
        have hfw := hA.frz
        go_wp2
        by_cases hja : a < j
        · go_quiet (first | (go_at_call 227; refine Calls.quiet_of_same (less _ _ _)))
          go_wp2
          · have hl : ltInt (G j) (G (j - 1)) = true := by assumption
            go_region
            all_goals go_wp2
            go_roundw
            case rel => exact ⟨j - 1, swp dj j (j - 1), by congr 1; omega, by omega, by omega, hA.swp HG (nq + 1) j (j - 1) (by omega) (by omega), by show _ = _; rw [← HI.out, insInner_go ltInt a j dj hja (by rw [← HG.out, ← HG.out]; exact hl)]⟩
            case measure => simp [intOf]; omega
          · have hl : ltInt (G j) (G (j - 1)) = false := by assumption
            go_roundw
            case rel => exact OUT.out (Or.inr hl) _ (hA.drewN nq)
            case measure => simp [intOf]; omega
        · go_quiet (first | (go_at_call 227; refine Calls.quiet_of_same (less _ _ _)))
          go_wp2
          go_roundw
          case rel => exact OUT.out (Or.inl (by omega)) _ (hA.drewN nq)
          case measure => simp [intOf]; omega
    · have hge : ¬ i < b := by assumption
      go_end0
      exact ⟨rfl, by unfold insertionSort; rw [← HO.out, insOuter_stop _ _ _ _ _ hge]; exact hA⟩

set_option maxHeartbeats 1600000 in
set_option maxRecDepth 1000000 in
theorem reverseRange_ord (cap a b : Nat) (d : Array Int) (w : World) (hA : OrdAt g o t w0 N d w) (hab : a ≤ b) (hb : b ≤ N) (hN : N < 4611686018427387904) :
    Calls Tryz.prog 225 #[.slice (some ⟨g, o, none⟩) N cap, .int .i64 a, .int .i64 b] w fun e w' => e = .returned (.tuple #[]) ∧ OrdAt g o t w0 N (reverseRange d a b) w' := by
  go_enter Tryz.func225, Tryz.ntmps225
  go_wp2
  go_loopg [6, 7] (b - a) (fun k s6 s7 wr => ∃ (i jn : Nat) (jz : Int) (dk : Array Int), s6 = .int .i64 i ∧ s7 = .int .i64 jz ∧ ((i : Int) < jz → jz = jn ∧ jn < N) ∧ (¬ (i : Int) < jz → ¬ i < jn) ∧ jn - i ≤ k ∧
    OrdAt g o t w0 N dk wr ∧ Hid (reverseLoop i jn dk = reverseLoop a (b - 1) d))
  case atStart => exact ⟨a, b - 1, (b : Int) - 1, d, rfl, rfl, fun h => ⟨by omega, by omega⟩, fun h => by omega, by omega, hA, rfl⟩
  case round =>
    clear hA
    obtain ⟨i, jn, jz, dk, rfl, rfl, h1, h2, hk, hA, HE⟩ := hrel
    by_cases hlt : (i : Int) < jz
    · obtain ⟨rfl, hjn⟩ := h1 hlt
      have hij : i < jn := by omega
      obtain ⟨G, HG⟩ := named dk
      have ci := hA.cell HG i (by omega)
      have fi := hA.frz i (by omega)
      have cj := hA.cell HG jn (by omega)
      have fj := hA.frz jn (by omega)
      clear h1 h2
      go_wp2_with fail
      go_region
      go_wp2
      go_roundg (jn - 1 - (i + 1))
      case measure => omega
      case rel =>
        have heq := HE.out
        rw [reverseLoop, if_pos hij] at heq
        exact ⟨i + 1, jn - 1, (jn : Int) - 1, swp dk i jn, by simp, rfl, fun h => ⟨by omega, by omega⟩, fun h => by omega, Nat.le_refl _, hA.swp HG 1 i jn (by omega) (by omega), heq⟩
    · have hnot := h2 hlt
      go_wp2
      go_end0
      refine ⟨rfl, ?_⟩
      have heq := HE.out
      rw [reverseLoop, if_neg hnot] at heq
      rw [reverseRange, ← heq]
      exact hA

set_option maxHeartbeats 4000000 in
set_option maxRecDepth 1000000 in
theorem siftDown_ord (cap lo hi first : Nat) (d : Array Int) (w : World) (hA : OrdAt g o t w0 N d w) (hlo : lo ≤ hi) (hb : first + hi ≤ N) (hN : N < 4611686018427387904) :
    Calls Tryz.prog 232 #[.slice (some ⟨g, o, none⟩) N cap, .int .i64 lo, .int .i64 hi, .int .i64 first] w fun e w' => e = .returned (.tuple #[]) ∧ OrdAt g o t w0 N (siftDown ltInt hi first lo d) w' := by
  go_enter Tryz.func232, Tryz.ntmps232
  go_wp2
  go_loopg [8] (hi - lo) (fun kx s8 wr => ∃ (root : Nat) (dk : Array Int), s8 = .int .i64 root ∧ root ≤ hi ∧ hi - root ≤ kx ∧ OrdAt g o t w0 N dk wr ∧ Hid (siftDown ltInt hi first root dk = siftDown ltInt hi first lo d))
  case atStart => exact ⟨lo, d, rfl, hlo, Nat.le_refl _, hA, rfl⟩
  case round =>
    clear hA
    obtain ⟨root, dk, rfl, hr, hkx, hA, HE⟩ := hrel
    by_cases h0 : hi ≤ 2 * root + 1
    · have h0z : (hi : Int) ≤ 2 * (root : Int) + 1 := by omega
      go_wp2
      go_end0
      refine ⟨rfl, ?_⟩
      rw [← HE.out, sd_end ltInt dk h0]
      exact hA
    · have h0z : ¬ ((hi : Int) ≤ 2 * (root : Int) + 1) := by omega
      obtain ⟨G, HG⟩ := named dk
      have hcw := hA.cell HG
      have hfw := hA.frz
      by_cases h1 : 2 * root + 2 < hi
      · have h1z : 2 * (root : Int) + 1 + 1 < (hi : Int) := by omega
        go_wp2_with fail
        go_big_quiet (first | (go_at_call 227; refine Calls.quiet_of_same (less _ _ _)))
        go_wp2_with fail
        · have hL : ltInt dk[first + (2 * root + 1)]! dk[first + (2 * root + 2)]! = true := by rw [← HG.out, ← HG.out]; assumption
          revert nq; intro nq1
          have hA2 := hA.drewN nq1
          clear hcw hfw hA
          generalize wr.drewN nq1 = wr2 at hA2 ⊢
          have hcw2 := hA2.cell HG
          have hfw2 := hA2.frz
          go_big_quiet (first | (go_at_call 227; refine Calls.quiet_of_same (less _ _ _)))
          go_wp2_with fail
          · have hS : ltInt dk[first + root]! dk[first + (2 * root + 2)]! = false := by
              have : (!ltInt (G (first + root)) (G (first + 2 * root + 2))) = true := by assumption
              rw [← HG.out, ← HG.out]
              simpa [Nat.add_assoc] using this
            (try simp only [Exit.inBlock, Exit.then]); refine bodyPost_ret (results_none rfl _ _ _) rfl ?_
            refine ⟨rfl, ?_⟩
            rw [← HE.out, sd_right_stop ltInt dk h1 hL hS]
            exact hA2.drewN nq
          · have hS : ltInt dk[first + root]! dk[first + (2 * root + 2)]! = true := by
              have : (!ltInt (G (first + root)) (G (first + 2 * root + 2))) = false := by assumption
              rw [← HG.out, ← HG.out]
              simpa [Nat.add_assoc] using this
            have hA3 := hA2.drewN nq
            clear hcw2 hfw2 hA2
            generalize wr2.drewN nq = wr3 at hA3 ⊢
            have hcw3 := hA3.cell HG
            have hfw3 := hA3.frz
            go_region
            go_wp2
            go_roundg (hi - (2 * root + 2))
            case measure => omega
            case rel => exact ⟨2 * root + 2, swp dk (first + root) (first + (2 * root + 2)), by simp <;> omega, by omega, Nat.le_refl _, hA3.swp HG 1 (first + root) (first + (2 * root + 2)) (by omega) (by omega), (show Hid _ from by rw [← HE.out, sd_right_go ltInt dk h1 hL hS]; exact rfl)⟩
        · have hL : ltInt dk[first + (2 * root + 1)]! dk[first + (2 * root + 2)]! = false := by rw [← HG.out, ← HG.out]; assumption
          revert nq; intro nq1
          have hA2 := hA.drewN nq1
          clear hcw hfw hA
          generalize wr.drewN nq1 = wr2 at hA2 ⊢
          have hcw2 := hA2.cell HG
          have hfw2 := hA2.frz
          go_big_quiet (first | (go_at_call 227; refine Calls.quiet_of_same (less _ _ _)))
          go_wp2_with fail
          · have hS : ltInt dk[first + root]! dk[first + (2 * root + 1)]! = false := by
              have : (!ltInt (G (first + root)) (G (first + 2 * root + 1))) = true := by assumption
              rw [← HG.out, ← HG.out]
              simpa [Nat.add_assoc] using this
            (try simp only [Exit.inBlock, Exit.then]); refine bodyPost_ret (results_none rfl _ _ _) rfl ?_
            refine ⟨rfl, ?_⟩
            rw [← HE.out, sd_left_stop ltInt dk (by omega) (fun _ => hL) hS]
            exact hA2.drewN nq
          · have hS : ltInt dk[first + root]! dk[first + (2 * root + 1)]! = true := by
              have : (!ltInt (G (first + root)) (G (first + 2 * root + 1))) = false := by assumption
              rw [← HG.out, ← HG.out]
              simpa [Nat.add_assoc] using this
            have hA3 := hA2.drewN nq
            clear hcw2 hfw2 hA2
            generalize wr2.drewN nq = wr3 at hA3 ⊢
            have hcw3 := hA3.cell HG
            have hfw3 := hA3.frz
            go_region
            go_wp2
            go_roundg (hi - (2 * root + 1))
            case measure => omega
            case rel => exact ⟨2 * root + 1, swp dk (first + root) (first + (2 * root + 1)), by simp <;> omega, by omega, Nat.le_refl _, hA3.swp HG 1 (first + root) (first + (2 * root + 1)) (by omega) (by omega), (show Hid _ from by rw [← HE.out, sd_left_go ltInt dk (by omega) (fun _ => hL) hS]; exact rfl)⟩
      · have h1z : decide (2 * (root : Int) + 1 + 1 < (hi : Int)) = false := decide_eq_false (by omega)
        go_wp2_with fail
        go_big_quiet (first | (go_at_call 227; refine Calls.quiet_of_same (less _ _ _)))
        go_wp2_with fail
        revert nq; intro nq1
        have hA2 := hA.drewN nq1
        clear hcw hfw hA
        generalize wr.drewN nq1 = wr2 at hA2 ⊢
        have hcw2 := hA2.cell HG
        have hfw2 := hA2.frz
        go_big_quiet (first | (go_at_call 227; refine Calls.quiet_of_same (less _ _ _)))
        go_wp2_with fail
        · have hS : ltInt dk[first + root]! dk[first + (2 * root + 1)]! = false := by
            have : (!ltInt (G (first + root)) (G (first + 2 * root + 1))) = true := by assumption
            rw [← HG.out, ← HG.out]
            simpa [Nat.add_assoc] using this
          (try simp only [Exit.inBlock, Exit.then]); refine bodyPost_ret (results_none rfl _ _ _) rfl ?_
          refine ⟨rfl, ?_⟩
          rw [← HE.out, sd_left_stop ltInt dk (by omega) (fun h => absurd h h1) hS]
          exact hA2.drewN nq
        · have hS : ltInt dk[first + root]! dk[first + (2 * root + 1)]! = true := by
            have : (!ltInt (G (first + root)) (G (first + 2 * root + 1))) = false := by assumption
            rw [← HG.out, ← HG.out]
            simpa [Nat.add_assoc] using this
          have hA3 := hA2.drewN nq
          clear hcw2 hfw2 hA2
          generalize wr2.drewN nq = wr3 at hA3 ⊢
          have hcw3 := hA3.cell HG
          have hfw3 := hA3.frz
          go_region
          go_wp2
          go_roundg (hi - (2 * root + 1))
          case measure => omega
          case rel => exact ⟨2 * root + 1, swp dk (first + root) (first + (2 * root + 1)), by simp <;> omega, by omega, Nat.le_refl _, hA3.swp HG 1 (first + root) (first + (2 * root + 1)) (by omega) (by omega), (show Hid _ from by rw [← HE.out, sd_left_go ltInt dk (by omega) (fun h => absurd h h1) hS]; exact rfl)⟩

set_option maxHeartbeats 4000000 in
set_option maxRecDepth 1000000 in
theorem heapSort_ord (cap a b : Nat) (d : Array Int) (w : World) (hA : OrdAt g o t w0 N d w) (hab : a ≤ b) (hb : b ≤ N) (hN : N < 4611686018427387904) :
    Calls Tryz.prog 222 #[.slice (some ⟨g, o, none⟩) N cap, .int .i64 a, .int .i64 b] w fun e w' => e = .returned (.tuple #[]) ∧ OrdAt g o t w0 N (heapSort ltInt d a b) w' := by
  have ecast : ((b - a : Nat) : Int) = (b : Int) - (a : Int) := by omega
  go_enter Tryz.func222, Tryz.ntmps222
  go_wp2
  go_loopg [9] ((b - a - 1) / 2 + 1) (fun kx s9 wr => s9 = .int .i64 ((kx : Int) - 1) ∧ kx ≤ (b - a - 1) / 2 + 1 ∧ ∃ (dk : Array Int), OrdAt g o t w0 N dk wr ∧ Hid (heapBuild ltInt (b - a) a kx dk = heapBuild ltInt (b - a) a ((b - a - 1) / 2 + 1) d))
  case atStart => exact ⟨by rw [half_start hab], Nat.le_refl _, d, hA, rfl⟩
  case round =>
    clear hA
    obtain ⟨rfl, hkk, dk, hA, HE⟩ := hrel
    cases gk with
    | zero =>
      have hB : dk = heapBuild ltInt (b - a) a ((b - a - 1) / 2 + 1) d := HE.out
      have HB := Lib.hid hB
      clear HE hkk hB
      go_wp2
      go_loopg [10] (b - a) (fun kx s10 wr2 => s10 = .int .i64 ((kx : Int) - 1) ∧ kx ≤ b - a ∧ ∃ (dj : Array Int), OrdAt g o t w0 N dj wr2 ∧ Hid (heapPop ltInt a kx dj = heapPop ltInt a (b - a) dk))
      case atStart => exact ⟨by rw [ecast], Nat.le_refl _, dk, hA, rfl⟩
      case round =>
        clear hA
        obtain ⟨rfl, hkk, dj, hA, HE2⟩ := hrel
        cases gk with
        | zero =>
          go_wp2
          go_end0
          have e : dj = heapSort ltInt d a b := by rw [heapSort, ← HB.out, ← HE2.out]; rfl
          rw [← e]
          exact ⟨rfl, hA⟩
        | succ kx =>
          have hcall : ∀ w2, OrdAt g o t w0 N (swp dj a (a + kx)) w2 → _ := fun w2 h2 => siftDown_ord cap 0 kx a (swp dj a (a + kx)) w2 h2 (Nat.zero_le _) (by omega) hN
          have HC := Lib.hid hcall
          clear hcall
          obtain ⟨G, HG⟩ := named dj
          have hsw := hA.swp HG 1 a (a + kx) (by omega) (by omega)
          have HSW := Lib.hid hsw
          clear hsw
          have hcw := hA.cell HG
          have hfw := hA.frz
          rcases Nat.eq_zero_or_pos kx with hk0 | hkp
          · subst hk0
            go_wp2_with fail
            go_region
            go_wp2_with fail
            refine (HC.out _ HSW.out).mono ?_
            rintro e w1 ⟨rfl, hA3⟩
            go_wp2
            go_roundg 0
            case measure => omega
            case rel => exact ⟨by simp, by omega, siftDown ltInt 0 a 0 (swp dj a (a + 0)), hA3, HE2⟩
          · go_wp2_with fail
            go_region
            go_wp2_with fail
            refine (HC.out _ HSW.out).mono ?_
            rintro e w1 ⟨rfl, hA3⟩
            go_wp2
            go_roundg kx
            case measure => omega
            case rel => exact ⟨by simp, by omega, siftDown ltInt kx a 0 (swp dj a (a + kx)), hA3, HE2⟩
    | succ kx =>
      have hcall := siftDown_ord cap kx (b - a) a dk wr hA (by omega) (by omega) hN
      rw [ecast] at hcall
      go_wp2_with (go_at_call 232; refine hcall.mono ?_; rintro e w1 ⟨rfl, hA2⟩)
      go_roundg kx
      case measure => omega
      case rel => exact ⟨by simp, by omega, siftDown ltInt (b - a) a kx dk, hA2, HE⟩
end Go.Proofs.YthmhnknkidkdlaaGreatDoor.Ord32
