/-
  singleWidthIndex.Unmarshal out of a bytes.Reader.
  internalio.ToByteReadSeeker, ToByteReader of a bytes.Reader: itself.
  (No condition beyond those that each theorem states.)
-/
import Derived.Test.YtcgggcjmmphldaaGreatDoorGh1
import Derived.Test.YtcgggcjmmphldaaGreatDoorGa9
namespace Go.Proofs.YtcgggcjmmphldaaGreatDoor
open Go.RowKit

set_option maxRecDepth 100000 in
set_option maxHeartbeats 1000000 in
theorem checkLens_any (w : World) (q W8 k M : Nat) (a0 a1 : Int) (v : Value) (hq : Blk w q 293 #[.int .u32 a0, .int .u64 a1, v]) (h8 : 8 ≤ W8) (hW : W8 ≤ 33554432) (hM : M = W8 * k) (hM63 : M < 9223372036854775808) :
    Calls Tryz.prog 251 #[.pointer (some ⟨q, 0, none⟩), .int .u32 (W8 : Int), .int .u64 (M : Int), .int .u64 0] w fun e w' =>
      e = .returned .nilIface ∧ Blk w' q 293 #[.int .u32 (W8 : Int), .int .u64 (k : Int), v] ∧ Off [q] w w' := by
  have c0 : w.cell? ⟨q, 0, none⟩ = some (.int .u32 a0) := hq.cell 0
  have c1 : w.cell? ⟨q, 1, none⟩ = some (.int .u64 a1) := hq.cell 1
  have f0 := hq.frozen 0
  have f1 := hq.frozen 1
  have hw0 : IntKind.u64.wrap (M : Int) = (M : Int) := by rw [IntKind.wrap_u64]; omega
  have hw1 : IntKind.i64.wrap (M : Int) = (M : Int) := by rw [IntKind.wrap_i64]; omega
  have hw2 : IntKind.u64.wrap (W8 : Int) = (W8 : Int) := by rw [IntKind.wrap_u64]; omega
  have hd : (M : Int).tdiv (W8 : Int) = (k : Int) := by
    rw [hM, Int.natCast_mul, Int.mul_tdiv_cancel_left _ (by omega)]
  have hd2 : (M : Int) / (W8 : Int) = (k : Int) := by
    rw [hM, Int.natCast_mul, Int.mul_ediv_cancel_left _ (by omega)]
  have hk : (k : Int) ≤ (M : Int) := by
    have : k ≤ M := by rw [hM]; exact Nat.le_mul_of_pos_left k (by omega)
    omega
  have hw3 : IntKind.u64.wrap (k : Int) = (k : Int) := by rw [IntKind.wrap_u64]; omega
  have h8z : ¬ (W8 : Int) < 8 := by omega
  have hWz : ¬ (33554432 : Int) < (W8 : Int) := by omega
  have hW0 : ¬ (W8 : Int) = 0 := by omega
  have hM0 : ¬ (M : Int) < 0 := by omega
  have HQ := Lib.hid hq
  have HM := Lib.hid hM
  clear hq hM
  go_enter Tryz.func251, Tryz.ntmps251
  go_wp2_with fail
  go_ret
  exact ⟨rfl, (HQ.out.set_ 0 (.int .u32 (W8 : Int))).set_ 1 (.int .u64 (k : Int)), ((Off.refl [q] w).setCell (p := ⟨q, 0, none⟩) (Or.inl (by simp)) _).setCell (p := ⟨q, 1, none⟩) (Or.inl (by simp)) _⟩

theorem makeU64 (M : Nat) (hM : M < 1000000000000) : ∃ Z : List Value, Z.length = M ∧ ∀ W : World, (Instr.makeSlice 46 (.int .u64 (M : Int)) (.int .u64 (M : Int))).run Tryz.prog W = .ok (.slice (some ⟨W.heap.size, 0, none⟩) M M) (W.alloc (.cells Z.toArray 5)) := by
  obtain ⟨i0, hi, hz0, hz1, hz2⟩ := info_parts Tryz.infoByte
  refine ⟨(madeCells (Value.int .u8 0).cells (M * i0.size)).toList, by simp [size_madeCells, hz1], fun W => ?_⟩
  have hr := run_make (P := Tryz.prog) W 46 5 i0 _ Tryz.underlying46 hi hz0 .u64 .u64 (M : Int) (M : Int) (by omega) (by omega) (by rw [hz2]; omega) (by omega)
  simpa using hr

set_option maxRecDepth 100000 in
set_option maxHeartbeats 2000000 in
theorem swUnmarshal_at {R b cap i : Nat} {l : List UInt8} {w : World} (h : RAt R b cap l i w) (q W8 k M : Nat) (rows rest : List UInt8) (hq : Blk w q 293 #[.int .u32 0, .int .u64 0, .slice none 0 0]) (hqR : q ≠ R) (hqb : q ≠ b)
    (hl : l.drop i = Lib.leBytes 4 W8 ++ (Lib.leBytes 8 M ++ (rows ++ rest))) (hr : rows.length = M) (h8 : 8 ≤ W8) (hW : W8 ≤ 33554432) (hM : M = W8 * k) (hM0 : 0 < M) :
    Calls Tryz.prog 236 #[.pointer (some ⟨q, 0, none⟩), .iface 71 (.pointer (some ⟨R, 0, none⟩))] w fun e w' =>
      e = .returned .nilIface ∧ ∃ C, Blk w' q 293 #[.int .u32 (W8 : Int), .int .u64 (k : Int), .slice (some ⟨C, 0, none⟩) M M] ∧ Seg w' C 0 rows ∧ w.heap.size ≤ C ∧ C < w'.heap.size ∧ RAt R b cap l (i + (12 + M)) w' ∧ Off [R, q] w w' := by
  have hlen := h.len
  have hRlt := h.lt
  have hqlt := hq.lt
  have hll : l.length - i = 12 + M + rest.length := by
    have := congrArg List.length hl
    simp [Lib.leBytes_length, hr] at this
    omega
  have hblt : b < w.heap.size := h.seg.lt (by omega)
  have hd4 : l.drop (i + 4) = Lib.leBytes 8 M ++ (rows ++ rest) := by rw [← List.drop_drop, hl, List.drop_left' (Lib.leBytes_length _ _)]
  have hd12 : l.drop (i + 4 + 8) = rows ++ rest := by rw [← List.drop_drop, hd4, List.drop_left' (Lib.leBytes_length _ _)]
  have ht4 : (l.drop i).take 4 = Lib.leBytes 4 W8 := by rw [hl, List.take_left' (Lib.leBytes_length _ _)]
  have ht8 : (l.drop (i + 4)).take 8 = Lib.leBytes 8 M := by rw [hd4, List.take_left' (Lib.leBytes_length _ _)]
  have htM : (l.drop (i + 4 + 8)).take M = rows := by rw [hd12, List.take_left' hr]
  have hA1 : Off [] w (w.alloc (.cells #[.int .u32 0] 143)) := Off.alloc (Off.refl [] w) _
  have H1 := Lib.hid (zzRead32_at (h.off hA1 (by simp) (by simp)) w.heap.size 0 W8 143 #[.int .u32 0] (Blk.new' _ _ _ rfl) ht4 (by omega) (by omega) (by omega) (by omega) (by decide))
  have H2 : Hid (∀ W g, RAt R b cap l (i + 4) W → Blk W g 23 #[.int .u64 0] → g ≠ R → g ≠ b → _) := Lib.hid fun W g a1 a2 a3 a4 => zzRead64_at a1 g 0 M 23 #[.int .u64 0] a2 ht8 (by omega) (by omega) a3 a4 (by decide)
  have H3 : Hid (∀ W v, Blk W q 293 #[.int .u32 0, .int .u64 0, v] → _) := Lib.hid fun W v a1 => checkLens_any W q W8 k M 0 0 v a1 h8 hW hM (by omega)
  obtain ⟨Z, hZ, hmk⟩ := makeU64 M (by omega)
  have H4 : Hid (∀ W g, RAt R b cap l (i + 4 + 8) W → Blk W g 5 Z.toArray → R ≠ g → b ≠ g → _) := Lib.hid fun W g a1 a2 a3 a4 => readFull_at a1 g M Z 5 a2 a3 a4 hM0 (by omega) hZ
  have HQ := Lib.hid hq
  have HA1 := Lib.hid hA1
  have HTM := Lib.hid htM
  clear hq h hl hd4 hd12 ht4 ht8 htM hA1 hM hr hZ hll
  go_enter Tryz.func236, Tryz.ntmps236
  go_wp2_with (first
    | (go_at_call 198; refine H1.out.mono ?_; rintro e w1 ⟨rfl, hR1, hB1, hO1⟩
       have hs1 : w.heap.size < w1.heap.size := by have := hO1.size; simp at this; omega
       have HR1 := Lib.hid hR1; have HB1 := Lib.hid hB1
       have HO1 := Lib.hid ((HA1.out.mono (S' := [R]) (fun x hx => by simp at hx)).then hO1 (fun x hx => by simp at hx; rcases hx with rfl | rfl <;> simp))
       clear hR1 hB1 hO1)
    | (go_at_call 213
       have hal : Off [] w1 (w1.alloc (.cells #[.int .u64 0] 23)) := Off.alloc (Off.refl [] w1) _
       refine (H2.out _ _ (HR1.out.off hal (by simp) (by simp)) (Blk.new' _ _ _ rfl) (by omega) (by omega)).mono ?_; rintro e w2 ⟨rfl, hR2, hB2, hO2⟩
       have hs2 : w1.heap.size < w2.heap.size := by have := hO2.size; simp at this; omega
       have c5 : w2.cell? ⟨w.heap.size, 0, none⟩ = some (.int .u32 (W8 : Int)) := ((HB1.out.off hal (by simp)).off hO2 (ni2 (by omega) (by omega))).cell 0
       have c7 : w2.cell? ⟨w1.heap.size, 0, none⟩ = some (.int .u64 (M : Int)) := hB2.cell 0
       have HB2 := Lib.hid hB2
       have hO02 : Off [R] w w2 := (HO1.out.then hal (fun x hx => by simp at hx)).then hO2 (fun x hx => by simp at hx; rcases hx with rfl | rfl; exact Or.inl (by simp); right; omega)
       have hq2 := HQ.out.off hO02 (ni1 hqR)
       have HQ2 := Lib.hid hq2; have HO2 := Lib.hid hO02; have HR2 := Lib.hid hR2; clear hq2 hO02 hR2 hO2 hal hB2)
    | (go_at_call 251; refine (H3.out _ _ HQ2.out).mono ?_; rintro e w3 ⟨rfl, hQ3, hO3⟩
       have c77 : w3.cell? ⟨w1.heap.size, 0, none⟩ = some (.int .u64 (M : Int)) := (HB2.out.off hO3 (ni1 (by omega))).cell 0
       have hs3 := hO3.size
       have HQ3 := Lib.hid hQ3; have HR3 := Lib.hid (HR2.out.off hO3 (ni1 (fun e => hqR e.symm)) (ni1 (fun e => hqb e.symm)))
       have HO3 := Lib.hid ((HO2.out.mono (S' := [R, q]) (fun x hx => by simp at hx; simp [hx])).then hO3 (fun x hx => by simp at hx; simp [hx]))
       clear hQ3 hO3 c5 c7)
    | (go_at_call 211
       have hal : Off [] w3 (w3.alloc (.cells Z.toArray 5)) := Off.alloc (Off.refl [] w3) _
       refine (H4.out _ _ (HR3.out.off hal (by simp) (by simp)) (Blk.new' _ _ _ rfl) (by omega) (by omega)).mono ?_; rintro e w4 ⟨rfl, hR4, hB4, hO4⟩
       have hq4 := (HQ3.out.off hal (by simp)).off hO4 (ni2 hqR (by omega))
       have c2 : w4.cell? ⟨q, 2, none⟩ = some (.slice none 0 0) := hq4.cell 2
       have f2 := hq4.frozen 2
       have HQ4 := Lib.hid hq4; have HR4 := Lib.hid hR4; have HB4 := Lib.hid hB4
       have HO4 := Lib.hid ((HO3.out.then hal (fun x hx => by simp at hx)).then hO4 (fun x hx => by simp at hx; rcases hx with rfl | rfl; exact Or.inl (by simp); right; omega))
       have hs4 := hB4.lt
       clear hq4 hR4 hB4 hO4 hal))
  go_ret
  have hO5 : Off [q] w4 (w4.setCell ⟨q, 2, none⟩ (.slice (some ⟨w3.heap.size, 0, none⟩) M M)) := (Off.refl [q] w4).setCell (p := ⟨q, 2, none⟩) (Or.inl (by simp)) _
  refine ⟨rfl, w3.heap.size, HQ4.out.set_ 2 _, ?_, by omega, Nat.lt_of_lt_of_le hs4 hO5.size, ?_, HO4.out.then hO5 (fun x hx => by simp at hx; simp [hx])⟩
  · have := HB4.out.seg'
    rw [HTM.out] at this
    exact this.off hO5 (ni1 (by omega))
  · have := HR4.out.off hO5 (ni1 (fun e => hqR e.symm)) (ni1 (fun e => hqb e.symm))
    rwa [show i + 4 + 8 + M = i + (12 + M) by omega] at this
end Go.Proofs.YtcgggcjmmphldaaGreatDoor
namespace Go.Proofs.YtcgggcjmmphldaaGreatDoor
open Go.RowKit
set_option maxRecDepth 100000 in
theorem toBrs (a : Addr) (w : World) : Calls Tryz.prog 197 #[.iface 71 (.pointer (some a))] w fun e w' => e = .returned (.iface 71 (.pointer (some a))) ∧ w = w' := by
  have hta : ∀ W, (Instr.typeAssert (.iface 71 (.pointer (some a))) 106 281 true).run Tryz.prog W = .ok (.tuple #[.iface 71 (.pointer (some a)), .bool true]) W := fun W => by kernel_rfl
  go_enter Tryz.func197, Tryz.ntmps197
  go_wp2_with fail
  go_ret
  exact ⟨rfl, rfl⟩
set_option maxRecDepth 100000 in
theorem toBr (a : Addr) (w : World) : Calls Tryz.prog 98 #[.iface 71 (.pointer (some a))] w fun e w' => e = .returned (.iface 71 (.pointer (some a))) ∧ w = w' := by
  have hta : ∀ W, (Instr.typeAssert (.iface 71 (.pointer (some a))) 106 164 true).run Tryz.prog W = .ok (.tuple #[.iface 71 (.pointer (some a)), .bool true]) W := fun W => by kernel_rfl
  go_enter Tryz.func98, Tryz.ntmps98
  go_wp2_with fail
  go_ret
  exact ⟨rfl, rfl⟩
end Go.Proofs.YtcgggcjmmphldaaGreatDoor
