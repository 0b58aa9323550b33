/-
  (*bytes.Buffer).grow, and what it leaves: the buffer's own block alone is written; the row it holds then is a new one.
  (*bytes.Buffer).Write: the buffer's own block and the row that it holds alone are written; that row lies at lo or above.
  (No condition beyond those that each theorem states.)
-/
import Derived.Test.YthmhnknkidkdlaaGreatDoorB02
import Derived.Test.YthmhnknkidkdlaaGreatDoorB03
import Derived.Test.YthmhnknkidkdlaaGreatDoorB01
import Derived.Lib.BufferMore
import Derived.Lib.BufferGrow
import Derived.Lib.BufferOld
import Derived.Lib.BufferKept
import Derived.Lib.BufferWrite
import Derived.Laws.CopyRow
import Derived.Deep.RegionWith
namespace Go.Proofs.YthmhnknkidkdlaaGreatDoor
open Go.RowKit

/-- Block b is a bytes.Buffer that holds l; the row that it holds, if any, lies at lo or above, its cells behind l are sp. -/
def BufR (b g cap : Nat) (l : List UInt8) (sp : List Value) (w : World) : Prop :=
  (∃ lr : Int, Blk w b 51 #[.slice (some ⟨g, 0, none⟩) l.length cap, .int .i64 0, .int .i8 lr]) ∧ g ≠ b ∧ Blk w g 5 (Lib.byteCells l ++ sp).toArray ∧ sp.length + l.length = cap ∧ cap ≤ maxLen
def BufN (b : Nat) (w : World) : Prop := ∃ lr : Int, Blk w b 51 #[.slice none 0 0, .int .i64 0, .int .i8 lr]

theorem BufR.is {b g cap : Nat} {l : List UInt8} {sp : List Value} {w : World} (h : BufR b g cap l sp w) : Lib.IsBuffer 51 5 0 b (Lib.byteCells l) w := by
  obtain ⟨⟨lr, hb⟩, hne, hg, hs, hc⟩ := h
  refine ⟨Nat.zero_le _, .slice (some ⟨g, 0, none⟩) l.length cap, lr, hb, ?_, by simp [Value.ownBlock]; exact hne⟩
  have h1 := owns_blk (size := 1) (n := l.length) (cap := cap) hg (by rw [Lib.byteCells_length, Nat.mul_one]) (by omega) (by omega) hc
  rw [Lib.byteCells_length]
  exact h1
theorem BufN.is {b : Nat} {w : World} (h : BufN b w) : Lib.IsBuffer 51 5 0 b (Lib.byteCells []) w := by
  obtain ⟨lr, hb⟩ := h
  exact ⟨Nat.zero_le _, .slice none 0 0, lr, hb, World.ownsRow_nil _ _ _ _, by simp [Value.ownBlock]⟩

theorem slice_nil_nil (w : World) : (binOp .eql 47 (.slice none 0 0) (.slice none 0 0)).run Tryz.prog w = .ok (.bool true) w := Lib.run_eql_slice_nil_nil w _ _ Tryz.underlying47
theorem slice_some_nil (p : Addr) (n c : Nat) (w : World) : (binOp .eql 47 (.slice (some p) n c) (.slice none 0 0)).run Tryz.prog w = .ok (.bool false) w := Lib.run_eql_slice_some_nil w _ _ _ Tryz.underlying47

theorem off_three {b : Nat} {w : World} (v1 v2 v3 : Value) : Off [b] w (((w.setCell ⟨b, 0, none⟩ v1).setCell ⟨b, 1, none⟩ v2).setCell ⟨b, 0, none⟩ v3) := (((Off.refl [b] w).setCell (p := ⟨b, 0, none⟩) (Or.inl (by simp)) _).setCell (p := ⟨b, 1, none⟩) (Or.inl (by simp)) _).setCell (p := ⟨b, 0, none⟩) (Or.inl (by simp)) _

set_option maxRecDepth 100000 in
set_option maxHeartbeats 2000000 in
theorem grow_small (b n : Nat) (w : World) (h : BufN b w) (hn : 1 ≤ n) (h64 : n ≤ 64) :
    Calls Tryz.prog 154 #[.pointer (some ⟨b, 0, none⟩), .int .i64 (n : Int)] w fun e w' => e = .returned (.int .i64 0) ∧ (∃ lr : Int, Blk w' b 51 #[.slice (some ⟨w.heap.size, 0, none⟩) n 64, .int .i64 0, .int .i8 lr]) ∧ Blk w' w.heap.size 5 (zeroBytes 64).toArray ∧ Off [b] w w' := by
  obtain ⟨i, hi, hz, hs, hbb⟩ := info_parts Tryz.infoByte
  have hmk : ∀ W : World, (Instr.makeSlice 47 (.int .i64 (n : Int)) (.int .i64 64)).run Tryz.prog W = .ok (.slice (some ⟨W.heap.size, 0, none⟩) n 64) (W.alloc (.cells (zeroBytes 64).toArray 5)) := fun W => by
    have hr := run_make (P := Tryz.prog) W 47 5 i (.int .u8 0) Tryz.underlying47 hi hz .i64 .i64 (n : Int) 64 (by omega) (by omega) (by rw [hbb]; omega) (by omega)
    simp only [Int.toNat_natCast, hs, Nat.mul_one] at hr
    rw [hr, show ((64 : Int).toNat) = 64 from rfl, madeCells_bytes]
  have hI := h.is
  obtain ⟨lr, hb⟩ := h
  have hbl := hb.lt
  have hL := Lib.hid (Tryz.Buffer_Len 0 b _ w hI)
  rw [Lib.byteCells_length] at hL
  have HB := Lib.hid hb
  have hnil := slice_nil_nil
  have hn2 : (n : Int) ≤ 64 := by omega
  clear hb hI i hi hz hs hbb
  go_enter Tryz.func154, Tryz.ntmps154
  go_wp2_with fail
  refine hL.out.mono ?_
  rintro e W0 ⟨rfl, k, hW0⟩
  have hb0 : Blk W0 b 51 #[.slice none 0 0, .int .i64 0, .int .i8 lr] := by rw [hW0]; exact HB.out
  have hsz : W0.heap.size = w.heap.size := by rw [hW0]; rfl
  have hO : Off [b] w W0 := by rw [hW0]; exact (Off.refl [b] w).drewN k
  have c0 : W0.cell? ⟨b, 0, none⟩ = some (.slice none 0 0) := hb0.cell 0
  have c1 : W0.cell? ⟨b, 1, none⟩ = some (.int .i64 0) := hb0.cell 1
  have f0 : W0.frozen? ⟨b, 0, none⟩ = false := hb0.frozen 0
  have HB0 := Lib.hid hb0
  have HO := Lib.hid hO
  clear hW0 hb0 hO
  go_wp2_with (go_at_call 153; refine (Tryz.Buffer_tryGrow_none b _ 0 0 n _ c0 (Nat.le_refl _) (Nat.zero_le _) (by omega)).mono ?_; rintro e w' ⟨rfl, rfl⟩)
  go_ret
  refine ⟨rfl, ⟨lr, ?_⟩, ?_, ?_⟩
  · rw [← hsz]
    exact (HB0.out.set_ 0 _).alloc _
  · rw [← hsz]
    exact Blk.new' _ 5 (zeroBytes 64).toArray (by simp [World.setCell])
  · rw [← hsz]
    exact (HO.out.setCell (p := ⟨b, 0, none⟩) (Or.inl (by simp)) _).alloc _

set_option maxRecDepth 100000 in
set_option maxHeartbeats 4000000 in
theorem grow_big (b n : Nat) (w : World) (h : BufN b w) (h64 : 64 < n) (hlim : n ≤ 140737488355328) :
    Calls Tryz.prog 154 #[.pointer (some ⟨b, 0, none⟩), .int .i64 (n : Int)] w fun e w' => e = .returned (.int .i64 0) ∧ ∃ (cap : Nat) (cells : Array Value), (∃ lr : Int, Blk w' b 51 #[.slice (some ⟨w.heap.size, 0, none⟩) n cap, .int .i64 0, .int .i8 lr]) ∧ Blk w' w.heap.size 5 cells ∧ cells.size = cap ∧ n ≤ cap ∧ cap ≤ maxLen ∧ Off [b] w w' := by
  have hI := h.is
  obtain ⟨lr, hb⟩ := h
  have hbl := hb.lt
  have hL := Lib.hid (Tryz.Buffer_Len 0 b _ w hI)
  rw [Lib.byteCells_length] at hL
  have HB := Lib.hid hb
  have hnil := slice_nil_nil
  have hn2 : ¬ (n : Int) ≤ 64 := by omega
  clear hb hI
  go_enter Tryz.func154, Tryz.ntmps154
  go_wp2_with fail
  refine hL.out.mono ?_
  rintro e W0 ⟨rfl, k, hW0⟩
  have hb0 : Blk W0 b 51 #[.slice none 0 0, .int .i64 0, .int .i8 lr] := by rw [hW0]; exact HB.out
  have hsz : W0.heap.size = w.heap.size := by rw [hW0]; rfl
  have hO : Off [b] w W0 := by rw [hW0]; exact (Off.refl [b] w).drewN k
  have c0 : W0.cell? ⟨b, 0, none⟩ = some (.slice none 0 0) := hb0.cell 0
  have c1 : W0.cell? ⟨b, 1, none⟩ = some (.int .i64 0) := hb0.cell 1
  have f0 : W0.frozen? ⟨b, 0, none⟩ = false := hb0.frozen 0
  have f1 : W0.frozen? ⟨b, 1, none⟩ = false := hb0.frozen 1
  have HB0 := Lib.hid hb0
  have HO := Lib.hid hO
  clear hW0 hb0 hO
  have hwn : IntKind.i64.wrap (n : Int) = n := by rw [IntKind.wrap_i64]; omega
  go_wp2_with (go_at_call 153; refine (Tryz.Buffer_tryGrow_none b _ 0 0 n _ c0 (Nat.le_refl _) (Nat.zero_le _) (by omega)).mono ?_; rintro e w' ⟨rfl, rfl⟩)
  go_region_with (
      go_at_call 155
      refine (Tryz.bytes_growSlice_nil n _ (by omega) hlim).mono ?_
      rintro e w2 ⟨cap2, cells, rfl, hN, hcsz, hcap2, hcm2, hbel⟩
      have hbk2 : Blk w2 b 51 #[.slice none 0 0, .int .i64 0, .int .i8 lr] := (hbel.block b (by show b < w'.heap.size; omega)).trans HB0.out
      have d0 : w2.cell? ⟨b, 0, none⟩ = some (.slice none 0 0) := hbk2.cell 0
      have d1 : w2.cell? ⟨b, 1, none⟩ = some (.int .i64 0) := hbk2.cell 1
      have e0 : w2.frozen? ⟨b, 0, none⟩ = false := hbk2.frozen 0
      have e1 : w2.frozen? ⟨b, 1, none⟩ = false := hbk2.frozen 1
      have HBK2 := Lib.hid hbk2
      have HN := Lib.hid hN
      have HBE := Lib.hid (Off.ofBelow (S := [b]) hbel)
      clear hbk2 hN hbel)
  all_goals go_wp2_with fail
  all_goals go_ret
  all_goals (
    have hsz2 : w'.drew.heap.size = w.heap.size := hsz
    have hN2 : Blk w2 w.heap.size 5 cells := by have h := HN.out; rw [hsz2] at h; exact h
    exact ⟨rfl, cap2, cells, ⟨lr, ((HBK2.out.set_ 0 _).set_ 1 _).set_ 0 _⟩, (off_three (b := b) _ _ _).blk hN2 (ni1 (by omega)), hcsz, hcap2, hcm2, ((HO.out.drew).then HBE.out (fun x hx => Or.inl hx)).then (off_three _ _ _) (fun x hx => Or.inl hx)⟩)

set_option maxRecDepth 100000 in
set_option maxHeartbeats 4000000 in
theorem grow_row (b g cap n : Nat) (l : List UInt8) (sp : List Value) (w : World) (h : BufR b g cap l sp w) (hroom : cap < l.length + n) (hlim : l.length + n ≤ 140737488355328) (hcap : cap ≤ 140737488355328) :
    Calls Tryz.prog 154 #[.pointer (some ⟨b, 0, none⟩), .int .i64 (n : Int)] w fun e w' => e = .returned (.int .i64 (l.length : Int)) ∧ ∃ (cap2 : Nat) (cells : Array Value), (∃ lr : Int, Blk w' b 51 #[.slice (some ⟨w.heap.size, 0, none⟩) (l.length + n) cap2, .int .i64 0, .int .i8 lr]) ∧ Blk w' w.heap.size 5 cells ∧ cells.size = cap2 ∧ cells.toList.take l.length = Lib.byteCells l ∧ l.length + n ≤ cap2 ∧ cap2 ≤ maxLen ∧ Off [b] w w' := by
  have hI := h.is
  obtain ⟨⟨lr, hb⟩, hgb, hg, hsp, hcm⟩ := h
  obtain ⟨m, hm⟩ : ∃ m, m = l.length := ⟨_, rfl⟩
  rw [← hm] at hb hsp hroom hlim ⊢
  have hbl := hb.lt
  have hL := Lib.hid (Tryz.Buffer_Len 0 b _ w hI)
  rw [Lib.byteCells_length, ← hm] at hL
  have hcs : (Lib.byteCells l ++ sp).toArray.size = cap := by simp [Lib.byteCells_length]; omega
  have htk : (Lib.byteCells l ++ sp).toArray.toList.take m = Lib.byteCells l := by rw [hm]; exact List.take_left' (Lib.byteCells_length l)
  have h1 : ∀ v ∈ (Lib.byteCells l ++ sp).toArray.toList.take m, v.oneCell' = true := by rw [htk]; exact fun v hv => Lib.byteCells_one l v hv
  have HG := Lib.hid hg
  have HTK := Lib.hid htk
  have H1 := Lib.hid h1
  have HCS := Lib.hid hcs
  have hgl := hg.lt
  have hcm' := hcm
  unfold maxLen at hcm'
  have HB := Lib.hid hb
  have hnil := slice_some_nil ⟨g, 0, none⟩
  clear hb hI hg hm htk h1 hcs
  rcases Nat.eq_zero_or_pos m with rfl | hmp
  · simp only [Nat.zero_add] at hroom hlim ⊢
    go_enter Tryz.func154, Tryz.ntmps154
    go_wp2_with fail
    refine hL.out.mono ?_
    rintro e W0 ⟨rfl, k, hW0⟩
    have hb0 : Blk W0 b 51 #[.slice (some ⟨g, 0, none⟩) 0 cap, .int .i64 0, .int .i8 lr] := by rw [hW0]; exact HB.out
    have hsz : W0.heap.size = w.heap.size := by rw [hW0]; rfl
    have hO : Off [b] w W0 := by rw [hW0]; exact (Off.refl [b] w).drewN k
    have c0 : W0.cell? ⟨b, 0, none⟩ = some (.slice (some ⟨g, 0, none⟩) 0 cap) := hb0.cell 0
    have c1 : W0.cell? ⟨b, 1, none⟩ = some (.int .i64 0) := hb0.cell 1
    have f0 : W0.frozen? ⟨b, 0, none⟩ = false := hb0.frozen 0
    have f1 : W0.frozen? ⟨b, 1, none⟩ = false := hb0.frozen 1
    have hg0 : Blk W0 g 5 (Lib.byteCells l ++ sp).toArray := by rw [hW0]; exact HG.out
    have HG0 := Lib.hid hg0
    have HB0 := Lib.hid hb0
    have HO := Lib.hid hO
    clear hW0 hb0 hO hg0
    have hwn : IntKind.i64.wrap (n : Int) = n := by rw [IntKind.wrap_i64]; omega
    go_wp2_with (go_at_call 153; refine (Tryz.Buffer_tryGrow_none b _ 0 cap n _ c0 (by omega) hcm (by omega)).mono ?_; rintro e w' ⟨rfl, rfl⟩)
    go_region_with (
        go_at_call 155
        refine (Tryz.bytes_growSlice_row g 0 cap n _ _ ?_ HCS.out (by omega) (by omega) (by omega) hcap H1.out).mono ?_
        exact HG0.out
        rintro e w2 ⟨cap2, cells, rfl, hN, hcsz, htk2, hcap2, hcm2, hbel⟩
        have hbk2 : Blk w2 b 51 #[.slice (some ⟨g, 0, none⟩) 0 cap, .int .i64 0, .int .i8 lr] := (hbel.block b (by show b < w'.heap.size; omega)).trans HB0.out
        have d0 : w2.cell? ⟨b, 0, none⟩ = some (.slice (some ⟨g, 0, none⟩) 0 cap) := hbk2.cell 0
        have d1 : w2.cell? ⟨b, 1, none⟩ = some (.int .i64 0) := hbk2.cell 1
        have e0 : w2.frozen? ⟨b, 0, none⟩ = false := hbk2.frozen 0
        have e1 : w2.frozen? ⟨b, 1, none⟩ = false := hbk2.frozen 1
        have HBK2 := Lib.hid hbk2
        have HN := Lib.hid hN
        have HBE := Lib.hid (Off.ofBelow (S := [b]) hbel)
        clear hbk2 hN hbel)
    all_goals go_wp2_with fail
    all_goals go_ret
    all_goals (
      have hsz2 : w'.drew.heap.size = w.heap.size := hsz
      have hN2 : Blk w2 w.heap.size 5 cells := by have h := HN.out; rw [hsz2] at h; exact h
      exact ⟨rfl, cap2, cells, ⟨lr, ((HBK2.out.set_ 0 _).set_ 1 _).set_ 0 _⟩, (off_three (b := b) _ _ _).blk hN2 (ni1 (by omega)), hcsz, htk2.trans HTK.out, (by omega), hcm2, ((HO.out.drew).then HBE.out (fun x hx => Or.inl hx)).then (off_three _ _ _) (fun x hx => Or.inl hx)⟩)

  · have hmz : ¬ ((m : Int) = 0) := by omega
    have hmz2 : ((m : Int) == 0) = false := beq_eq_false_iff_ne.2 hmz
    go_enter Tryz.func154, Tryz.ntmps154
    go_wp2_with fail
    refine hL.out.mono ?_
    rintro e W0 ⟨rfl, k, hW0⟩
    have hb0 : Blk W0 b 51 #[.slice (some ⟨g, 0, none⟩) m cap, .int .i64 0, .int .i8 lr] := by rw [hW0]; exact HB.out
    have hsz : W0.heap.size = w.heap.size := by rw [hW0]; rfl
    have hO : Off [b] w W0 := by rw [hW0]; exact (Off.refl [b] w).drewN k
    have c0 : W0.cell? ⟨b, 0, none⟩ = some (.slice (some ⟨g, 0, none⟩) m cap) := hb0.cell 0
    have c1 : W0.cell? ⟨b, 1, none⟩ = some (.int .i64 0) := hb0.cell 1
    have f0 : W0.frozen? ⟨b, 0, none⟩ = false := hb0.frozen 0
    have f1 : W0.frozen? ⟨b, 1, none⟩ = false := hb0.frozen 1
    have hg0 : Blk W0 g 5 (Lib.byteCells l ++ sp).toArray := by rw [hW0]; exact HG.out
    have HG0 := Lib.hid hg0
    have HB0 := Lib.hid hb0
    have HO := Lib.hid hO
    clear hW0 hb0 hO hg0
    have hwn : IntKind.i64.wrap (n : Int) = n := by rw [IntKind.wrap_i64]; omega
    go_wp2_with (go_at_call 153; refine (Tryz.Buffer_tryGrow_none b _ m cap n _ c0 (by omega) hcm (by omega)).mono ?_; rintro e w' ⟨rfl, rfl⟩)
    go_region_with (
        go_at_call 155
        refine (Tryz.bytes_growSlice_row g m cap n _ _ ?_ HCS.out (by omega) (by omega) (by omega) hcap H1.out).mono ?_
        exact HG0.out
        rintro e w2 ⟨cap2, cells, rfl, hN, hcsz, htk2, hcap2, hcm2, hbel⟩
        have hbk2 : Blk w2 b 51 #[.slice (some ⟨g, 0, none⟩) m cap, .int .i64 0, .int .i8 lr] := (hbel.block b (by show b < w'.heap.size; omega)).trans HB0.out
        have d0 : w2.cell? ⟨b, 0, none⟩ = some (.slice (some ⟨g, 0, none⟩) m cap) := hbk2.cell 0
        have d1 : w2.cell? ⟨b, 1, none⟩ = some (.int .i64 0) := hbk2.cell 1
        have e0 : w2.frozen? ⟨b, 0, none⟩ = false := hbk2.frozen 0
        have e1 : w2.frozen? ⟨b, 1, none⟩ = false := hbk2.frozen 1
        have HBK2 := Lib.hid hbk2
        have HN := Lib.hid hN
        have HBE := Lib.hid (Off.ofBelow (S := [b]) hbel)
        clear hbk2 hN hbel)
    all_goals go_wp2_with fail
    all_goals go_ret
    all_goals (
      have hsz2 : w'.drew.heap.size = w.heap.size := hsz
      have hN2 : Blk w2 w.heap.size 5 cells := by have h := HN.out; rw [hsz2] at h; exact h
      exact ⟨rfl, cap2, cells, ⟨lr, ((HBK2.out.set_ 0 _).set_ 1 _).set_ 0 _⟩, (off_three (b := b) _ _ _).blk hN2 (ni1 (by omega)), hcsz, htk2.trans HTK.out, hcap2, hcm2, ((HO.out.drew).then HBE.out (fun x hx => Or.inl hx)).then (off_three _ _ _) (fun x hx => Or.inl hx)⟩)

end Go.Proofs.YthmhnknkidkdlaaGreatDoor
namespace Go.Proofs.YthmhnknkidkdlaaGreatDoor
open Go.RowKit

/-- Below lo all is as it was, but for block b. -/
structure LoK (lo b : Nat) (w w' : World) : Prop where
  os : w'.os = w.os
  tape : w'.tape = w.tape
  output : w'.output = w.output
  size : w.heap.size ≤ w'.heap.size
  block : ∀ i, i < lo → i ≠ b → w'.heap[i]? = w.heap[i]?
theorem LoK.ofOff {lo b : Nat} {w w' : World} {S : List Nat} (h : Off S w w') (hlo : lo ≤ w.heap.size) (hS : ∀ x, x ∈ S → x = b ∨ lo ≤ x) : LoK lo b w w' :=
  ⟨h.os, h.tape, h.output, h.size, fun i h1 h2 => h.block i (by omega) (fun hx => by rcases hS i hx with h3 | h3; exact h2 h3; omega)⟩

/-- Block b is a bytes.Buffer that holds l; the row that it holds, if any, lies at lo or above. -/
def BufW (b lo : Nat) (l : List UInt8) (w : World) : Prop := (l = [] ∧ BufN b w) ∨ ∃ g cap sp, lo ≤ g ∧ BufR b g cap l sp w
theorem BufW.lt {b lo : Nat} {l : List UInt8} {w : World} (h : BufW b lo l w) : b < w.heap.size := by
  rcases h with ⟨_, lr, hb⟩ | ⟨_, _, _, _, ⟨lr, hb⟩, _⟩
  · exact hb.lt
  · exact hb.lt

/-- A block of bytes other than b's may be written: all others are kept. -/
theorem kept_of_off {b : Nat} {S : List Nat} {w w' : World} (h : Off S w w') (hS : ∀ x, x ∈ S → x = b ∨ (∃ cs, Blk w x 5 cs)) : Lib.OthersKept 5 (some b) w w' := fun i o hi hb ho => by
  have hlt : i < w.heap.size := (Array.getElem?_eq_some_iff.1 hi).1
  rw [h.block i hlt (fun hx => ?_)]
  · exact hi
  · rcases hS i hx with h1 | ⟨cs, h1⟩
    · exact hb (by rw [h1])
    · unfold Blk at h1
      rw [hi] at h1
      injection h1 with h1
      exact ho cs (0, 0) h1

theorem filled {G L n : Nat} {cells : Array Value} {l m : List UInt8} {w : World} (hg : Blk w G 5 cells) (htk : cells.toList.take L = Lib.byteCells l) :
    Blk (w.setRow G (cells.toList.take L ++ Lib.byteCells m ++ cells.toList.drop (L + n)).toArray) G 5 (Lib.byteCells (l ++ m) ++ cells.toList.drop (L + n)).toArray := by
  rw [htk, ← Lib.byteCells_append]
  exact setRow_heap _ _ _ _ _ _ hg

theorem grow_any (b n : Nat) (l : List UInt8) (w : World) (h : (l = [] ∧ BufN b w) ∨ ∃ g cap sp, BufR b g cap l sp w ∧ cap < l.length + n) (hn : 1 ≤ n) (hlim : l.length + n ≤ 140737488355328) :
    Calls Tryz.prog 154 #[.pointer (some ⟨b, 0, none⟩), .int .i64 (n : Int)] w fun e w' => e = .returned (.int .i64 (l.length : Int)) ∧ ∃ (cap2 : Nat) (cells : Array Value), (∃ lr : Int, Blk w' b 51 #[.slice (some ⟨w.heap.size, 0, none⟩) (l.length + n) cap2, .int .i64 0, .int .i8 lr]) ∧ Blk w' w.heap.size 5 cells ∧ cells.size = cap2 ∧ cells.toList.take l.length = Lib.byteCells l ∧ l.length + n ≤ cap2 ∧ cap2 ≤ maxLen ∧ Off [b] w w' := by
  rcases h with ⟨rfl, h⟩ | ⟨g, cap, sp, h, hroom⟩
  · rcases Nat.lt_or_ge 64 n with h64 | h64
    · refine (grow_big b n w h h64 (by simpa using hlim)).mono ?_
      rintro e w' ⟨rfl, cap, cells, hb, hg, h1, h2, h3, h4⟩
      exact ⟨rfl, cap, cells, by simpa using hb, hg, h1, by simp [Lib.byteCells], by simpa using h2, h3, h4⟩
    · refine (grow_small b n w h hn h64).mono ?_
      rintro e w' ⟨rfl, hb, hg, h4⟩
      exact ⟨rfl, 64, _, by simpa using hb, hg, by simp [zeroBytes_length], by simp [Lib.byteCells], by simpa using h64, by unfold maxLen; omega, h4⟩
  · exact grow_row b g cap n l sp w h hroom hlim (by omega)

set_option maxRecDepth 100000 in
set_option maxHeartbeats 4000000 in
theorem bufWrite_grow (b g o n c : Nat) (l m : List UInt8) (w : World) (h : (l = [] ∧ BufN b w) ∨ ∃ g cap sp, BufR b g cap l sp w ∧ cap < l.length + n) (hs : Seg w g o m) (hml : m.length = n) (hn : 1 ≤ n) (hgb : g ≠ b) (hlim : l.length + n ≤ 140737488355328) :
    Calls Tryz.prog 150 #[.pointer (some ⟨b, 0, none⟩), .slice (some ⟨g, o, none⟩) n c] w fun e w' => e = .returned (.tuple #[.int .i64 n, .nilIface]) ∧ (∃ cap sp, BufR b w.heap.size cap (l ++ m) sp w') ∧ Off [b] w w' := by
  obtain ⟨L, hL⟩ : ∃ L, L = l.length := ⟨_, rfl⟩
  have hc : ∃ (ao : Option Addr) (cap0 : Nat) (lr : Int), Blk w b 51 #[.slice ao L cap0, .int .i64 0, .int .i8 lr] ∧ L ≤ cap0 ∧ cap0 ≤ maxLen ∧ cap0 - L < n := by
    rcases h with ⟨rfl, lr, hb⟩ | ⟨g, cap, sp, ⟨⟨lr, hb⟩, _, _, h4, h5⟩, h6⟩
    · exact ⟨none, 0, lr, by rw [hL]; exact hb, by rw [hL]; exact Nat.le_refl _, by unfold maxLen; omega, by omega⟩
    · exact ⟨_, cap, lr, by rw [hL]; exact hb, by omega, h5, by omega⟩
  obtain ⟨ao, cap0, lr, hb, hlc, hcm, hno⟩ := hc
  have hbl := hb.lt
  have hsz1 : (w.setCell ⟨b, 2, none⟩ (.int .i8 0)).heap.size = w.heap.size := by simp [World.setCell]
  have h' : (l = [] ∧ BufN b (w.setCell ⟨b, 2, none⟩ (.int .i8 0))) ∨ ∃ g cap sp, BufR b g cap l sp (w.setCell ⟨b, 2, none⟩ (.int .i8 0)) ∧ cap < l.length + n := by
    rcases h with ⟨h0, lr, hb⟩ | ⟨g, cap, sp, ⟨⟨lr, hb⟩, h2, h3, h4, h5⟩, h6⟩
    · exact Or.inl ⟨h0, 0, hb.set_ 2 _⟩
    · exact Or.inr ⟨g, cap, sp, ⟨⟨0, hb.set_ 2 _⟩, h2, h3.far (p := ⟨b, 2, none⟩) h2 _, h4, h5⟩, h6⟩
  have HGR := Lib.hid (grow_any b n l _ h' hn hlim)
  rw [← hL, hsz1] at HGR
  have hb1 : Blk (w.setCell ⟨b, 2, none⟩ (.int .i8 0)) b 51 #[.slice ao L cap0, .int .i64 0, .int .i8 0] := hb.set_ 2 _
  have c0 : (w.setCell ⟨b, 2, none⟩ (.int .i8 0)).cell? ⟨b, 0, none⟩ = some (.slice ao L cap0) := hb1.cell 0
  have c2 : w.cell? ⟨b, 2, none⟩ = some (.int .i8 lr) := hb.cell 2
  have f2 := hb.frozen 2
  have hO1 : Off [b] w (w.setCell ⟨b, 2, none⟩ (.int .i8 0)) := (Off.refl [b] w).setCell (p := ⟨b, 2, none⟩) (by simp) _
  have HT := Lib.hid (Tryz.Buffer_tryGrow_none b ao L cap0 n _ c0 hlc hcm hno)
  have HS := Lib.hid hs
  have HML := Lib.hid hml
  have HO1 := Lib.hid hO1
  have HL := Lib.hid hL
  rw [← hL] at hlim
  clear h h' hs hml hO1 hL hb hb1 c0 hsz1 hlc hcm hno
  go_enter Tryz.func150, Tryz.ntmps150
  go_wp2_with (go_at_call 153; refine HT.out.mono ?_; rintro e w' ⟨rfl, rfl⟩)
  refine HGR.out.mono ?_
  rintro e W2 ⟨rfl, CAP, cells, ⟨lr2, hb2⟩, hg2, hcsz, htk, hc2, hcm2, hO2⟩
  have hS2 : Seg W2 g o m := (HS.out.off HO1.out (ni1 hgb)).off hO2 (ni1 hgb)
  have hcp := run_copy_row (P := Tryz.prog) W2 47 47 3 5 w.heap.size L n (CAP - L) ⟨g, o, none⟩ n c cells 5 (Lib.byteCells m) Tryz.underlying47 Tryz.sizeByte hg2 (by rw [Lib.byteCells_length, HML.out]; exact (Nat.min_self n).symm) hS2.cells (by rw [Lib.byteCells_length, HML.out]; omega) (fun v hv => Lib.byteCells_one m v hv)
  rw [Lib.byteCells_length, HML.out] at hcp
  have d0 : W2.cell? ⟨b, 0, none⟩ = some (.slice (some ⟨w.heap.size, 0, none⟩) (L + n) CAP) := hb2.cell 0
  have hne : ¬ CAP = L := by omega
  have hcm' := hcm2
  unfold maxLen at hcm'
  have HB2 := Lib.hid hb2
  have HG2 := Lib.hid hg2
  have HO2 := Lib.hid hO2
  have HTK := Lib.hid htk
  clear hb2 hg2 hO2 htk hS2
  go_wp2_with fail
  go_ret2
  have hO3 := off_setRow HG2.out (cells.toList.take L ++ Lib.byteCells m ++ cells.toList.drop (L + n)).toArray
  have hfl := filled (m := m) (n := n) HG2.out HTK.out
  rw [List.append_assoc] at hO3 hfl
  refine ⟨rfl, ⟨CAP, cells.toList.drop (L + n), ⟨lr2, ?_⟩, by omega, ?_, ?_, hcm2⟩, (HO1.out.then HO2.out (fun x hx => Or.inl hx)).then hO3 (fun x hx => by simp at hx; right; omega)⟩
  · have := hO3.blk HB2.out (ni1 (by omega))
    rw [List.length_append, HML.out, ← HL.out]
    exact this
  · exact hfl
  · rw [List.length_drop, Array.length_toList, List.length_append, HML.out, ← HL.out]; omega

set_option maxRecDepth 100000 in
set_option maxHeartbeats 4000000 in
theorem bufWrite_room (b g0 cap g o n c : Nat) (l m : List UInt8) (sp : List Value) (w : World) (h : BufR b g0 cap l sp w) (hs : Seg w g o m) (hml : m.length = n) (hn : 1 ≤ n) (hgb : g ≠ b) (hroom : l.length + n ≤ cap) :
    Calls Tryz.prog 150 #[.pointer (some ⟨b, 0, none⟩), .slice (some ⟨g, o, none⟩) n c] w fun e w' => e = .returned (.tuple #[.int .i64 n, .nilIface]) ∧ (∃ sp, BufR b g0 cap (l ++ m) sp w') ∧ Off [b, g0] w w' := by
  obtain ⟨L, hL⟩ : ∃ L, L = l.length := ⟨_, rfl⟩
  obtain ⟨⟨lr, hb⟩, hgb0, hg, hsp, hcm⟩ := h
  rw [← hL] at hb hsp hroom
  have hb2 : Blk ((w.setCell ⟨b, 2, none⟩ (.int .i8 0)).setCell ⟨b, 0, none⟩ (.slice (some ⟨g0, 0, none⟩) (L + n) cap)) b 51 #[.slice (some ⟨g0, 0, none⟩) (L + n) cap, .int .i64 0, .int .i8 0] := (hb.set_ 2 _).set_ 0 _
  have hg2 : Blk ((w.setCell ⟨b, 2, none⟩ (.int .i8 0)).setCell ⟨b, 0, none⟩ (.slice (some ⟨g0, 0, none⟩) (L + n) cap)) g0 5 (Lib.byteCells l ++ sp).toArray := (hg.far (p := ⟨b, 2, none⟩) hgb0 _).far (p := ⟨b, 0, none⟩) hgb0 _
  have hO2 : Off [b] w ((w.setCell ⟨b, 2, none⟩ (.int .i8 0)).setCell ⟨b, 0, none⟩ (.slice (some ⟨g0, 0, none⟩) (L + n) cap)) := ((Off.refl [b] w).setCell (p := ⟨b, 2, none⟩) (by simp) _).setCell (p := ⟨b, 0, none⟩) (by simp) _
  have hb1 : Blk (w.setCell ⟨b, 2, none⟩ (.int .i8 0)) b 51 #[.slice (some ⟨g0, 0, none⟩) L cap, .int .i64 0, .int .i8 0] := hb.set_ 2 _
  have c0 : (w.setCell ⟨b, 2, none⟩ (.int .i8 0)).cell? ⟨b, 0, none⟩ = some (.slice (some ⟨g0, 0, none⟩) L cap) := hb1.cell 0
  have c2 : w.cell? ⟨b, 2, none⟩ = some (.int .i8 lr) := hb.cell 2
  have f2 := hb.frozen 2
  have HT := Lib.hid (Tryz.Buffer_tryGrow_room b (some ⟨g0, 0, none⟩) L cap n _ c0 (hb1.frozen 0) (by omega) hcm (by omega))
  obtain ⟨W2, hW2⟩ : ∃ W2, W2 = (w.setCell ⟨b, 2, none⟩ (.int .i8 0)).setCell ⟨b, 0, none⟩ (.slice (some ⟨g0, 0, none⟩) (L + n) cap) := ⟨_, rfl⟩
  rw [← hW2] at HT hb2 hg2 hO2
  obtain ⟨cells, hcells⟩ : ∃ cells, cells = (Lib.byteCells l ++ sp).toArray := ⟨_, rfl⟩
  rw [← hcells] at hg2
  have hcsz : cells.size = cap := by rw [hcells]; simp [Lib.byteCells_length]; omega
  have htk : cells.toList.take L = Lib.byteCells l := by rw [hcells, hL]; exact List.take_left' (Lib.byteCells_length l)
  have hS2 : Seg W2 g o m := hs.off hO2 (ni1 hgb)
  have hcp := run_copy_row (P := Tryz.prog) W2 47 47 3 5 g0 L n (cap - L) ⟨g, o, none⟩ n c cells 5 (Lib.byteCells m) Tryz.underlying47 Tryz.sizeByte hg2 (by rw [Lib.byteCells_length, hml]; exact (Nat.min_self n).symm) hS2.cells (by rw [Lib.byteCells_length, hml]; omega) (fun v hv => Lib.byteCells_one m v hv)
  rw [Lib.byteCells_length, hml] at hcp
  have d0 : W2.cell? ⟨b, 0, none⟩ = some (.slice (some ⟨g0, 0, none⟩) (L + n) cap) := hb2.cell 0
  have hne : ¬ cap = L := by omega
  have hcm' := hcm
  unfold maxLen at hcm'
  have HB2 := Lib.hid hb2
  have HG2 := Lib.hid hg2
  have HO2 := Lib.hid hO2
  have HTK := Lib.hid htk
  have HML := Lib.hid hml
  have HL := Lib.hid hL
  clear hb hg hb1 c0 hb2 hg2 hO2 htk hS2 hs hml hL hcells hW2
  go_enter Tryz.func150, Tryz.ntmps150
  go_wp2_with (go_at_call 153; refine HT.out.mono ?_; rintro e w' ⟨rfl, rfl⟩)
  go_ret2
  have hO3 := off_setRow HG2.out (cells.toList.take L ++ Lib.byteCells m ++ cells.toList.drop (L + n)).toArray
  have hfl := filled (m := m) (n := n) HG2.out HTK.out
  rw [List.append_assoc] at hO3 hfl
  refine ⟨rfl, ⟨cells.toList.drop (L + n), ⟨0, ?_⟩, hgb0, ?_, ?_, hcm⟩, (HO2.out.mono (S' := [b, g0]) (fun x hx => by simp at hx; simp [hx])).then hO3 (fun x hx => by simp at hx; simp [hx])⟩
  · have := hO3.blk HB2.out (ni1 (Ne.symm hgb0))
    rw [List.length_append, HML.out, ← HL.out]
    exact this
  · exact hfl
  · rw [List.length_drop, Array.length_toList, List.length_append, HML.out, ← HL.out]; omega

set_option maxRecDepth 100000 in
set_option maxHeartbeats 4000000 in
theorem bufWrite_none (b g0 cap c : Nat) (ad : Option Addr) (l : List UInt8) (sp : List Value) (w : World) (h : BufR b g0 cap l sp w) :
    Calls Tryz.prog 150 #[.pointer (some ⟨b, 0, none⟩), .slice ad 0 c] w fun e w' => e = .returned (.tuple #[.int .i64 0, .nilIface]) ∧ BufR b g0 cap l sp w' ∧ Off [b] w w' := by
  obtain ⟨L, hL⟩ : ∃ L, L = l.length := ⟨_, rfl⟩
  obtain ⟨⟨lr, hb⟩, hgb0, hg, hsp, hcm⟩ := h
  rw [← hL] at hb hsp
  have hb2 : Blk ((w.setCell ⟨b, 2, none⟩ (.int .i8 0)).setCell ⟨b, 0, none⟩ (.slice (some ⟨g0, 0, none⟩) (L + 0) cap)) b 51 #[.slice (some ⟨g0, 0, none⟩) (L + 0) cap, .int .i64 0, .int .i8 0] := (hb.set_ 2 _).set_ 0 _
  have hg2 : Blk ((w.setCell ⟨b, 2, none⟩ (.int .i8 0)).setCell ⟨b, 0, none⟩ (.slice (some ⟨g0, 0, none⟩) (L + 0) cap)) g0 5 (Lib.byteCells l ++ sp).toArray := (hg.far (p := ⟨b, 2, none⟩) hgb0 _).far (p := ⟨b, 0, none⟩) hgb0 _
  have hO2 : Off [b] w ((w.setCell ⟨b, 2, none⟩ (.int .i8 0)).setCell ⟨b, 0, none⟩ (.slice (some ⟨g0, 0, none⟩) (L + 0) cap)) := ((Off.refl [b] w).setCell (p := ⟨b, 2, none⟩) (by simp) _).setCell (p := ⟨b, 0, none⟩) (by simp) _
  have hb1 : Blk (w.setCell ⟨b, 2, none⟩ (.int .i8 0)) b 51 #[.slice (some ⟨g0, 0, none⟩) L cap, .int .i64 0, .int .i8 0] := hb.set_ 2 _
  have c0 : (w.setCell ⟨b, 2, none⟩ (.int .i8 0)).cell? ⟨b, 0, none⟩ = some (.slice (some ⟨g0, 0, none⟩) L cap) := hb1.cell 0
  have c2 : w.cell? ⟨b, 2, none⟩ = some (.int .i8 lr) := hb.cell 2
  have f2 := hb.frozen 2
  have HT := Lib.hid (Tryz.Buffer_tryGrow_room b (some ⟨g0, 0, none⟩) L cap 0 _ c0 (hb1.frozen 0) (by omega) hcm (by omega))
  have hce : ∀ d dLen dCap W, (Builtin.copy_ #[47, 47] 3 #[.slice d dLen dCap, .slice ad 0 c]).run Tryz.prog W = .ok (goInt 0) W := fun d dLen dCap W => run_copy_none W 47 47 3 5 d ad dLen dCap 0 c Tryz.underlying47 Tryz.sizeByte (by simp)
  rw [Nat.add_zero] at HT hb2 hg2 hO2
  obtain ⟨W2, hW2⟩ : ∃ W2, W2 = (w.setCell ⟨b, 2, none⟩ (.int .i8 0)).setCell ⟨b, 0, none⟩ (.slice (some ⟨g0, 0, none⟩) L cap) := ⟨_, rfl⟩
  rw [← hW2] at HT hb2 hg2 hO2
  have d0 : W2.cell? ⟨b, 0, none⟩ = some (.slice (some ⟨g0, 0, none⟩) L cap) := hb2.cell 0
  have hlc : L ≤ cap := by omega
  have hcm' := hcm
  unfold maxLen at hcm'
  have HB2 := Lib.hid hb2
  have HG2 := Lib.hid hg2
  have HO2 := Lib.hid hO2
  have HL := Lib.hid hL
  clear hb hg hb1 c0 hb2 hg2 hO2 hL hW2
  have hcalls : Calls Tryz.prog 150 #[.pointer (some ⟨b, 0, none⟩), .slice ad 0 c] w fun e w' => e = .returned (.tuple #[.int .i64 0, .nilIface]) ∧ w' = W2 := by
    go_enter Tryz.func150, Tryz.ntmps150
    go_wp2_with (go_at_call 153; refine HT.out.mono ?_; rintro e w' ⟨rfl, rfl⟩)
    all_goals go_ret2
    all_goals exact ⟨rfl, rfl⟩
  refine hcalls.mono ?_
  rintro e w' ⟨rfl, rfl⟩
  exact ⟨rfl, ⟨⟨0, by rw [← HL.out]; exact HB2.out⟩, hgb0, HG2.out, by rw [← HL.out]; exact hsp, hcm⟩, HO2.out⟩

/-- (*bytes.Buffer).Write. -/
theorem bufWrite_lo (b lo g o n c : Nat) (l m : List UInt8) (w : World) (h : BufW b lo l w) (hlo : lo ≤ w.heap.size) (hs : Seg w g o m) (hml : m.length = n) (hn : 1 ≤ n ∨ l ≠ []) (hgb : g ≠ b) (hlim : l.length + n ≤ 140737488355328) :
    Calls Tryz.prog 150 #[.pointer (some ⟨b, 0, none⟩), .slice (some ⟨g, o, none⟩) n c] w fun e w' => e = .returned (.tuple #[.int .i64 n, .nilIface]) ∧ BufW b lo (l ++ m) w' ∧ LoK lo b w w' ∧ Lib.OthersKept 5 (some b) w w' := by
  have key : ∀ w', (∃ g cap sp, (lo ≤ g) ∧ BufR b g cap (l ++ m) sp w') → ∀ S, Off S w w' → (∀ x, x ∈ S → x = b ∨ (lo ≤ x ∧ ∃ cs, Blk w x 5 cs)) → BufW b lo (l ++ m) w' ∧ LoK lo b w w' ∧ Lib.OthersKept 5 (some b) w w' := by
    rintro w' ⟨g, cap, sp, h1, h2⟩ S hO hS
    exact ⟨Or.inr ⟨g, cap, sp, h1, h2⟩, LoK.ofOff hO hlo (fun x hx => (hS x hx).imp id (·.1)), kept_of_off hO (fun x hx => (hS x hx).imp id (·.2))⟩
  by_cases hn1 : 1 ≤ n
  · by_cases hroom : ∃ g cap sp, lo ≤ g ∧ BufR b g cap l sp w ∧ l.length + n ≤ cap
    · obtain ⟨g0, cap, sp, h1, h2, h3⟩ := hroom
      refine (bufWrite_room b g0 cap g o n c l m sp w h2 hs hml hn1 hgb h3).mono ?_
      rintro e w' ⟨rfl, ⟨sp2, h4⟩, h5⟩
      refine ⟨rfl, key w' ⟨g0, cap, sp2, h1, h4⟩ _ h5 (fun x hx => ?_)⟩
      simp at hx
      rcases hx with rfl | rfl
      · exact Or.inl rfl
      · exact Or.inr ⟨h1, _, h2.2.2.1⟩
    · refine (bufWrite_grow b g o n c l m w ?_ hs hml hn1 hgb hlim).mono ?_
      · rcases h with h | ⟨g0, cap, sp, h1, h2⟩
        · exact Or.inl h
        · refine Or.inr ⟨g0, cap, sp, h2, ?_⟩
          rcases Nat.lt_or_ge cap (l.length + n) with h3 | h3
          · exact h3
          · exact absurd ⟨g0, cap, sp, h1, h2, h3⟩ hroom
      · rintro e w' ⟨rfl, ⟨cap2, sp2, h4⟩, h5⟩
        exact ⟨rfl, key w' ⟨_, cap2, sp2, hlo, h4⟩ _ h5 (fun x hx => by simp at hx; exact Or.inl hx)⟩
  · obtain rfl : n = 0 := by omega
    obtain rfl : m = [] := List.eq_nil_of_length_eq_zero hml
    rcases h with ⟨h1, _⟩ | ⟨g0, cap, sp, h1, h2⟩
    · rcases hn with h3 | h3
      · omega
      · exact absurd h1 h3
    · refine (bufWrite_none b g0 cap c _ l sp w h2).mono ?_
      rintro e w' ⟨rfl, h4, h5⟩
      exact ⟨rfl, key w' ⟨g0, cap, sp, h1, by rw [List.append_nil]; exact h4⟩ _ h5 (fun x hx => by simp at hx; exact Or.inl hx)⟩
end Go.Proofs.YthmhnknkidkdlaaGreatDoor
