/- readerToScanner: Read and ReadByte over a bytes.Reader where bytes are left. -/
import Derived.Test.YtioabgenlaikaaaGreatDoorRd
namespace Go.Proofs.YtioabgenlaikaaaGreatDoor
open Go.RowKit

/-- Block T is a readerToScanner over the bytes.Reader R. -/
def TsC (w : World) (T R : Nat) (x y z : Int) : Prop := Blk w T 110 #[.iface 33 (.pointer (some ⟨R, 0, none⟩)), .int .u8 x, .int .u8 y, .int .u8 z]

/-- io.EOF is an error. -/
def Eof (w : World) : Prop := ∃ q, w.cell? ⟨3, 0, none⟩ = some (.iface 78 q)
theorem Eof.off {S : List Nat} {a b : World} (h : Eof a) (k : Off S a b) (hS : 3 ∉ S) : Eof b := by
  obtain ⟨q, hq⟩ := h
  exact ⟨q, (World.cell?_of_block (k.block _ (World.block_lt_of_cell? _ _ hq) hS)).trans hq⟩

theorem nil_eof (q : Value) (w : World) : (binOp .eql 30 .nilIface (.iface 78 q)).run Tryz.prog w = .ok (.bool false) w := by kernel_rfl
theorem nil_read (a : Addr) (w : World) : (nilAhead 289 33 (.pointer (some a)) "Read").run Tryz.prog w = .ok (some false) w := by kernel_rfl
theorem method_read (a : Addr) (w : World) : (method 289 33 (.pointer (some a)) "Read").run Tryz.prog w = .ok (102, .pointer (some a)) w := by kernel_rfl
theorem method_readByte (a : Addr) (w : World) : (method 289 33 (.pointer (some a)) "ReadByte").run Tryz.prog w = .ok (103, .pointer (some a)) w := by kernel_rfl

set_option maxRecDepth 100000 in
set_option maxHeartbeats 1000000 in
theorem tReadSelf (T R b n cap i : Nat) (p x y z : Int) (l : List UInt8) (w : World) (hn : n = l.length) (hT : TsC w T R x y z) (hy : (y == 1) = false) (hR : RdC w R b n cap i p) (hs : Seg w b 0 l) (hRb : R ≠ b) (hRT : R ≠ T) (hi : i < n) (hL : n ≤ 2147483700) (hcap : n ≤ cap) (c : Int) (hc : ((l[i]'(hn ▸ hi)).toNat : Int) = c)
    (hE : Eof w) (hET : 3 ≠ T) (hER : 3 ≠ R) :
    Calls Tryz.prog 121 #[.pointer (some ⟨T, 0, none⟩), .slice (some ⟨T, 3, none⟩) 1 1] w fun e w' => e = .returned (.tuple #[.int .i64 1, .nilIface]) ∧ TsC w' T R c 2 c ∧ RdC w' R b n cap (i + 1) (-1) ∧ Off [T, R] w w' := by
  have c0 := hT.cell 0
  have c1 := hT.cell 1
  have c2 := hT.cell 2
  have c3 := hT.cell 3
  simp at c0 c1 c2 c3
  have hk : (1 : Nat) = Nat.min (n - i) 1 := by show 1 = min (n - i) 1; omega
  have e1 : Lib.byteCells ((l.drop i).take 1) = [.int .u8 c] := by
    have : (l.drop i).take 1 = [l[i]'(hn ▸ hi)] := by rw [List.drop_eq_getElem_cons (hn ▸ hi)]; rfl
    rw [this, ← hc]; rfl
  have HC := Lib.hid (brRead R T 3 1 1 b n cap i 1 p l [.iface 33 (.pointer (some ⟨R, 0, none⟩)), .int .u8 x, .int .u8 y, .int .u8 z] 110 w hn hR hs hT hRb hRT hi hk (by omega) (by simp) hL hcap)
  rw [e1] at HC
  have hm1 := method_read
  have hm2 := nil_read
  have hq := nil_eof
  have HE := Lib.hid hE
  clear hT hR hs hn hk e1 hc hE
  go_enter Tryz.func121, Tryz.ntmps121
  go_wp2_with fail
  refine HC.out.mono ?_
  rintro e w1 ⟨rfl, hR1, hT1, hO1⟩
  have hE1 := HE.out.off hO1 (by simp; exact ⟨hER, hET⟩)
  obtain ⟨q, hq1⟩ := hE1
  have c0 := hT1.cell 0
  have c1 := hT1.cell 1
  have c2 := hT1.cell 2
  have c3 := hT1.cell 3
  have f1 := hT1.frozen 1
  have f2 := hT1.frozen 2
  simp [splice] at c0 c1 c2 c3
  have HR1 := Lib.hid hR1
  have HT1 := Lib.hid hT1
  have HO1 := Lib.hid hO1
  clear hR1 hT1 hO1
  go_wp2_with fail
  go_ret2
  exact ⟨rfl, (HT1.out.set_ 1 _).set_ 2 _, (HR1.out.far (p := ⟨T, 1, none⟩) hRT _).far (p := ⟨T, 2, none⟩) hRT _, ((HO1.out.mono (S' := [T, R]) (fun x h => by simp at h; rcases h with h | h <;> simp [h])).setCell (p := ⟨T, 1, none⟩) (by simp) _).setCell (p := ⟨T, 2, none⟩) (by simp) _⟩

set_option maxRecDepth 100000 in
set_option maxHeartbeats 1000000 in
theorem tRead (T R g o m dc b n cap i k : Nat) (p x y z : Int) (l : List UInt8) (cur : List Value) (t : TypeId) (w : World) (hn : n = l.length) (hT : TsC w T R x y z) (hy : (y == 1) = false) (hR : RdC w R b n cap i p) (hs : Seg w b 0 l) (hg : Blk w g t cur.toArray) (hRb : R ≠ b) (hRT : R ≠ T) (hRg : R ≠ g) (hTg : T ≠ g) (hi : i < n) (hk : k = Nat.min (n - i) m) (hk0 : 0 < k) (hfit : o + k ≤ cur.length) (hL : n ≤ 2147483700) (hcap : n ≤ cap)
    (hE : Eof w) (hET : 3 ≠ T) (hER : 3 ≠ R) (hEg : 3 ≠ g) :
    Calls Tryz.prog 121 #[.pointer (some ⟨T, 0, none⟩), .slice (some ⟨g, o, none⟩) m dc] w fun e w' => e = .returned (.tuple #[.int .i64 k, .nilIface]) ∧ (∃ x', TsC w' T R x' 2 z) ∧ RdC w' R b n cap (i + k) (-1) ∧ Blk w' g t (splice cur o (Lib.byteCells ((l.drop i).take k))).toArray ∧ Off [T, R, g] w w' := by
  have c0 := hT.cell 0
  have c1 := hT.cell 1
  have c2 := hT.cell 2
  have c3 := hT.cell 3
  simp at c0 c1 c2 c3
  have hkm : k ≤ m := by rw [hk]; exact Nat.min_le_right _ _
  have hkn : k ≤ n - i := by rw [hk]; exact Nat.min_le_left _ _
  have hkl : ((l.drop i).take k).length = k := by simp; omega
  have HC := Lib.hid (brRead R g o m dc b n cap i k p l cur t w hn hR hs hg hRb hRg hi hk hk0 hfit hL hcap)
  have hm1 := method_read
  have hm2 := nil_read
  have hq := nil_eof
  have HE := Lib.hid hE
  have HKL := Lib.hid hkl
  have HF := Lib.hid hfit
  have HT := Lib.hid hT
  have hw1 : IntKind.i64.wrap ((k : Int) - 1) = ((k - 1 : Nat) : Int) := by rw [IntKind.wrap_i64]; omega
  have hb1 : k - 1 < m := by omega
  clear hT hR hs hg hn hk hE hkl hfit
  go_enter Tryz.func121, Tryz.ntmps121
  go_wp2_with fail
  refine HC.out.mono ?_
  rintro e w1 ⟨rfl, hR1, hg1, hO1⟩
  have hE1 := HE.out.off hO1 (by simp; exact ⟨hER, hEg⟩)
  obtain ⟨q, hq1⟩ := hE1
  have hT1 := hO1.blk HT.out (by simp; exact ⟨fun e => hRT e.symm, hTg⟩)
  have k1 := hT1.cell 1
  have k2 := hT1.cell 2
  simp at k1 k2
  have f1 := hT1.frozen 1
  have f2 := hT1.frozen 2
  obtain ⟨v, hv⟩ : ∃ v : Int, w1.cell? ⟨g, o + (k - 1), none⟩ = some (.int .u8 v) := by
    refine ⟨(((l.drop i).take k)[k - 1]'(by rw [HKL.out]; omega)).toNat, ?_⟩
    rw [hg1.cell]
    have e1 : (cur.take o).length = o := by rw [List.length_take]; have := HF.out; omega
    simp only [splice, List.getElem?_toArray]
    rw [List.getElem?_append_right (by rw [e1]; omega), e1, List.getElem?_append_left (by rw [Lib.byteCells_length, HKL.out]; omega)]
    rw [show o + (k - 1) - o = k - 1 from by omega]
    have e2 : k - 1 < ((l.drop i).take k).length := by rw [HKL.out]; omega
    simp only [Lib.byteCells, List.getElem?_map, List.getElem?_eq_getElem e2]
    rfl
  have HR1 := Lib.hid hR1
  have HT1 := Lib.hid hT1
  have Hg1 := Lib.hid hg1
  have HO1 := Lib.hid hO1
  clear hR1 hT1 hg1 hO1 HC
  go_wp2_with fail
  go_ret2
  exact ⟨rfl, ⟨_, (HT1.out.set_ 1 _).set_ 2 _⟩, (HR1.out.far (p := ⟨T, 1, none⟩) hRT _).far (p := ⟨T, 2, none⟩) hRT _, (Hg1.out.far (p := ⟨T, 1, none⟩) (fun e => hTg e.symm) _).far (p := ⟨T, 2, none⟩) (fun e => hTg e.symm) _, ((HO1.out.mono (S' := [T, R, g]) (fun x h => by simp at h; rcases h with h | h <;> simp [h])).setCell (p := ⟨T, 1, none⟩) (by simp) _).setCell (p := ⟨T, 2, none⟩) (by simp) _⟩

set_option maxRecDepth 100000 in
set_option maxHeartbeats 1000000 in
theorem tReadByte (T R b n cap i : Nat) (p x y z : Int) (l : List UInt8) (w : World) (hn : n = l.length) (hT : TsC w T R x y z) (hy : (y == 1) = false) (hR : RdC w R b n cap i p) (hs : Seg w b 0 l) (hRb : R ≠ b) (hRT : R ≠ T) (hi : i < n) (hL : n ≤ 2147483700) (hcap : n ≤ cap) (c : Int) (hc : ((l[i]'(hn ▸ hi)).toNat : Int) = c)
    (hE : Eof w) (hET : 3 ≠ T) (hER : 3 ≠ R) :
    Calls Tryz.prog 122 #[.pointer (some ⟨T, 0, none⟩)] w fun e w' => e = .returned (.tuple #[.int .u8 c, .nilIface]) ∧ TsC w' T R c 2 c ∧ RdC w' R b n cap (i + 1) (-1) ∧ Off [T, R] w w' := by
  have HC := Lib.hid (tReadSelf T R b n cap i p x y z l w hn hT hy hR hs hRb hRT hi hL hcap c hc hE hET hER)
  have hq := nil_eof
  have HE := Lib.hid hE
  clear hT hR hs hn hE hc
  go_enter Tryz.func122, Tryz.ntmps122
  go_wp2_with fail
  refine HC.out.mono ?_
  rintro e w1 ⟨rfl, hT1, hR1, hO1⟩
  have hE1 := HE.out.off hO1 (by simp; exact ⟨hET, hER⟩)
  obtain ⟨q, hq1⟩ := hE1
  have c3 := hT1.cell 3
  simp at c3
  have HR1 := Lib.hid hR1
  have HT1 := Lib.hid hT1
  have HO1 := Lib.hid hO1
  clear hR1 hT1 hO1
  go_wp2_with fail
  go_ret2
  exact ⟨rfl, HT1.out, HR1.out, HO1.out⟩
end Go.Proofs.YtioabgenlaikaaaGreatDoor
