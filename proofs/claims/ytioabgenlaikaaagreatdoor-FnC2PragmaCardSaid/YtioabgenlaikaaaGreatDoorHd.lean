/- carv1.ReadHeader and car.ReadVersion over a file that begins with the pragma. -/
import Derived.Test.YtioabgenlaikaaaGreatDoorCb6
import Derived.Test.YtioabgenlaikaaaGreatDoorLd
import Derived.Test.YtioabgenlaikaaaGreatDoorApp
namespace Go.Proofs.YtioabgenlaikaaaGreatDoor
open Go.RowKit

theorem carHeader_zero : Tryz.prog.built 50 [] = some #[.slice none 0 0, .int .u64 0] := by kernel_rfl
theorem opt_all : (optCells 1025 2048).all (·.oneCell') = true := by kernel_rfl
theorem opt_info : (Tryz.prog.info? 43).map (·.size) = some (optCells 1025 2048).size := by kernel_rfl

set_option maxRecDepth 100000 in
set_option maxHeartbeats 1000000 in
theorem readHeader_ok (R b n cap : Nat) (p : Int) (l : List UInt8) (w : World) (hn : n = l.length) (hR : RdC w R b n cap 0 p) (hs : Seg w b 0 l) (hRb : R ≠ b) (hL : n ≤ 2147483700) (hcap : n ≤ cap) (h11 : 11 ≤ n) (h0 : (l[0]'(by omega)).toNat = 10) (hm : (l.drop (0 + 1)).take 10 = mapBytes) (hE : Eof w) (hER : 3 < R) (most : Nat) (hmost : 10 ≤ most) :
    Calls Tryz.prog 11 #[.iface 33 (.pointer (some ⟨R, 0, none⟩)), .int .u64 most] w fun e w' => ∃ H, e = .returned (.tuple #[.pointer (some ⟨H, 0, none⟩), .nilIface]) ∧ Blk w' H 50 #[.slice none 0 0, .int .u64 2] ∧ Off [R] w w' := by
  have hRl := Blk.lt hR
  have hEl : 3 < w.heap.size := by obtain ⟨q, hq⟩ := hE; exact World.block_lt_of_cell? _ _ hq
  have HC := Lib.hid (ldRead_one R b n cap 0 p l w hn hR hs hRb (by omega) hL hcap 10 h0 (by omega) (by omega) (by omega) most hmost)
  rw [hm] at HC
  have HE := Lib.hid hE
  clear hR hs hm h0 hn hE
  go_enter Tryz.func11, Tryz.ntmps11
  go_wp2_with fail
  refine HC.out.mono ?_
  rintro e w1 ⟨g, hg, rfl, hB1, hR1, hO1⟩
  have hgl := hB1.lt
  have HB1 := Lib.hid hB1
  have HO1 := Lib.hid hO1
  have hz1 := hO1.size
  have HZ := Lib.hid (zzDecode_pragma g w1.heap.size 10 (.slice none 0 0) (w1.alloc (.cells #[.slice none 0 0, .int .u64 0] 50)) ((Blk.seg' hB1).alloc hgl _) (Blk.new w1 _ _) ((HE.out.off hO1 (ni1 (by omega))).off (S := []) ((Off.refl [] w1).alloc _) (by simp)) (by omega) (by omega) (by omega) (by omega))
  clear hB1 hR1 hO1
  go_wp2_with fail
  refine HZ.out.mono ?_
  rintro e w2 ⟨rfl, hH2, hO2⟩
  have HH2 := Lib.hid hH2
  have HO2 := Lib.hid hO2
  clear hH2 hO2
  go_wp2_with fail
  go_ret2
  exact ⟨_, rfl, HH2.out, (HO1.out.alloc _).then HO2.out (fun x h => by simp at h; right; omega)⟩

def zeroOpts : Array Value := #[.int .u64 0, .int .u64 0, .int .u64 0, .bool false, .int .u64 0, .bool false, .bool false, .bool false, .int .u64 0, .bool false, .bool false, .int .u64 0, .int .u64 0]

set_option maxRecDepth 100000 in
set_option maxHeartbeats 4000000 in
theorem readVersion_ok (R b n cap g p1 p2 p3 p4 p5 p6 p7 p8 : Nat) (p : Int) (l : List UInt8) (w : World) (hn : n = l.length) (hR : RdC w R b n cap 0 p) (hs : Seg w b 0 l) (hRb : R ≠ b) (hL : n ≤ 2147483700) (hcap : n ≤ cap) (h11 : 11 ≤ n) (h0 : (l[0]'(by omega)).toNat = 10) (hm : (l.drop (0 + 1)).take 10 = mapBytes) (hE : Eof w) (hER : 3 < R) (ho : OptsAt w g p1 p2 p3 p4 p5 p6 p7 p8) :
    Calls Tryz.prog 6 #[.iface 33 (.pointer (some ⟨R, 0, none⟩)), .slice (some ⟨g, 0, none⟩) 8 8] w fun e w' => e = .returned (.tuple #[.int .u64 2, .nilIface]) ∧ Off [R] w w' := by
  have hRl := Blk.lt hR
  have hbl : b < w.heap.size := hs.lt (by omega)
  have HC := Lib.hid (applyOptions_none g p1 p2 p3 p4 p5 p6 p7 p8 w ho)
  have HR := Lib.hid hR
  have HS := Lib.hid hs
  have HE := Lib.hid hE
  have HH := Lib.hid (fun W (k1 : RdC W R b n cap 0 p) (k2 : Seg W b 0 l) (k3 : Eof W) => readHeader_ok R b n cap p l W hn k1 k2 hRb hL hcap h11 h0 hm k3 hER 33554432 (by omega))
  clear hR hs hm h0 hn hE ho
  go_enter Tryz.func6, Tryz.ntmps6
  go_wp2_with fail
  refine HC.out.mono ?_
  rintro e w1 ⟨rfl, hO1⟩
  have HO1 := Lib.hid hO1
  have hz1 := hO1.size
  clear hO1
  have hrow : Blk ((w1.alloc (.cells zeroOpts 43)).setRow w1.heap.size (optCells 1025 2048)) w1.heap.size 43 (optCells 1025 2048) := setRow_heap _ _ _ _ _ _ (Blk.new w1 _ zeroOpts)
  have hoff : Off [] w ((w1.alloc (.cells zeroOpts 43)).setRow w1.heap.size (optCells 1025 2048)) := (HO1.out.alloc (.cells zeroOpts 43)).then (off_setRow (Blk.new w1 _ zeroOpts) _) (fun x h => by simp at h; right; omega)
  have c11 : ((w1.alloc (.cells zeroOpts 43)).setRow w1.heap.size (optCells 1025 2048)).cell? ⟨w1.heap.size, 11, none⟩ = some (.int .u64 33554432) := hrow.cell 11
  have HH2 := Lib.hid (HH.out _ (hoff.blk HR.out (by simp)) (hoff.seg HS.out (by simp)) (HE.out.off hoff (by simp)))
  have HOF := Lib.hid hoff
  clear hrow hoff
  unfold zeroOpts at c11
  go_wp2_with (first | ((with_reducible show wpList _ _ _ _ _ _); refine wpList_store_row rfl 43 (.tmp 6) (.tmp 10) rfl w1.heap.size (optCells 1025 2048) rfl rfl 43 _ (Blk.new w1 _ _) opt_info rfl opt_all ?_))
  refine HH2.out.mono ?_
  rintro e w2 ⟨H, rfl, hH2, hO2⟩
  have q1 := hH2.cell 1
  simp at q1
  have HO2 := Lib.hid hO2
  clear hH2 hO2
  go_wp2_with fail
  go_ret2
  exact ⟨rfl, (HOF.out.trans HO2.out).mono (fun x h => by simp at h; simp [h])⟩
end Go.Proofs.YtioabgenlaikaaaGreatDoor
