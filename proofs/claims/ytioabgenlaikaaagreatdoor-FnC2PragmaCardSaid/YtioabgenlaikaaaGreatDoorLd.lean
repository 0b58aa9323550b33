/- util.LdRead over a bytes.Reader: a length of one byte, and as many bytes behind it. -/
import Derived.Test.YtioabgenlaikaaaGreatDoorRn
import Derived.Stop.Asserts
namespace Go.Proofs.YtioabgenlaikaaaGreatDoor
open Go.RowKit

set_option maxRecDepth 100000 in
set_option maxHeartbeats 1000000 in
theorem readUvarint_one (R b n cap i : Nat) (p : Int) (l : List UInt8) (w : World) (hn : n = l.length) (hR : RdC w R b n cap i p) (hs : Seg w b 0 l) (hRb : R ≠ b) (hi : i < n) (hL : n ≤ 2147483700) (c : Nat) (hc : (l[i]'(hn ▸ hi)).toNat = c) (hc1 : c < 128) (hc0 : 0 < c) :
    Calls Tryz.prog 44 #[.iface 33 (.pointer (some ⟨R, 0, none⟩))] w fun e w' => e = .returned (.tuple #[.int .u64 c, .nilIface]) ∧ RdC w' R b n cap (i + 1) (-1) ∧ Off [R] w w' := by
  have HC := Lib.hid (brReadByte R b n cap i p l w hn hR hs hRb hi hL (c : Int) (by rw [hc]))
  have hm1 := method_readByte
  have hb1 : decide ((c : Int) < 128) = true := by simp; omega
  have hb2 : ((c : Int) == 0) = false := beq_eq_false_iff_ne.2 (by omega)
  clear hc hR hs hn
  go_enter Tryz.func44, Tryz.ntmps44
  go_wp2_with fail
  refine wp_loop_rounds 1 ?_
  rw [rounds_succ]
  go_wp2_with fail
  refine HC.out.mono ?_
  rintro e w1 ⟨rfl, h1, h2⟩
  have H1 := Lib.hid h1
  have H2 := Lib.hid h2
  clear h1 h2
  go_wp2_with fail
  go_ret2
  refine ⟨?_, H1.out, H2.out⟩
  have e : bits .or .u64 0 (c : Int) = (c : Int) := by
    have := u64_or_nat 0 c (by omega) (by omega)
    simpa using this
  simp [e]

set_option maxRecDepth 100000 in
set_option maxHeartbeats 1000000 in
theorem toByteReader_br (R : Nat) (w : World) :
    Calls Tryz.prog 45 #[.iface 33 (.pointer (some ⟨R, 0, none⟩))] w fun e w' => e = .returned (.iface 33 (.pointer (some ⟨R, 0, none⟩))) ∧ w = w' := by
  have hta : ∀ W, (Instr.typeAssert (.iface 33 (.pointer (some ⟨R, 0, none⟩))) 40 83 true).run Tryz.prog W = .ok (.tuple #[.iface 33 (.pointer (some ⟨R, 0, none⟩)), .bool true]) W := fun W => run_typeAssert_hasB Tryz.underlying83 (by kernel_rfl) _ _ W
  go_enter Tryz.func45, Tryz.ntmps45
  go_wp2_with fail
  go_ret
  exact ⟨rfl, rfl⟩

theorem neq_nil_nil (w : World) : (binOp .neq 30 .nilIface .nilIface).run Tryz.prog w = .ok (.bool false) w := by kernel_rfl

set_option maxRecDepth 100000 in
set_option maxHeartbeats 1000000 in
theorem ldReadSize_one (R b n cap i : Nat) (p : Int) (l : List UInt8) (w : World) (hn : n = l.length) (hR : RdC w R b n cap i p) (hs : Seg w b 0 l) (hRb : R ≠ b) (hi : i < n) (hL : n ≤ 2147483700) (c : Nat) (hc : (l[i]'(hn ▸ hi)).toNat = c) (hc1 : c < 128) (hc0 : 0 < c) (most : Nat) (hmost : c ≤ most) :
    Calls Tryz.prog 39 #[.iface 33 (.pointer (some ⟨R, 0, none⟩)), .bool false, .int .u64 most] w fun e w' => e = .returned (.tuple #[.int .u64 c, .nilIface]) ∧ RdC w' R b n cap (i + 1) (-1) ∧ Off [R] w w' := by
  have HC := Lib.hid (readUvarint_one R b n cap i p l w hn hR hs hRb hi hL c hc hc1 hc0)
  have hb2 : ((c : Int) == 0) = false := beq_eq_false_iff_ne.2 (by omega)
  have hb3 : decide ((most : Int) < (c : Int)) = false := by simp; omega
  clear hc hR hs hn
  go_enter Tryz.func39, Tryz.ntmps39
  go_wp2_with fail
  refine (toByteReader_br R w).mono ?_
  rintro e w1 ⟨rfl, rfl⟩
  go_wp2_with fail
  refine HC.out.mono ?_
  rintro e w1 ⟨rfl, h1, h2⟩
  have H1 := Lib.hid h1
  have H2 := Lib.hid h2
  clear h1 h2
  go_wp2_with fail
  go_ret2
  exact ⟨rfl, H1.out, H2.out⟩

/-- util.LdRead: a length of one byte, as many bytes behind it: they come back in a row of their own. -/
theorem ldRead_one (R b n cap i : Nat) (p : Int) (l : List UInt8) (w : World) (hn : n = l.length) (hR : RdC w R b n cap i p) (hs : Seg w b 0 l) (hRb : R ≠ b) (hi : i < n) (hL : n ≤ 2147483700) (hcap : n ≤ cap) (c : Nat) (hc : (l[i]'(hn ▸ hi)).toNat = c) (hc1 : c < 128) (hc0 : 0 < c) (hin : i + 1 + c ≤ n) (most : Nat) (hmost : c ≤ most) :
    Calls Tryz.prog 24 #[.iface 33 (.pointer (some ⟨R, 0, none⟩)), .bool false, .int .u64 most] w fun e w' => ∃ g, w.heap.size ≤ g ∧ e = .returned (.tuple #[.slice (some ⟨g, 0, none⟩) c c, .nilIface]) ∧ Blk w' g 5 (Lib.byteCells ((l.drop (i + 1)).take c)).toArray ∧ RdC w' R b n cap (i + 1 + c) (-1) ∧ Off [R] w w' := by
  obtain ⟨i0, hi0, hz0, hz1, hz2⟩ := info_parts Tryz.infoByte
  have hmk := fun W => run_makeBytes (P := Tryz.prog) Tryz.underlying35 hi0 hz0 hz1 hz2 c (by omega) W .u64
  have HC := Lib.hid (ldReadSize_one R b n cap i p l w hn hR hs hRb hi hL c hc hc1 hc0 most hmost)
  have HSEG := Lib.hid hs
  have HN := Lib.hid hn
  have hRlt := Blk.lt hR
  have hblt : b < w.heap.size := hs.lt (by omega)
  have HD := Lib.hid (fun W g (hg : g ≠ R) (h1 : RdC W R b n cap (i + 1) (-1)) (h2 : Seg W b 0 l) (h3 : Blk W g 5 (zeroBytes c).toArray) => readFull_br R g b c n cap (i + 1) (-1) l (zeroBytes c) 5 W hn h1 h2 h3 hRb (fun e => hg e.symm) hc0 (by omega) (zeroBytes_length c) hL hcap)
  clear hc hR hs hn
  go_enter Tryz.func24, Tryz.ntmps24
  go_wp2_with fail
  refine HC.out.mono ?_
  rintro e w1 ⟨rfl, h1, h2⟩
  have H1 := Lib.hid h1
  have H2 := Lib.hid h2
  have hsz := h2.size
  clear h1 h2
  go_wp2_with fail
  have hR2 : RdC (w1.alloc (.cells (zeroBytes c).toArray 5)) R b n cap (i + 1) (-1) := Blk.alloc H1.out _
  have hS2 : Seg (w1.alloc (.cells (zeroBytes c).toArray 5)) b 0 l := (H2.out.seg HSEG.out (by simp; exact fun e => hRb e.symm)).alloc (by omega) _
  refine (HD.out (w1.alloc (.cells (zeroBytes c).toArray 5)) w1.heap.size (by omega) hR2 hS2 (Blk.new w1 _ _)).mono ?_
  rintro e w2 ⟨rfl, h1, h2, h3⟩
  have K1 := Lib.hid h1
  have K2 := Lib.hid h2
  have K3 := Lib.hid h3
  clear h1 h2 h3 hR2 hS2
  go_wp2_with fail
  go_ret2
  exact ⟨_, hsz, rfl, K2.out, K1.out, (H2.out.alloc (.cells (zeroBytes c).toArray 5)).then K3.out (fun x h => by simp at h; rcases h with h | h <;> simp [h]; exact Or.inr hsz)⟩
end Go.Proofs.YtioabgenlaikaaaGreatDoor
