/-
  Writing numbers into a bytes.Buffer that lay ahead.
  car.zzCopy from a bytes.Reader into a bytes.Buffer, to the end.
  car.Characteristics.WriteTo, car.Header.WriteTo into a bytes.Buffer that lay ahead.
  singleWidthIndex.Marshal into a bytes.Buffer that lay ahead.
  (No condition beyond those that each theorem states.)
-/
import Derived.Test.YthmhnknkidkdlaaGreatDoorB40
import Derived.Test.YthmhnknkidkdlaaGreatDoorB16
import Derived.Test.YthmhnknkidkdlaaGreatDoorB05
import Derived.Test.YthmhnknkidkdlaaGreatDoorB07
import Derived.Deep.RegionHeld3
import Derived.Test.YthmhnknkidkdlaaGreatDoorB08
namespace Go.Proofs.YthmhnknkidkdlaaGreatDoor
open Go.RowKit

/-- Block b, which lay there ahead, is a bytes.Buffer that holds l; all that was in w0 is as it was, but for the blocks in EX, which lie below B0. -/
structure WrG (EX : List Nat) (B0 b : Nat) (w0 : World) (l : List UInt8) (w : World) : Prop where
  mem : b ∈ EX
  low : ∀ x, x ∈ EX → x < B0
  buf : BufW b w0.heap.size l w
  off : Off EX w0 w
theorem BufW.off {b lo : Nat} {l : List UInt8} {w w' : World} {S : List Nat} (h : BufW b lo l w) (k : Off S w w') (hb : b ∉ S) (hS : ∀ x, x ∈ S → x < lo ∨ w.heap.size ≤ x) : BufW b lo l w' := by
  rcases h with ⟨h0, lr, h1⟩ | ⟨g, cap, sp, hlo, ⟨lr, h1⟩, h2, h3, h4⟩
  · exact Or.inl ⟨h0, lr, k.blk h1 hb⟩
  · exact Or.inr ⟨g, cap, sp, hlo, ⟨lr, k.blk h1 hb⟩, h2, k.blk h3 (fun hx => by have := h3.lt; rcases hS g hx with h | h <;> omega), h4⟩
theorem BufW.old {b lo : Nat} {l : List UInt8} {w w' : World} (h : BufW b lo l w) (k : Below w.heap.size w w') : BufW b lo l w' :=
  h.off (Off.ofBelow (S := []) k) (by simp) (fun x hx => by simp at hx)
theorem WrG.lt {EX : List Nat} {B0 b : Nat} {w0 w : World} {l : List UInt8} (h : WrG EX B0 b w0 l w) : b < w.heap.size := h.buf.lt
theorem WrG.old {EX : List Nat} {B0 b : Nat} {w0 w w' : World} {l : List UInt8} (h : WrG EX B0 b w0 l w) (k : Below w.heap.size w w') : WrG EX B0 b w0 l w' := ⟨h.mem, h.low, h.buf.old k, h.off.then (Off.ofBelow (S := []) k) (fun x hx => by simp at hx)⟩
theorem WrG.ofDrew {EX : List Nat} {B0 b : Nat} {w0 w w' : World} {l : List UInt8} (h : WrG EX B0 b w0 l w) (k : Drew w w') : WrG EX B0 b w0 l w' := h.old (k.below _)
theorem LoK.off {EX : List Nat} {b : Nat} {w0 w w' : World} (h : LoK w0.heap.size b w w') (k : Off EX w0 w) (hb : b ∈ EX) : Off EX w0 w' :=
  ⟨h.os.trans k.os, h.tape.trans k.tape, h.output.trans k.output, Nat.le_trans k.size h.size, fun i hi hn => (h.block i hi (fun e => hn (e ▸ hb))).trans (k.block i hi hn)⟩
theorem ne_mid {l : List UInt8} {n m : Nat} (h : 0 < n) : l ++ Lib.leBytes n m ≠ [] := fun e => by
  have := congrArg List.length e
  rw [List.length_append, Lib.leBytes_length] at this
  simp at this
  omega

theorem bufWrite_G {EX : List Nat} {B0 b : Nat} {w0 w : World} {l : List UInt8} (h : WrG EX B0 b w0 l w) (g o n c : Nat) (m : List UInt8) (hs : Seg w g o m) (hn : m.length = n) (hg : g ≠ b) (hn1 : 1 ≤ n ∨ l ≠ []) (hlim : l.length + n ≤ 140737488355328) :
    Calls Tryz.prog 150 #[.pointer (some ⟨b, 0, none⟩), .slice (some ⟨g, o, none⟩) n c] w fun e w' => e = .returned (.tuple #[.int .i64 n, .nilIface]) ∧ WrG EX B0 b w0 (l ++ m) w' ∧ Lib.OthersKept 5 (some b) w w' := by
  refine (bufWrite_lo b w0.heap.size g o n c l m w h.buf h.off.size hs hn hn1 hg hlim).mono ?_
  rintro e w' ⟨rfl, h1, h2, h3⟩
  exact ⟨rfl, ⟨h.mem, h.low, h1, h2.off h.off h.mem⟩, h3⟩

set_option maxRecDepth 100000 in
set_option maxHeartbeats 1000000 in
theorem zzWrite32_G {EX : List Nat} {B0 b : Nat} {w0 w : World} {l : List UInt8} (h : WrG EX B0 b w0 l w) (n : Nat) (hn : n < 4294967296) (hlim : l.length + 4 ≤ 140737488355328) :
    Calls Tryz.prog 174 #[.iface 57 (.pointer (some ⟨b, 0, none⟩)), .int .u32 (n : Int)] w fun e w' => e = .returned .nilIface ∧ WrG EX B0 b w0 (l ++ Lib.leBytes 4 n) w' ∧ Lib.OthersKept 5 (some b) w w' := by
  have hblt := h.lt
  have hP : ∀ W, Blk W w.heap.size 5 #[.int .u8 0, .int .u8 0, .int .u8 0, .int .u8 0] → Calls Tryz.prog 180 #[.agg #[], .slice (some ⟨w.heap.size, 0, none⟩) 4 4, .int .u32 (n : Int)] W fun e w' => e = .returned (.tuple #[]) ∧ Blk w' w.heap.size 5 (Lib.byteCells (Lib.leBytes 4 n)).toArray ∧ Off [w.heap.size] W w' := fun W hW =>
    (putLE32_blk w.heap.size 0 4 4 n 5 [] [.int .u8 0, .int .u8 0, .int .u8 0, .int .u8 0] [] hn W (by omega) rfl rfl hW).mono fun e w' ⟨h1, h2, h3⟩ => ⟨h1, by simpa using h2, h3⟩
  have hW : ∀ W, WrG EX B0 b w0 l W → Blk W w.heap.size 5 (Lib.byteCells (Lib.leBytes 4 n)).toArray → Calls Tryz.prog 150 #[.pointer (some ⟨b, 0, none⟩), .slice (some ⟨w.heap.size, 0, none⟩) 4 4] W fun e w' => e = .returned (.tuple #[.int .i64 4, .nilIface]) ∧ WrG EX B0 b w0 (l ++ Lib.leBytes 4 n) w' ∧ Lib.OthersKept 5 (some b) W w' := fun W h1 h2 =>
    bufWrite_G h1 w.heap.size 0 4 4 (Lib.leBytes 4 n) h2.seg' (by rw [Lib.leBytes_length]) (by omega) (Or.inl (by omega)) hlim
  have HP := Lib.hid hP
  have HW := Lib.hid hW
  have HH := Lib.hid h
  have hm := method_bufWrite
  clear hP hW h
  have hmk : ∀ W : World, (Instr.makeSlice 47 (.int .i64 4) (.int .i64 4)).run Tryz.prog W = .ok (.slice (some ⟨W.heap.size, 0, none⟩) 4 4) (W.alloc (.cells #[.int .u8 0, .int .u8 0, .int .u8 0, .int .u8 0] 5)) := run_makeB4
  go_enter Tryz.func174, Tryz.ntmps174
  go_wp2_with (first
    | (go_at_call 180; refine (HP.out _ (Blk.new' _ _ _ rfl)).mono ?_; rintro e w1 ⟨rfl, hB1, hO1⟩)
    | (go_at_call 150; refine (HW.out _ (HH.out.old (((Off.alloc (Off.refl [w.heap.size] w) _).then hO1 (fun x hx => Or.inl hx)).below (fun x hx => by simp at hx; omega))) hB1).mono ?_; rintro e w2 ⟨rfl, hR2, hK2⟩))
  go_ret
  exact ⟨rfl, hR2, (kept_of_below (((Off.alloc (Off.refl [w.heap.size] w) _).then hO1 (fun x hx => Or.inl hx)).below (fun x hx => by simp at hx; omega))).trans hK2⟩

set_option maxRecDepth 100000 in
set_option maxHeartbeats 1000000 in
theorem zzWrite64_G {EX : List Nat} {B0 b : Nat} {w0 w : World} {l : List UInt8} (h : WrG EX B0 b w0 l w) (n : Nat) (hn : n < 18446744073709551616) (hlim : l.length + 8 ≤ 140737488355328) :
    Calls Tryz.prog 182 #[.iface 57 (.pointer (some ⟨b, 0, none⟩)), .int .u64 (n : Int)] w fun e w' => e = .returned .nilIface ∧ WrG EX B0 b w0 (l ++ Lib.leBytes 8 n) w' ∧ Lib.OthersKept 5 (some b) w w' := by
  have hblt := h.lt
  have hP : ∀ W, Blk W w.heap.size 5 #[.int .u8 0, .int .u8 0, .int .u8 0, .int .u8 0, .int .u8 0, .int .u8 0, .int .u8 0, .int .u8 0] → Calls Tryz.prog 57 #[.agg #[], .slice (some ⟨w.heap.size, 0, none⟩) 8 8, .int .u64 (n : Int)] W fun e w' => e = .returned (.tuple #[]) ∧ Blk w' w.heap.size 5 (Lib.byteCells (Lib.leBytes 8 n)).toArray ∧ Off [w.heap.size] W w' := fun W hW =>
    (putLE64_blk w.heap.size 0 8 8 n 5 [] [.int .u8 0, .int .u8 0, .int .u8 0, .int .u8 0, .int .u8 0, .int .u8 0, .int .u8 0, .int .u8 0] [] hn W (by omega) rfl rfl hW).mono fun e w' ⟨h1, h2, h3⟩ => ⟨h1, by simpa using h2, h3⟩
  have hW : ∀ W, WrG EX B0 b w0 l W → Blk W w.heap.size 5 (Lib.byteCells (Lib.leBytes 8 n)).toArray → Calls Tryz.prog 150 #[.pointer (some ⟨b, 0, none⟩), .slice (some ⟨w.heap.size, 0, none⟩) 8 8] W fun e w' => e = .returned (.tuple #[.int .i64 8, .nilIface]) ∧ WrG EX B0 b w0 (l ++ Lib.leBytes 8 n) w' ∧ Lib.OthersKept 5 (some b) W w' := fun W h1 h2 =>
    bufWrite_G h1 w.heap.size 0 8 8 (Lib.leBytes 8 n) h2.seg' (by rw [Lib.leBytes_length]) (by omega) (Or.inl (by omega)) hlim
  have HP := Lib.hid hP
  have HW := Lib.hid hW
  have HH := Lib.hid h
  have hm := method_bufWrite
  clear hP hW h
  have hmk : ∀ W : World, (Instr.makeSlice 47 (.int .i64 8) (.int .i64 8)).run Tryz.prog W = .ok (.slice (some ⟨W.heap.size, 0, none⟩) 8 8) (W.alloc (.cells #[.int .u8 0, .int .u8 0, .int .u8 0, .int .u8 0, .int .u8 0, .int .u8 0, .int .u8 0, .int .u8 0] 5)) := run_makeB8
  go_enter Tryz.func182, Tryz.ntmps182
  go_wp2_with (first
    | (go_at_call 57; refine (HP.out _ (Blk.new' _ _ _ rfl)).mono ?_; rintro e w1 ⟨rfl, hB1, hO1⟩)
    | (go_at_call 150; refine (HW.out _ (HH.out.old (((Off.alloc (Off.refl [w.heap.size] w) _).then hO1 (fun x hx => Or.inl hx)).below (fun x hx => by simp at hx; omega))) hB1).mono ?_; rintro e w2 ⟨rfl, hR2, hK2⟩))
  go_ret
  exact ⟨rfl, hR2, (kept_of_below (((Off.alloc (Off.refl [w.heap.size] w) _).then hO1 (fun x hx => Or.inl hx)).below (fun x hx => by simp at hx; omega))).trans hK2⟩
end Go.Proofs.YthmhnknkidkdlaaGreatDoor
namespace Go.Proofs.YthmhnknkidkdlaaGreatDoor
open Go.RowKit

theorem BufW.off2 {b lo : Nat} {l : List UInt8} {w w' : World} {S : List Nat} (h : BufW b lo l w) (k : Off S w w') (hb : b ∉ S) (hS : ∀ g cs, Blk w g 5 cs → lo ≤ g → g ∉ S) : BufW b lo l w' := by
  rcases h with ⟨h0, lr, h1⟩ | ⟨g, cap, sp, hlo, ⟨lr, h1⟩, h2, h3, h4⟩
  · exact Or.inl ⟨h0, lr, k.blk h1 hb⟩
  · exact Or.inr ⟨g, cap, sp, hlo, ⟨lr, k.blk h1 hb⟩, h2, k.blk h3 (hS g _ h3 hlo), h4⟩
theorem RAt.keptB {EX : List Nat} {B0 b : Nat} {w0 w w' : World} {l' : List UInt8} {R rb cap i : Nat} {s : List UInt8} (h : RAt R rb cap s i w) (hW : WrG EX B0 b w0 l' w') (hK : Lib.OthersKept 5 (some b) w w') (hs : Seg w0 rb 0 s) (hrb : rb ∉ EX) (hRb : R ≠ b) : RAt R rb cap s i w' := by
  obtain ⟨p, hp⟩ := h.rd
  exact { h with rd := ⟨p, kept_blk hK hp hRb (by decide)⟩, seg := hs.off hW.off hrb }

theorem cpb_write {EX : List Nat} {B0 b : Nat} {w0 wr w1 : World} {l : List UInt8} (R rb cap i k A : Nat) (s : List UInt8) (cur : List Value) (hRE : R ∈ EX) (hRb : R ≠ b) (hs : Seg w0 rb 0 s) (hrb : rb ∉ EX) (hAb : A ≠ b) (hA0 : w0.heap.size ≤ A)
    (hW : WrG EX B0 b w0 (l ++ s.take i) wr) (hR0 : RAt R rb cap s i wr) (hcb : Blk wr A 148 cur.toArray) (hcl : cur.length = 512)
    (hk : i + k ≤ s.length) (hk1 : 1 ≤ k) (hk2 : k ≤ 512) (hlim : l.length + s.length ≤ 140737488355328)
    (hR1 : RAt R rb cap s (i + k) w1) (hC1 : Blk w1 A 148 (splice cur 0 (Lib.byteCells ((s.drop i).take k))).toArray) (hO1 : Off [R, A] wr w1) :
    ∀ W, Drew w1 W → Calls Tryz.prog 150 #[.pointer (some ⟨b, 0, none⟩), .slice (some ⟨A, 0, none⟩) k 512] W fun e w' => e = .returned (.tuple #[.int .i64 (k : Int), .nilIface]) ∧ WrG EX B0 b w0 (l ++ s.take (i + k)) w' ∧ RAt R rb cap s (i + k) w' ∧ (∃ cur : List Value, cur.length = 512 ∧ Blk w' A 148 cur.toArray) := by
  intro W hDW
  have hpl : ((s.drop i).take k).length = k := by rw [List.length_take, List.length_drop]; omega
  have hW1 : WrG EX B0 b w0 (l ++ s.take i) w1 := ⟨hW.mem, hW.low, hW.buf.off2 hO1 (ni2 (Ne.symm hRb) (Ne.symm hAb)) (fun g cs hg hlo hx => by
    simp at hx
    rcases hx with rfl | rfl
    · obtain ⟨q, hq⟩ := hR0.rd
      have hq' : wr.heap[g]? = _ := hq
      rw [show wr.heap[g]? = _ from hg] at hq'
      injection hq' with hq'
      injection hq' with _ hq' _
      exact absurd hq' (by decide)
    · have hq' : wr.heap[g]? = _ := hcb
      rw [show wr.heap[g]? = _ from hg] at hq'
      injection hq' with hq'
      injection hq' with _ hq' _
      exact absurd hq' (by decide)), hW.off.then hO1 (fun x hx => by simp at hx; rcases hx with rfl | rfl; exact Or.inl hRE; exact Or.inr hA0)⟩
  have hWW := hW1.ofDrew hDW
  have hOW : Off [] w1 W := Off.ofDrew hDW
  have hCW := hC1.off hOW (by simp)
  have hRW := hR1.off hOW (by simp) (by simp)
  have hseg : Seg W A 0 ((s.drop i).take k) := by
    have h1 := hCW
    rw [splice0] at h1
    exact Blk.seg h1
  refine (bufWrite_G hWW A 0 k 512 ((s.drop i).take k) hseg hpl hAb (Or.inl hk1) (by rw [List.length_append, List.length_take]; omega)).mono ?_
  rintro e w' ⟨rfl, h1, h2⟩
  have ht : l ++ s.take i ++ (s.drop i).take k = l ++ s.take (i + k) := by rw [List.append_assoc, ← List.take_add]
  rw [ht] at h1
  exact ⟨rfl, h1, hRW.keptB h1 h2 hs hrb hRb, _, by rw [splice0_length _ _ (by rw [hpl]; omega), hcl], kept_blk h2 hCW hAb (by decide)⟩

set_option maxRecDepth 100000 in
set_option maxHeartbeats 4000000 in
theorem zzCopy_buf {EX : List Nat} {B0 b : Nat} {w0 w : World} {l : List UInt8} (h : WrG EX B0 b w0 l w) (R rb cap : Nat) (s : List UInt8) (hR : RAt R rb cap s 0 w) (hRE : R ∈ EX) (hRb : R ≠ b) (hs : Seg w0 rb 0 s) (hrb : rb ∉ EX) (hrbb : rb < w.heap.size) (qe : Addr) (hE : EofA qe w0) (hEE : 1 ∉ EX) (hlim : l.length + s.length ≤ 140737488355328) :
    Calls Tryz.prog 31 #[.iface 57 (.pointer (some ⟨b, 0, none⟩)), .iface 55 (.pointer (some ⟨R, 0, none⟩)), .int .i64 (-1)] w fun e w' => e = .returned (.tuple #[.int .i64 (s.length : Int), .nilIface]) ∧ WrG EX B0 b w0 (l ++ s) w' := by
  obtain ⟨Z, hZs, hZ⟩ := zero512
  have hbl := h.lt
  have hRl := hR.lt
  have hsl := hR.len
  have hw0 := h.off.size
  have hm1 := method_read
  have hm2 := method_bufWrite
  have hm3 := nil_bufWrite
  have heq := eql_eof qe
  have HW := Lib.hid h
  have HR := Lib.hid hR
  have HS := Lib.hid hs
  have HE := Lib.hid hE
  clear h hR hs hE
  obtain ⟨A, hA⟩ : ∃ A, A = w.heap.size := ⟨_, rfl⟩
  obtain ⟨n, hn⟩ : ∃ n, n = s.length := ⟨_, rfl⟩
  rw [← hn] at hlim hsl ⊢
  have HN := Lib.hid hn
  clear hn
  go_enter Tryz.func31, Tryz.ntmps31
  go_wp2_with fail
  rw [← hA]
  have hAb : A ≠ b := by omega
  have hAR : A ≠ R := by omega
  have hArb : A ≠ rb := by omega
  have hA0 : w0.heap.size ≤ A := by omega
  have HA := Lib.hid hA
  clear hA
  go_loopg [10, 11] (n + 1) (fun kx s10 s11 wr => ∃ i : Nat, s10 = .int .i64 (i : Int) ∧ i ≤ n ∧ n - i ≤ kx ∧ Hid (WrG EX B0 b w0 (l ++ s.take i) wr) ∧ Hid (RAt R rb cap s i wr) ∧ Hid (∃ cur : List Value, cur.length = 512 ∧ Blk wr A 148 cur.toArray))
  case atStart =>
    have hal : Off [] w (w.alloc (.cells Z 148)) := (Off.refl [] w).alloc _
    refine ⟨0, rfl, Nat.zero_le _, by omega, Lib.hid ?_, Lib.hid ?_, Lib.hid ⟨Z.toList, by rw [Array.length_toList]; exact hZs, ?_⟩⟩
    · rw [List.take_zero, List.append_nil]
      exact HW.out.old (hal.below (fun x hx => by simp at hx))
    · exact HR.out.off hal (by simp) (by simp)
    · rw [Array.toArray_toList]; exact Blk.new' w _ _ HA.out
  case round =>
    rename World => wr
    obtain ⟨i, rfl, hin, hkx, HW1, HR1, HC1⟩ := hrel
    obtain ⟨cur, hcl, hcb⟩ := HC1.out
    by_cases hlt : i < n
    · obtain ⟨k, hk⟩ : ∃ k, k = Nat.min (s.length - i) 512 := ⟨_, rfl⟩
      have hk1 : 1 ≤ k := by rw [hk]; show 1 ≤ min _ _; have := HN.out; omega
      have hk2 : k ≤ 512 := by rw [hk]; exact Nat.min_le_right _ _
      have hk3 : i + k ≤ n := by have : k ≤ s.length - i := by rw [hk]; exact Nat.min_le_left _ _
                                 have := HN.out; omega
      have hRD := HR1.out.read_more A 0 512 512 k cur 148 hcb (Ne.symm hAR) (Ne.symm hArb) (by rw [← HN.out]; exact hlt) hk (by omega) (by omega)
      have HRD := Lib.hid hRD
      have hkp : (0 : Int) < (k : Int) := by omega
      have hk512 : (k : Int) ≤ 512 := by omega
      obtain ⟨t, ht⟩ : ∃ t, t = i + k := ⟨_, rfl⟩
      have hadd : (i : Int) + (k : Int) = (t : Int) := by omega
      have htn : t ≤ n := by omega
      have hti : i + 1 ≤ t := by omega
      have hnt := nil_eof (.pointer (some qe))
      have HT := Lib.hid ht
      clear hRD hk ht
      go_wp2_with (go_at_call 142; refine HRD.out.mono ?_; rintro e w1 ⟨rfl, hR1, hC1, hO1⟩; have HRR := Lib.hid hR1; have HCC := Lib.hid hC1; have HOO := Lib.hid hO1; clear hR1 hC1 hO1)
      have hWR := Lib.hid (cpb_write R rb cap i k A s cur hRE hRb HS.out hrb hAb hA0 HW1.out HR1.out hcb hcl (by rw [← HN.out]; exact hk3) hk1 hk2 (by rw [← HN.out]; exact hlim) HRR.out HCC.out HOO.out)
      go_region_held3 (fun w' => True) (exact trivial) (first | (go_at_call 150; refine (hWR.out _ (by repeat' (first | exact Drew.refl _ | exact Drew.one _ | refine Drew.more ?_ 1))).mono ?_; rintro e w3 ⟨rfl, hw3, hr3, hc3⟩; have hE3 : w3.cell? ⟨1, 0, none⟩ = some (.iface 152 (.pointer (some qe))) := HE.out.off hw3.off hEE; have HW3 := Lib.hid hw3; have HR3 := Lib.hid hr3; have HC3 := Lib.hid hc3; clear hw3 hr3 hc3))
      all_goals go_wp2_with fail
      go_roundg (n - t)
      case measure => omega
      case rel => exact ⟨t, by go_num, htn, Nat.le_refl _, Lib.hid (by rw [HT.out]; exact HW3.out), Lib.hid (by rw [HT.out]; exact HR3.out), HC3⟩
    · obtain rfl : i = n := by omega
      have hRD := HR1.out.read_end (by rw [← HN.out]; exact Nat.le_refl _) (by omega) qe (HE.out.off HW1.out.off hEE) (some ⟨A, 0, none⟩) 512 512
      have HRD := Lib.hid hRD
      clear hRD
      go_wp2_with (go_at_call 142; refine HRD.out.mono ?_; rintro e w1 ⟨rfl, hO1⟩; have hw1 := HW1.out.old (hO1.below (fun x hx => by simp at hx)); have hE3 : w1.cell? ⟨1, 0, none⟩ = some (.iface 152 (.pointer (some qe))) := HE.out.off hw1.off hEE; have HW3 := Lib.hid hw1; clear hw1 hO1)
      go_ret2
      have hw3 := HW3.out
      rw [HN.out, List.take_length] at hw3
      exact ⟨rfl, hw3⟩
end Go.Proofs.YthmhnknkidkdlaaGreatDoor
namespace Go.Proofs.YthmhnknkidkdlaaGreatDoor
open Go.RowKit

theorem put_first (g n c v : Nat) (k : Nat) (hv : v < 18446744073709551616) (hn : 8 ≤ n) (W : World) (hW : Blk W g 5 (zeroBytes (8 + k)).toArray) :
    Calls Tryz.prog 57 #[.agg #[], .slice (some ⟨g, 0, none⟩) n c, .int .u64 (v : Int)] W fun e w' => e = .returned (.tuple #[]) ∧ Blk w' g 5 (Lib.byteCells (Lib.leBytes 8 v) ++ zeroBytes k).toArray ∧ Off [g] W w' := by
  rw [zeroBytes_append] at hW
  exact putLE64_blk g 0 n c v 5 [] (zeroBytes 8) (zeroBytes k) hv W hn rfl (zeroBytes_length 8) hW
theorem put_next (g o n c v : Nat) (k : Nat) (l : List UInt8) (hl : l.length = o) (hv : v < 18446744073709551616) (hn : 8 ≤ n) (W : World) (hW : Blk W g 5 (Lib.byteCells l ++ zeroBytes (8 + k)).toArray) :
    Calls Tryz.prog 57 #[.agg #[], .slice (some ⟨g, o, none⟩) n c, .int .u64 (v : Int)] W fun e w' => e = .returned (.tuple #[]) ∧ Blk w' g 5 (Lib.byteCells (l ++ Lib.leBytes 8 v) ++ zeroBytes k).toArray ∧ Off [g] W w' := by
  rw [zeroBytes_append] at hW
  refine (putLE64_blk g o n c v 5 (Lib.byteCells l) (zeroBytes 8) (zeroBytes k) hv W hn (by rw [Lib.byteCells_length, hl]) (zeroBytes_length 8) hW).mono ?_
  rintro e w' ⟨h1, h2, h3⟩
  refine ⟨h1, ?_, h3⟩
  rw [Lib.byteCells_append, List.append_assoc]
  exact h2

set_option maxRecDepth 100000 in
set_option maxHeartbeats 4000000 in
theorem charWrite_any {EX : List Nat} {B0 b : Nat} {w0 w : World} {l : List UInt8} (h : WrG EX B0 b w0 l w) (hi lo : Nat) (hhi : hi < 18446744073709551616) (hlo : lo < 18446744073709551616) (hlim : l.length + 16 ≤ 140737488355328) :
    Calls Tryz.prog 56 #[.agg #[.int .u64 (hi : Int), .int .u64 (lo : Int)], .iface 57 (.pointer (some ⟨b, 0, none⟩))] w fun e w' => e = .returned (.tuple #[.int .i64 16, .nilIface]) ∧ WrG EX B0 b w0 (l ++ (Lib.leBytes 8 hi ++ Lib.leBytes 8 lo)) w' ∧ Lib.OthersKept 5 (some b) w w' := by
  have hbl := h.lt
  obtain ⟨g, hg⟩ : ∃ g, g = w.heap.size + 1 := ⟨_, rfl⟩
  have HP1 := Lib.hid (fun W => put_first g 8 16 hi 8 hhi (by omega) W)
  have HP2 := Lib.hid (fun W => put_next g 8 8 8 lo 0 (Lib.leBytes 8 hi) (Lib.leBytes_length 8 hi) hlo (by omega) W)
  have HWR := Lib.hid (fun W (k : WrG EX B0 b w0 l W) (hs : Seg W g 0 (Lib.leBytes 8 hi ++ Lib.leBytes 8 lo)) => bufWrite_G k g 0 16 16 (Lib.leBytes 8 hi ++ Lib.leBytes 8 lo) hs (by simp [Lib.leBytes_length]) (by omega) (Or.inl (by omega)) hlim)
  have hmk := run_makeR16
  have hm := method_bufWrite
  have hB := Lib.hid ((Blk.new w 85 #[.int .u64 (hi : Int), .int .u64 (lo : Int)]).alloc (.cells (zeroBytes 16).toArray 5))
  have hO := Lib.hid (((Off.refl [] w).alloc (.cells #[.int .u64 (hi : Int), .int .u64 (lo : Int)] 85)).alloc (.cells (zeroBytes 16).toArray 5))
  have hZ := Lib.hid (show Blk ((w.alloc (.cells #[.int .u64 (hi : Int), .int .u64 (lo : Int)] 85)).alloc (.cells (zeroBytes 16).toArray 5)) g 5 (zeroBytes (8 + 8)).toArray from Blk.new' _ _ _ (by rw [hg]; simp))
  have HH := Lib.hid h
  have hgs : w.heap.size ≤ g := by omega
  have hgn : g ≠ w.heap.size := by omega
  have HG := Lib.hid hg
  clear h
  go_enter Tryz.func56, Tryz.ntmps56
  go_wp2_with fail
  rw [← hg]
  clear hg
  go_region_held3 (fun w' => w'.cell? ⟨w.heap.size, 0, none⟩ = some (.int .u64 (hi : Int))) (first | exact hB.out.cell 0 | exact B1.out.cell 0) (first | (go_at_call 57; refine (HP1.out _ (by exact hZ.out)).mono ?_; rintro e w1 ⟨rfl, hb1, ho1⟩; have B1 := Lib.hid (show Blk w1 w.heap.size 85 #[.int .u64 (hi : Int), .int .u64 (lo : Int)] from ho1.blk (by exact hB.out) (ni1 (Ne.symm hgn))); have Z1 := Lib.hid hb1; have O1 := Lib.hid ho1; clear hb1 ho1))
  all_goals go_wp2_with fail
  go_region_held3 (fun w' => w'.cell? ⟨w.heap.size, 1, none⟩ = some (.int .u64 (lo : Int))) (first | exact B1.out.cell 1 | exact B2.out.cell 1) (first | (go_at_call 57; refine (HP2.out _ (by exact Z1.out)).mono ?_; rintro e w2 ⟨rfl, hb, ho⟩; have B2 := Lib.hid (show Blk w2 w.heap.size 85 #[.int .u64 (hi : Int), .int .u64 (lo : Int)] from ho.blk (by exact B1.out) (ni1 (Ne.symm hgn))); have Z2 := Lib.hid hb; have O2 := Lib.hid ho; clear hb ho))
  all_goals (
    have hof1 : Off [] w w1 := hO.out.next O1.out ⟨rfl, rfl, rfl, rfl⟩ (fun x hx => by simp at hx; right; omega)
    have hof : Off [] w w2 := hof1.next O2.out ⟨rfl, rfl, rfl, rfl⟩ (fun x hx => by simp at hx; right; omega)
    have hsg : Seg w2 g 0 (Lib.leBytes 8 hi ++ Lib.leBytes 8 lo) := Z2.out.seg
    have HW2 := Lib.hid (HWR.out w2 (HH.out.old (hof.below (fun x hx => by simp at hx))) hsg)
    have HOF := Lib.hid hof
    clear hof1 hof hsg)
  all_goals go_wp2_with (go_at_call 150; refine HW2.out.mono ?_; rintro e w3 ⟨rfl, h1, h2⟩; have H1 := Lib.hid h1; have H2 := Lib.hid h2; clear h1 h2)
  all_goals go_ret2
  all_goals exact ⟨rfl, H1.out, (kept_of_below (HOF.out.below (fun x hx => by simp at hx))).trans H2.out⟩

set_option maxRecDepth 100000 in
set_option maxHeartbeats 4000000 in
theorem headWrite_any {EX : List Nat} {B0 b : Nat} {w0 w : World} {l : List UInt8} (h : WrG EX B0 b w0 l w) (hi lo d n x : Nat) (hhi : hi < 18446744073709551616) (hlo : lo < 18446744073709551616) (hd : d < 18446744073709551616) (hn : n < 18446744073709551616) (hx : x < 18446744073709551616) (hlim : l.length + 40 ≤ 140737488355328) :
    Calls Tryz.prog 30 #[.agg #[.int .u64 (hi : Int), .int .u64 (lo : Int), .int .u64 (d : Int), .int .u64 (n : Int), .int .u64 (x : Int)], .iface 57 (.pointer (some ⟨b, 0, none⟩))] w fun e w' => e = .returned (.tuple #[.int .i64 40, .nilIface]) ∧ WrG EX B0 b w0 (l ++ headB hi lo d n x) w' ∧ Lib.OthersKept 5 (some b) w w' := by
  have hbl := h.lt
  have hA := (Off.refl [] w).alloc (.cells #[.int .u64 (hi : Int), .int .u64 (lo : Int), .int .u64 (d : Int), .int .u64 (n : Int), .int .u64 (x : Int)] 87)
  have HC := Lib.hid (charWrite_any (h.old (hA.below (fun x hx => by simp at hx))) hi lo hhi hlo (by omega))
  have hB := Lib.hid (Blk.new w 87 #[.int .u64 (hi : Int), .int .u64 (lo : Int), .int .u64 (d : Int), .int .u64 (n : Int), .int .u64 (x : Int)])
  have HP1 := Lib.hid (fun W g => put_first g 8 24 d 16 hd (by omega) W)
  have HP2 := Lib.hid (fun W g => put_next g 8 8 16 n 8 (Lib.leBytes 8 d) (Lib.leBytes_length 8 d) hn (by omega) W)
  have HP3 := Lib.hid (fun W g => put_next g 16 8 8 x 0 (Lib.leBytes 8 d ++ Lib.leBytes 8 n) (by simp [Lib.leBytes_length]) hx (by omega) W)
  have HWR := Lib.hid (fun W g (k : WrG EX B0 b w0 (l ++ (Lib.leBytes 8 hi ++ Lib.leBytes 8 lo)) W) (hg : g ≠ b) (hs : Seg W g 0 (Lib.leBytes 8 d ++ Lib.leBytes 8 n ++ Lib.leBytes 8 x)) => bufWrite_G k g 0 24 24 (Lib.leBytes 8 d ++ Lib.leBytes 8 n ++ Lib.leBytes 8 x) hs (by simp [Lib.leBytes_length]) hg (Or.inl (by omega)) (by simp [Lib.leBytes_length]; omega))
  have hmk := run_makeR24
  have hm := method_bufWrite
  have HA := Lib.hid hA
  clear h hA
  go_enter Tryz.func30, Tryz.ntmps30
  go_wp2_with (go_at_call 56; refine HC.out.mono ?_; rintro e w1 ⟨rfl, hw1, hk1⟩; have hb1 := kept_blk hk1 hB.out (by omega) (by decide); have HW1 := Lib.hid hw1; have HK1 := Lib.hid hk1; have BB := Lib.hid hb1; clear hw1 hk1 hb1)
  have hlt1 := BB.out.lt
  have hgn : w.heap.size ≠ w1.heap.size := by omega
  have hbl1 := HW1.out.lt
  have BA := Lib.hid (BB.out.alloc (.cells (zeroBytes 24).toArray 5))
  have ZA := Lib.hid (show Blk (w1.alloc (.cells (zeroBytes 24).toArray 5)) w1.heap.size 5 (zeroBytes (8 + 16)).toArray from Blk.new w1 _ _)
  go_region_held3 (fun w' => w'.cell? ⟨w.heap.size, 2, none⟩ = some (.int .u64 (d : Int))) (first | exact BA.out.cell 2 | exact B2.out.cell 2) (first | (go_at_call 57; refine (HP1.out _ w1.heap.size (by exact ZA.out)).mono ?_; rintro e w2 ⟨rfl, hb, ho⟩; have B2 := Lib.hid (show Blk w2 w.heap.size 87 #[.int .u64 (hi : Int), .int .u64 (lo : Int), .int .u64 (d : Int), .int .u64 (n : Int), .int .u64 (x : Int)] from ho.blk (by exact BA.out) (ni1 hgn)); have Z2 := Lib.hid hb; have O2 := Lib.hid ho; clear hb ho))
  all_goals go_wp2_with fail
  go_region_held3 (fun w' => w'.cell? ⟨w.heap.size, 3, none⟩ = some (.int .u64 (n : Int))) (first | exact B2.out.cell 3 | exact B3.out.cell 3) (first | (go_at_call 57; refine (HP2.out _ w1.heap.size (by exact Z2.out)).mono ?_; rintro e w3 ⟨rfl, hb, ho⟩; have B3 := Lib.hid (show Blk w3 w.heap.size 87 #[.int .u64 (hi : Int), .int .u64 (lo : Int), .int .u64 (d : Int), .int .u64 (n : Int), .int .u64 (x : Int)] from ho.blk (by exact B2.out) (ni1 hgn)); have Z3 := Lib.hid hb; have O3 := Lib.hid ho; clear hb ho))
  all_goals go_wp2_with fail
  go_region_held3 (fun w' => w'.cell? ⟨w.heap.size, 4, none⟩ = some (.int .u64 (x : Int))) (first | exact B3.out.cell 4 | exact B4.out.cell 4) (first | (go_at_call 57; refine (HP3.out _ w1.heap.size (by exact Z3.out)).mono ?_; rintro e w4 ⟨rfl, hb, ho⟩; have B4 := Lib.hid (show Blk w4 w.heap.size 87 #[.int .u64 (hi : Int), .int .u64 (lo : Int), .int .u64 (d : Int), .int .u64 (n : Int), .int .u64 (x : Int)] from ho.blk (by exact B3.out) (ni1 hgn)); have Z4 := Lib.hid hb; have O4 := Lib.hid ho; clear hb ho))
  all_goals (
    have hof2 : Off [] w1 w2 := ((Off.refl [] w1).alloc (.cells (zeroBytes 24).toArray 5)).next O2.out ⟨rfl, rfl, rfl, rfl⟩ (fun x hx => by simp at hx; right; omega)
    have hof3 : Off [] w1 w3 := hof2.next O3.out ⟨rfl, rfl, rfl, rfl⟩ (fun x hx => by simp at hx; right; omega)
    have hof4 : Off [] w1 w4 := hof3.next O4.out ⟨rfl, rfl, rfl, rfl⟩ (fun x hx => by simp at hx; right; omega)
    have hsg : Seg w4 w1.heap.size 0 (Lib.leBytes 8 d ++ Lib.leBytes 8 n ++ Lib.leBytes 8 x) := Z4.out.seg
    have HW4 := Lib.hid (HWR.out w4 w1.heap.size (HW1.out.old (hof4.below (fun x hx => by simp at hx))) (by omega) hsg)
    have HOF := Lib.hid hof4
    clear hof2 hof3 hof4 hsg)
  all_goals go_wp2_with (go_at_call 150; refine HW4.out.mono ?_; rintro e w5 ⟨rfl, h1, h2⟩; have H1 := Lib.hid h1; have H2 := Lib.hid h2; clear h1 h2)
  all_goals go_ret2
  all_goals (
    have h9 := H1.out
    rw [List.append_assoc, List.append_assoc (Lib.leBytes 8 d)] at h9
    exact ⟨rfl, h9, ((kept_of_below (HA.out.below (fun x hx => by simp at hx))).trans HK1.out).trans ((kept_of_below (HOF.out.below (fun x hx => by simp at hx))).trans H2.out)⟩)
end Go.Proofs.YthmhnknkidkdlaaGreatDoor
namespace Go.Proofs.YthmhnknkidkdlaaGreatDoor
open Go.RowKit

set_option maxRecDepth 100000 in
set_option maxHeartbeats 2000000 in
theorem swMarshal_G {EX : List Nat} {B0 b : Nat} {w0 w : World} {l : List UInt8} (h : WrG EX B0 b w0 l w) (q W8 k m C : Nat) (R : List UInt8) (hq : Blk w q 318 #[.int .u32 (W8 : Int), .int .u64 (k : Int), .slice (some ⟨C, 0, none⟩) m m]) (hqb : q ≠ b)
    (hm : R.length = m) (hs : Seg w0 C 0 R) (hCE : C ∉ EX) (hW8 : W8 < 4294967296) (hlim : l.length + (12 + m) ≤ 140737488355328) :
    Calls Tryz.prog 189 #[.pointer (some ⟨q, 0, none⟩), .iface 57 (.pointer (some ⟨b, 0, none⟩))] w fun e w' =>
      e = .returned (.tuple #[.int .u64 ((12 + m : Nat) : Int), .nilIface]) ∧ WrG EX B0 b w0 (l ++ (Lib.leBytes 4 W8 ++ (Lib.leBytes 8 m ++ R))) w' ∧ Lib.OthersKept 5 (some b) w w' := by
  have hCb : C ≠ b := fun e => hCE (e ▸ h.mem)
  have HCE := Lib.hid hCE
  have c0 : w.cell? ⟨q, 0, none⟩ = some (.int .u32 (W8 : Int)) := hq.cell 0
  have H1 := Lib.hid (zzWrite32_G h W8 hW8 (by omega))
  have H2 : Hid (∀ W, WrG EX B0 b w0 (l ++ Lib.leBytes 4 W8) W → _) := Lib.hid fun W hW => zzWrite64_G hW m (by omega) (by rw [List.length_append, Lib.leBytes_length]; omega)
  have H3 : Hid (∀ W, WrG EX B0 b w0 (l ++ Lib.leBytes 4 W8 ++ Lib.leBytes 8 m) W → _) := Lib.hid fun W hW => bufWrite_G hW C 0 m m R (hs.off hW.off HCE.out) hm hCb (Or.inr (ne_mid (by omega))) (by rw [List.length_append, List.length_append, Lib.leBytes_length, Lib.leBytes_length]; omega)
  have HQ := Lib.hid hq
  have hm1 := method_bufWrite
  have hm2 := nil_bufWrite
  have hw1 : IntKind.u64.wrap (m : Int) = (m : Int) := by rw [IntKind.wrap_u64]; omega
  have hw2 : IntKind.u64.wrap (12 + (m : Int)) = 12 + (m : Int) := by rw [IntKind.wrap_u64]; omega
  have e12 : ((12 + m : Nat) : Int) = 12 + (m : Int) := by omega
  have HM := Lib.hid hm
  rw [e12]
  clear hq h hs hm e12 hlim hCE
  go_enter Tryz.func189, Tryz.ntmps189
  go_wp2_with (go_at_call 174; refine H1.out.mono ?_; rintro e w1 ⟨rfl, hR1, hK1⟩; have hq1 := kept_blk hK1 HQ.out hqb (by decide); have c2 : w1.cell? ⟨q, 2, none⟩ = some (.slice (some ⟨C, 0, none⟩) m m) := hq1.cell 2; have HQ1 := Lib.hid hq1; have HK1 := Lib.hid hK1; clear hq1 hK1 H1 c0)
  go_wp2_with (go_at_call 182; refine (H2.out _ hR1).mono ?_; rintro e w2 ⟨rfl, hR2, hK2⟩; have hq2 := kept_blk hK2 HQ1.out hqb (by decide); have c22 : w2.cell? ⟨q, 2, none⟩ = some (.slice (some ⟨C, 0, none⟩) m m) := hq2.cell 2; have HQ2 := Lib.hid hq2; have HK2 := Lib.hid hK2; have HR2 := Lib.hid hR2; clear hq2 hK2 H2 c2 hR1 hR2)
  go_wp2_with fail
  go_region_held3 (fun w' => w'.cell? ⟨q, 2, none⟩ = some (.slice (some ⟨C, 0, none⟩) m m)) (first | exact c22 | exact c33) (first | (go_at_call 150; refine (H3.out _ (HR2.out.ofDrew (by repeat' (first | exact Drew.refl _ | exact Drew.one _ | refine Drew.more ?_ 1)))).mono ?_; rintro e w3 ⟨rfl, hR3, hK3⟩; have c33 : w3.cell? ⟨q, 2, none⟩ = some (.slice (some ⟨C, 0, none⟩) m m) := (kept_blk hK3 (HQ2.out.drewN 0) hqb (by decide)).cell 2; have HR3 := Lib.hid hR3; have HK3 := Lib.hid hK3; clear hR3 hK3))
  all_goals go_wp2_with fail
  all_goals go_ret2
  all_goals exact ⟨rfl, by have := HR3.out; rwa [List.append_assoc, List.append_assoc] at this, HK1.out.trans (HK2.out.trans HK3.out)⟩
end Go.Proofs.YthmhnknkidkdlaaGreatDoor
