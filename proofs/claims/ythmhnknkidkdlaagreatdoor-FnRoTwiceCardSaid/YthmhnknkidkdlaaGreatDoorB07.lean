/-
  Over a bytes.Reader: a number, some bytes behind others in a row, a step ahead; util.LdRead.
  A bytes.Reader at its end: ReadByte, ReadUvarint, Read; Read ahead of it; Seek to the end and to the beginning.
  car.zzCopy from a bytes.Reader into a file in memory: so many bytes.
  impl.memory: a file in memory over which is written what it holds already.
  car.zzCopy from a bytes.Reader over a file in memory that holds already what is written.
  (No condition beyond those that each theorem states.)
-/
import Derived.Test.YthmhnknkidkdlaaGreatDoorB06
import Derived.LaidEql
import Derived.Deep.QuietTactic
import Derived.BigQuiet
import Derived.WalkSpells
import Derived.Test.YthmhnknkidkdlaaGreatDoorB05
import Derived.Deep.RegionHeld3
namespace Go.Proofs.YthmhnknkidkdlaaGreatDoor
open Go.RowKit

theorem run_make0 {P : Program} {t e : TypeId} {i : TypeInfo} (ht : P.underlying t = some (.slice e)) (hi : P.info? e = some i) (hz : i.zero = some (.int .u8 0)) (hs : i.size = 1) (hb : i.bytes = 1)
    (n : Nat) (hn : n ≤ 281474976710656) (w : World) :
    (Instr.makeSlice t (.int .i64 0) (.int .i64 (n : Int))).run P w = .ok (.slice (some ⟨w.heap.size, 0, none⟩) 0 n) (w.alloc (.cells (zeroBytes n).toArray e)) := by
  have hr := run_make (P := P) w t e i (.int .u8 0) ht hi hz .i64 .i64 0 (n : Int) (by omega) (by omega) (by rw [hb]; omega) (by omega)
  simp only [Int.toNat_natCast, hs, Nat.mul_one, madeCells_bytes] at hr
  exact hr

theorem RAt.byte2 {R b cap i : Nat} {l : List UInt8} {w : World} (h : RAt R b cap l i w) (c : Nat) (hc : (l[i]?).map (·.toNat) = some c) :
    Calls Tryz.prog 143 #[.pointer (some ⟨R, 0, none⟩)] w fun e w' => e = .returned (.tuple #[.int .u8 (c : Int), .nilIface]) ∧ RAt R b cap l (i + 1) w' ∧ Off [R] w w' := by
  obtain ⟨p, hp⟩ := h.rd
  have hi : i < l.length := by
    rcases Nat.lt_or_ge i l.length with h1 | h1
    · exact h1
    · rw [List.getElem?_eq_none h1] at hc; simp at hc
  refine (brReadByte R b l.length cap i p l w rfl hp h.seg h.ne hi h.len (c : Int) ?_).mono ?_
  · rw [List.getElem?_eq_getElem hi] at hc
    simp at hc
    rw [hc]
  rintro e w' ⟨he, h1, h2⟩
  exact ⟨he, { h with rd := ⟨_, h1⟩, seg := h.seg.off h2 (ni1 (fun e => h.ne e.symm)) }, h2⟩

theorem enter_readByte (args : Array Value) (w : World) : (callFunc 143 args).run Tryz.prog w = .ok (.enter 143 args) w := by kernel_rfl

theorem drop_at {l p t : List UInt8} {i : Nat} (h : l.drop i = p ++ t) (j : Nat) (hj : j < p.length) : l[i + j]? = p[j]? := by
  rw [← List.getElem?_drop, h, List.getElem?_append_left hj]
theorem drop_more {l p t : List UInt8} {i : Nat} (h : l.drop i = p ++ t) : l.drop (i + p.length) = t := by
  rw [← List.drop_drop, h, List.drop_left]
theorem drop_lt {l p t : List UInt8} {i : Nat} (h : l.drop i = p ++ t) : i + p.length + t.length = l.length ∨ (p = [] ∧ t = [] ∧ l.length ≤ i) := by
  have h1 := congrArg List.length h
  rw [List.length_drop, List.length_append] at h1
  rcases Nat.lt_or_ge i l.length with h2 | h2
  · left; omega
  · right
    have h3 : p.length + t.length = 0 := by omega
    exact ⟨List.eq_nil_of_length_eq_zero (by omega), List.eq_nil_of_length_eq_zero (by omega), h2⟩

theorem readUvarint_at {R b cap i : Nat} {l t : List UInt8} {w : World} (h : RAt R b cap l i w) (x : Nat) (hx : x < 9223372036854775808) (hl : l.drop i = Lib.uvarint x ++ t) :
    Calls Tryz.prog 53 #[.iface 55 (.pointer (some ⟨R, 0, none⟩))] w fun e w' => e = .returned (.tuple #[.int .u64 (x : Int), .nilIface]) ∧ RAt R b cap l (i + (Lib.uvarint x).length) w' ∧ Off [R] w w' := by
  refine (readUvarint_gen 55 143 ⟨R, 0, none⟩ x hx (fun j W => RAt R b cap l (i + j) W ∧ Off [R] w W) enter_readByte (fun W => method_readByte _ W) (fun j c W hW hc => ?_) w ⟨h, Off.refl _ _⟩).mono fun e w' h => h
  have hj : j < (Lib.uvarint x).length := by
    rcases Nat.lt_or_ge j (Lib.uvarint x).length with h1 | h1
    · exact h1
    · rw [List.getElem?_eq_none h1] at hc; simp at hc
  refine (hW.1.byte2 c (by rw [drop_at hl j hj]; exact hc)).mono ?_
  rintro e w' ⟨he, h1, h2⟩
  exact ⟨he, h1, hW.2.then h2 (fun x hx => Or.inl hx)⟩

theorem readFull_off {R b cap i : Nat} {l : List UInt8} {w : World} (h : RAt R b cap l i w) (g o m dc : Nat) (cur : List Value) (t : TypeId) (hg : Blk w g t cur.toArray) (hRg : R ≠ g) (hbg : b ≠ g) (hm0 : 0 < m) (hm : m ≤ l.length - i) (hfit : o + m ≤ cur.length) (hdc : m ≤ dc) (hdc2 : m ≤ 2147483700) :
    Calls Tryz.prog 72 #[.iface 55 (.pointer (some ⟨R, 0, none⟩)), .slice (some ⟨g, o, none⟩) m dc] w fun e w' => e = .returned (.tuple #[.int .i64 m, .nilIface]) ∧ RAt R b cap l (i + m) w' ∧ Blk w' g t (splice cur o (Lib.byteCells ((l.drop i).take m))).toArray ∧ Off [R, g] w w' := by
  obtain ⟨p, hp⟩ := h.rd
  have hlen := h.len
  have HC := Lib.hid (readAtLeast_br R g o m dc w (fun w' => RdC w' R b l.length cap (i + m) (-1) ∧ Blk w' g t (splice cur o (Lib.byteCells ((l.drop i).take m))).toArray ∧ Off [R, g] w w') hm0 hdc hdc2 (fun W hW => by
    refine (brRead R g o m dc b l.length cap i m p l cur t W rfl (hW.blk hp) (hW.seg h.seg) (hW.blk hg) h.ne hRg (by omega) (by show m = min (l.length - i) m; omega) hm0 hfit h.len h.cap_).mono ?_
    rintro e w' ⟨rfl, h1, h2, h3⟩
    exact ⟨rfl, h1, h2, ((Off.ofDrew (S := []) hW).trans h3).mono (fun x h => by simp at h; rcases h with h | h <;> simp [h])⟩))
  have HH := Lib.hid h
  clear hp hg h
  go_enter Tryz.func72, Tryz.ntmps72
  go_wp2_with fail
  refine HC.out.mono ?_
  rintro e w1 ⟨rfl, h1, h2, h3⟩
  have H1 := Lib.hid h1
  have H2 := Lib.hid h2
  have H3 := Lib.hid h3
  clear h1 h2 h3
  go_wp2_with fail
  go_ret2
  exact ⟨rfl, { HH.out with rd := ⟨_, H1.out⟩, seg := HH.out.seg.off H3.out (ni2 (fun e => HH.out.ne e.symm) hbg) }, H2.out, H3.out⟩

set_option maxRecDepth 100000 in
set_option maxHeartbeats 1000000 in
theorem readAtLeast_zero (r : Value) (P : Option Addr) (dc : Nat) (w : World) :
    Calls Tryz.prog 82 #[r, .slice P 0 dc, .int .i64 0] w fun e w' => e = .returned (.tuple #[.int .i64 0, .nilIface]) ∧ w = w' := by
  go_enter Tryz.func82, Tryz.ntmps82
  go_wp2_with fail
  refine wp_loop_rounds 1 ?_
  rw [rounds_succ]
  go_wp2_with fail
  go_ret2
  exact ⟨rfl, rfl⟩
set_option maxRecDepth 100000 in
theorem readFull_zero (r : Value) (P : Option Addr) (dc : Nat) (w : World) :
    Calls Tryz.prog 72 #[r, .slice P 0 dc] w fun e w' => e = .returned (.tuple #[.int .i64 0, .nilIface]) ∧ w = w' := by
  go_enter Tryz.func72, Tryz.ntmps72
  go_wp2_with fail
  refine (readAtLeast_zero r P dc w).mono ?_
  rintro e w1 ⟨rfl, rfl⟩
  go_wp2_with fail
  go_ret2
  exact ⟨rfl, rfl⟩

set_option maxRecDepth 100000 in
set_option maxHeartbeats 1000000 in
theorem seek_on {R b cap i : Nat} {l : List UInt8} {w : World} (h : RAt R b cap l i w) (k : Nat) (hk : i + k ≤ l.length) :
    Calls Tryz.prog 144 #[.pointer (some ⟨R, 0, none⟩), .int .i64 (k : Int), .int .i64 1] w fun e w' => e = .returned (.tuple #[.int .i64 ((i + k : Nat) : Int), .nilIface]) ∧ RAt R b cap l (i + k) w' ∧ Off [R] w w' := by
  obtain ⟨p, hp⟩ := h.rd
  have c0 : w.cell? ⟨R, 0, none⟩ = some (.slice (some ⟨b, 0, none⟩) l.length cap) := Blk.cell hp 0
  have c1 : w.cell? ⟨R, 1, none⟩ = some (.int .i64 (i : Int)) := Blk.cell hp 1
  have c2 : w.cell? ⟨R, 2, none⟩ = some (.int .i64 p) := Blk.cell hp 2
  have f1 := Blk.frozen hp 1
  have f2 := Blk.frozen hp 2
  have hlen := h.len
  obtain ⟨s, hs⟩ : ∃ s, s = i + k := ⟨_, rfl⟩
  rw [← hs]
  have hw : IntKind.i64.wrap ((i : Int) + (k : Int)) = (s : Int) := by rw [IntKind.wrap_i64]; omega
  have hsum : (i : Int) + (k : Int) = (s : Int) := by omega
  have hw2 : IntKind.i64.wrap (s : Int) = (s : Int) := by rw [IntKind.wrap_i64]; omega
  have hneg : ¬ ((s : Int) < 0) := by omega
  have HH := Lib.hid h
  have HP := Lib.hid hp
  clear hp h hs
  go_enter Tryz.func144, Tryz.ntmps144
  go_wp2_with fail
  go_ret2
  have hO : Off [R] w ((w.setCell ⟨R, 2, none⟩ (.int .i64 (-1))).setCell ⟨R, 1, none⟩ (.int .i64 (s : Int))) := ((Off.refl [R] w).setCell (p := ⟨R, 2, none⟩) (Or.inl (by simp)) _).setCell (p := ⟨R, 1, none⟩) (Or.inl (by simp)) _
  refine ⟨rfl, { HH.out with rd := ⟨-1, ?_⟩, seg := HH.out.seg.off hO (ni1 (fun e => HH.out.ne e.symm)) }, hO⟩
  exact (Blk.set_ (Blk.set_ HP.out 2 (.int .i64 (-1))) 1 (.int .i64 (s : Int)))

set_option maxRecDepth 100000 in
set_option maxHeartbeats 1000000 in
theorem ldReadSize_at {R b cap i : Nat} {l t : List UInt8} {w : World} (h : RAt R b cap l i w) (x : Nat) (hx : x < 9223372036854775808) (hx0 : 0 < x) (hl : l.drop i = Lib.uvarint x ++ t) (most : Nat) (hmost : x ≤ most) :
    Calls Tryz.prog 83 #[.iface 55 (.pointer (some ⟨R, 0, none⟩)), .bool false, .int .u64 most] w fun e w' => e = .returned (.tuple #[.int .u64 (x : Int), .nilIface]) ∧ RAt R b cap l (i + (Lib.uvarint x).length) w' ∧ Off [R] w w' := by
  have HC := Lib.hid (readUvarint_at h x hx hl)
  have hb2 : ((x : Int) == 0) = false := beq_eq_false_iff_ne.2 (by omega)
  have hb3 : decide ((most : Int) < (x : Int)) = false := by simp; omega
  clear h hl
  go_enter Tryz.func83, Tryz.ntmps83
  go_wp2_with fail
  refine (toBr _ w).mono ?_
  rintro e w1 ⟨rfl, rfl⟩
  go_wp2_with fail
  refine HC.out.mono ?_
  rintro e w1 ⟨rfl, h1, h2⟩
  have H1 := Lib.hid h1
  have H2 := Lib.hid h2
  clear h1 h2
  go_wp2_with fail
  go_ret2
  exact ⟨rfl, H1.out, H2.out⟩

set_option maxRecDepth 100000 in
set_option maxHeartbeats 1000000 in
theorem ldRead_at {R b cap i : Nat} {l t : List UInt8} {w : World} (h : RAt R b cap l i w) (x : Nat) (hx : x ≤ 2147483600) (hx0 : 0 < x) (hl : l.drop i = Lib.uvarint x ++ t) (hxt : x ≤ t.length) (most : Nat) (hmost : x ≤ most) :
    Calls Tryz.prog 74 #[.iface 55 (.pointer (some ⟨R, 0, none⟩)), .bool false, .int .u64 most] w fun e w' => ∃ g, w.heap.size ≤ g ∧ e = .returned (.tuple #[.slice (some ⟨g, 0, none⟩) x x, .nilIface]) ∧ Blk w' g 5 (Lib.byteCells (t.take x)).toArray ∧ RAt R b cap l (i + (Lib.uvarint x).length + x) w' ∧ Off [R] w w' := by
  obtain ⟨i0, hi0, hz0, hz1, hz2⟩ := info_parts Tryz.infoByte
  have hmk := fun W => run_makeBytes (P := Tryz.prog) Tryz.underlying47 hi0 hz0 hz1 hz2 x (by omega) W .u64
  have HC := Lib.hid (ldReadSize_at h x (by omega) hx0 hl most hmost)
  have hRl := h.lt
  have hp := Lib.uvarint_pos x
  have hdl : i + (Lib.uvarint x).length + t.length = l.length := by
    rcases drop_lt hl with h1 | ⟨h1, _⟩
    · exact h1
    · rw [h1] at hp; simp at hp
  have hbl : b < w.heap.size := h.seg.lt (by omega)
  obtain ⟨j, hj⟩ : ∃ j, j = i + (Lib.uvarint x).length := ⟨_, rfl⟩
  rw [← hj] at HC ⊢
  have hdm : l.drop j = t := by rw [hj]; exact drop_more hl
  have HD := Lib.hid (fun W (hW : RAt R b cap l j W) (hs : w.heap.size ≤ W.heap.size) => readFull_at (hW.off ((Off.refl [] W).alloc (.cells (zeroBytes x).toArray 5)) (by simp) (by simp)) W.heap.size x (zeroBytes x) 5 (Blk.new W _ _) (by omega) (by omega) hx0 (by omega) (zeroBytes_length x))
  rw [hdm] at HD
  clear h hl hdl hdm hj
  go_enter Tryz.func74, Tryz.ntmps74
  go_wp2_with fail
  refine HC.out.mono ?_
  rintro e w1 ⟨rfl, h1, h2⟩
  have hsz := h2.size
  have HD1 := Lib.hid (HD.out w1 h1 hsz)
  have H2 := Lib.hid h2
  clear h1 h2
  go_wp2_with fail
  refine HD1.out.mono ?_
  rintro e w2 ⟨rfl, h1, h2, h3⟩
  have K1 := Lib.hid h1
  have K2 := Lib.hid h2
  have K3 := Lib.hid h3
  clear h1 h2 h3
  go_wp2_with fail
  go_ret2
  exact ⟨w1.heap.size, hsz, rfl, K2.out, K1.out, (H2.out.alloc (.cells (zeroBytes x).toArray 5)).then K3.out (fun x h => by simp at h; rcases h with h | h <;> simp [h]; exact Or.inr hsz)⟩
end Go.Proofs.YthmhnknkidkdlaaGreatDoor
namespace Go.Proofs.YthmhnknkidkdlaaGreatDoor
open Go.RowKit

/-- What io.EOF holds. -/
def EofA (a : Addr) (w : World) : Prop := w.cell? ⟨1, 0, none⟩ = some (.iface 152 (.pointer (some a)))
theorem EofA.eof {a : Addr} {w : World} (h : EofA a w) : Eof w := ⟨_, h⟩
theorem EofA.off {a : Addr} {S : List Nat} {w w' : World} (h : EofA a w) (k : Off S w w') (hS : 1 ∉ S) : EofA a w' := (World.cell?_of_block (k.block _ (World.block_lt_of_cell? _ _ h) hS)).trans h
theorem eql_eof (a : Addr) (W : World) : (binOp .eql 53 (.iface 152 (.pointer (some a))) (.iface 152 (.pointer (some a)))).run Tryz.prog W = .ok (.bool true) W := by
  obtain ⟨j, hj⟩ : ∃ j, Tryz.prog.info? 154 = some j := Option.isSome_iff_exists.1 (by kernel_rfl)
  obtain ⟨i, hi, hc⟩ : ∃ i, Tryz.prog.info? 152 = some i ∧ i.comparable = true := ⟨(Tryz.prog.info? 152).get (by kernel_rfl), by kernel_rfl, by kernel_rfl⟩
  exact run_eql_iface_ptr_same W a Tryz.underlying53 Tryz.underlying152 hi hc hj

set_option maxRecDepth 100000 in
set_option maxHeartbeats 1000000 in
theorem RAt.byte_end {R b cap i : Nat} {l : List UInt8} {w : World} (h : RAt R b cap l i w) (hi : l.length ≤ i) (_hi2 : i ≤ 4294967296) (q : Addr) (hE : EofA q w) (hER : 1 < R) :
    Calls Tryz.prog 143 #[.pointer (some ⟨R, 0, none⟩)] w fun e w' => e = .returned (.tuple #[.int .u8 0, .iface 152 (.pointer (some q))]) ∧ RAt R b cap l i w' ∧ Off [R] w w' := by
  obtain ⟨p, hp⟩ := h.rd
  have c0 : w.cell? ⟨R, 0, none⟩ = some (.slice (some ⟨b, 0, none⟩) l.length cap) := Blk.cell hp 0
  have c1 : w.cell? ⟨R, 1, none⟩ = some (.int .i64 (i : Int)) := Blk.cell hp 1
  have c2 : w.cell? ⟨R, 2, none⟩ = some (.int .i64 p) := Blk.cell hp 2
  have f2 := Blk.frozen hp 2
  have hlen := h.len
  obtain ⟨n, hn⟩ : ∃ n, n = l.length := ⟨_, rfl⟩
  rw [← hn] at c0 hi hlen
  have hle : (n : Int) ≤ (i : Int) := by omega
  have hO : Off [R] w (w.setCell ⟨R, 2, none⟩ (.int .i64 (-1))) := (Off.refl [R] w).setCell (p := ⟨R, 2, none⟩) (Or.inl (by simp)) _
  have hE' : (w.setCell ⟨R, 2, none⟩ (.int .i64 (-1))).cell? ⟨1, 0, none⟩ = some (.iface 152 (.pointer (some q))) := hE.off hO (ni1 (by omega))
  have HH := Lib.hid h
  have HP := Lib.hid hp
  have HO := Lib.hid hO
  clear hp h hn hE hO
  go_enter Tryz.func143, Tryz.ntmps143
  go_wp2_with fail
  go_quiet (fail)
  go_wp2_with fail
  go_quiet (fail)
  go_wp2_with fail
  go_ret2
  have hfin : ∀ k1 k2, RAt R b cap l i (((w.setCell ⟨R, 2, none⟩ (.int .i64 (-1))).drewN k1).drewN k2) ∧ Off [R] w (((w.setCell ⟨R, 2, none⟩ (.int .i64 (-1))).drewN k1).drewN k2) := fun k1 k2 =>
    have hO := (HO.out.drewN k1).drewN k2
    ⟨{ HH.out with rd := ⟨-1, ((Blk.set_ HP.out 2 (.int .i64 (-1))).drewN k1).drewN k2⟩, seg := HH.out.seg.off hO (ni1 (fun e => HH.out.ne e.symm)) }, hO⟩
  exact ⟨rfl, hfin _ _⟩

set_option maxRecDepth 100000 in
set_option maxHeartbeats 1000000 in
theorem readUvarint_eof {R b cap i : Nat} {l : List UInt8} {w : World} (h : RAt R b cap l i w) (hi : l.length ≤ i) (hi2 : i ≤ 4294967296) (q : Addr) (hE : EofA q w) (hER : 1 < R) :
    Calls Tryz.prog 53 #[.iface 55 (.pointer (some ⟨R, 0, none⟩))] w fun e w' => e = .returned (.tuple #[.int .u64 0, .iface 152 (.pointer (some q))]) ∧ RAt R b cap l i w' ∧ Off [R] w w' := by
  have HC := Lib.hid (h.byte_end hi hi2 q hE hER)
  have hm1 := method_readByte
  have hq := eql_eof q
  have HE := Lib.hid hE
  clear h hE
  go_enter Tryz.func53, Tryz.ntmps53
  go_wp2_with fail
  refine wp_loop_rounds 1 ?_
  rw [rounds_succ]
  go_wp2_with fail
  refine HC.out.mono ?_
  rintro e w1 ⟨rfl, h1, h2⟩
  have hE1 : w1.cell? ⟨1, 0, none⟩ = some (.iface 152 (.pointer (some q))) := HE.out.off h2 (ni1 (by omega))
  have H1 := Lib.hid h1
  have H2 := Lib.hid h2
  clear h1 h2
  go_wp2_with fail
  go_ret2
  exact ⟨rfl, H1.out, H2.out⟩

set_option maxRecDepth 100000 in
set_option maxHeartbeats 1000000 in
theorem RAt.read_end {R b cap i : Nat} {l : List UInt8} {w : World} (h : RAt R b cap l i w) (hi : l.length ≤ i) (_hi2 : i ≤ 4294967296) (q : Addr) (hE : EofA q w) (P : Option Addr) (m dc : Nat) :
    Calls Tryz.prog 142 #[.pointer (some ⟨R, 0, none⟩), .slice P m dc] w fun e w' => e = .returned (.tuple #[.int .i64 0, .iface 152 (.pointer (some q))]) ∧ Off [] w w' := by
  obtain ⟨p, hp⟩ := h.rd
  have c0 : w.cell? ⟨R, 0, none⟩ = some (.slice (some ⟨b, 0, none⟩) l.length cap) := Blk.cell hp 0
  have c1 : w.cell? ⟨R, 1, none⟩ = some (.int .i64 (i : Int)) := Blk.cell hp 1
  have hlen := h.len
  obtain ⟨n, hn⟩ : ∃ n, n = l.length := ⟨_, rfl⟩
  rw [← hn] at c0 hi hlen
  have hle : (n : Int) ≤ (i : Int) := by omega
  have hE' : w.cell? ⟨1, 0, none⟩ = some (.iface 152 (.pointer (some q))) := hE
  clear hp h hn hE
  go_enter Tryz.func142, Tryz.ntmps142
  go_wp2_with fail
  go_quiet (fail)
  go_wp2_with fail
  go_quiet (fail)
  go_wp2_with fail
  go_ret2
  exact ⟨rfl, ((Off.refl [] w).drewN _).drewN _⟩

theorem RAt.read_more {R b cap i : Nat} {l : List UInt8} {w : World} (h : RAt R b cap l i w) (g o m dc k : Nat) (cur : List Value) (t : TypeId) (hg : Blk w g t cur.toArray) (hRg : R ≠ g) (hbg : b ≠ g) (hi : i < l.length) (hk : k = Nat.min (l.length - i) m) (hk0 : 0 < k) (hfit : o + k ≤ cur.length) :
    Calls Tryz.prog 142 #[.pointer (some ⟨R, 0, none⟩), .slice (some ⟨g, o, none⟩) m dc] w fun e w' => e = .returned (.tuple #[.int .i64 k, .nilIface]) ∧ RAt R b cap l (i + k) w' ∧ Blk w' g t (splice cur o (Lib.byteCells ((l.drop i).take k))).toArray ∧ Off [R, g] w w' := by
  obtain ⟨p, hp⟩ := h.rd
  refine (brRead R g o m dc b l.length cap i k p l cur t w rfl hp h.seg hg h.ne hRg hi hk hk0 hfit h.len h.cap_).mono ?_
  rintro e w' ⟨he, h1, h2, h3⟩
  exact ⟨he, { h with rd := ⟨_, h1⟩, seg := h.seg.off h3 (ni2 (fun e => h.ne e.symm) hbg) }, h2, h3⟩

set_option maxRecDepth 100000 in
set_option maxHeartbeats 1000000 in
theorem seek_end {R b cap i : Nat} {l : List UInt8} {w : World} (h : RAt R b cap l i w) :
    Calls Tryz.prog 144 #[.pointer (some ⟨R, 0, none⟩), .int .i64 0, .int .i64 2] w fun e w' => e = .returned (.tuple #[.int .i64 (l.length : Int), .nilIface]) ∧ RAt R b cap l l.length w' ∧ Off [R] w w' := by
  obtain ⟨p, hp⟩ := h.rd
  have c0 : w.cell? ⟨R, 0, none⟩ = some (.slice (some ⟨b, 0, none⟩) l.length cap) := Blk.cell hp 0
  have c1 : w.cell? ⟨R, 1, none⟩ = some (.int .i64 (i : Int)) := Blk.cell hp 1
  have c2 : w.cell? ⟨R, 2, none⟩ = some (.int .i64 p) := Blk.cell hp 2
  have f1 := Blk.frozen hp 1
  have f2 := Blk.frozen hp 2
  have hlen := h.len
  obtain ⟨s, hs⟩ : ∃ s, s = l.length := ⟨_, rfl⟩
  have HS := Lib.hid hs
  rw [← hs] at c0 hlen ⊢
  have hw : IntKind.i64.wrap (s : Int) = (s : Int) := by rw [IntKind.wrap_i64]; omega
  have hneg : ¬ ((s : Int) < 0) := by omega
  have HH := Lib.hid h
  have HP := Lib.hid hp
  clear hp h hs
  go_enter Tryz.func144, Tryz.ntmps144
  go_wp2_with fail
  go_ret2
  have hO : Off [R] w ((w.setCell ⟨R, 2, none⟩ (.int .i64 (-1))).setCell ⟨R, 1, none⟩ (.int .i64 (s : Int))) := ((Off.refl [R] w).setCell (p := ⟨R, 2, none⟩) (Or.inl (by simp)) _).setCell (p := ⟨R, 1, none⟩) (Or.inl (by simp)) _
  refine ⟨rfl, { HH.out with rd := ⟨-1, ?_⟩, seg := HH.out.seg.off hO (ni1 (fun e => HH.out.ne e.symm)) }, hO⟩
  exact (Blk.set_ (Blk.set_ HP.out 2 (.int .i64 (-1))) 1 (.int .i64 (s : Int)))

set_option maxRecDepth 100000 in
set_option maxHeartbeats 1000000 in
theorem seek_to {R b cap i : Nat} {l : List UInt8} {w : World} (h : RAt R b cap l i w) (k : Nat) (hk : k ≤ 4294967296) :
    Calls Tryz.prog 144 #[.pointer (some ⟨R, 0, none⟩), .int .i64 (k : Int), .int .i64 0] w fun e w' => e = .returned (.tuple #[.int .i64 (k : Int), .nilIface]) ∧ RAt R b cap l k w' ∧ Off [R] w w' := by
  obtain ⟨p, hp⟩ := h.rd
  have c0 : w.cell? ⟨R, 0, none⟩ = some (.slice (some ⟨b, 0, none⟩) l.length cap) := Blk.cell hp 0
  have c1 : w.cell? ⟨R, 1, none⟩ = some (.int .i64 (i : Int)) := Blk.cell hp 1
  have c2 : w.cell? ⟨R, 2, none⟩ = some (.int .i64 p) := Blk.cell hp 2
  have f1 := Blk.frozen hp 1
  have f2 := Blk.frozen hp 2
  have hneg : ¬ ((k : Int) < 0) := by omega
  have HH := Lib.hid h
  have HP := Lib.hid hp
  clear hp h
  go_enter Tryz.func144, Tryz.ntmps144
  go_wp2_with fail
  go_ret2
  have hO : Off [R] w ((w.setCell ⟨R, 2, none⟩ (.int .i64 (-1))).setCell ⟨R, 1, none⟩ (.int .i64 (k : Int))) := ((Off.refl [R] w).setCell (p := ⟨R, 2, none⟩) (Or.inl (by simp)) _).setCell (p := ⟨R, 1, none⟩) (Or.inl (by simp)) _
  refine ⟨rfl, { HH.out with rd := ⟨-1, ?_⟩, seg := HH.out.seg.off hO (ni1 (fun e => HH.out.ne e.symm)) }, hO⟩
  exact (Blk.set_ (Blk.set_ HP.out 2 (.int .i64 (-1))) 1 (.int .i64 (k : Int)))
end Go.Proofs.YthmhnknkidkdlaaGreatDoor
namespace Go.Proofs.YthmhnknkidkdlaaGreatDoor
open Go.RowKit

theorem method_memWrite (a : Addr) (w : World) : (method 480 61 (.pointer (some a)) "Write").run Tryz.prog w = .ok (161, .pointer (some a)) w := by kernel_rfl
theorem nil_memWrite (a : Addr) (w : World) : (nilAhead 480 61 (.pointer (some a)) "Write").run Tryz.prog w = .ok (some false) w := by kernel_rfl
theorem Mk.below {m g0 B lo : Nat} {w w' : World} (h : Mk m g0 B w w') (h0 : lo ≤ w.heap.size) (h1 : lo ≤ m) (h2 : lo ≤ g0) (h3 : lo ≤ B) : Below lo w w' :=
  ⟨h.os, h.tape, h.output, h.size, fun i hi => h.block i (by omega) (by omega) (by omega) (fun hB => by omega)⟩
theorem Off.belowLo {S : List Nat} {lo : Nat} {w w' : World} (h : Off S w w') (h0 : lo ≤ w.heap.size) (hS : ∀ x, x ∈ S → lo ≤ x) : Below lo w w' := h.below' h0 hS
theorem RAt.keptM {m g0 B R rb cap i : Nat} {s : List UInt8} {w w' : World} (h : RAt R rb cap s i w) (k : Mk m g0 B w w') (h1 : R ≠ m) (h2 : R ≠ g0) (h3 : rb ≠ m) (h4 : rb ≠ g0) (h5 : rb < B) : RAt R rb cap s i w' := by
  obtain ⟨p, hp⟩ := h.rd
  exact { h with rd := ⟨p, k.blk hp h1 h2 (by decide)⟩, seg := k.seg h.seg h3 h4 h5 }

end Go.Proofs.YthmhnknkidkdlaaGreatDoor
namespace Go.Proofs.YthmhnknkidkdlaaGreatDoor
open Go.RowKit

theorem over_same {l p : List UInt8} {cur : List Value} {a n L : Nat} (hp : p = (l.drop a).take n) (_hL : l.length = L) (hfit : a + n ≤ L) (htk : cur.take L = Lib.byteCells l) : cur.take a ++ Lib.byteCells p ++ cur.drop (a + n) = cur := by
  have h1 : Lib.byteCells p = (cur.drop a).take n := by
    have h2 : Lib.byteCells p = ((Lib.byteCells l).drop a).take n := by rw [hp]; simp [Lib.byteCells, List.map_take, List.map_drop]
    rw [h2, ← htk, List.drop_take, List.take_take, Nat.min_eq_left (by omega)]
  rw [h1, List.append_assoc, ← List.drop_drop, List.take_append_drop, List.take_append_drop]

set_option maxRecDepth 100000 in
set_option maxHeartbeats 4000000 in
theorem memWriteAtIn {m g0 B : Nat} {l : List UInt8} {w : World} (a : Nat) (h : MemAt m g0 B l a w) (g o n c : Nat) (p : List UInt8) (hs : Seg w g o p) (hp : p = (l.drop a).take n) (hn : p.length = n) (hn1 : 1 ≤ n) (hn2 : n ≤ 1000) (hfit : a + n ≤ l.length) (hl : l.length ≤ 10000000) :
    Calls Tryz.prog 163 #[.pointer (some ⟨m, 0, none⟩), .slice (some ⟨g, o, none⟩) n c, .int .i64 (a : Int)] w fun e w' => e = .returned (.tuple #[.int .i64 (n : Int), .nilIface]) ∧ MemAt m g0 B l a w' ∧ Mk m g0 B w w' := by
  have hbn : IntKind.i64.wrap ((a : Int) + (n : Int)) = (a : Int) + (n : Int) := by rw [IntKind.wrap_i64]; omega
  obtain ⟨v, hb, hr, hx⟩ := h.ex
  obtain ⟨q, cap, cur, fz, hv, hq, hfz, hnc, hcm, hcs, htk⟩ := hr
  obtain ⟨D, hD⟩ : ∃ D, l.length = a + D := ⟨l.length - a, by omega⟩
  rw [hD] at hv hnc htk hfit hl
  have c0 : w.cell? ⟨m, 0, none⟩ = some v := hb.cell 0
  rw [hv] at c0
  have hqm : q ≠ m := ne_of_types hb (by decide) ⟨_, _, hq⟩
  have hltz : ¬ (((a + D : Nat) : Int) < (a : Int) + (n : Int)) := by omega
  have hne : ¬ cap = a := by omega
  have hnD : n ≤ D := by omega
  have hcp := run_copy_M (P := Tryz.prog) w 47 47 3 5 q a D (cap - a) ⟨g, o, none⟩ n c cur 5 fz hfz (Lib.byteCells p) Tryz.underlying47 Tryz.sizeByte hq (by rw [Lib.byteCells_length, hn]; exact (Nat.min_eq_left hnD).symm) hs.cells (by rw [Lib.byteCells_length, hn]; omega) (byteCells_one p)
  rw [Lib.byteCells_length, hn] at hcp
  have hsame := over_same hp hD hfit htk
  have hfin : MemAt m g0 B l a (w.setRow q (cur.toList.take a ++ Lib.byteCells p ++ cur.toList.drop (a + n)).toArray) := by
    rw [hsame]
    refine ⟨v, (off_setRow hq _).blk hb (ni1 (Ne.symm hqm)), ⟨q, cap, cur.toList.toArray, fz, ?_, setRow_heap w q cur _ _ fz hq, ?_, ?_, hcm, ?_, ?_⟩, hx⟩
    · rw [hD]; exact hv
    · rw [Array.toArray_toList]; exact hfz
    · rw [hD]; exact hnc
    · rw [Array.toArray_toList]; exact hcs
    · rw [hD, Array.toArray_toList]; exact htk
  have hxq := hx q (by rw [hv]; rfl)
  have hmk : Mk m g0 B w (w.setRow q (cur.toList.take a ++ Lib.byteCells p ++ cur.toList.drop (a + n)).toArray) := Mk.ofOff (off_setRow hq _) (fun x hx' => by
    simp at hx'
    rw [hx']
    rcases hxq with h9 | h9
    · exact Or.inr (Or.inl h9)
    · exact Or.inr (Or.inr ⟨h9, _, _, hq⟩))
  have HF := Lib.hid hfin
  have HK := Lib.hid hmk
  rw [List.append_assoc] at HF HK
  clear h hs hp hn hb hv hq hfz hcm hcs htk hx hsame hfin hmk hxq hD hnc hqm
  go_enter Tryz.func163, Tryz.ntmps163
  go_wp2_with fail
  refine wp_loop_rounds 1 ?_
  rw [rounds_succ]
  go_wp2_with fail
  go_ret2
  exact ⟨rfl, HF.out, HK.out⟩

set_option maxRecDepth 100000 in
set_option maxHeartbeats 1000000 in
theorem memWriteIn {m g0 B a : Nat} {l : List UInt8} {w : World} (h : MemAt m g0 B l a w) (g o n c : Nat) (p : List UInt8) (hs : Seg w g o p) (hp : p = (l.drop a).take n) (hn : p.length = n) (hn1 : 1 ≤ n) (hn2 : n ≤ 1000) (hfit : a + n ≤ l.length) (hl : l.length ≤ 10000000) :
    Calls Tryz.prog 161 #[.pointer (some ⟨m, 0, none⟩), .slice (some ⟨g, o, none⟩) n c] w fun e w' => e = .returned (.tuple #[.int .i64 (n : Int), .nilIface]) ∧ MemAt m g0 B l (a + n) w' ∧ Mk m g0 B w w' := by
  have HW := Lib.hid (memWriteAtIn a h g o n c p hs hp hn hn1 hn2 hfit hl)
  obtain ⟨v, hb, _, _⟩ := h.ex
  have c1 : w.cell? ⟨m, 1, none⟩ = some (.int .i64 (a : Int)) := hb.cell 1
  have hw : IntKind.i64.wrap ((a : Int) + (n : Int)) = (a : Int) + (n : Int) := by rw [IntKind.wrap_i64]; omega
  clear h hb hs hn hp
  go_enter Tryz.func161, Tryz.ntmps161
  go_wp2_with (go_at_call 163; refine HW.out.mono ?_; rintro e w1 ⟨rfl, hm1, hk1⟩; obtain ⟨v1, hb1, hr1, hx1⟩ := hm1.ex; have d1 : w1.cell? ⟨m, 1, none⟩ = some (.int .i64 (a : Int)) := hb1.cell 1; have f1 := hb1.frozen 1; have HB1 := Lib.hid hb1; have HR1 := Lib.hid hr1; have HX1 := Lib.hid hx1; have HK1 := Lib.hid hk1; clear hm1 hb1 hr1 hx1 hk1)
  go_ret2
  have hoff : Off [m] w1 (w1.setCell ⟨m, 1, none⟩ (.int .i64 ((a : Int) + (n : Int)))) := (Off.refl [m] w1).setCell (p := ⟨m, 1, none⟩) (Or.inl (by simp)) _
  exact ⟨rfl, ⟨v1, HB1.out.set_ 1 _, HR1.out.off hoff (fun x hx => ni1 (fun e => HR1.out.type HB1.out (by decide) (by rw [hx, e]))), HX1.out⟩, HK1.out.trans (Mk.ofOff hoff (fun x hx => by simp at hx; exact Or.inl hx))⟩
end Go.Proofs.YthmhnknkidkdlaaGreatDoor
namespace Go.Proofs.YthmhnknkidkdlaaGreatDoor
open Go.RowKit

theorem cpi_write {m g0 B lo : Nat} {w wr w1 : World} (R rb cap i0 i k A n : Nat) (s : List UInt8) (cur : List Value) (_hBw : B ≤ w.heap.size) (hRm : R ≠ m) (hRg : R ≠ g0) (hrm : rb ≠ m) (hrg : rb ≠ g0) (hrB : rb < B) (hAm : A ≠ m) (hAR : A ≠ R) (hAg : A ≠ g0) (hAlo : lo ≤ A) (_hlw : lo ≤ w.heap.size)
    (hl1 : lo ≤ m) (hl2 : lo ≤ g0) (hl3 : lo ≤ R) (hl4 : lo ≤ B) (hM : MemAt m g0 B ((s.drop i0).take n) i wr) (hin9 : i + k ≤ n) (hn9 : i0 + n ≤ s.length) (hn10 : n ≤ 10000000) (hR0 : RAt R rb cap s (i0 + i) wr) (hcb : Blk wr A 148 cur.toArray) (hcl : cur.length = 512) (hbel : Below lo w wr)
    (hk : i0 + i + k ≤ s.length) (hk1 : 1 ≤ k) (hk2 : k ≤ 512) (hi : i ≤ 10000000)
    (hR1 : RAt R rb cap s (i0 + i + k) w1) (hC1 : Blk w1 A 148 (splice cur 0 (Lib.byteCells ((s.drop (i0 + i)).take k))).toArray) (hO1 : Off [R, A] wr w1) :
    ∀ W, Drew w1 W → Calls Tryz.prog 161 #[.pointer (some ⟨m, 0, none⟩), .slice (some ⟨A, 0, none⟩) k 512] W fun e w' => e = .returned (.tuple #[.int .i64 (k : Int), .nilIface]) ∧ MemAt m g0 B ((s.drop i0).take n) (i + k) w' ∧ RAt R rb cap s (i0 + (i + k)) w' ∧ (∃ cur : List Value, cur.length = 512 ∧ Blk w' A 148 cur.toArray) ∧ (Below lo w w' ∧ A < w'.heap.size) := by
  intro W hW
  have hbw : w.heap.size ≤ wr.heap.size := hbel.size
  have hpl : ((s.drop (i0 + i)).take k).length = k := by rw [List.length_take, List.length_drop]; omega
  have hll : ((s.drop i0).take n).length = n := by rw [List.length_take, List.length_drop]; omega
  have hM1 : MemAt m g0 B ((s.drop i0).take n) i w1 := hM.off hO1 (ni2 (Ne.symm hRm) (Ne.symm hAm)) (fun x hx => by
    simp at hx
    rcases hx with rfl | rfl
    · obtain ⟨q, hq⟩ := hR0.rd
      exact ⟨hRg, fun _ _ => ⟨_, _, by decide, hq⟩⟩
    · exact ⟨hAg, fun _ _ => ⟨_, _, by decide, hcb⟩⟩)
  have hOW : Off [] w1 W := Off.ofDrew hW
  have hMW := hM1.off hOW (by simp) (fun x hx => by simp at hx)
  have hCW := hC1.off hOW (by simp)
  have hRW := hR1.off hOW (by simp) (by simp)
  have hseg : Seg W A 0 ((s.drop (i0 + i)).take k) := by
    have h1 := hCW
    rw [splice0] at h1
    exact Blk.seg h1
  have hs1 := hO1.size
  have hs2 := hOW.size
  have hpe : (s.drop (i0 + i)).take k = (((s.drop i0).take n).drop i).take k := by
    rw [List.drop_take, List.take_take, List.drop_drop, Nat.min_eq_left (by omega)]
  refine (memWriteIn hMW A 0 k 512 ((s.drop (i0 + i)).take k) hseg hpe hpl hk1 (by omega) (by rw [hll]; exact hin9) (by rw [hll]; exact hn10)).mono ?_
  rintro e w' ⟨rfl, h1, h2⟩
  have hRl := hR0.lt
  have hAl := hcb.lt
  refine ⟨rfl, h1, ?_, ⟨_, ?_, h2.blk hCW hAm hAg (by decide)⟩, ?_, ?_⟩
  · rw [← Nat.add_assoc]
    exact hRW.keptM h2 hRm hRg hrm hrg hrB
  · rw [splice0_length _ _ (by rw [hpl]; omega), hcl]
  · exact ((hbel.trans (hO1.belowLo (by omega) (fun x hx => by simp at hx; rcases hx with rfl | rfl; exact hl3; exact hAlo))).trans (hOW.belowLo (by omega) (fun x hx => by simp at hx))).trans (h2.below (by omega) hl1 hl2 hl4)
  · have := h2.size; omega

set_option maxRecDepth 100000 in
set_option maxHeartbeats 4000000 in
theorem zzCopy_in {m g0 B lo : Nat} {w : World} (s : List UInt8) (i0 n : Nat) (h : MemAt m g0 B ((s.drop i0).take n) 0 w) (hBw : B ≤ w.heap.size) (R rb cap : Nat) (hR : RAt R rb cap s i0 w) (hRm : R ≠ m) (hRg : R ≠ g0) (hrm : rb ≠ m) (hrg : rb ≠ g0) (hrB : rb < B) (hn : i0 + n ≤ s.length) (hn0 : 0 < n) (hn1 : n ≤ 10000000) (hg0 : g0 < w.heap.size)
    (hl1 : lo ≤ m) (hl2 : lo ≤ g0) (hl3 : lo ≤ R) (hl4 : lo ≤ B) :
    Calls Tryz.prog 31 #[.iface 61 (.pointer (some ⟨m, 0, none⟩)), .iface 55 (.pointer (some ⟨R, 0, none⟩)), .int .i64 (n : Int)] w fun e w' => e = .returned (.tuple #[.int .i64 (n : Int), .nilIface]) ∧ MemAt m g0 B ((s.drop i0).take n) n w' ∧ Below lo w w' := by
  obtain ⟨Z, hZs, hZ⟩ := zero512
  have hml := h.lt
  have hRl := hR.lt
  have hbl : rb < w.heap.size := by omega
  have hnn : ¬ ((n : Int) < 0) := by omega
  have hm1 := method_read
  have hm2 := method_memWrite
  have hm3 := nil_memWrite
  have HM := Lib.hid h
  have HR := Lib.hid hR
  clear h hR
  obtain ⟨A, hA⟩ : ∃ A, A = w.heap.size := ⟨_, rfl⟩
  go_enter Tryz.func31, Tryz.ntmps31
  go_wp2_with fail
  rw [← hA]
  have hAm : A ≠ m := by omega
  have hAR : A ≠ R := by omega
  have hAb : A ≠ rb := by omega
  have hAg : A ≠ g0 := by omega
  have hAB : B ≤ A := by omega
  have hAlo : lo ≤ A := by omega
  have HA := Lib.hid hA
  clear hA
  go_loopg [10, 11] n (fun kx s10 s11 wr => ∃ i : Nat, s10 = .int .i64 (i : Int) ∧ i < n ∧ n - i ≤ kx ∧ Hid (MemAt m g0 B ((s.drop i0).take n) i wr) ∧ Hid (RAt R rb cap s (i0 + i) wr) ∧ Hid (∃ cur : List Value, cur.length = 512 ∧ Blk wr A 148 cur.toArray) ∧ Hid (Below lo w wr ∧ A < wr.heap.size))
  case atStart =>
    have hal : Off [] w (w.alloc (.cells Z 148)) := (Off.refl [] w).alloc _
    refine ⟨0, rfl, hn0, by omega, Lib.hid ?_, Lib.hid ?_, Lib.hid ⟨Z.toList, by rw [Array.length_toList]; exact hZs, ?_⟩, Lib.hid ⟨hal.belowLo (by omega) (fun x hx => by simp at hx), by have := HA.out; simp; omega⟩⟩
    · exact HM.out.off hal (by simp) (fun x hx => by simp at hx)
    · exact HR.out.off hal (by simp) (by simp)
    · rw [Array.toArray_toList]; exact Blk.new' w _ _ HA.out
  case round =>
    rename World => wr
    obtain ⟨i, rfl, hin, hkx, HM1, HR1, HC1, HB1⟩ := hrel
    obtain ⟨cur, hcl, hcb⟩ := HC1.out
    obtain ⟨hbel, hAw⟩ := HB1.out
    obtain ⟨r, hr⟩ : ∃ r, r = n - i := ⟨_, rfl⟩
    have hsub : (n : Int) - (i : Int) = (r : Int) := by omega
    have hwr : IntKind.i64.wrap (r : Int) = (r : Int) := by rw [IntKind.wrap_i64]; omega
    have hinz : (i : Int) < (n : Int) := by omega
    have hr1 : i + r ≤ n := by omega
    have hr2 : n ≤ i + r := by omega
    clear hr
    by_cases h512 : r < 512
    · have h5z : (r : Int) < 512 := by omega
      have h5b : (r : Int) ≤ 512 := by omega
      have hadd : (i : Int) + (r : Int) = (n : Int) := by omega
      have hRD := HR1.out.read_more A 0 r 512 r cur 148 hcb (by omega) (by omega) (by omega) (by show r = min _ _; omega) (by omega) (by omega)
      have HRD := Lib.hid hRD
      clear hRD
      go_wp2_with (go_at_call 142; refine HRD.out.mono ?_; rintro e w1 ⟨rfl, hR1, hC1, hO1⟩; have HRR := Lib.hid hR1; have HCC := Lib.hid hC1; have HOO := Lib.hid hO1; clear hR1 hC1 hO1)
      have hWR := Lib.hid (cpi_write R rb cap i0 i r A n s cur hBw hRm hRg hrm hrg hrB hAm hAR hAg hAlo (by omega) hl1 hl2 hl3 hl4 HM1.out (by omega) hn hn1 HR1.out hcb hcl hbel (by omega) (by omega) (by omega) (by omega) HRR.out HCC.out HOO.out)
      go_region_held3 (fun w' => True) (exact trivial) (first | (go_at_call 161; refine (hWR.out _ (by repeat' (first | exact Drew.refl _ | exact Drew.one _ | refine Drew.more ?_ 1))).mono ?_; rintro e w3 ⟨rfl, hm3, hr3, hc3, hb3⟩; have HM3 := Lib.hid hm3; have HR3 := Lib.hid hr3; have HC3 := Lib.hid hc3; have HB3 := Lib.hid hb3; clear hm3 hr3 hc3 hb3))
      all_goals go_wp2_with fail
      all_goals go_ret2
      all_goals (
        have hM9 := HM3.out
        rw [show i + r = n by omega] at hM9
        exact ⟨rfl, hM9, HB3.out.1⟩)
    · have h5z : ¬ (r : Int) < 512 := by omega
      have hRD := HR1.out.read_more A 0 512 512 512 cur 148 hcb (by omega) (by omega) (by omega) (by show 512 = min _ _; omega) (by omega) (by omega)
      rw [show ((512 : Nat) : Int) = 512 from rfl] at hRD
      have HRD := Lib.hid hRD
      clear hRD
      go_wp2_with (go_at_call 142; refine HRD.out.mono ?_; rintro e w1 ⟨rfl, hR1, hC1, hO1⟩; have HRR := Lib.hid hR1; have HCC := Lib.hid hC1; have HOO := Lib.hid hO1; clear hR1 hC1 hO1)
      have hWR := Lib.hid (cpi_write R rb cap i0 i 512 A n s cur hBw hRm hRg hrm hrg hrB hAm hAR hAg hAlo (by omega) hl1 hl2 hl3 hl4 HM1.out (by omega) hn hn1 HR1.out hcb hcl hbel (by omega) (by omega) (by omega) (by omega) HRR.out HCC.out HOO.out)
      rw [show ((512 : Nat) : Int) = 512 from rfl] at hWR
      go_region_held3 (fun w' => True) (exact trivial) (first | (go_at_call 161; refine (hWR.out _ (by repeat' (first | exact Drew.refl _ | exact Drew.one _ | refine Drew.more ?_ 1))).mono ?_; rintro e w3 ⟨rfl, hm3, hr3, hc3, hb3⟩; have HM3 := Lib.hid hm3; have HR3 := Lib.hid hr3; have HC3 := Lib.hid hc3; have HB3 := Lib.hid hb3; clear hm3 hr3 hc3 hb3))
      all_goals (by_cases he : i + 512 = n)
      all_goals first
        | (have hadd : (i : Int) + 512 = (n : Int) := by omega
           go_wp2_with fail
           go_ret2
           have hM9 := HM3.out
           rw [he] at hM9
           exact ⟨rfl, hM9, HB3.out.1⟩)
        | (have hne : ((i : Int) + 512 == (n : Int)) = false := beq_eq_false_iff_ne.2 (by omega)
           go_wp2_with fail
           go_roundg (n - (i + 512))
           case measure => omega
           case rel => exact ⟨i + 512, by go_num, by omega, by omega, HM3, HR3, HC3, HB3⟩)
end Go.Proofs.YthmhnknkidkdlaaGreatDoor
