/-
  SlickReaderStream: Readn1, Readnzc and what makes one, over a bytes.Reader where bytes are left; io.ReadAtLeast that one Read serves.
  io.ReadAtLeast and io.ReadFull where one Read gives all.
  SlickReaderStream: Readnzc of fewer than 32 bytes; io.ReadFull over a bytes.Reader; what makes a stream.
  Reading out of a bytes.Reader: io.ReadFull, numbers; Seek.
  internalio.ToByteReadSeeker, ToByteReader of a bytes.Reader: itself.
  varint.ReadUvarint over any reader of bytes: a number below 2^63.
  (No condition beyond those that each theorem states.)
-/
import Derived.Test.YthmhnknkidkdlaaGreatDoorB05
import Derived.Test.YthmhnknkidkdlaaGreatDoorProg
import Derived.Deep.RegionWith
import Derived.Deep.RegionLaw
import Derived.Deep.QuietTactic
import Derived.BigQuiet
import Derived.Deep.DeepFit
import Derived.RegionCalls
import Derived.LoopTactic
import Derived.LoopN
import Derived.Test.YthmhnknkidkdlaaGreatDoorB04
import Derived.Test.YthmhnknkidkdlaaGreatDoorB03
import Derived.Test.YthmhnknkidkdlaaGreatDoorB02
import Derived.Deep.LoopGhost
namespace Go.Proofs.YthmhnknkidkdlaaGreatDoor
open Go.RowKit

/-- A SlickReaderStream's cells: nothing tracked. -/
def ssCells (T : Nat) (sc : List Value) (m : Int) : List Value := [Value.iface 235 (.pointer (some ⟨T, 0, none⟩))] ++ (sc ++ [Value.int .i64 m, .slice none 0 0, .bool false])
/-- Block S is a SlickReaderStream over the readerToScanner T: nothing tracked. -/
def SsC (w : World) (S T : Nat) (sc : List Value) (m : Int) : Prop := Blk w S 242 (ssCells T sc m).toArray

theorem SsC.cells {w : World} {S T : Nat} {sc : List Value} {m : Int} (h : SsC w S T sc m) (hl : sc.length = 32) :
    w.cell? ⟨S, 0, none⟩ = some (.iface 235 (.pointer (some ⟨T, 0, none⟩))) ∧ w.cell? ⟨S, 33, none⟩ = some (.int .i64 m) ∧ w.cell? ⟨S, 34, none⟩ = some (.slice none 0 0) ∧ w.cell? ⟨S, 35, none⟩ = some (.bool false) := by
  refine ⟨?_, ?_, ?_, ?_⟩
  · rw [Blk.cell h]; simp [ssCells]
  all_goals
    rw [Blk.cell h]
    simp only [List.getElem?_toArray, ssCells]
    rw [List.getElem?_append_right (by simp), List.getElem?_append_right (by simp [hl])]
    simp [hl]
theorem SsC.count {w : World} {S T : Nat} {sc : List Value} {m : Int} (h : SsC w S T sc m) (hl : sc.length = 32) (m' : Int) : SsC (w.setCell ⟨S, 33, none⟩ (.int .i64 m')) S T sc m' := by
  have h2 := Blk.set_ h 33 (.int .i64 m')
  have e : ((ssCells T sc m).toArray).setIfInBounds 33 (.int .i64 m') = (ssCells T sc m').toArray := by
    simp only [List.setIfInBounds_toArray, ssCells]
    rw [List.set_append_right _ _ (by simp), List.set_append_right _ _ (by simp [hl])]
    simp [hl]
  rw [e] at h2
  exact h2

theorem method_tReadByte (a : Addr) (w : World) : (method 480 235 (.pointer (some a)) "ReadByte").run Tryz.prog w = .ok (271, .pointer (some a)) w := by kernel_rfl
theorem method_tRead (a : Addr) (w : World) : (method 480 235 (.pointer (some a)) "Read").run Tryz.prog w = .ok (270, .pointer (some a)) w := by kernel_rfl
theorem nil_tRead (a : Addr) (w : World) : (nilAhead 480 235 (.pointer (some a)) "Read").run Tryz.prog w = .ok (some false) w := by kernel_rfl

/-- The whole chain of readers: a stream over a scanner over a bytes.Reader over the bytes l, at place i. -/
structure Chain (w : World) (S T R b n cap i : Nat) (l : List UInt8) (m : Int) : Prop where
  ss : ∃ sc : List Value, sc.length = 32 ∧ SsC w S T sc m
  ts : ∃ x y z, (y == 1) = false ∧ TsC w T R x y z
  rd : ∃ p, RdC w R b n cap i p
  seg : Seg w b 0 l
  len : n = l.length
  big : n ≤ 2147483700
  cap : n ≤ cap
  rb : R ≠ b
  rt : R ≠ T
  rs : R ≠ S
  ts' : T ≠ S
  tb : T ≠ b
  sb : S ≠ b
  eof : Eof w
  er : 1 < R
  et : 1 < T
  es : 1 < S

theorem Chain.off {w w' : World} {S T R b n cap i : Nat} {l : List UInt8} {m : Int} {X : List Nat} (h : Chain w S T R b n cap i l m) (k : Off X w w') (hX : S ∉ X ∧ T ∉ X ∧ R ∉ X ∧ b ∉ X ∧ 1 ∉ X) : Chain w' S T R b n cap i l m := by
  obtain ⟨sc, hl, hs⟩ := h.ss
  obtain ⟨x, y, z, hy, ht⟩ := h.ts
  obtain ⟨p, hp⟩ := h.rd
  exact { h with ss := ⟨sc, hl, k.blk hs hX.1⟩, ts := ⟨x, y, z, hy, k.blk ht hX.2.1⟩, rd := ⟨p, k.blk hp hX.2.2.1⟩, seg := k.seg h.seg hX.2.2.2.1, eof := h.eof.off k hX.2.2.2.2 }

set_option maxRecDepth 100000 in
set_option maxHeartbeats 1000000 in
theorem readn1 (S T R b n cap i : Nat) (l : List UInt8) (m : Int) (w : World) (h : Chain w S T R b n cap i l m) (hi : i < n) (hm : 0 ≤ m) (hm2 : m < 4611686018427387904) (c : Int) (hc : ((l[i]'(h.len ▸ hi)).toNat : Int) = c) :
    Calls Tryz.prog 264 #[.pointer (some ⟨S, 0, none⟩)] w fun e w' => e = .returned (.tuple #[.int .u8 c, .nilIface]) ∧ Chain w' S T R b n cap (i + 1) l (m + 1) ∧ Off [S, T, R] w w' := by
  have hh := h
  obtain ⟨⟨sc, hl, hs⟩, ⟨x, y, z, hy, ht⟩, ⟨p, hp⟩, hseg, hn, hbig, hcap, hrb, hrt, hrs, hts, htb, hsb, hE, her, het, hes⟩ := h
  obtain ⟨c0, c33, c34, c35⟩ := hs.cells hl
  have HC := Lib.hid (tReadByte T R b n cap i p x y z l w hn ht hy hp hseg hrb hrt hi hbig hcap c hc hE (by omega) (by omega))
  have HH := Lib.hid hh
  have HS := Lib.hid hs
  have HSEG := Lib.hid hseg
  have HE := Lib.hid hE
  have HL := Lib.hid hl
  have hm1 := method_tReadByte
  have hw1 : IntKind.i64.wrap (m + 1) = m + 1 := by rw [IntKind.wrap_i64]; omega
  clear hc
  clear hh hs ht hp hseg hn hE hl
  go_enter Tryz.func264, Tryz.ntmps264
  go_wp2_with fail
  refine HC.out.mono ?_
  rintro e w1 ⟨rfl, hT1, hR1, hO1⟩
  have hS1 : SsC w1 S T sc m := hO1.blk HS.out (by simp; exact ⟨fun e => hts e.symm, fun e => hrs e.symm⟩)
  obtain ⟨c0, c33, c34, c35⟩ := hS1.cells HL.out
  have f33 := Blk.frozen hS1 33
  have HS1 := Lib.hid hS1
  have HT1 := Lib.hid hT1
  have HR1 := Lib.hid hR1
  have HO1 := Lib.hid hO1
  clear hS1 hT1 hR1 hO1 HC
  go_wp2_with fail
  go_ret2
  have hO2 : Off [S, T, R] w (w1.setCell ⟨S, 33, none⟩ (.int .i64 (m + 1))) := (HO1.out.mono (S' := [S, T, R]) (fun x h => by simp at h; rcases h with h | h <;> simp [h])).setCell (p := ⟨S, 33, none⟩) (by simp) _
  refine ⟨rfl, { HH.out with ss := ⟨sc, HL.out, HS1.out.count HL.out _⟩, ts := ⟨c, 2, c, by decide, HT1.out.far (p := ⟨S, 33, none⟩) hts _⟩, rd := ⟨-1, HR1.out.far (p := ⟨S, 33, none⟩) hrs _⟩, seg := hO2.seg HSEG.out (by simp; exact ⟨fun e => hsb e.symm, fun e => htb e.symm, fun e => hrb e.symm⟩), eof := HE.out.off hO2 (by simp; omega) }, hO2⟩
end Go.Proofs.YthmhnknkidkdlaaGreatDoor
namespace Go.Proofs.YthmhnknkidkdlaaGreatDoor
open Go.RowKit

theorem Drew.step {a b : World} (h : Drew a b) : Drew a b.drew := h.more 1

set_option maxRecDepth 100000 in
set_option maxHeartbeats 1000000 in
theorem readAtLeast_br (A g o m dc : Nat) (w : World) (Q : World → Prop) (hm0 : 0 < m) (hmc : m ≤ dc) (hbig : m ≤ 2147483700)
    (HC : ∀ W, Drew w W → Calls Tryz.prog 142 #[.pointer (some ⟨A, 0, none⟩), .slice (some ⟨g, o, none⟩) m dc] W fun e w' => e = .returned (.tuple #[.int .i64 m, .nilIface]) ∧ Q w') :
    Calls Tryz.prog 82 #[.iface 55 (.pointer (some ⟨A, 0, none⟩)), .slice (some ⟨g, o, none⟩) m dc, .int .i64 m] w fun e w' => e = .returned (.tuple #[.int .i64 m, .nilIface]) ∧ Q w' := by
  have hmf : ∀ (fn : Fn) (first cap : Array Value) (w : World), (Instr.makeFunc fn first cap).run Tryz.prog w = .ok (.func fn first cap) w := fun _ _ _ _ => rfl
  have hm1 := method_read
  have hm2 := nil_read
  have HH := Lib.hid HC
  have hw1 : IntKind.i64.wrap ((0 : Int) + (m : Int)) = (m : Int) := by rw [IntKind.wrap_i64]; omega
  have hdc : ¬ dc = 0 := by omega
  clear HC
  go_enter Tryz.func82, Tryz.ntmps82
  go_wp2_with fail
  refine wp_loop_rounds 2 ?_
  rw [rounds_succ]
  go_wp2_with fail
  go_region_with (go_at_call 142; refine (HH.out _ (by repeat' (first | exact Drew.refl _ | refine Drew.step ?_))).mono ?_; rintro e w1 ⟨rfl, hq⟩; have HQ1 := Lib.hid hq; clear hq)
  all_goals
    go_wp2_with fail
    rw [rounds_succ]
    go_wp2_with fail
    go_ret2
    exact ⟨rfl, HQ1.out⟩

set_option maxRecDepth 100000 in
set_option maxHeartbeats 1000000 in
theorem readAtLeast_ts (A g o m dc : Nat) (w : World) (Q : World → Prop) (hm0 : 0 < m) (hmc : m ≤ dc) (hbig : m ≤ 2147483700)
    (HC : ∀ W, Drew w W → Calls Tryz.prog 270 #[.pointer (some ⟨A, 0, none⟩), .slice (some ⟨g, o, none⟩) m dc] W fun e w' => e = .returned (.tuple #[.int .i64 m, .nilIface]) ∧ Q w') :
    Calls Tryz.prog 82 #[.iface 235 (.pointer (some ⟨A, 0, none⟩)), .slice (some ⟨g, o, none⟩) m dc, .int .i64 m] w fun e w' => e = .returned (.tuple #[.int .i64 m, .nilIface]) ∧ Q w' := by
  have hmf : ∀ (fn : Fn) (first cap : Array Value) (w : World), (Instr.makeFunc fn first cap).run Tryz.prog w = .ok (.func fn first cap) w := fun _ _ _ _ => rfl
  have hm1 := method_tRead
  have hm2 := nil_tRead
  have HH := Lib.hid HC
  have hw1 : IntKind.i64.wrap ((0 : Int) + (m : Int)) = (m : Int) := by rw [IntKind.wrap_i64]; omega
  have hdc : ¬ dc = 0 := by omega
  clear HC
  go_enter Tryz.func82, Tryz.ntmps82
  go_wp2_with fail
  refine wp_loop_rounds 2 ?_
  rw [rounds_succ]
  go_wp2_with fail
  go_region_with (go_at_call 270; refine (HH.out _ (by repeat' (first | exact Drew.refl _ | refine Drew.step ?_))).mono ?_; rintro e w1 ⟨rfl, hq⟩; have HQ1 := Lib.hid hq; clear hq)
  all_goals
    go_wp2_with fail
    rw [rounds_succ]
    go_wp2_with fail
    go_ret2
    exact ⟨rfl, HQ1.out⟩

end Go.Proofs.YthmhnknkidkdlaaGreatDoor
namespace Go.Proofs.YthmhnknkidkdlaaGreatDoor
open Go.RowKit

theorem splice_ss (T : Nat) (sc bs : List Value) (m : Int) (hb : bs.length ≤ sc.length) : splice (ssCells T sc m) 1 bs = ssCells T (bs ++ sc.drop bs.length) m := by
  simp only [splice, ssCells]
  rw [show 1 + bs.length = bs.length + 1 from by omega]
  simp [List.drop_append, List.append_assoc, hb]

theorem Chain.drew {w w' : World} {S T R b n cap i : Nat} {l : List UInt8} {m : Int} (h : Chain w S T R b n cap i l m) (k : Drew w w') : Chain w' S T R b n cap i l m := h.off (X := []) (Off.ofDrew k) (by simp)

/-- What Readnzc leaves. -/
def ReadN (w : World) (S T R b n cap i k : Nat) (l : List UInt8) (m : Int) (w' : World) : Prop := ∃ sc', sc'.length = 32 ∧ SsC w' S T sc' m ∧ Seg w' S 1 ((l.drop i).take k) ∧ (∃ x z, TsC w' T R x 2 z) ∧ RdC w' R b n cap (i + k) (-1) ∧ Off [S, T, R] w w'

theorem readN_ts (S T R b n cap i k : Nat) (l : List UInt8) (m : Int) (w W : World) (hW : Drew w W) (h : Chain w S T R b n cap i l m) (hk0 : 0 < k) (hk : k < 32) (hik : i + k ≤ n) :
    Calls Tryz.prog 270 #[.pointer (some ⟨T, 0, none⟩), .slice (some ⟨S, 1, none⟩) k 32] W fun e w' => e = .returned (.tuple #[.int .i64 k, .nilIface]) ∧ ReadN w S T R b n cap i k l m w' := by
  obtain ⟨⟨sc, hl, hs⟩, ⟨x, y, z, hy, ht⟩, ⟨p, hp⟩, hseg, hn, hbig, hcap, hrb, hrt, hrs, hts, htb, hsb, hE, her, het, hes⟩ := h.drew hW
  refine (tRead T R S 1 k 32 b n cap i k p x y z l (ssCells T sc m) _ W hn ht hy hp hseg hs hrb hrt hrs hts (by omega) (by show k = min (n - i) k; omega) hk0 (by simp [ssCells]; omega) hbig hcap hE (by omega) (by omega) (by omega)).mono ?_
  rintro e w' ⟨rfl, ⟨x', hT⟩, hR, hS, hO⟩
  have hbl : (Lib.byteCells ((l.drop i).take k)).length = k := by rw [Lib.byteCells_length]; simp; omega
  rw [splice_ss _ _ _ _ (by omega)] at hS
  refine ⟨rfl, _, ?_, hS, ?_, ⟨x', z, hT⟩, hR, (Off.ofDrew (S := []) hW).trans hO |>.mono (fun x h => by simp at h; rcases h with h | h | h <;> simp [h])⟩
  · simp; omega
  · refine Seg.of_block (cs := ssCells T (Lib.byteCells ((l.drop i).take k) ++ sc.drop (Lib.byteCells ((l.drop i).take k)).length) m) hS ?_
    intro j hj
    rw [ssCells, List.getElem?_append_right (by simp), List.append_assoc, List.getElem?_append_left (by rw [Lib.byteCells_length]; simp at hj ⊢; omega)]
    have e2 : 1 + j - [Value.iface 235 (.pointer (some ⟨T, 0, none⟩))].length = j := by simp
    rw [e2]
    simp only [Lib.byteCells, List.getElem?_map, List.getElem?_eq_getElem hj]
    rfl

set_option maxRecDepth 100000 in
set_option maxHeartbeats 1000000 in
theorem readnPartial_ok (S T R b n cap i k : Nat) (l : List UInt8) (m : Int) (w : World) (h : Chain w S T R b n cap i l m) (hk0 : 0 < k) (hk : k < 32) (hik : i + k ≤ n) (hm : 0 ≤ m) (hm2 : m < 4611686018427387904) :
    Calls Tryz.prog 269 #[.pointer (some ⟨S, 0, none⟩), .int .i64 k] w fun e w' => e = .returned (.tuple #[.slice (some ⟨S, 1, none⟩) k 32, .nilIface]) ∧ Seg w' S 1 ((l.drop i).take k) ∧ Chain w' S T R b n cap (i + k) l (m + k) ∧ Off [S, T, R] w w' := by
  obtain ⟨sc, hl, hs⟩ := h.ss
  obtain ⟨c0, c33, c34, c35⟩ := hs.cells hl
  have hbig := h.big
  have hsl := fun W => run_sliceAt_arr (P := Tryz.prog) Tryz.underlying240 (info_parts Tryz.infoByte).choose_spec.1 S 1 k (by omega) W
  have HC := Lib.hid (readAtLeast_ts T S 1 k 32 w (ReadN w S T R b n cap i k l m) hk0 (by omega) (by omega) (fun W hW => readN_ts S T R b n cap i k l m w W hW h hk0 hk hik))
  have HH := Lib.hid h
  have hw1 : IntKind.i64.wrap (m + k) = m + k := by rw [IntKind.wrap_i64]; omega
  have hb0 : ((k : Int) == 0) = false := beq_eq_false_iff_ne.2 (by omega)
  have hb1 : decide ((k : Int) < 32) = true := by simp; omega
  clear h hs
  go_enter Tryz.func269, Tryz.ntmps269
  go_wp2_with fail
  refine HC.out.mono ?_
  rintro e w1 ⟨rfl, sc', hl', hS1, hseg1, ⟨x, z, hT1⟩, hR1, hO1⟩
  obtain ⟨c0, c33, c34, c35⟩ := hS1.cells hl'
  have f33 := Blk.frozen hS1 33
  have HS1 := Lib.hid hS1
  have HT1 := Lib.hid hT1
  have HR1 := Lib.hid hR1
  have HO1 := Lib.hid hO1
  have HG1 := Lib.hid hseg1
  have HL1 := Lib.hid hl'
  clear hS1 hT1 hR1 hO1 hseg1 HC hl'
  go_wp2_with fail
  go_ret2
  obtain ⟨_, _, ⟨p, hp⟩, hseg, hn, hbig, hcap, hrb, hrt, hrs, hts, htb, hsb, hE, her, het, hes⟩ := HH.out
  have hO2 : Off [S, T, R] w (w1.setCell ⟨S, 33, none⟩ (.int .i64 (m + k))) := HO1.out.setCell (p := ⟨S, 33, none⟩) (by simp) _
  have hS2 := HS1.out.count HL1.out (m + k)
  refine ⟨rfl, ?_, { HH.out with ss := ⟨sc', HL1.out, hS2⟩, ts := ⟨x, 2, z, by decide, HT1.out.far (p := ⟨S, 33, none⟩) hts _⟩, rd := ⟨-1, HR1.out.far (p := ⟨S, 33, none⟩) hrs _⟩, seg := hO2.seg hseg (by simp; exact ⟨fun e => hsb e.symm, fun e => htb e.symm, fun e => hrb e.symm⟩), eof := hE.off hO2 (by simp; omega) }, hO2⟩
  intro j hj
  rw [World.cell?_setCell_other _ _ _ _ (by intro e; injection e with _ e2 _; simp at hj; omega)]
  exact HG1.out j hj

set_option maxRecDepth 100000 in
set_option maxHeartbeats 1000000 in
theorem readnzc_ok (S T R b n cap i k : Nat) (l : List UInt8) (m : Int) (w : World) (h : Chain w S T R b n cap i l m) (hk0 : 0 < k) (hk : k < 32) (hik : i + k ≤ n) (hm : 0 ≤ m) (hm2 : m < 4611686018427387904) :
    Calls Tryz.prog 265 #[.pointer (some ⟨S, 0, none⟩), .int .i64 k] w fun e w' => e = .returned (.tuple #[.slice (some ⟨S, 1, none⟩) k 32, .nilIface]) ∧ Seg w' S 1 ((l.drop i).take k) ∧ Chain w' S T R b n cap (i + k) l (m + k) ∧ Off [S, T, R] w w' := by
  have HC := Lib.hid (readnPartial_ok S T R b n cap i k l m w h hk0 hk hik hm hm2)
  clear h
  go_enter Tryz.func265, Tryz.ntmps265
  go_wp2_with fail
  refine HC.out.mono ?_
  rintro e w1 ⟨rfl, hseg1, hC1, hO1⟩
  have HG1 := Lib.hid hseg1
  have HC1 := Lib.hid hC1
  have HO1 := Lib.hid hO1
  clear hseg1 hC1 hO1
  go_wp2_with fail
  go_ret2
  exact ⟨rfl, HG1.out, HC1.out, HO1.out⟩

set_option maxRecDepth 100000 in
set_option maxHeartbeats 1000000 in
theorem newReader_ok (R : Nat) (w : World) :
    Calls Tryz.prog 90 #[.iface 55 (.pointer (some ⟨R, 0, none⟩))] w fun e w' => e = .returned (.iface 234 (.pointer (some ⟨w.heap.size + 1, 0, none⟩))) ∧ SsC w' (w.heap.size + 1) w.heap.size (zeroBytes 32) 0 ∧ TsC w' w.heap.size R 0 0 0 ∧ Off [] w w' ∧ w'.heap.size = w.heap.size + 2 := by
  go_enter Tryz.func90, Tryz.ntmps90
  go_wp2_with fail
  go_ret
  refine ⟨rfl, Blk.new' (w.alloc _) _ _ (by simp), (Blk.new w _ _).alloc _, ((Off.refl [] w).alloc _).alloc _, by simp⟩

/-- Reading a whole row out of a bytes.Reader. -/
theorem readFull_br (R g b m n cap i : Nat) (p : Int) (l : List UInt8) (cur : List Value) (t : TypeId) (w : World) (hn : n = l.length) (hR : RdC w R b n cap i p) (hs : Seg w b 0 l) (hg : Blk w g t cur.toArray) (hRb : R ≠ b) (hRg : R ≠ g) (hm0 : 0 < m) (hm : m ≤ n - i) (hcl : cur.length = m) (hL : n ≤ 2147483700) (hcap : n ≤ cap) :
    Calls Tryz.prog 72 #[.iface 55 (.pointer (some ⟨R, 0, none⟩)), .slice (some ⟨g, 0, none⟩) m m] w fun e w' => e = .returned (.tuple #[.int .i64 m, .nilIface]) ∧ RdC w' R b n cap (i + m) (-1) ∧ Blk w' g t (Lib.byteCells ((l.drop i).take m)).toArray ∧ Off [R, g] w w' := by
  have hbl : (Lib.byteCells ((l.drop i).take m)).length = m := by rw [Lib.byteCells_length]; simp; omega
  have HC := Lib.hid (readAtLeast_br R g 0 m m w (fun w' => RdC w' R b n cap (i + m) (-1) ∧ Blk w' g t (Lib.byteCells ((l.drop i).take m)).toArray ∧ Off [R, g] w w') hm0 (Nat.le_refl _) (by omega) (fun W hW => by
    refine (brRead R g 0 m m b n cap i m p l cur t W hn (hW.blk hR) (hW.seg hs) (hW.blk hg) hRb hRg (by omega) (by show m = min (n - i) m; omega) hm0 (by omega) hL hcap).mono ?_
    rintro e w' ⟨rfl, h1, h2, h3⟩
    refine ⟨rfl, h1, ?_, ((Off.ofDrew (S := []) hW).trans h3).mono (fun x h => by simp at h; rcases h with h | h <;> simp [h])⟩
    have e : splice cur 0 (Lib.byteCells ((l.drop i).take m)) = Lib.byteCells ((l.drop i).take m) := by simp only [splice]; rw [hbl]; simp [hcl]
    rwa [e] at h2))
  clear hR hs hg
  go_enter Tryz.func72, Tryz.ntmps72
  go_wp2_with fail
  refine HC.out.mono ?_
  rintro e w1 ⟨rfl, h1, h2, h3⟩
  have H1 := Lib.hid h1
  have H2 := Lib.hid h2
  have H3 := Lib.hid h3
  clear h1 h2 h3
  go_wp2_with fail
  go_ret2
  exact ⟨rfl, H1.out, H2.out, H3.out⟩
end Go.Proofs.YthmhnknkidkdlaaGreatDoor
namespace Go.Proofs.YthmhnknkidkdlaaGreatDoor
open Go.RowKit

/-- Block R is a bytes.Reader over l (block b), at place i. -/
structure RAt (R b cap : Nat) (l : List UInt8) (i : Nat) (w : World) : Prop where
  rd : ∃ p, RdC w R b l.length cap i p
  seg : Seg w b 0 l
  ne : R ≠ b
  len : l.length ≤ 2147483700
  cap_ : l.length ≤ cap
theorem RAt.lt {R b cap i : Nat} {l : List UInt8} {w : World} (h : RAt R b cap l i w) : R < w.heap.size := by obtain ⟨p, hp⟩ := h.rd; exact Blk.lt hp
theorem RAt.off {R b cap i : Nat} {l : List UInt8} {w w' : World} {S : List Nat} (h : RAt R b cap l i w) (ho : Off S w w') (hR : R ∉ S) (hb : b ∉ S) : RAt R b cap l i w' := by
  obtain ⟨p, hp⟩ := h.rd
  exact { h with rd := ⟨p, Blk.off hp ho hR⟩, seg := h.seg.off ho hb }
theorem readFull_at {R b cap i : Nat} {l : List UInt8} {w : World} (h : RAt R b cap l i w) (g m : Nat) (cur : List Value) (t : TypeId) (hg : Blk w g t cur.toArray) (hRg : R ≠ g) (hbg : b ≠ g) (hm0 : 0 < m) (hm : m ≤ l.length - i) (hcl : cur.length = m) :
    Calls Tryz.prog 72 #[.iface 55 (.pointer (some ⟨R, 0, none⟩)), .slice (some ⟨g, 0, none⟩) m m] w fun e w' => e = .returned (.tuple #[.int .i64 m, .nilIface]) ∧ RAt R b cap l (i + m) w' ∧ Blk w' g t (Lib.byteCells ((l.drop i).take m)).toArray ∧ Off [R, g] w w' := by
  obtain ⟨p, hp⟩ := h.rd
  refine (readFull_br R g b m l.length cap i p l cur t w rfl hp h.seg hg h.ne hRg hm0 hm hcl h.len h.cap_).mono ?_
  rintro e w' ⟨he, h1, h2, h3⟩
  exact ⟨he, { h with rd := ⟨_, h1⟩, seg := h.seg.off h3 (ni2 (fun e => h.ne e.symm) hbg) }, h2, h3⟩

end Go.Proofs.YthmhnknkidkdlaaGreatDoor
namespace Go.Proofs.YthmhnknkidkdlaaGreatDoor
open Go.RowKit
set_option maxRecDepth 100000 in
theorem toBrs (a : Addr) (w : World) : Calls Tryz.prog 51 #[.iface 55 (.pointer (some a))] w fun e w' => e = .returned (.iface 55 (.pointer (some a))) ∧ w = w' := by
  have hta : ∀ W, (Instr.typeAssert (.iface 55 (.pointer (some a))) 117 119 true).run Tryz.prog W = .ok (.tuple #[.iface 55 (.pointer (some a)), .bool true]) W := fun W => by kernel_rfl
  go_enter Tryz.func51, Tryz.ntmps51
  go_wp2_with fail
  go_ret
  exact ⟨rfl, rfl⟩
set_option maxRecDepth 100000 in
theorem toBr (a : Addr) (w : World) : Calls Tryz.prog 89 #[.iface 55 (.pointer (some a))] w fun e w' => e = .returned (.iface 55 (.pointer (some a))) ∧ w = w' := by
  have hta : ∀ W, (Instr.typeAssert (.iface 55 (.pointer (some a))) 117 176 true).run Tryz.prog W = .ok (.tuple #[.iface 55 (.pointer (some a)), .bool true]) W := fun W => by kernel_rfl
  go_enter Tryz.func89, Tryz.ntmps89
  go_wp2_with fail
  go_ret
  exact ⟨rfl, rfl⟩
end Go.Proofs.YthmhnknkidkdlaaGreatDoor
namespace Go.Proofs.YthmhnknkidkdlaaGreatDoor
open Go.RowKit

theorem ret2w {a a' : Int} {k : IntKind} {v : Value} (h : a = a') : Ending.returned (.tuple #[.int k a, v]) = Ending.returned (.tuple #[.int k a', v]) := by rw [h]

set_option maxRecDepth 100000 in
set_option maxHeartbeats 2000000 in
theorem readUvarint_gen (ty f : Nat) (a : Addr) (x : Nat) (hx : x < 9223372036854775808) (St : Nat → World → Prop)
    (he : ∀ args W, (callFunc f args).run Tryz.prog W = .ok (.enter f args) W)
    (hm : ∀ W, (method 480 ty (.pointer (some a)) "ReadByte").run Tryz.prog W = .ok (f, .pointer (some a)) W)
    (hb : ∀ (j c : Nat) W, St j W → ((Lib.uvarint x)[j]?).map (·.toNat) = some c → Calls Tryz.prog f #[.pointer (some a)] W fun e w' => e = .returned (.tuple #[.int .u8 (c : Int), .nilIface]) ∧ St (j + 1) w')
    (w : World) (h0 : St 0 w) :
    Calls Tryz.prog 53 #[.iface ty (.pointer (some a))] w fun e w' => e = .returned (.tuple #[.int .u64 (x : Int), .nilIface]) ∧ St (Lib.uvarint x).length w' := by
  have HX := Lib.hid hx
  have HB := Lib.hid hb
  have H0 := Lib.hid h0
  clear hx hb h0
  go_enter Tryz.func53, Tryz.ntmps53
  go_wp2_with fail
  go_loopg [4, 5] 10 (fun kx s4 s5 wr => ∃ (j y acc : Nat) (pre : List UInt8), 9 - j ≤ kx ∧ Hid (pre.length = j ∧ Lib.uvarint x = pre ++ Lib.uvarint y ∧ x = acc + y * 2 ^ (7 * j) ∧ acc < 2 ^ (7 * j) ∧ (0 < j → 0 < y)) ∧
      s4 = .int .u64 acc ∧ s5 = .int .u64 ((7 * j : Nat) : Int) ∧ Hid (St j wr))
  case atStart => exact ⟨0, x, 0, [], by omega, Lib.hid ⟨rfl, rfl, by simp, by simp, by omega⟩, rfl, rfl, H0⟩
  case round =>
    rename World => wr
    obtain ⟨j, y, acc, pre, hkx, hh, rfl, rfl, HS⟩ := hrel
    obtain ⟨hpl, hsp, hxe, hacc, hy0⟩ := hh.out
    have hul := congrArg List.length hsp
    rw [List.length_append] at hul
    have hyp := Lib.uvarint_pos y
    have hx := HX.out
    have hget : (Lib.uvarint x)[j]? = (Lib.uvarint y)[0]? := by rw [hsp, List.getElem?_append_right (by omega)]; simp [hpl]
    have hi8 : j ≤ 8 := by
      rcases Nat.lt_or_ge j 9 with h | h
      · omega
      · exfalso
        have h1 : 2 ^ 63 ≤ 2 ^ (7 * j) := Nat.pow_le_pow_right (by omega) (by omega)
        have h2 := Nat.le_mul_of_pos_left (2 ^ (7 * j)) (hy0 (by omega))
        omega
    by_cases h128 : 128 ≤ y
    · have hb := Lib.uvarint_big h128
      have hmm := Lib.toUInt8_toNat (a := y % 128 + 128) (by omega)
      have hi7 : j ≤ 7 := by
        rcases Nat.lt_or_ge j 8 with h | h
        · omega
        · exfalso
          have h1 : 2 ^ 56 ≤ 2 ^ (7 * j) := Nat.pow_le_pow_right (by omega) (by omega)
          have h2 := Nat.mul_le_mul h128 h1
          omega
      have hby : ((Lib.uvarint x)[j]?).map (·.toNat) = some (y % 128 + 128) := by rw [hget, hb, List.getElem?_cons_zero, Option.map_some, hmm]
      have HC := Lib.hid (HB.out j (y % 128 + 128) wr HS.out hby)
      have HH := Lib.hid (And.intro hsp (And.intro hxe (And.intro hacc (And.intro hpl (And.intro hb hul)))))
      obtain ⟨c, hc⟩ : ∃ c, c = y % 128 + 128 := ⟨_, rfl⟩
      rw [← hc] at HC
      have hc1 : 128 ≤ c := by omega
      have hc2 : c < 256 := by omega
      have q1 : (((7 * j : Nat) : Int) == 56) = false := beq_eq_false_iff_ne.2 (by omega)
      have q2 : ¬ (63 : Int) ≤ ((7 * j : Nat) : Int) := by omega
      have q3 : (128 : Int) ≤ (c : Int) := by omega
      have q4 : ¬ ((c : Int) < 128) := by omega
      have HCE := Lib.hid hc
      clear hsp hxe hacc hpl hb hul hx hy0 hmm hyp hget hby hh hc
      go_wp2_with fail
      refine HC.out.mono ?_
      rintro e w1 ⟨rfl, hs1⟩
      have HS1 := Lib.hid hs1
      clear hs1
      go_wp2_with fail
      go_roundg (gk - 1)
      case measure => omega
      case rel =>
        obtain ⟨hsp, hxe, hacc, hpl, hb, hul⟩ := HH.out
        have hx := HX.out
        have hpw : 2 ^ (7 * (j + 1)) = 128 * 2 ^ (7 * j) := by rw [show 7 * (j + 1) = 7 + 7 * j from by omega, Nat.pow_add]
        have hdm : y * 2 ^ (7 * j) = y % 128 * 2 ^ (7 * j) + y / 128 * (128 * 2 ^ (7 * j)) := by
          rw [← Nat.mul_assoc, ← Nat.add_mul]; congr 1; omega
        have hlt : y % 128 * 2 ^ (7 * j) + 2 ^ (7 * j) ≤ 128 * 2 ^ (7 * j) := by
          rw [← Nat.succ_mul]; exact Nat.mul_le_mul_right _ (by omega)
        refine ⟨j + 1, y / 128, acc + y % 128 * 2 ^ (7 * j), pre ++ [(y % 128 + 128).toUInt8], by omega, Lib.hid ⟨by simp [hpl], by rw [hsp, hb]; simp, by rw [hpw]; omega, by rw [hpw]; omega, by omega⟩, ?_, by go_num, HS1⟩
        have ea : bits .and .u8 (c : Int) 127 = ((y % 128 : Nat) : Int) := by rw [HCE.out, u8_and127 (x := ((y % 128 + 128 : Nat) : Int)) (by omega) (by omega)]; omega
        have ew : IntKind.u64.wrap ((y % 128 : Nat) : Int) = ((y % 128 : Nat) : Int) := by rw [IntKind.wrap_u64, Int.emod_eq_of_lt (by omega) (by omega)]
        rw [ea, ew, or_join_w j acc (y % 128) hacc (by omega)]
    · have hb := Lib.uvarint_small (x := y) (by omega)
      have hmm := Lib.toUInt8_toNat (a := y) (by omega)
      have hby : ((Lib.uvarint x)[j]?).map (·.toNat) = some y := by rw [hget, hb, List.getElem?_cons_zero, Option.map_some, hmm]
      have HC := Lib.hid (HB.out j y wr HS.out hby)
      have HH := Lib.hid (And.intro hsp (And.intro hxe (And.intro hacc (And.intro hpl (And.intro hb hul)))))
      have q2 : ¬ (63 : Int) ≤ ((7 * j : Nat) : Int) := by omega
      have q3 : ¬ (128 : Int) ≤ (y : Int) := by omega
      have q4 : ((y : Int) < 128) := by omega
      have q5 : (y = 0 ∧ j = 0) ∨ ¬ y = 0 := by omega
      have HH0 := Lib.hid (And.intro q5 hy0)
      clear hsp hxe hacc hpl hb hul hx hy0 hmm hyp hget hby hh q5
      go_wp2_with fail
      refine HC.out.mono ?_
      rintro e w1 ⟨rfl, hs1⟩
      have HS1 := Lib.hid hs1
      clear hs1
      have hlast : Hid ((Lib.uvarint x).length = j + 1) := Lib.hid (by
        obtain ⟨_, _, _, hpl, hb, hul⟩ := HH.out
        rw [hb] at hul; simp at hul; omega)
      by_cases hz : y = 0
      · subst hz
        have hj0 : j = 0 := by have := HH0.out.2; omega
        subst hj0
        go_wp2_with fail
        go_ret2
        obtain ⟨hsp, hxe, hacc, hpl, hb, hul⟩ := HH.out
        refine ⟨ret2w ?_, by rw [hlast.out]; exact HS1.out⟩
        have ha : acc = 0 := by simpa using hacc
        subst ha
        rw [hxe]; rfl
      · have q6 : ((y : Int) == 0) = false := beq_eq_false_iff_ne.2 (by omega)
        go_wp2_with fail
        all_goals (try go_ret2)
        all_goals
          obtain ⟨hsp, hxe, hacc, hpl, hb, hul⟩ := HH.out
          have hx := HX.out
          refine ⟨ret2w ?_, by rw [hlast.out]; exact HS1.out⟩
          first
          | (rw [or_join_w j acc y hacc (by rw [← hxe]; omega), ← hxe]; done)
          | (have h0 : j = 8 := by clear hxe hacc; omega
             subst h0
             have hj := or_join_w 8 acc y hacc (by rw [← hxe]; omega)
             rw [← hxe] at hj
             have e : IntKind.u64.wrap ((y : Int) * 2 ^ (7 * 8)) = (y : Int) * 72057594037927936 := by rw [IntKind.wrap_u64, Int.emod_eq_of_lt (by omega) (by omega)]; rfl
             rw [e] at hj
             exact hj)
end Go.Proofs.YthmhnknkidkdlaaGreatDoor
