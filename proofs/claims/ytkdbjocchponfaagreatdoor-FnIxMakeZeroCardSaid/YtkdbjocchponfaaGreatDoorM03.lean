/-
  SlickReaderStream: Readn1, Readnzc and what makes one, over a bytes.Reader where bytes are left; io.ReadAtLeast that one Read serves.
  io.ReadAtLeast and io.ReadFull where one Read gives all.
  SlickReaderStream: Readnzc of fewer than 32 bytes; io.ReadFull over a bytes.Reader; what makes a stream.
  The CBOR decoder's small steps: numbers below 24, a phase pushed.
  The CBOR decoder's steps over the ten bytes of the pragma's map.
  The CBOR decoder's steps in a map of one entry: the key, the value, the end.
  The CBOR decoder's Step, at each of the four places of the pragma's map; what makes a decoder.
  What makes a decoder.
  (No condition beyond those that each theorem states.)
-/
import Derived.Test.YtkdbjocchponfaaGreatDoorM02
import Derived.Test.YtkdbjocchponfaaGreatDoorProg
import Derived.Deep.RegionWith
import Derived.Deep.RegionLaw
import Derived.Deep.QuietTactic
import Derived.BigQuiet
import Derived.Deep.DeepFit
import Derived.RegionCalls
import Derived.LoopTactic
import Derived.LoopN
import Derived.RegionTactic
import Derived.ChangeAlike
import Derived.Deep.RegionHeld3
namespace Go.Proofs.YtkdbjocchponfaaGreatDoor
open Go.RowKit

/-- A SlickReaderStream's cells: nothing tracked. -/
def ssCells (T : Nat) (sc : List Value) (m : Int) : List Value := [Value.iface 269 (.pointer (some ⟨T, 0, none⟩))] ++ (sc ++ [Value.int .i64 m, .slice none 0 0, .bool false])
/-- Block S is a SlickReaderStream over the readerToScanner T: nothing tracked. -/
def SsC (w : World) (S T : Nat) (sc : List Value) (m : Int) : Prop := Blk w S 276 (ssCells T sc m).toArray

theorem SsC.cells {w : World} {S T : Nat} {sc : List Value} {m : Int} (h : SsC w S T sc m) (hl : sc.length = 32) :
    w.cell? ⟨S, 0, none⟩ = some (.iface 269 (.pointer (some ⟨T, 0, none⟩))) ∧ w.cell? ⟨S, 33, none⟩ = some (.int .i64 m) ∧ w.cell? ⟨S, 34, none⟩ = some (.slice none 0 0) ∧ w.cell? ⟨S, 35, none⟩ = some (.bool false) := by
  refine ⟨?_, ?_, ?_, ?_⟩
  · rw [Blk.cell h]; simp [ssCells]
  all_goals
    rw [Blk.cell h]
    simp only [List.getElem?_toArray, ssCells]
    rw [List.getElem?_append_right (by simp), List.getElem?_append_right (by simp [hl])]
    simp [hl]
theorem SsC.count {w : World} {S T : Nat} {sc : List Value} {m : Int} (h : SsC w S T sc m) (hl : sc.length = 32) (m' : Int) : SsC (w.setCell ⟨S, 33, none⟩ (.int .i64 m')) S T sc m' := by
  have h2 := Blk.set_ h 33 (.int .i64 m')
  have e : ((ssCells T sc m).toArray).setIfInBounds 33 (.int .i64 m') = (ssCells T sc m').toArray := by
    simp only [List.setIfInBounds_toArray, ssCells]
    rw [List.set_append_right _ _ (by simp), List.set_append_right _ _ (by simp [hl])]
    simp [hl]
  rw [e] at h2
  exact h2

theorem method_tReadByte (a : Addr) (w : World) : (method 513 269 (.pointer (some a)) "ReadByte").run Tryz.prog w = .ok (321, .pointer (some a)) w := by kernel_rfl
theorem method_tRead (a : Addr) (w : World) : (method 513 269 (.pointer (some a)) "Read").run Tryz.prog w = .ok (320, .pointer (some a)) w := by kernel_rfl
theorem nil_tRead (a : Addr) (w : World) : (nilAhead 513 269 (.pointer (some a)) "Read").run Tryz.prog w = .ok (some false) w := by kernel_rfl

/-- The whole chain of readers: a stream over a scanner over a bytes.Reader over the bytes l, at place i. -/
structure Chain (w : World) (S T R b n cap i : Nat) (l : List UInt8) (m : Int) : Prop where
  ss : ∃ sc : List Value, sc.length = 32 ∧ SsC w S T sc m
  ts : ∃ x y z, (y == 1) = false ∧ TsC w T R x y z
  rd : ∃ p, RdC w R b n cap i p
  seg : Seg w b 0 l
  len : n = l.length
  big : n ≤ 2147483700
  cap : n ≤ cap
  rb : R ≠ b
  rt : R ≠ T
  rs : R ≠ S
  ts' : T ≠ S
  tb : T ≠ b
  sb : S ≠ b
  eof : Eof w
  er : 0 < R
  et : 0 < T
  es : 0 < S

theorem Chain.off {w w' : World} {S T R b n cap i : Nat} {l : List UInt8} {m : Int} {X : List Nat} (h : Chain w S T R b n cap i l m) (k : Off X w w') (hX : S ∉ X ∧ T ∉ X ∧ R ∉ X ∧ b ∉ X ∧ 0 ∉ X) : Chain w' S T R b n cap i l m := by
  obtain ⟨sc, hl, hs⟩ := h.ss
  obtain ⟨x, y, z, hy, ht⟩ := h.ts
  obtain ⟨p, hp⟩ := h.rd
  exact { h with ss := ⟨sc, hl, k.blk hs hX.1⟩, ts := ⟨x, y, z, hy, k.blk ht hX.2.1⟩, rd := ⟨p, k.blk hp hX.2.2.1⟩, seg := k.seg h.seg hX.2.2.2.1, eof := h.eof.off k hX.2.2.2.2 }

set_option maxRecDepth 100000 in
set_option maxHeartbeats 1000000 in
theorem readn1 (S T R b n cap i : Nat) (l : List UInt8) (m : Int) (w : World) (h : Chain w S T R b n cap i l m) (hi : i < n) (hm : 0 ≤ m) (hm2 : m < 4611686018427387904) (c : Int) (hc : ((l[i]'(h.len ▸ hi)).toNat : Int) = c) :
    Calls Tryz.prog 314 #[.pointer (some ⟨S, 0, none⟩)] w fun e w' => e = .returned (.tuple #[.int .u8 c, .nilIface]) ∧ Chain w' S T R b n cap (i + 1) l (m + 1) ∧ Off [S, T, R] w w' := by
  have hh := h
  obtain ⟨⟨sc, hl, hs⟩, ⟨x, y, z, hy, ht⟩, ⟨p, hp⟩, hseg, hn, hbig, hcap, hrb, hrt, hrs, hts, htb, hsb, hE, her, het, hes⟩ := h
  obtain ⟨c0, c33, c34, c35⟩ := hs.cells hl
  have HC := Lib.hid (tReadByte T R b n cap i p x y z l w hn ht hy hp hseg hrb hrt hi hbig hcap c hc hE (by omega) (by omega))
  have HH := Lib.hid hh
  have HS := Lib.hid hs
  have HSEG := Lib.hid hseg
  have HE := Lib.hid hE
  have HL := Lib.hid hl
  have hm1 := method_tReadByte
  have hw1 : IntKind.i64.wrap (m + 1) = m + 1 := by rw [IntKind.wrap_i64]; omega
  clear hc
  clear hh hs ht hp hseg hn hE hl
  go_enter Tryz.func314, Tryz.ntmps314
  go_wp2_with fail
  refine HC.out.mono ?_
  rintro e w1 ⟨rfl, hT1, hR1, hO1⟩
  have hS1 : SsC w1 S T sc m := hO1.blk HS.out (by simp; exact ⟨fun e => hts e.symm, fun e => hrs e.symm⟩)
  obtain ⟨c0, c33, c34, c35⟩ := hS1.cells HL.out
  have f33 := Blk.frozen hS1 33
  have HS1 := Lib.hid hS1
  have HT1 := Lib.hid hT1
  have HR1 := Lib.hid hR1
  have HO1 := Lib.hid hO1
  clear hS1 hT1 hR1 hO1 HC
  go_wp2_with fail
  go_ret2
  have hO2 : Off [S, T, R] w (w1.setCell ⟨S, 33, none⟩ (.int .i64 (m + 1))) := (HO1.out.mono (S' := [S, T, R]) (fun x h => by simp at h; rcases h with h | h <;> simp [h])).setCell (p := ⟨S, 33, none⟩) (by simp) _
  refine ⟨rfl, { HH.out with ss := ⟨sc, HL.out, HS1.out.count HL.out _⟩, ts := ⟨c, 2, c, by decide, HT1.out.far (p := ⟨S, 33, none⟩) hts _⟩, rd := ⟨-1, HR1.out.far (p := ⟨S, 33, none⟩) hrs _⟩, seg := hO2.seg HSEG.out (by simp; exact ⟨fun e => hsb e.symm, fun e => htb e.symm, fun e => hrb e.symm⟩), eof := HE.out.off hO2 (by simp; omega) }, hO2⟩
end Go.Proofs.YtkdbjocchponfaaGreatDoor
namespace Go.Proofs.YtkdbjocchponfaaGreatDoor
open Go.RowKit

theorem Drew.step {a b : World} (h : Drew a b) : Drew a b.drew := h.more 1

set_option maxRecDepth 100000 in
set_option maxHeartbeats 1000000 in
theorem readAtLeast_br (A g o m dc : Nat) (w : World) (Q : World → Prop) (hm0 : 0 < m) (hmc : m ≤ dc) (hbig : m ≤ 2147483700)
    (HC : ∀ W, Drew w W → Calls Tryz.prog 201 #[.pointer (some ⟨A, 0, none⟩), .slice (some ⟨g, o, none⟩) m dc] W fun e w' => e = .returned (.tuple #[.int .i64 m, .nilIface]) ∧ Q w') :
    Calls Tryz.prog 99 #[.iface 58 (.pointer (some ⟨A, 0, none⟩)), .slice (some ⟨g, o, none⟩) m dc, .int .i64 m] w fun e w' => e = .returned (.tuple #[.int .i64 m, .nilIface]) ∧ Q w' := by
  have hmf : ∀ (fn : Fn) (first cap : Array Value) (w : World), (Instr.makeFunc fn first cap).run Tryz.prog w = .ok (.func fn first cap) w := fun _ _ _ _ => rfl
  have hm1 := method_read
  have hm2 := nil_read
  have HH := Lib.hid HC
  have hw1 : IntKind.i64.wrap ((0 : Int) + (m : Int)) = (m : Int) := by rw [IntKind.wrap_i64]; omega
  have hdc : ¬ dc = 0 := by omega
  clear HC
  go_enter Tryz.func99, Tryz.ntmps99
  go_wp2_with fail
  refine wp_loop_rounds 2 ?_
  rw [rounds_succ]
  go_wp2_with fail
  go_region_with (go_at_call 201; refine (HH.out _ (by repeat' (first | exact Drew.refl _ | refine Drew.step ?_))).mono ?_; rintro e w1 ⟨rfl, hq⟩; have HQ1 := Lib.hid hq; clear hq)
  all_goals
    go_wp2_with fail
    rw [rounds_succ]
    go_wp2_with fail
    go_ret2
    exact ⟨rfl, HQ1.out⟩

set_option maxRecDepth 100000 in
set_option maxHeartbeats 1000000 in
theorem readAtLeast_ts (A g o m dc : Nat) (w : World) (Q : World → Prop) (hm0 : 0 < m) (hmc : m ≤ dc) (hbig : m ≤ 2147483700)
    (HC : ∀ W, Drew w W → Calls Tryz.prog 320 #[.pointer (some ⟨A, 0, none⟩), .slice (some ⟨g, o, none⟩) m dc] W fun e w' => e = .returned (.tuple #[.int .i64 m, .nilIface]) ∧ Q w') :
    Calls Tryz.prog 99 #[.iface 269 (.pointer (some ⟨A, 0, none⟩)), .slice (some ⟨g, o, none⟩) m dc, .int .i64 m] w fun e w' => e = .returned (.tuple #[.int .i64 m, .nilIface]) ∧ Q w' := by
  have hmf : ∀ (fn : Fn) (first cap : Array Value) (w : World), (Instr.makeFunc fn first cap).run Tryz.prog w = .ok (.func fn first cap) w := fun _ _ _ _ => rfl
  have hm1 := method_tRead
  have hm2 := nil_tRead
  have HH := Lib.hid HC
  have hw1 : IntKind.i64.wrap ((0 : Int) + (m : Int)) = (m : Int) := by rw [IntKind.wrap_i64]; omega
  have hdc : ¬ dc = 0 := by omega
  clear HC
  go_enter Tryz.func99, Tryz.ntmps99
  go_wp2_with fail
  refine wp_loop_rounds 2 ?_
  rw [rounds_succ]
  go_wp2_with fail
  go_region_with (go_at_call 320; refine (HH.out _ (by repeat' (first | exact Drew.refl _ | refine Drew.step ?_))).mono ?_; rintro e w1 ⟨rfl, hq⟩; have HQ1 := Lib.hid hq; clear hq)
  all_goals
    go_wp2_with fail
    rw [rounds_succ]
    go_wp2_with fail
    go_ret2
    exact ⟨rfl, HQ1.out⟩

end Go.Proofs.YtkdbjocchponfaaGreatDoor
namespace Go.Proofs.YtkdbjocchponfaaGreatDoor
open Go.RowKit

theorem splice_ss (T : Nat) (sc bs : List Value) (m : Int) (hb : bs.length ≤ sc.length) : splice (ssCells T sc m) 1 bs = ssCells T (bs ++ sc.drop bs.length) m := by
  simp only [splice, ssCells]
  rw [show 1 + bs.length = bs.length + 1 from by omega]
  simp [List.drop_append, List.append_assoc, hb]

theorem Chain.drew {w w' : World} {S T R b n cap i : Nat} {l : List UInt8} {m : Int} (h : Chain w S T R b n cap i l m) (k : Drew w w') : Chain w' S T R b n cap i l m := h.off (X := []) (Off.ofDrew k) (by simp)

/-- What Readnzc leaves. -/
def ReadN (w : World) (S T R b n cap i k : Nat) (l : List UInt8) (m : Int) (w' : World) : Prop := ∃ sc', sc'.length = 32 ∧ SsC w' S T sc' m ∧ Seg w' S 1 ((l.drop i).take k) ∧ (∃ x z, TsC w' T R x 2 z) ∧ RdC w' R b n cap (i + k) (-1) ∧ Off [S, T, R] w w'

theorem readN_ts (S T R b n cap i k : Nat) (l : List UInt8) (m : Int) (w W : World) (hW : Drew w W) (h : Chain w S T R b n cap i l m) (hk0 : 0 < k) (hk : k < 32) (hik : i + k ≤ n) :
    Calls Tryz.prog 320 #[.pointer (some ⟨T, 0, none⟩), .slice (some ⟨S, 1, none⟩) k 32] W fun e w' => e = .returned (.tuple #[.int .i64 k, .nilIface]) ∧ ReadN w S T R b n cap i k l m w' := by
  obtain ⟨⟨sc, hl, hs⟩, ⟨x, y, z, hy, ht⟩, ⟨p, hp⟩, hseg, hn, hbig, hcap, hrb, hrt, hrs, hts, htb, hsb, hE, her, het, hes⟩ := h.drew hW
  refine (tRead T R S 1 k 32 b n cap i k p x y z l (ssCells T sc m) _ W hn ht hy hp hseg hs hrb hrt hrs hts (by omega) (by show k = min (n - i) k; omega) hk0 (by simp [ssCells]; omega) hbig hcap hE (by omega) (by omega) (by omega)).mono ?_
  rintro e w' ⟨rfl, ⟨x', hT⟩, hR, hS, hO⟩
  have hbl : (Lib.byteCells ((l.drop i).take k)).length = k := by rw [Lib.byteCells_length]; simp; omega
  rw [splice_ss _ _ _ _ (by omega)] at hS
  refine ⟨rfl, _, ?_, hS, ?_, ⟨x', z, hT⟩, hR, (Off.ofDrew (S := []) hW).trans hO |>.mono (fun x h => by simp at h; rcases h with h | h | h <;> simp [h])⟩
  · simp; omega
  · refine Seg.of_block (cs := ssCells T (Lib.byteCells ((l.drop i).take k) ++ sc.drop (Lib.byteCells ((l.drop i).take k)).length) m) hS ?_
    intro j hj
    rw [ssCells, List.getElem?_append_right (by simp), List.append_assoc, List.getElem?_append_left (by rw [Lib.byteCells_length]; simp at hj ⊢; omega)]
    have e2 : 1 + j - [Value.iface 269 (.pointer (some ⟨T, 0, none⟩))].length = j := by simp
    rw [e2]
    simp only [Lib.byteCells, List.getElem?_map, List.getElem?_eq_getElem hj]
    rfl

set_option maxRecDepth 100000 in
set_option maxHeartbeats 1000000 in
theorem readnPartial_ok (S T R b n cap i k : Nat) (l : List UInt8) (m : Int) (w : World) (h : Chain w S T R b n cap i l m) (hk0 : 0 < k) (hk : k < 32) (hik : i + k ≤ n) (hm : 0 ≤ m) (hm2 : m < 4611686018427387904) :
    Calls Tryz.prog 319 #[.pointer (some ⟨S, 0, none⟩), .int .i64 k] w fun e w' => e = .returned (.tuple #[.slice (some ⟨S, 1, none⟩) k 32, .nilIface]) ∧ Seg w' S 1 ((l.drop i).take k) ∧ Chain w' S T R b n cap (i + k) l (m + k) ∧ Off [S, T, R] w w' := by
  obtain ⟨sc, hl, hs⟩ := h.ss
  obtain ⟨c0, c33, c34, c35⟩ := hs.cells hl
  have hbig := h.big
  have hsl := fun W => run_sliceAt_arr (P := Tryz.prog) Tryz.underlying274 (info_parts Tryz.infoByte).choose_spec.1 S 1 k (by omega) W
  have HC := Lib.hid (readAtLeast_ts T S 1 k 32 w (ReadN w S T R b n cap i k l m) hk0 (by omega) (by omega) (fun W hW => readN_ts S T R b n cap i k l m w W hW h hk0 hk hik))
  have HH := Lib.hid h
  have hw1 : IntKind.i64.wrap (m + k) = m + k := by rw [IntKind.wrap_i64]; omega
  have hb0 : ((k : Int) == 0) = false := beq_eq_false_iff_ne.2 (by omega)
  have hb1 : decide ((k : Int) < 32) = true := by simp; omega
  clear h hs
  go_enter Tryz.func319, Tryz.ntmps319
  go_wp2_with fail
  refine HC.out.mono ?_
  rintro e w1 ⟨rfl, sc', hl', hS1, hseg1, ⟨x, z, hT1⟩, hR1, hO1⟩
  obtain ⟨c0, c33, c34, c35⟩ := hS1.cells hl'
  have f33 := Blk.frozen hS1 33
  have HS1 := Lib.hid hS1
  have HT1 := Lib.hid hT1
  have HR1 := Lib.hid hR1
  have HO1 := Lib.hid hO1
  have HG1 := Lib.hid hseg1
  have HL1 := Lib.hid hl'
  clear hS1 hT1 hR1 hO1 hseg1 HC hl'
  go_wp2_with fail
  go_ret2
  obtain ⟨_, _, ⟨p, hp⟩, hseg, hn, hbig, hcap, hrb, hrt, hrs, hts, htb, hsb, hE, her, het, hes⟩ := HH.out
  have hO2 : Off [S, T, R] w (w1.setCell ⟨S, 33, none⟩ (.int .i64 (m + k))) := HO1.out.setCell (p := ⟨S, 33, none⟩) (by simp) _
  have hS2 := HS1.out.count HL1.out (m + k)
  refine ⟨rfl, ?_, { HH.out with ss := ⟨sc', HL1.out, hS2⟩, ts := ⟨x, 2, z, by decide, HT1.out.far (p := ⟨S, 33, none⟩) hts _⟩, rd := ⟨-1, HR1.out.far (p := ⟨S, 33, none⟩) hrs _⟩, seg := hO2.seg hseg (by simp; exact ⟨fun e => hsb e.symm, fun e => htb e.symm, fun e => hrb e.symm⟩), eof := hE.off hO2 (by simp; omega) }, hO2⟩
  intro j hj
  rw [World.cell?_setCell_other _ _ _ _ (by intro e; injection e with _ e2 _; simp at hj; omega)]
  exact HG1.out j hj

set_option maxRecDepth 100000 in
set_option maxHeartbeats 1000000 in
theorem readnzc_ok (S T R b n cap i k : Nat) (l : List UInt8) (m : Int) (w : World) (h : Chain w S T R b n cap i l m) (hk0 : 0 < k) (hk : k < 32) (hik : i + k ≤ n) (hm : 0 ≤ m) (hm2 : m < 4611686018427387904) :
    Calls Tryz.prog 315 #[.pointer (some ⟨S, 0, none⟩), .int .i64 k] w fun e w' => e = .returned (.tuple #[.slice (some ⟨S, 1, none⟩) k 32, .nilIface]) ∧ Seg w' S 1 ((l.drop i).take k) ∧ Chain w' S T R b n cap (i + k) l (m + k) ∧ Off [S, T, R] w w' := by
  have HC := Lib.hid (readnPartial_ok S T R b n cap i k l m w h hk0 hk hik hm hm2)
  clear h
  go_enter Tryz.func315, Tryz.ntmps315
  go_wp2_with fail
  refine HC.out.mono ?_
  rintro e w1 ⟨rfl, hseg1, hC1, hO1⟩
  have HG1 := Lib.hid hseg1
  have HC1 := Lib.hid hC1
  have HO1 := Lib.hid hO1
  clear hseg1 hC1 hO1
  go_wp2_with fail
  go_ret2
  exact ⟨rfl, HG1.out, HC1.out, HO1.out⟩

set_option maxRecDepth 100000 in
set_option maxHeartbeats 1000000 in
theorem newReader_ok (R : Nat) (w : World) :
    Calls Tryz.prog 124 #[.iface 58 (.pointer (some ⟨R, 0, none⟩))] w fun e w' => e = .returned (.iface 268 (.pointer (some ⟨w.heap.size + 1, 0, none⟩))) ∧ SsC w' (w.heap.size + 1) w.heap.size (zeroBytes 32) 0 ∧ TsC w' w.heap.size R 0 0 0 ∧ Off [] w w' ∧ w'.heap.size = w.heap.size + 2 := by
  go_enter Tryz.func124, Tryz.ntmps124
  go_wp2_with fail
  go_ret
  refine ⟨rfl, Blk.new' (w.alloc _) _ _ (by simp), (Blk.new w _ _).alloc _, ((Off.refl [] w).alloc _).alloc _, by simp⟩

/-- Reading a whole row out of a bytes.Reader. -/
theorem readFull_br (R g b m n cap i : Nat) (p : Int) (l : List UInt8) (cur : List Value) (t : TypeId) (w : World) (hn : n = l.length) (hR : RdC w R b n cap i p) (hs : Seg w b 0 l) (hg : Blk w g t cur.toArray) (hRb : R ≠ b) (hRg : R ≠ g) (hm0 : 0 < m) (hm : m ≤ n - i) (hcl : cur.length = m) (hL : n ≤ 2147483700) (hcap : n ≤ cap) :
    Calls Tryz.prog 79 #[.iface 58 (.pointer (some ⟨R, 0, none⟩)), .slice (some ⟨g, 0, none⟩) m m] w fun e w' => e = .returned (.tuple #[.int .i64 m, .nilIface]) ∧ RdC w' R b n cap (i + m) (-1) ∧ Blk w' g t (Lib.byteCells ((l.drop i).take m)).toArray ∧ Off [R, g] w w' := by
  have hbl : (Lib.byteCells ((l.drop i).take m)).length = m := by rw [Lib.byteCells_length]; simp; omega
  have HC := Lib.hid (readAtLeast_br R g 0 m m w (fun w' => RdC w' R b n cap (i + m) (-1) ∧ Blk w' g t (Lib.byteCells ((l.drop i).take m)).toArray ∧ Off [R, g] w w') hm0 (Nat.le_refl _) (by omega) (fun W hW => by
    refine (brRead R g 0 m m b n cap i m p l cur t W hn (hW.blk hR) (hW.seg hs) (hW.blk hg) hRb hRg (by omega) (by show m = min (n - i) m; omega) hm0 (by omega) hL hcap).mono ?_
    rintro e w' ⟨rfl, h1, h2, h3⟩
    refine ⟨rfl, h1, ?_, ((Off.ofDrew (S := []) hW).trans h3).mono (fun x h => by simp at h; rcases h with h | h <;> simp [h])⟩
    have e : splice cur 0 (Lib.byteCells ((l.drop i).take m)) = Lib.byteCells ((l.drop i).take m) := by simp only [splice]; rw [hbl]; simp [hcl]
    rwa [e] at h2))
  clear hR hs hg
  go_enter Tryz.func79, Tryz.ntmps79
  go_wp2_with fail
  refine HC.out.mono ?_
  rintro e w1 ⟨rfl, h1, h2, h3⟩
  have H1 := Lib.hid h1
  have H2 := Lib.hid h2
  have H3 := Lib.hid h3
  clear h1 h2 h3
  go_wp2_with fail
  go_ret2
  exact ⟨rfl, H1.out, H2.out, H3.out⟩
end Go.Proofs.YtkdbjocchponfaaGreatDoor
namespace Go.Proofs.YtkdbjocchponfaaGreatDoor
open Go.RowKit

set_option maxRecDepth 100000 in
set_option maxHeartbeats 1000000 in
theorem decodeUint_small (D c v : Nat) (w : World) (hc : bits .and .u8 (c : Int) 31 = (v : Int)) (hv : v ≤ 23) :
    Calls Tryz.prog 160 #[.pointer (some ⟨D, 0, none⟩), .int .u8 c] w fun e w' => e = .returned (.tuple #[.int .u64 v, .nilIface]) ∧ w = w' := by
  have hb1 : decide ((v : Int) ≤ 23) = true := by simp; omega
  go_enter Tryz.func160, Tryz.ntmps160
  go_wp2_with fail
  go_ret2
  exact ⟨rfl, rfl⟩

set_option maxRecDepth 100000 in
set_option maxHeartbeats 1000000 in
theorem decodeLen_small (D c v : Nat) (w : World) (hc : bits .and .u8 (c : Int) 31 = (v : Int)) (hv : v ≤ 23) :
    Calls Tryz.prog 164 #[.pointer (some ⟨D, 0, none⟩), .int .u8 c] w fun e w' => e = .returned (.tuple #[.int .i64 v, .nilIface]) ∧ w = w' := by
  have hb1 : decide ((9223372036854775807 : Int) < (v : Int)) = false := by simp; omega
  have hw1 : IntKind.i64.wrap (v : Int) = (v : Int) := by rw [IntKind.wrap_i64]; omega
  have HC := Lib.hid (decodeUint_small D c v w hc hv)
  clear hc
  go_enter Tryz.func164, Tryz.ntmps164
  go_wp2_with fail
  refine HC.out.mono ?_
  rintro e w' ⟨rfl, rfl⟩
  go_wp2_with fail
  go_ret2
  exact ⟨rfl, rfl⟩

/-- A decoder's cells. -/
def decCells (S sg sn : Nat) (ph : Int) (lg ln : Nat) : Array Value := #[.bool true, .bool false, .int .i64 0, .bool false, .bool false, .bool false, .bool false, .iface 268 (.pointer (some ⟨S, 0, none⟩)), .slice (some ⟨sg, 0, none⟩) sn 10, .int .u8 ph, .slice (some ⟨lg, 0, none⟩) ln 10]
/-- A row of ten numbers, but for the first all zero. -/
def tenCells (k : IntKind) (v : Int) : Array Value := #[.int k v, .int k 0, .int k 0, .int k 0, .int k 0, .int k 0, .int k 0, .int k 0, .int k 0, .int k 0]

/-- A token's cells. -/
def tokCells (ty ln : Int) (st : ByteArray) (bs : Value) (bo : Bool) (it ui : Int) (fl : Nat) (tg : Bool) (tn : Int) : Array Value := #[.int .u8 ty, .int .i64 ln, .string st, bs, .bool bo, .int .i64 it, .int .u64 ui, .float .f64 fl, .bool tg, .int .i64 tn]
def noBytes : ByteArray := ⟨#[]⟩
def zeroTok : Array Value := tokCells 0 0 noBytes (.slice none 0 0) false 0 0 0 false 0

theorem method_readn1 (a : Addr) (w : World) : (method 513 268 (.pointer (some a)) "Readn1").run Tryz.prog w = .ok (314, .pointer (some a)) w := by kernel_rfl
theorem method_readnzc (a : Addr) (w : World) : (method 513 268 (.pointer (some a)) "Readnzc").run Tryz.prog w = .ok (315, .pointer (some a)) w := by kernel_rfl

set_option maxRecDepth 100000 in
set_option maxHeartbeats 1000000 in
theorem decodeString_ok (D sg sn lg ln : Nat) (ph : Int) (S T R b n cap i c k : Nat) (l : List UInt8) (m : Int) (w : World) (hD : Blk w D 250 (decCells S sg sn ph lg ln)) (h : Chain w S T R b n cap i l m) (hc : bits .and .u8 (c : Int) 31 = (k : Int)) (hk0 : 0 < k) (hk : k ≤ 23) (hik : i + k ≤ n) (hm : 0 ≤ m) (hm2 : m < 4611686018427387904) :
    Calls Tryz.prog 163 #[.pointer (some ⟨D, 0, none⟩), .int .u8 c] w fun e w' => e = .returned (.tuple #[.string (str ((l.drop i).take k)), .nilIface]) ∧ Chain w' S T R b n cap (i + k) l (m + k) ∧ Off [S, T, R] w w' := by
  have d7 := hD.cell 7
  simp [decCells] at d7
  have hm1 := method_readnzc
  have HC := Lib.hid (readnzc_ok S T R b n cap i k l m w h hk0 (by omega) hik hm hm2)
  have HE := Lib.hid (decodeLen_small D c k w hc hk)
  have hkl : ((l.drop i).take k).length = k := by have := h.len; simp; omega
  have HKL := Lib.hid hkl
  have hb1 : decide ((33554432 : Int) < (k : Int)) = false := by simp; omega
  clear h hc hkl hD
  go_enter Tryz.func163, Tryz.ntmps163
  go_wp2_with fail
  refine HE.out.mono ?_
  rintro e w' ⟨rfl, rfl⟩
  go_wp2_with fail
  refine HC.out.mono ?_
  rintro e w1 ⟨rfl, hseg1, hC1, hO1⟩
  have hcv := run_convert_seg (P := Tryz.prog) (src := 32) (e := 5) (dst := 9) Tryz.underlying32 Tryz.underlying5 Tryz.underlying9 32 hseg1
  rw [HKL.out] at hcv
  have HC1 := Lib.hid hC1
  have HO1 := Lib.hid hO1
  clear hseg1 hC1 hO1
  go_wp2_with fail
  go_ret2
  exact ⟨rfl, HC1.out, HO1.out⟩
end Go.Proofs.YtkdbjocchponfaaGreatDoor
namespace Go.Proofs.YtkdbjocchponfaaGreatDoor
open Go.RowKit

end Go.Proofs.YtkdbjocchponfaaGreatDoor
namespace Go.Proofs.YtkdbjocchponfaaGreatDoor
open Go.RowKit

end Go.Proofs.YtkdbjocchponfaaGreatDoor
namespace Go.Proofs.YtkdbjocchponfaaGreatDoor
open Go.RowKit

end Go.Proofs.YtkdbjocchponfaaGreatDoor
namespace Go.Proofs.YtkdbjocchponfaaGreatDoor
open Go.RowKit

theorem Tryz.infoInt : (Tryz.prog.info? 3).map (fun i => (i.zero, i.size, i.bytes)) = some (some (.int .i64 0), 1, 8) := by kernel_rfl
theorem Tryz.infoPhase : (Tryz.prog.info? 248).map (fun i => (i.zero, i.size, i.bytes)) = some (some (.int .u8 0), 1, 1) := by kernel_rfl
theorem info_parts8 {P : Program} {e : TypeId} {z : Value} {s b : Nat} (h : (P.info? e).map (fun i => (i.zero, i.size, i.bytes)) = some (some z, s, b)) : ∃ i, P.info? e = some i ∧ i.zero = some z ∧ i.size = s ∧ i.bytes = b := by
  obtain ⟨i, hi, he⟩ := Option.map_eq_some_iff.1 h
  simp at he
  exact ⟨i, hi, he.1, he.2.1, he.2.2⟩
theorem run_make10 {P : Program} {t e : TypeId} {i : TypeInfo} {k : IntKind} {sz : Nat} (ht : P.underlying t = some (.slice e)) (hi : P.info? e = some i) (hz : i.zero = some (.int k 0)) (hs : i.size = 1) (hb : i.bytes = sz) (hsz : sz ≤ 8) (w : World) :
    (Instr.makeSlice t (.int .i64 0) (.int .i64 10)).run P w = .ok (.slice (some ⟨w.heap.size, 0, none⟩) 0 10) (w.alloc (.cells (tenCells k 0) e)) := by
  have hr := run_make (P := P) w t e i (.int k 0) ht hi hz .i64 .i64 0 10 (by omega) (by omega) (by rw [hb]; omega) (by omega)
  rw [hr, hs]
  have e : madeCells (Value.int k 0).cells (Int.toNat 10 * 1) = tenCells k 0 := by
    rw [show Int.toNat 10 * 1 = 10 from rfl]
    apply Array.ext
    · simp [size_madeCells, tenCells]
    · intro j h1 h2
      have hj : j < 10 := by simpa [size_madeCells] using h1
      have e1 : (madeCells (Value.int k 0).cells 10)[j] = .int k 0 := by simp [madeCells, Value.cells, Nat.mod_one]
      rw [e1]
      match j, hj with
      | 0, _ => rfl
      | 1, _ => rfl
      | 2, _ => rfl
      | 3, _ => rfl
      | 4, _ => rfl
      | 5, _ => rfl
      | 6, _ => rfl
      | 7, _ => rfl
      | 8, _ => rfl
      | 9, _ => rfl
  rw [e]
  rfl

/-- The settings that the header's decoder has. -/
def cfg : Value := .agg #[.bool true, .bool false, .int .i64 0, .bool false, .bool false, .bool false, .bool false]

set_option maxRecDepth 100000 in
set_option maxHeartbeats 8000000 in
theorem newDecoder_ok (R : Nat) (w : World) :
    Calls Tryz.prog 96 #[cfg, .iface 58 (.pointer (some ⟨R, 0, none⟩))] w fun e w' => ∃ D S T sg lg, e = .returned (.pointer (some ⟨D, 0, none⟩)) ∧ Blk w' D 250 (decCells S sg 0 0 lg 0) ∧ SsC w' S T (zeroBytes 32) 0 ∧ TsC w' T R 0 0 0 ∧ Blk w' sg 248 (tenCells .u8 0) ∧ Blk w' lg 3 (tenCells .i64 0) ∧ Off [] w w' ∧ (w.heap.size ≤ D ∧ w.heap.size ≤ S ∧ w.heap.size ≤ T ∧ w.heap.size ≤ sg ∧ w.heap.size ≤ lg) ∧ (D ≠ sg ∧ D ≠ lg ∧ sg ≠ lg ∧ D ≠ S ∧ D ≠ T ∧ sg ≠ S ∧ sg ≠ T ∧ lg ≠ S ∧ lg ≠ T ∧ T ≠ S) := by
  obtain ⟨i1, hi1, hz1, hs1, hb1⟩ := info_parts8 Tryz.infoPhase
  obtain ⟨i2, hi2, hz2, hs2, hb2⟩ := info_parts8 Tryz.infoInt
  have hmk1 := fun W => run_make10 (P := Tryz.prog) Tryz.underlying247 hi1 hz1 hs1 hb1 (by omega) W
  have hmk2 := fun W => run_make10 (P := Tryz.prog) Tryz.underlying46 hi2 hz2 hs2 hb2 (by omega) W
  unfold cfg
  have b0 := Blk.new w 211 #[.bool true, .bool false, .int .i64 0, .bool false, .bool false, .bool false, .bool false]
  have B0 := Lib.hid b0
  clear b0
  go_enter Tryz.func96, Tryz.ntmps96
  go_wp2_with fail
  go_region_held3 (fun w' => Blk w' w.heap.size 211 #[.bool true, .bool false, .int .i64 0, .bool false, .bool false, .bool false, .bool false] ∧ w'.cell? ⟨w.heap.size, 0, none⟩ = some (.bool true) ∧ w'.cell? ⟨w.heap.size, 1, none⟩ = some (.bool false) ∧ w'.cell? ⟨w.heap.size, 2, none⟩ = some (.int .i64 0) ∧ w'.cell? ⟨w.heap.size, 3, none⟩ = some (.bool false) ∧ w'.cell? ⟨w.heap.size, 4, none⟩ = some (.bool false) ∧ w'.cell? ⟨w.heap.size, 5, none⟩ = some (.bool false) ∧ w'.cell? ⟨w.heap.size, 6, none⟩ = some (.bool false)) (first | (exact ⟨B0.out, (B0.out).cell 0, (B0.out).cell 1, (B0.out).cell 2, (B0.out).cell 3, (B0.out).cell 4, (B0.out).cell 5, (B0.out).cell 6⟩) | (exact ⟨B0.out.alloc _, (B0.out.alloc _).cell 0, (B0.out.alloc _).cell 1, (B0.out.alloc _).cell 2, (B0.out.alloc _).cell 3, (B0.out.alloc _).cell 4, (B0.out.alloc _).cell 5, (B0.out.alloc _).cell 6⟩) | (exact ⟨(B0.out.alloc _).alloc _, ((B0.out.alloc _).alloc _).cell 0, ((B0.out.alloc _).alloc _).cell 1, ((B0.out.alloc _).alloc _).cell 2, ((B0.out.alloc _).alloc _).cell 3, ((B0.out.alloc _).alloc _).cell 4, ((B0.out.alloc _).alloc _).cell 5, ((B0.out.alloc _).alloc _).cell 6⟩) | (exact ⟨K1.out, (K1.out).cell 0, (K1.out).cell 1, (K1.out).cell 2, (K1.out).cell 3, (K1.out).cell 4, (K1.out).cell 5, (K1.out).cell 6⟩) | (exact ⟨K1.out.alloc _, (K1.out.alloc _).cell 0, (K1.out.alloc _).cell 1, (K1.out.alloc _).cell 2, (K1.out.alloc _).cell 3, (K1.out.alloc _).cell 4, (K1.out.alloc _).cell 5, (K1.out.alloc _).cell 6⟩) | (exact ⟨(K1.out.alloc _).alloc _, ((K1.out.alloc _).alloc _).cell 0, ((K1.out.alloc _).alloc _).cell 1, ((K1.out.alloc _).alloc _).cell 2, ((K1.out.alloc _).alloc _).cell 3, ((K1.out.alloc _).alloc _).cell 4, ((K1.out.alloc _).alloc _).cell 5, ((K1.out.alloc _).alloc _).cell 6⟩) | (exact ⟨((K1.out.alloc _).alloc _).alloc _, (((K1.out.alloc _).alloc _).alloc _).cell 0, (((K1.out.alloc _).alloc _).alloc _).cell 1, (((K1.out.alloc _).alloc _).alloc _).cell 2, (((K1.out.alloc _).alloc _).alloc _).cell 3, (((K1.out.alloc _).alloc _).alloc _).cell 4, (((K1.out.alloc _).alloc _).alloc _).cell 5, (((K1.out.alloc _).alloc _).alloc _).cell 6⟩)) (first
    | (go_at_call 124; refine (newReader_ok R _).mono ?_; rintro e w1 ⟨rfl, hs, ht, ho, hz⟩; simp at hz; have bb : Blk w1 w.heap.size 211 #[.bool true, .bool false, .int .i64 0, .bool false, .bool false, .bool false, .bool false] := ho.blk (by first | exact B0.out | exact B0.out.alloc _ | exact (B0.out.alloc _).alloc _) (by simp); have K1 := Lib.hid bb; have HS := Lib.hid hs; have HT := Lib.hid ht; have HO := Lib.hid ho; clear hs ht ho bb))
  all_goals
    go_wp2_with fail
    go_ret
    apply Exists.intro
    apply Exists.intro
    apply Exists.intro
    apply Exists.intro
    apply Exists.intro
    refine ⟨rfl, ?c1, ?c2, ?c3, ?c4, ?c5, ?c6, ?c7, ?c8⟩
    case c1 =>
      apply Blk.eq
      · repeat' (first | (with_reducible refine Blk.new' _ _ _ ?_; first | omega | (simp; done) | (simp; omega) | (simp [World.drew]; omega)) | with_reducible apply Blk.drew)
      · exact rfl
    case c2 => have HS' := HS.out; unfold SsC at HS' ⊢; repeat' (first | with_reducible exact HS' | with_reducible exact Blk.at HS' (by first | (simp; done) | (simp; omega) | omega) | with_reducible apply Blk.drew | with_reducible apply Blk.alloc | with_reducible refine Blk.far ?_ (by first | (simp; done) | (simp; omega) | omega) _)
    case c3 => have HT' := HT.out; unfold TsC at HT' ⊢; repeat' (first | with_reducible exact HT' | with_reducible exact Blk.at HT' (by first | rfl | (simp; done) | (simp; omega) | omega) | with_reducible apply Blk.drew | with_reducible apply Blk.alloc | with_reducible refine Blk.far ?_ (by first | (simp; done) | (simp; omega) | omega) _)
    case c4 => repeat' (first | (with_reducible refine Blk.new' _ _ _ ?_; first | omega | (simp; done) | (simp; omega) | (simp [World.drew]; omega)) | with_reducible apply Blk.drew | with_reducible apply Blk.alloc | with_reducible refine Blk.far ?_ (by first | (simp; done) | (simp; omega) | omega) _ | with_reducible refine Off.blk HO.out ?_ (by simp))
    case c5 => repeat' (first | (with_reducible refine Blk.new' _ _ _ ?_; first | omega | (simp; done) | (simp; omega) | (simp [World.drew]; omega)) | with_reducible apply Blk.drew | with_reducible apply Blk.alloc | with_reducible refine Blk.far ?_ (by first | (simp; done) | (simp; omega) | omega) _ | with_reducible refine Off.blk HO.out ?_ (by simp))
    case c6 => repeat' (first | with_reducible exact Off.refl _ _ | with_reducible apply Off.drew | with_reducible apply Off.alloc | with_reducible refine Off.setCell ?_ (Or.inr (by first | (simp; done) | (simp; omega) | omega)) _ | with_reducible refine Off.then ?_ HO.out (by simp))
    case c7 => refine ⟨?_, ?_, ?_, ?_, ?_⟩ <;> (first | omega | (simp; done) | (simp; omega))
    case c8 => refine ⟨?_, ?_, ?_, ?_, ?_, ?_, ?_, ?_, ?_, ?_⟩ <;> (first | omega | (simp; done) | (simp; omega))
end Go.Proofs.YtkdbjocchponfaaGreatDoor
