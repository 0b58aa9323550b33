/- SlickReaderStream: Readn1, Readnzc and what makes one, over a bytes.Reader where bytes are left; io.ReadAtLeast that one Read serves. -/
import Derived.Test.YtioabgenlaikaaaGreatDoorTs
namespace Go.Proofs.YtioabgenlaikaaaGreatDoor
open Go.RowKit

/-- A SlickReaderStream's cells: nothing tracked. -/
def ssCells (T : Nat) (sc : List Value) (m : Int) : List Value := [Value.iface 108 (.pointer (some ⟨T, 0, none⟩))] ++ (sc ++ [Value.int .i64 m, .slice none 0 0, .bool false])
/-- Block S is a SlickReaderStream over the readerToScanner T: nothing tracked. -/
def SsC (w : World) (S T : Nat) (sc : List Value) (m : Int) : Prop := Blk w S 115 (ssCells T sc m).toArray

theorem SsC.cells {w : World} {S T : Nat} {sc : List Value} {m : Int} (h : SsC w S T sc m) (hl : sc.length = 32) :
    w.cell? ⟨S, 0, none⟩ = some (.iface 108 (.pointer (some ⟨T, 0, none⟩))) ∧ w.cell? ⟨S, 33, none⟩ = some (.int .i64 m) ∧ w.cell? ⟨S, 34, none⟩ = some (.slice none 0 0) ∧ w.cell? ⟨S, 35, none⟩ = some (.bool false) := by
  refine ⟨?_, ?_, ?_, ?_⟩
  · rw [Blk.cell h]; simp [ssCells]
  all_goals
    rw [Blk.cell h]
    simp only [List.getElem?_toArray, ssCells]
    rw [List.getElem?_append_right (by simp), List.getElem?_append_right (by simp [hl])]
    simp [hl]
theorem SsC.count {w : World} {S T : Nat} {sc : List Value} {m : Int} (h : SsC w S T sc m) (hl : sc.length = 32) (m' : Int) : SsC (w.setCell ⟨S, 33, none⟩ (.int .i64 m')) S T sc m' := by
  have h2 := Blk.set_ h 33 (.int .i64 m')
  have e : ((ssCells T sc m).toArray).setIfInBounds 33 (.int .i64 m') = (ssCells T sc m').toArray := by
    simp only [List.setIfInBounds_toArray, ssCells]
    rw [List.set_append_right _ _ (by simp), List.set_append_right _ _ (by simp [hl])]
    simp [hl]
  rw [e] at h2
  exact h2

theorem method_tReadByte (a : Addr) (w : World) : (method 289 108 (.pointer (some a)) "ReadByte").run Tryz.prog w = .ok (122, .pointer (some a)) w := by kernel_rfl
theorem method_tRead (a : Addr) (w : World) : (method 289 108 (.pointer (some a)) "Read").run Tryz.prog w = .ok (121, .pointer (some a)) w := by kernel_rfl
theorem nil_tRead (a : Addr) (w : World) : (nilAhead 289 108 (.pointer (some a)) "Read").run Tryz.prog w = .ok (some false) w := by kernel_rfl

/-- The whole chain of readers: a stream over a scanner over a bytes.Reader over the bytes l, at place i. -/
structure Chain (w : World) (S T R b n cap i : Nat) (l : List UInt8) (m : Int) : Prop where
  ss : ∃ sc : List Value, sc.length = 32 ∧ SsC w S T sc m
  ts : ∃ x y z, (y == 1) = false ∧ TsC w T R x y z
  rd : ∃ p, RdC w R b n cap i p
  seg : Seg w b 0 l
  len : n = l.length
  big : n ≤ 2147483700
  cap : n ≤ cap
  rb : R ≠ b
  rt : R ≠ T
  rs : R ≠ S
  ts' : T ≠ S
  tb : T ≠ b
  sb : S ≠ b
  eof : Eof w
  er : 3 < R
  et : 3 < T
  es : 3 < S

theorem Chain.off {w w' : World} {S T R b n cap i : Nat} {l : List UInt8} {m : Int} {X : List Nat} (h : Chain w S T R b n cap i l m) (k : Off X w w') (hX : S ∉ X ∧ T ∉ X ∧ R ∉ X ∧ b ∉ X ∧ 3 ∉ X) : Chain w' S T R b n cap i l m := by
  obtain ⟨sc, hl, hs⟩ := h.ss
  obtain ⟨x, y, z, hy, ht⟩ := h.ts
  obtain ⟨p, hp⟩ := h.rd
  exact { h with ss := ⟨sc, hl, k.blk hs hX.1⟩, ts := ⟨x, y, z, hy, k.blk ht hX.2.1⟩, rd := ⟨p, k.blk hp hX.2.2.1⟩, seg := k.seg h.seg hX.2.2.2.1, eof := h.eof.off k hX.2.2.2.2 }

set_option maxRecDepth 100000 in
set_option maxHeartbeats 1000000 in
theorem readn1 (S T R b n cap i : Nat) (l : List UInt8) (m : Int) (w : World) (h : Chain w S T R b n cap i l m) (hi : i < n) (hm : 0 ≤ m) (hm2 : m < 4611686018427387904) (c : Int) (hc : ((l[i]'(h.len ▸ hi)).toNat : Int) = c) :
    Calls Tryz.prog 115 #[.pointer (some ⟨S, 0, none⟩)] w fun e w' => e = .returned (.tuple #[.int .u8 c, .nilIface]) ∧ Chain w' S T R b n cap (i + 1) l (m + 1) ∧ Off [S, T, R] w w' := by
  have hh := h
  obtain ⟨⟨sc, hl, hs⟩, ⟨x, y, z, hy, ht⟩, ⟨p, hp⟩, hseg, hn, hbig, hcap, hrb, hrt, hrs, hts, htb, hsb, hE, her, het, hes⟩ := h
  obtain ⟨c0, c33, c34, c35⟩ := hs.cells hl
  have HC := Lib.hid (tReadByte T R b n cap i p x y z l w hn ht hy hp hseg hrb hrt hi hbig hcap c hc hE (by omega) (by omega))
  have HH := Lib.hid hh
  have HS := Lib.hid hs
  have HSEG := Lib.hid hseg
  have HE := Lib.hid hE
  have HL := Lib.hid hl
  have hm1 := method_tReadByte
  have hw1 : IntKind.i64.wrap (m + 1) = m + 1 := by rw [IntKind.wrap_i64]; omega
  clear hc
  clear hh hs ht hp hseg hn hE hl
  go_enter Tryz.func115, Tryz.ntmps115
  go_wp2_with fail
  refine HC.out.mono ?_
  rintro e w1 ⟨rfl, hT1, hR1, hO1⟩
  have hS1 : SsC w1 S T sc m := hO1.blk HS.out (by simp; exact ⟨fun e => hts e.symm, fun e => hrs e.symm⟩)
  obtain ⟨c0, c33, c34, c35⟩ := hS1.cells HL.out
  have f33 := Blk.frozen hS1 33
  have HS1 := Lib.hid hS1
  have HT1 := Lib.hid hT1
  have HR1 := Lib.hid hR1
  have HO1 := Lib.hid hO1
  clear hS1 hT1 hR1 hO1 HC
  go_wp2_with fail
  go_ret2
  have hO2 : Off [S, T, R] w (w1.setCell ⟨S, 33, none⟩ (.int .i64 (m + 1))) := (HO1.out.mono (S' := [S, T, R]) (fun x h => by simp at h; rcases h with h | h <;> simp [h])).setCell (p := ⟨S, 33, none⟩) (by simp) _
  refine ⟨rfl, { HH.out with ss := ⟨sc, HL.out, HS1.out.count HL.out _⟩, ts := ⟨c, 2, c, by decide, HT1.out.far (p := ⟨S, 33, none⟩) hts _⟩, rd := ⟨-1, HR1.out.far (p := ⟨S, 33, none⟩) hrs _⟩, seg := hO2.seg HSEG.out (by simp; exact ⟨fun e => hsb e.symm, fun e => htb e.symm, fun e => hrb e.symm⟩), eof := HE.out.off hO2 (by simp; omega) }, hO2⟩
end Go.Proofs.YtioabgenlaikaaaGreatDoor
