/- SlickReaderStream: Readnzc of fewer than 32 bytes; io.ReadFull over a bytes.Reader; what makes a stream. -/
import Derived.Test.YtioabgenlaikaaaGreatDoorRal
namespace Go.Proofs.YtioabgenlaikaaaGreatDoor
open Go.RowKit

theorem splice_ss (T : Nat) (sc bs : List Value) (m : Int) (hb : bs.length ≤ sc.length) : splice (ssCells T sc m) 1 bs = ssCells T (bs ++ sc.drop bs.length) m := by
  simp only [splice, ssCells]
  rw [show 1 + bs.length = bs.length + 1 from by omega]
  simp [List.drop_append, List.append_assoc, hb]

theorem Chain.drew {w w' : World} {S T R b n cap i : Nat} {l : List UInt8} {m : Int} (h : Chain w S T R b n cap i l m) (k : Drew w w') : Chain w' S T R b n cap i l m := h.off (X := []) (Off.ofDrew k) (by simp)

/-- What Readnzc leaves. -/
def ReadN (w : World) (S T R b n cap i k : Nat) (l : List UInt8) (m : Int) (w' : World) : Prop := ∃ sc', sc'.length = 32 ∧ SsC w' S T sc' m ∧ Seg w' S 1 ((l.drop i).take k) ∧ (∃ x z, TsC w' T R x 2 z) ∧ RdC w' R b n cap (i + k) (-1) ∧ Off [S, T, R] w w'

theorem readN_ts (S T R b n cap i k : Nat) (l : List UInt8) (m : Int) (w W : World) (hW : Drew w W) (h : Chain w S T R b n cap i l m) (hk0 : 0 < k) (hk : k < 32) (hik : i + k ≤ n) :
    Calls Tryz.prog 121 #[.pointer (some ⟨T, 0, none⟩), .slice (some ⟨S, 1, none⟩) k 32] W fun e w' => e = .returned (.tuple #[.int .i64 k, .nilIface]) ∧ ReadN w S T R b n cap i k l m w' := by
  obtain ⟨⟨sc, hl, hs⟩, ⟨x, y, z, hy, ht⟩, ⟨p, hp⟩, hseg, hn, hbig, hcap, hrb, hrt, hrs, hts, htb, hsb, hE, her, het, hes⟩ := h.drew hW
  refine (tRead T R S 1 k 32 b n cap i k p x y z l (ssCells T sc m) _ W hn ht hy hp hseg hs hrb hrt hrs hts (by omega) (by show k = min (n - i) k; omega) hk0 (by simp [ssCells]; omega) hbig hcap hE (by omega) (by omega) (by omega)).mono ?_
  rintro e w' ⟨rfl, ⟨x', hT⟩, hR, hS, hO⟩
  have hbl : (Lib.byteCells ((l.drop i).take k)).length = k := by rw [Lib.byteCells_length]; simp; omega
  rw [splice_ss _ _ _ _ (by omega)] at hS
  refine ⟨rfl, _, ?_, hS, ?_, ⟨x', z, hT⟩, hR, (Off.ofDrew (S := []) hW).trans hO |>.mono (fun x h => by simp at h; rcases h with h | h | h <;> simp [h])⟩
  · simp; omega
  · refine Seg.of_block (cs := ssCells T (Lib.byteCells ((l.drop i).take k) ++ sc.drop (Lib.byteCells ((l.drop i).take k)).length) m) hS ?_
    intro j hj
    rw [ssCells, List.getElem?_append_right (by simp), List.append_assoc, List.getElem?_append_left (by rw [Lib.byteCells_length]; simp at hj ⊢; omega)]
    have e2 : 1 + j - [Value.iface 108 (.pointer (some ⟨T, 0, none⟩))].length = j := by simp
    rw [e2]
    simp only [Lib.byteCells, List.getElem?_map, List.getElem?_eq_getElem hj]
    rfl

set_option maxRecDepth 100000 in
set_option maxHeartbeats 1000000 in
theorem readnPartial_ok (S T R b n cap i k : Nat) (l : List UInt8) (m : Int) (w : World) (h : Chain w S T R b n cap i l m) (hk0 : 0 < k) (hk : k < 32) (hik : i + k ≤ n) (hm : 0 ≤ m) (hm2 : m < 4611686018427387904) :
    Calls Tryz.prog 120 #[.pointer (some ⟨S, 0, none⟩), .int .i64 k] w fun e w' => e = .returned (.tuple #[.slice (some ⟨S, 1, none⟩) k 32, .nilIface]) ∧ Seg w' S 1 ((l.drop i).take k) ∧ Chain w' S T R b n cap (i + k) l (m + k) ∧ Off [S, T, R] w w' := by
  obtain ⟨sc, hl, hs⟩ := h.ss
  obtain ⟨c0, c33, c34, c35⟩ := hs.cells hl
  have hbig := h.big
  have hsl := fun W => run_sliceAt_arr (P := Tryz.prog) Tryz.underlying113 (info_parts Tryz.infoByte).choose_spec.1 S 1 k (by omega) W
  have HC := Lib.hid (readAtLeast_ts T S 1 k 32 w (ReadN w S T R b n cap i k l m) hk0 (by omega) (by omega) (fun W hW => readN_ts S T R b n cap i k l m w W hW h hk0 hk hik))
  have HH := Lib.hid h
  have hw1 : IntKind.i64.wrap (m + k) = m + k := by rw [IntKind.wrap_i64]; omega
  have hb0 : ((k : Int) == 0) = false := beq_eq_false_iff_ne.2 (by omega)
  have hb1 : decide ((k : Int) < 32) = true := by simp; omega
  clear h hs
  go_enter Tryz.func120, Tryz.ntmps120
  go_wp2_with fail
  refine HC.out.mono ?_
  rintro e w1 ⟨rfl, sc', hl', hS1, hseg1, ⟨x, z, hT1⟩, hR1, hO1⟩
  obtain ⟨c0, c33, c34, c35⟩ := hS1.cells hl'
  have f33 := Blk.frozen hS1 33
  have HS1 := Lib.hid hS1
  have HT1 := Lib.hid hT1
  have HR1 := Lib.hid hR1
  have HO1 := Lib.hid hO1
  have HG1 := Lib.hid hseg1
  have HL1 := Lib.hid hl'
  clear hS1 hT1 hR1 hO1 hseg1 HC hl'
  go_wp2_with fail
  go_ret2
  obtain ⟨_, _, ⟨p, hp⟩, hseg, hn, hbig, hcap, hrb, hrt, hrs, hts, htb, hsb, hE, her, het, hes⟩ := HH.out
  have hO2 : Off [S, T, R] w (w1.setCell ⟨S, 33, none⟩ (.int .i64 (m + k))) := HO1.out.setCell (p := ⟨S, 33, none⟩) (by simp) _
  have hS2 := HS1.out.count HL1.out (m + k)
  refine ⟨rfl, ?_, { HH.out with ss := ⟨sc', HL1.out, hS2⟩, ts := ⟨x, 2, z, by decide, HT1.out.far (p := ⟨S, 33, none⟩) hts _⟩, rd := ⟨-1, HR1.out.far (p := ⟨S, 33, none⟩) hrs _⟩, seg := hO2.seg hseg (by simp; exact ⟨fun e => hsb e.symm, fun e => htb e.symm, fun e => hrb e.symm⟩), eof := hE.off hO2 (by simp; omega) }, hO2⟩
  intro j hj
  rw [World.cell?_setCell_other _ _ _ _ (by intro e; injection e with _ e2 _; simp at hj; omega)]
  exact HG1.out j hj

set_option maxRecDepth 100000 in
set_option maxHeartbeats 1000000 in
theorem readnzc_ok (S T R b n cap i k : Nat) (l : List UInt8) (m : Int) (w : World) (h : Chain w S T R b n cap i l m) (hk0 : 0 < k) (hk : k < 32) (hik : i + k ≤ n) (hm : 0 ≤ m) (hm2 : m < 4611686018427387904) :
    Calls Tryz.prog 116 #[.pointer (some ⟨S, 0, none⟩), .int .i64 k] w fun e w' => e = .returned (.tuple #[.slice (some ⟨S, 1, none⟩) k 32, .nilIface]) ∧ Seg w' S 1 ((l.drop i).take k) ∧ Chain w' S T R b n cap (i + k) l (m + k) ∧ Off [S, T, R] w w' := by
  have HC := Lib.hid (readnPartial_ok S T R b n cap i k l m w h hk0 hk hik hm hm2)
  clear h
  go_enter Tryz.func116, Tryz.ntmps116
  go_wp2_with fail
  refine HC.out.mono ?_
  rintro e w1 ⟨rfl, hseg1, hC1, hO1⟩
  have HG1 := Lib.hid hseg1
  have HC1 := Lib.hid hC1
  have HO1 := Lib.hid hO1
  clear hseg1 hC1 hO1
  go_wp2_with fail
  go_ret2
  exact ⟨rfl, HG1.out, HC1.out, HO1.out⟩

theorem zeroScratch : (zeroBytes 32).length = 32 := zeroBytes_length 32

set_option maxRecDepth 100000 in
set_option maxHeartbeats 1000000 in
theorem newReader_ok (R : Nat) (w : World) :
    Calls Tryz.prog 47 #[.iface 33 (.pointer (some ⟨R, 0, none⟩))] w fun e w' => e = .returned (.iface 107 (.pointer (some ⟨w.heap.size + 1, 0, none⟩))) ∧ SsC w' (w.heap.size + 1) w.heap.size (zeroBytes 32) 0 ∧ TsC w' w.heap.size R 0 0 0 ∧ Off [] w w' ∧ w'.heap.size = w.heap.size + 2 := by
  go_enter Tryz.func47, Tryz.ntmps47
  go_wp2_with fail
  go_ret
  refine ⟨rfl, Blk.new' (w.alloc _) _ _ (by simp), (Blk.new w _ _).alloc _, ((Off.refl [] w).alloc _).alloc _, by simp⟩

/-- Reading a whole row out of a bytes.Reader. -/
theorem readFull_br (R g b m n cap i : Nat) (p : Int) (l : List UInt8) (cur : List Value) (t : TypeId) (w : World) (hn : n = l.length) (hR : RdC w R b n cap i p) (hs : Seg w b 0 l) (hg : Blk w g t cur.toArray) (hRb : R ≠ b) (hRg : R ≠ g) (hm0 : 0 < m) (hm : m ≤ n - i) (hcl : cur.length = m) (hL : n ≤ 2147483700) (hcap : n ≤ cap) :
    Calls Tryz.prog 40 #[.iface 33 (.pointer (some ⟨R, 0, none⟩)), .slice (some ⟨g, 0, none⟩) m m] w fun e w' => e = .returned (.tuple #[.int .i64 m, .nilIface]) ∧ RdC w' R b n cap (i + m) (-1) ∧ Blk w' g t (Lib.byteCells ((l.drop i).take m)).toArray ∧ Off [R, g] w w' := by
  have hbl : (Lib.byteCells ((l.drop i).take m)).length = m := by rw [Lib.byteCells_length]; simp; omega
  have HC := Lib.hid (readAtLeast_br R g 0 m m w (fun w' => RdC w' R b n cap (i + m) (-1) ∧ Blk w' g t (Lib.byteCells ((l.drop i).take m)).toArray ∧ Off [R, g] w w') hm0 (Nat.le_refl _) (by omega) (fun W hW => by
    refine (brRead R g 0 m m b n cap i m p l cur t W hn (hW.blk hR) (hW.seg hs) (hW.blk hg) hRb hRg (by omega) (by show m = min (n - i) m; omega) hm0 (by omega) hL hcap).mono ?_
    rintro e w' ⟨rfl, h1, h2, h3⟩
    refine ⟨rfl, h1, ?_, ((Off.ofDrew (S := []) hW).trans h3).mono (fun x h => by simp at h; rcases h with h | h <;> simp [h])⟩
    have e : splice cur 0 (Lib.byteCells ((l.drop i).take m)) = Lib.byteCells ((l.drop i).take m) := by simp only [splice]; rw [hbl]; simp [hcl]
    rwa [e] at h2))
  clear hR hs hg
  go_enter Tryz.func40, Tryz.ntmps40
  go_wp2_with fail
  refine HC.out.mono ?_
  rintro e w1 ⟨rfl, h1, h2, h3⟩
  have H1 := Lib.hid h1
  have H2 := Lib.hid h2
  have H3 := Lib.hid h3
  clear h1 h2 h3
  go_wp2_with fail
  go_ret2
  exact ⟨rfl, H1.out, H2.out, H3.out⟩
end Go.Proofs.YtioabgenlaikaaaGreatDoor
