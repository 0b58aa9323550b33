/-
  cid's reader of bytes that keeps what it read.
  (No condition beyond those that each theorem states.)
-/
import Derived.Test.YtkdbjocchponfaaGreatDoorM35
namespace Go.Proofs.YtkdbjocchponfaaGreatDoor
open Go.RowKit

/-- The reader Q over the bytes.Reader R: m bytes from place i0 on lie in the row dg. -/
structure BB (R b cap : Nat) (l : List UInt8) (i0 Q dg : Nat) (w0 : World) (m : Nat) (w : World) : Prop where
  rd : RAt R b cap l (i0 + m) w
  q : Blk w Q 182 #[.iface 58 (.pointer (some ⟨R, 0, none⟩)), .nilIface, .slice (some ⟨dg, 0, none⟩) m 64]
  row : Blk w dg 5 (Lib.byteCells ((l.drop i0).take m) ++ zeroBytes (64 - m)).toArray
  m64 : m ≤ 64
  len : i0 + m ≤ l.length
  n1 : R ≠ Q
  n2 : R ≠ dg
  n3 : b ≠ Q
  n4 : b ≠ dg
  n5 : Q ≠ dg
  off : Off [R] w0 w
  f1 : w0.heap.size ≤ Q
  f2 : w0.heap.size ≤ dg

section
variable {R b cap : Nat} {l : List UInt8} {i0 Q dg : Nat} {w0 : World} {m : Nat} {w : World}

theorem BB.row_len (h : BB R b cap l i0 Q dg w0 m w) : (Lib.byteCells ((l.drop i0).take m)).length = m := by
  rw [Lib.byteCells_length]
  have := h.len
  simp
  omega

set_option maxRecDepth 100000 in
set_option maxHeartbeats 2000000 in
theorem bbByte (h : BB R b cap l i0 Q dg w0 m w) (hm : m + 1 ≤ 64) (c : Nat) (hc : (l[i0 + m]?).map (·.toNat) = some c) :
    Calls Tryz.prog 298 #[.pointer (some ⟨Q, 0, none⟩)] w fun e w' => e = .returned (.tuple #[.int .u8 (c : Int), .nilIface]) ∧ BB R b cap l i0 Q dg w0 (m + 1) w' := by
  have q0 : w.cell? ⟨Q, 0, none⟩ = some (.iface 58 (.pointer (some ⟨R, 0, none⟩))) := h.q.cell 0
  have hm1 := method_readByte
  have HC := Lib.hid (h.rd.byte2 c hc)
  have HH := Lib.hid h
  have HCC := Lib.hid hc
  clear h hc
  go_enter Tryz.func298, Tryz.ntmps298
  go_wp2_with fail
  refine HC.out.mono ?_
  rintro e w1 ⟨rfl, hR1, hO1⟩
  have hQ1 := hO1.blk HH.out.q (ni1 (fun e => HH.out.n1 e.symm))
  have hG1 := hO1.blk HH.out.row (ni1 (fun e => HH.out.n2 e.symm))
  have hA : Off [] w1 (w1.alloc (.cells #[.int .u8 (c : Int)] 5)) := (Off.refl [] w1).alloc _
  have q2 : w1.cell? ⟨Q, 2, none⟩ = some (.slice (some ⟨dg, 0, none⟩) m 64) := hQ1.cell 2
  have q2a : ∀ ob, (w1.alloc ob).cell? ⟨Q, 2, none⟩ = some (.slice (some ⟨dg, 0, none⟩) m 64) := fun ob => (hQ1.alloc ob).cell 2
  have qf2 : ∀ ob, (w1.alloc ob).frozen? ⟨Q, 2, none⟩ = false := fun ob => (hQ1.alloc ob).frozen 2
  have hl1 : (Lib.byteCells ((l.drop i0).take m)).length = m := HH.out.row_len
  have hgc : (Lib.byteCells ((l.drop i0).take m) ++ zeroBytes (64 - m)).toArray[m]? = some (.int .u8 0) := by
    rw [List.getElem?_toArray, List.getElem?_append_right (by omega), hl1, Nat.sub_self]
    obtain ⟨k, hk⟩ : ∃ k, 64 - m = k + 1 := ⟨63 - m, by omega⟩
    rw [hk]
    simp [zeroBytes, Lib.byteCells, List.replicate_succ]
  have g2a : ∀ ob, (w1.alloc ob).cell? ⟨dg, m, none⟩ = some (.int .u8 0) := fun ob => by rw [(hG1.alloc ob).cell]; exact hgc
  have gf2 : ∀ ob, (w1.alloc ob).frozen? ⟨dg, m, none⟩ = false := fun ob => (hG1.alloc ob).frozen m
  have n5 := HH.out.n5
  have hle : m + 1 ≤ 64 := hm
  have HR1 := Lib.hid hR1
  have HO1 := Lib.hid hO1
  have HQ1 := Lib.hid hQ1
  have HG1 := Lib.hid hG1
  have HA := Lib.hid hA
  clear hR1 hO1 hQ1 hG1 hA hgc hl1
  go_wp2_with fail
  go_ret2
  have h0 := HH.out
  have hw2 : Off [dg, Q] w1 (((w1.alloc (.cells #[.int .u8 (c : Int)] 5)).setCell ⟨dg, m, none⟩ (.int .u8 (c : Int))).setCell ⟨Q, 2, none⟩ (.slice (some ⟨dg, 0, none⟩) (m + 1) 64)) := ((HA.out.mono (S' := [dg, Q]) (fun x hx => by simp at hx)).setCell (p := ⟨dg, m, none⟩) (Or.inl (by simp)) _).setCell (p := ⟨Q, 2, none⟩) (Or.inl (by simp)) _
  have hi : i0 + m < l.length := by
    rcases Nat.lt_or_ge (i0 + m) l.length with h1 | h1
    · exact h1
    · have := HCC.out; rw [List.getElem?_eq_none h1] at this; simp at this
  refine ⟨rfl, { rd := ?_, q := ?_, row := ?_, m64 := hm, len := by omega, n1 := h0.n1, n2 := h0.n2, n3 := h0.n3, n4 := h0.n4, n5 := h0.n5, off := ?_, f1 := h0.f1, f2 := h0.f2 }⟩
  · exact (HR1.out.off hw2 (ni2 h0.n2 h0.n1) (ni2 h0.n4 h0.n3))
  · exact ((HQ1.out.alloc _).far (p := ⟨dg, m, none⟩) h0.n5 _).set_ 2 _
  · have h1 := ((HG1.out.alloc (.cells #[.int .u8 (c : Int)] 5)).set_ m (.int .u8 (c : Int))).far (p := ⟨Q, 2, none⟩) (fun e => h0.n5 e.symm) (.slice (some ⟨dg, 0, none⟩) (m + 1) 64)
    refine Blk.eq h1 ?_
    have hl1 : (Lib.byteCells ((l.drop i0).take m)).length = m := h0.row_len
    obtain ⟨k, hk⟩ : ∃ k, 64 - m = k + 1 := ⟨63 - m, by omega⟩
    have hk2 : 64 - (m + 1) = k := by omega
    have htk : (l.drop i0).take (m + 1) = (l.drop i0).take m ++ [l[i0 + m]] := by
      rw [List.take_succ_eq_append_getElem (by rw [List.length_drop]; omega), List.getElem_drop]
    have hcv : ((l[i0 + m].toNat : Nat) : Int) = (c : Int) := by
      have := HCC.out
      rw [List.getElem?_eq_getElem hi] at this
      simp at this
      rw [this]
    rw [hk, hk2, htk]
    simp only [List.setIfInBounds_toArray]
    congr 1
    rw [List.set_append_right _ _ (by omega), hl1, Nat.sub_self]
    simp [zeroBytes, Lib.byteCells, List.replicate_succ, hcv]
  · exact (h0.off.then HO1.out (fun x hx => Or.inl hx)).then hw2 (fun x hx => by
      simp at hx
      rcases hx with rfl | rfl
      · exact Or.inr h0.f2
      · exact Or.inr h0.f1)

theorem method_bb (a : Addr) (w : World) : (method 513 179 (.pointer (some a)) "ReadByte").run Tryz.prog w = .ok (298, .pointer (some a)) w := by kernel_rfl
theorem enter_bb (args : Array Value) (w : World) : (callFunc 298 args).run Tryz.prog w = .ok (.enter 298 args) w := by kernel_rfl

theorem bbUvarint (h : BB R b cap l i0 Q dg w0 m w) (x : Nat) (hx : x < 9223372036854775808) {t : List UInt8} (hl : l.drop (i0 + m) = Lib.uvarint x ++ t) (hm : m + (Lib.uvarint x).length ≤ 64) :
    Calls Tryz.prog 56 #[.iface 179 (.pointer (some ⟨Q, 0, none⟩))] w fun e w' => e = .returned (.tuple #[.int .u64 (x : Int), .nilIface]) ∧ BB R b cap l i0 Q dg w0 (m + (Lib.uvarint x).length) w' := by
  refine readUvarint_gen 179 298 ⟨Q, 0, none⟩ x hx (fun j W => BB R b cap l i0 Q dg w0 (m + j) W) enter_bb (fun W => method_bb _ W) (fun j c W hW hc => ?_) w h
  have hj : j < (Lib.uvarint x).length := by
    rcases Nat.lt_or_ge j (Lib.uvarint x).length with h1 | h1
    · exact h1
    · rw [List.getElem?_eq_none h1] at hc; simp at hc
  refine bbByte hW (by omega) c ?_
  rw [show i0 + (m + j) = i0 + m + j from by omega, drop_at hl j hj]
  exact hc

set_option maxRecDepth 100000 in
set_option maxHeartbeats 1000000 in
theorem toBb (h : RAt R b cap l i0 w) (dg : Nat) (hd : Blk w dg 5 (zeroBytes 64).toArray) (hn1 : R ≠ dg) (hn2 : b ≠ dg) (hf : w0.heap.size ≤ dg) (ho : Off [] w0 w) (hlen : i0 ≤ l.length) (hbl : b < w.heap.size) :
    Calls Tryz.prog 81 #[.iface 58 (.pointer (some ⟨R, 0, none⟩)), .slice (some ⟨dg, 0, none⟩) 0 64] w fun e w' => ∃ Q, e = .returned (.pointer (some ⟨Q, 0, none⟩)) ∧ BB R b cap l i0 Q dg w0 0 w' ∧ w.heap.size ≤ Q ∧ Off [] w w' := by
  have hta : ∀ W, (Instr.typeAssert (.iface 58 (.pointer (some ⟨R, 0, none⟩))) 68 176 true).run Tryz.prog W = .ok (.tuple #[.iface 58 (.pointer (some ⟨R, 0, none⟩)), .bool true]) W := fun W => by kernel_rfl
  have hRl := h.lt
  have hdl := hd.lt
  have HH := Lib.hid h
  have HD := Lib.hid hd
  have HO := Lib.hid ho
  clear h hd ho
  go_enter Tryz.func81, Tryz.ntmps81
  go_wp2_with fail
  go_ret
  have hA : ∀ ob, Off [] w (w.alloc ob) := fun ob => (Off.refl [] w).alloc ob
  have hz := HO.out.size
  refine ⟨w.heap.size, rfl, { rd := HH.out.off (hA _) (by simp) (by simp), q := Blk.new w _ _, row := ?_, m64 := by omega, len := hlen, n1 := by omega, n2 := hn1, n3 := by omega, n4 := hn2, n5 := by omega, off := (HO.out.alloc _).mono (fun x hx => by simp at hx), f1 := by omega, f2 := hf }, Nat.le_refl _, hA _⟩
  refine Blk.eq (HD.out.alloc _) ?_
  simp [Lib.byteCells]
end
end Go.Proofs.YtkdbjocchponfaaGreatDoor
