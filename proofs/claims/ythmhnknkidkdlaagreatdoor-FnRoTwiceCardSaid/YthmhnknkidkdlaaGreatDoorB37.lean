/-
  cid's reader of bytes that keeps what it read.
  cid.CidFromReader over a bytes.Reader that stands at an identifier of version 1.
  (No condition beyond those that each theorem states.)
-/
import Derived.Test.YthmhnknkidkdlaaGreatDoorB07
import Derived.Test.YthmhnknkidkdlaaGreatDoorB33
import Derived.Test.YthmhnknkidkdlaaGreatDoorB06
import Derived.Deep.RegionLaw
namespace Go.Proofs.YthmhnknkidkdlaaGreatDoor
open Go.RowKit

/-- The reader Q over the bytes.Reader R: m bytes from place i0 on lie in the row dg. -/
structure BB (R b cap : Nat) (l : List UInt8) (i0 Q dg : Nat) (w0 : World) (m : Nat) (w : World) : Prop where
  rd : RAt R b cap l (i0 + m) w
  q : Blk w Q 182 #[.iface 55 (.pointer (some ⟨R, 0, none⟩)), .nilIface, .slice (some ⟨dg, 0, none⟩) m 64]
  row : Blk w dg 5 (Lib.byteCells ((l.drop i0).take m) ++ zeroBytes (64 - m)).toArray
  m64 : m ≤ 64
  len : i0 + m ≤ l.length
  n1 : R ≠ Q
  n2 : R ≠ dg
  n3 : b ≠ Q
  n4 : b ≠ dg
  n5 : Q ≠ dg
  off : Off [R] w0 w
  f1 : w0.heap.size ≤ Q
  f2 : w0.heap.size ≤ dg

section
variable {R b cap : Nat} {l : List UInt8} {i0 Q dg : Nat} {w0 : World} {m : Nat} {w : World}

theorem BB.row_len (h : BB R b cap l i0 Q dg w0 m w) : (Lib.byteCells ((l.drop i0).take m)).length = m := by
  rw [Lib.byteCells_length]
  have := h.len
  simp
  omega

set_option maxRecDepth 100000 in
set_option maxHeartbeats 2000000 in
theorem bbByte (h : BB R b cap l i0 Q dg w0 m w) (hm : m + 1 ≤ 64) (c : Nat) (hc : (l[i0 + m]?).map (·.toNat) = some c) :
    Calls Tryz.prog 253 #[.pointer (some ⟨Q, 0, none⟩)] w fun e w' => e = .returned (.tuple #[.int .u8 (c : Int), .nilIface]) ∧ BB R b cap l i0 Q dg w0 (m + 1) w' := by
  have q0 : w.cell? ⟨Q, 0, none⟩ = some (.iface 55 (.pointer (some ⟨R, 0, none⟩))) := h.q.cell 0
  have hm1 := method_readByte
  have HC := Lib.hid (h.rd.byte2 c hc)
  have HH := Lib.hid h
  have HCC := Lib.hid hc
  clear h hc
  go_enter Tryz.func253, Tryz.ntmps253
  go_wp2_with fail
  refine HC.out.mono ?_
  rintro e w1 ⟨rfl, hR1, hO1⟩
  have hQ1 := hO1.blk HH.out.q (ni1 (fun e => HH.out.n1 e.symm))
  have hG1 := hO1.blk HH.out.row (ni1 (fun e => HH.out.n2 e.symm))
  have hA : Off [] w1 (w1.alloc (.cells #[.int .u8 (c : Int)] 5)) := (Off.refl [] w1).alloc _
  have q2 : w1.cell? ⟨Q, 2, none⟩ = some (.slice (some ⟨dg, 0, none⟩) m 64) := hQ1.cell 2
  have q2a : ∀ ob, (w1.alloc ob).cell? ⟨Q, 2, none⟩ = some (.slice (some ⟨dg, 0, none⟩) m 64) := fun ob => (hQ1.alloc ob).cell 2
  have qf2 : ∀ ob, (w1.alloc ob).frozen? ⟨Q, 2, none⟩ = false := fun ob => (hQ1.alloc ob).frozen 2
  have hl1 : (Lib.byteCells ((l.drop i0).take m)).length = m := HH.out.row_len
  have hgc : (Lib.byteCells ((l.drop i0).take m) ++ zeroBytes (64 - m)).toArray[m]? = some (.int .u8 0) := by
    rw [List.getElem?_toArray, List.getElem?_append_right (by omega), hl1, Nat.sub_self]
    obtain ⟨k, hk⟩ : ∃ k, 64 - m = k + 1 := ⟨63 - m, by omega⟩
    rw [hk]
    simp [zeroBytes, Lib.byteCells, List.replicate_succ]
  have g2a : ∀ ob, (w1.alloc ob).cell? ⟨dg, m, none⟩ = some (.int .u8 0) := fun ob => by rw [(hG1.alloc ob).cell]; exact hgc
  have gf2 : ∀ ob, (w1.alloc ob).frozen? ⟨dg, m, none⟩ = false := fun ob => (hG1.alloc ob).frozen m
  have n5 := HH.out.n5
  have hle : m + 1 ≤ 64 := hm
  have HR1 := Lib.hid hR1
  have HO1 := Lib.hid hO1
  have HQ1 := Lib.hid hQ1
  have HG1 := Lib.hid hG1
  have HA := Lib.hid hA
  clear hR1 hO1 hQ1 hG1 hA hgc hl1
  go_wp2_with fail
  go_ret2
  have h0 := HH.out
  have hw2 : Off [dg, Q] w1 (((w1.alloc (.cells #[.int .u8 (c : Int)] 5)).setCell ⟨dg, m, none⟩ (.int .u8 (c : Int))).setCell ⟨Q, 2, none⟩ (.slice (some ⟨dg, 0, none⟩) (m + 1) 64)) := ((HA.out.mono (S' := [dg, Q]) (fun x hx => by simp at hx)).setCell (p := ⟨dg, m, none⟩) (Or.inl (by simp)) _).setCell (p := ⟨Q, 2, none⟩) (Or.inl (by simp)) _
  have hi : i0 + m < l.length := by
    rcases Nat.lt_or_ge (i0 + m) l.length with h1 | h1
    · exact h1
    · have := HCC.out; rw [List.getElem?_eq_none h1] at this; simp at this
  refine ⟨rfl, { rd := ?_, q := ?_, row := ?_, m64 := hm, len := by omega, n1 := h0.n1, n2 := h0.n2, n3 := h0.n3, n4 := h0.n4, n5 := h0.n5, off := ?_, f1 := h0.f1, f2 := h0.f2 }⟩
  · exact (HR1.out.off hw2 (ni2 h0.n2 h0.n1) (ni2 h0.n4 h0.n3))
  · exact ((HQ1.out.alloc _).far (p := ⟨dg, m, none⟩) h0.n5 _).set_ 2 _
  · have h1 := ((HG1.out.alloc (.cells #[.int .u8 (c : Int)] 5)).set_ m (.int .u8 (c : Int))).far (p := ⟨Q, 2, none⟩) (fun e => h0.n5 e.symm) (.slice (some ⟨dg, 0, none⟩) (m + 1) 64)
    refine Blk.eq h1 ?_
    have hl1 : (Lib.byteCells ((l.drop i0).take m)).length = m := h0.row_len
    obtain ⟨k, hk⟩ : ∃ k, 64 - m = k + 1 := ⟨63 - m, by omega⟩
    have hk2 : 64 - (m + 1) = k := by omega
    have htk : (l.drop i0).take (m + 1) = (l.drop i0).take m ++ [l[i0 + m]] := by
      rw [List.take_succ_eq_append_getElem (by rw [List.length_drop]; omega), List.getElem_drop]
    have hcv : ((l[i0 + m].toNat : Nat) : Int) = (c : Int) := by
      have := HCC.out
      rw [List.getElem?_eq_getElem hi] at this
      simp at this
      rw [this]
    rw [hk, hk2, htk]
    simp only [List.setIfInBounds_toArray]
    congr 1
    rw [List.set_append_right _ _ (by omega), hl1, Nat.sub_self]
    simp [zeroBytes, Lib.byteCells, List.replicate_succ, hcv]
  · exact (h0.off.then HO1.out (fun x hx => Or.inl hx)).then hw2 (fun x hx => by
      simp at hx
      rcases hx with rfl | rfl
      · exact Or.inr h0.f2
      · exact Or.inr h0.f1)

theorem method_bb (a : Addr) (w : World) : (method 480 179 (.pointer (some a)) "ReadByte").run Tryz.prog w = .ok (253, .pointer (some a)) w := by kernel_rfl
theorem enter_bb (args : Array Value) (w : World) : (callFunc 253 args).run Tryz.prog w = .ok (.enter 253 args) w := by kernel_rfl

theorem bbUvarint (h : BB R b cap l i0 Q dg w0 m w) (x : Nat) (hx : x < 9223372036854775808) {t : List UInt8} (hl : l.drop (i0 + m) = Lib.uvarint x ++ t) (hm : m + (Lib.uvarint x).length ≤ 64) :
    Calls Tryz.prog 53 #[.iface 179 (.pointer (some ⟨Q, 0, none⟩))] w fun e w' => e = .returned (.tuple #[.int .u64 (x : Int), .nilIface]) ∧ BB R b cap l i0 Q dg w0 (m + (Lib.uvarint x).length) w' := by
  refine readUvarint_gen 179 253 ⟨Q, 0, none⟩ x hx (fun j W => BB R b cap l i0 Q dg w0 (m + j) W) enter_bb (fun W => method_bb _ W) (fun j c W hW hc => ?_) w h
  have hj : j < (Lib.uvarint x).length := by
    rcases Nat.lt_or_ge j (Lib.uvarint x).length with h1 | h1
    · exact h1
    · rw [List.getElem?_eq_none h1] at hc; simp at hc
  refine bbByte hW (by omega) c ?_
  rw [show i0 + (m + j) = i0 + m + j from by omega, drop_at hl j hj]
  exact hc

set_option maxRecDepth 100000 in
set_option maxHeartbeats 1000000 in
theorem toBb (h : RAt R b cap l i0 w) (dg : Nat) (hd : Blk w dg 5 (zeroBytes 64).toArray) (hn1 : R ≠ dg) (hn2 : b ≠ dg) (hf : w0.heap.size ≤ dg) (ho : Off [] w0 w) (hlen : i0 ≤ l.length) (hbl : b < w.heap.size) :
    Calls Tryz.prog 76 #[.iface 55 (.pointer (some ⟨R, 0, none⟩)), .slice (some ⟨dg, 0, none⟩) 0 64] w fun e w' => ∃ Q, e = .returned (.pointer (some ⟨Q, 0, none⟩)) ∧ BB R b cap l i0 Q dg w0 0 w' ∧ w.heap.size ≤ Q ∧ Off [] w w' := by
  have hta : ∀ W, (Instr.typeAssert (.iface 55 (.pointer (some ⟨R, 0, none⟩))) 117 176 true).run Tryz.prog W = .ok (.tuple #[.iface 55 (.pointer (some ⟨R, 0, none⟩)), .bool true]) W := fun W => by kernel_rfl
  have hRl := h.lt
  have hdl := hd.lt
  have HH := Lib.hid h
  have HD := Lib.hid hd
  have HO := Lib.hid ho
  clear h hd ho
  go_enter Tryz.func76, Tryz.ntmps76
  go_wp2_with fail
  go_ret
  have hA : ∀ ob, Off [] w (w.alloc ob) := fun ob => (Off.refl [] w).alloc ob
  have hz := HO.out.size
  refine ⟨w.heap.size, rfl, { rd := HH.out.off (hA _) (by simp) (by simp), q := Blk.new w _ _, row := ?_, m64 := by omega, len := hlen, n1 := by omega, n2 := hn1, n3 := by omega, n4 := hn2, n5 := by omega, off := (HO.out.alloc _).mono (fun x hx => by simp at hx), f1 := by omega, f2 := hf }, Nat.le_refl _, hA _⟩
  refine Blk.eq (HD.out.alloc _) ?_
  simp [Lib.byteCells]
end
end Go.Proofs.YthmhnknkidkdlaaGreatDoor
namespace Go.Proofs.YthmhnknkidkdlaaGreatDoor
open Go.RowKit

/-- append of so many zero bytes: a row of its own. -/
theorem run_append_zeros {P : Program} {w : World} (t ti ty e : TypeId) (i : TypeInfo) {k : IntKind} (ht : P.underlying t = some (.slice e)) (hti : P.underlying ti = some (.int k)) (hi : P.info? e = some i) (hz : i.zero = some (.int .u8 0)) (hs : i.size = 1) (hb : i.bytes = 1)
    (b : Addr) (sLen sCap : Nat) (olds : List Value) (hlo : olds.length = sLen) (holds : ∀ j v, olds[j]? = some v → w.cell? (b.add j) = some v)
    (n : Nat) (hg : sCap < sLen + n) (hn0 : 0 < n) (hsm : sLen + n ≤ 1000000) :
    ∃ c, sLen + n ≤ c ∧ (Builtin.append_ #[t, ti] ty #[.slice (some b) sLen sCap, .int .i64 (n : Int)]).run P w =
      .ok (.slice (some ⟨w.heap.size, 0, none⟩) (sLen + n) c) (w.drew.alloc (.cells (olds ++ (zeroBytes n ++ zeroBytes (c - (sLen + n)))).toArray e)) := by
  refine ⟨grownCap w (sLen + n) sCap e, grownCap_ge _ _ _ _, ?_⟩
  have hn : ¬ (sLen + n ≤ sCap) := by omega
  have hw : IntKind.i64.wrap (n : Int) = (n : Int) := by rw [IntKind.wrap_i64]; omega
  have hnn : ¬ ((n : Int) < 0) := by omega
  have h1 : ¬ ((281474976710656 : Int) < (n : Int)) := by omega
  have h63' : ¬ (9223372036854775807 < ((sLen : Int) + (n : Int))) := by omega
  have hnc : Builtin.nextslicecap (sLen + n) sCap ≤ 2 * (sLen + n) := nextslicecap_le (by omega)
  have h48' : ¬ (281474976710656 < Builtin.nextslicecap (sLen + n) sCap) := by omega
  have hfo := run_firstCells_some (P := P) w.drew i.size sLen b sLen sCap olds (by rw [hs, hlo, Nat.mul_one]) (by simpa using holds)
  rw [hs] at hfo
  have hn0' : ¬ n = 0 := by omega
  have hzc : ∀ m, Builtin.zeroCells (Value.int .u8 0).cells m = (zeroBytes m).toArray := fun m => by
    apply Array.ext
    · simp [Builtin.zeroCells, zeroBytes, Lib.byteCells, Value.cells]
    · intro j h1 h2
      simp [Builtin.zeroCells, zeroBytes, Lib.byteCells, Value.cells, Nat.mod_one]
  simp [Builtin.append_, run_underlying ht, run_underlying hti, sizeOf, typeInfo, zeroValue, hi, hz, hs, hb, hn, hw, hnn, h1, h63', h48', hn0', Question.forced, hfo, newRow, grownCap, asInt, asIntOf, hzc]

section
variable {P : Program} {ops : Array Oper} {o : Oper} {a : Act} {Q : Exit → Act → World → Prop}
theorem step_append_zeros {K : Act → World → Prop} {E : Prop} (w : World) (hgd : o.guard = none) (s x : Operand) (t ti : TypeId) (ho : o.op = .call { callee := .builtin .append, args := #[s, x], argTypes := #[t, ti] })
    (e : TypeId) (i : TypeInfo) {k : IntKind} (ht : P.underlying t = some (.slice e)) (hti : P.underlying ti = some (.int k)) (hi : P.info? e = some i) (hz : i.zero = some (.int .u8 0)) (hs : i.size = 1) (hb : i.bytes = 1)
    (b : Addr) (sLen sCap : Nat) (olds : List Value) (hsv : a.eval s = .slice (some b) sLen sCap) (hlo : olds.length = sLen) (holds : ∀ j v, olds[j]? = some v → w.cell? (b.add j) = some v)
    (n : Nat) (hx : a.eval x = .int .i64 (n : Int)) (hg : sCap < sLen + n) (hn0 : 0 < n) (hsm : sLen + n ≤ 1000000)
    (h : ∀ c w', sLen + n ≤ c → Hid (Off [] w w') → Hid (Blk w' w.heap.size e (olds ++ (zeroBytes n ++ zeroBytes (c - (sLen + n)))).toArray) → K (a.put o.dst (.slice (some ⟨w.heap.size, 0, none⟩) (sLen + n) c)) w') :
    if Region.wanted o (yielded ops a.tmps) = true then Oper.wp P o a w K Q else E := by
  have hw : Region.wanted o (yielded ops a.tmps) = true := by simp [Region.wanted, hgd]
  rw [if_pos hw]
  obtain ⟨c, hc, hr⟩ := run_append_zeros (P := P) (w := w) t ti o.type e i ht hti hi hz hs hb b sLen sCap olds hlo holds n hg hn0 hsm
  unfold Oper.wp execOp
  simp only [ho, resolve, invoke, builtin, Sem.run_bind, Sem.run_pure, Result.andThen_ok, List.map_toArray, List.map_cons, List.map_nil, hsv, hx, hr]
  exact h c _ hc (Lib.hid ((Off.refl [] w).drew.alloc _)) (Lib.hid (Blk.new w.drew e _))
end

theorem int_u64 : Tryz.prog.underlying 3 = some (.int .i64) := by kernel_rfl

/-- What is ahead of an identifier's digest. -/
def preC (codec code n : Nat) : List UInt8 := Lib.uvarint 1 ++ (Lib.uvarint codec ++ (Lib.uvarint code ++ Lib.uvarint n))
theorem cid1_pre (codec code : Nat) (d : List UInt8) : cid1 codec (mhB code d) = preC codec code d.length ++ d := by
  rw [cid1_eq, mhB, preC]
  simp [List.append_assoc]

set_option maxRecDepth 100000 in
set_option maxHeartbeats 3000000 in
theorem cidFromReader_one {R b cap i0 : Nat} {l t : List UInt8} {w : World} (h : RAt R b cap l i0 w) (codec code : Nat) (d : List UInt8) (hx : code < 9223372036854775808) (hcx : codec < 9223372036854775808) (hd : d.length ≤ 1000) (hl : l.drop i0 = cid1 codec (mhB code d) ++ t) :
    Calls Tryz.prog 54 #[.iface 55 (.pointer (some ⟨R, 0, none⟩))] w fun e w' => e = .returned (.tuple #[.int .i64 ((cid1 codec (mhB code d)).length : Int), .agg #[.string (str (cid1 codec (mhB code d)))], .nilIface]) ∧ RAt R b cap l (i0 + (cid1 codec (mhB code d)).length) w' ∧ Off [R] w w' := by
  obtain ⟨ib, hib, hz0, hz1, hz2⟩ := info_parts Tryz.infoByte
  have hmk := fun W => run_make0 (P := Tryz.prog) Tryz.underlying47 hib hz0 hz1 hz2 64 (by omega) W
  have e64 : ((64 : Nat) : Int) = 64 := rfl
  rw [e64] at hmk
  have hone : (Lib.uvarint 1).length = 1 := by rw [Lib.uvarint_small (by omega)]; rfl
  have p1 := Lib.uvarint_pos codec
  have p2 := Lib.uvarint_pos code
  have p3 := Lib.uvarint_pos d.length
  have q1 := Lib.uvarint_length64 (x := codec) (by omega)
  have q2 := Lib.uvarint_length64 (x := code) (by omega)
  have q3 := Lib.uvarint_length64 (x := d.length) (by omega)
  obtain ⟨u, hu⟩ : ∃ u, u = (Lib.uvarint codec).length := ⟨_, rfl⟩
  obtain ⟨v, hv⟩ : ∃ v, v = (Lib.uvarint code).length := ⟨_, rfl⟩
  obtain ⟨z, hz⟩ : ∃ z, z = (Lib.uvarint d.length).length := ⟨_, rfl⟩
  obtain ⟨C, hC⟩ : ∃ C, C = cid1 codec (mhB code d) := ⟨_, rfl⟩
  obtain ⟨n, hn⟩ : ∃ n, n = C.length := ⟨_, rfl⟩
  obtain ⟨k, hk⟩ : ∃ k, k = d.length := ⟨_, rfl⟩
  obtain ⟨m, hm⟩ : ∃ m, m = 1 + u + v + z := ⟨_, rfl⟩
  have hpl : (preC codec code k).length = m := by
    rw [preC]
    simp only [List.length_append, hone]
    rw [hk]
    omega
  have hCp : C = preC codec code k ++ d := by rw [hC, hk]; exact cid1_pre codec code d
  have hnm : n = m + k := by rw [hn, hCp, List.length_append, hpl, hk]
  rw [← hC, ← hn]
  have hl0 : l.drop i0 = Lib.uvarint 1 ++ (Lib.uvarint codec ++ (Lib.uvarint code ++ (Lib.uvarint k ++ (d ++ t)))) := by
    rw [hl, cid1_pre, preC, ← hk]; simp [List.append_assoc]
  have hl1 : l.drop (i0 + 1) = Lib.uvarint codec ++ (Lib.uvarint code ++ (Lib.uvarint k ++ (d ++ t))) := by have := drop_more hl0; rwa [hone] at this
  have hl2 : l.drop (i0 + (1 + u)) = Lib.uvarint code ++ (Lib.uvarint k ++ (d ++ t)) := by have := drop_more hl1; rwa [← hu, Nat.add_assoc] at this
  have hl3 : l.drop (i0 + (1 + u + v)) = Lib.uvarint k ++ (d ++ t) := by have := drop_more hl2; rwa [← hv, Nat.add_assoc] at this
  have hl4 : l.drop (i0 + m) = d ++ t := by have := drop_more hl3; rw [hk, ← hz, Nat.add_assoc, ← hm] at this; exact this
  have hlen : i0 + n + t.length = l.length := by
    have hl' : l.drop i0 = C ++ t := by rw [hl, hC]
    rcases drop_lt hl' with h1 | ⟨h1, _⟩
    · rw [hn]; exact h1
    · rw [h1] at hn; simp at hn; omega
  have hbl : b < w.heap.size := h.seg.lt (by omega)
  have hRl := h.lt
  have htk : (l.drop i0).take m = preC codec code k := by
    rw [hl, ← hC, hCp, List.append_assoc, ← hpl, List.take_left]
  have htd : (l.drop (i0 + m)).take k = d := by rw [hl4, hk, List.take_left]
  have hA2 : Off [] w ((w.alloc (.cells #[.string ⟨#[]⟩] 133)).alloc (.cells (zeroBytes 64).toArray 5)) := ((Off.refl [] w).alloc _).alloc _
  have hdg := Blk.new' (w.alloc (.cells #[.string ⟨#[]⟩] 133)) 5 (zeroBytes 64).toArray (g := w.heap.size + 1) (by simp)
  have HT := Lib.hid (toBb (w0 := w.alloc (.cells #[.string ⟨#[]⟩] 133)) (h.off hA2 (by simp) (by simp)) (w.heap.size + 1) hdg (by omega) (by omega) (by simp) ((Off.refl [] _).alloc _) (by omega) (by simp; omega))
  have HCELL := Lib.hid ((Blk.new w 133 #[.string ⟨#[]⟩]).alloc (.cells (zeroBytes 64).toArray 5))
  have HL0 := Lib.hid hl0
  have HL1 := Lib.hid hl1
  have HL2 := Lib.hid hl2
  have HL3 := Lib.hid hl3
  have HNS := Lib.hid (And.intro hone (And.intro hu (And.intro hv (And.intro (hk ▸ hz) hm))))
  have HX := Lib.hid (And.intro hx (And.intro hcx hnm))
  have HD := Lib.hid (And.intro htk (And.intro htd (And.intro hCp (And.intro hpl (And.intro hk (And.intro hn hC))))))
  have hm64 : m ≤ 40 := by omega
  have hk1000 : k ≤ 1000 := by omega
  have hle1 : 1 + u ≤ m := by omega
  have hlt1 : 1 + u < m := by omega
  have hle2 : 1 + u + v ≤ m := by omega
  have HLEN := Lib.hid hlen
  clear h hl hl0 hl1 hl2 hl3 hl4 p1 p2 p3 q1 q2 q3 hone hu hv hz hm hnm hCp hpl htk htd hk hn hC hA2 hdg hx hcx hd hlen
  go_enter Tryz.func54, Tryz.ntmps54
  go_wp2_with fail
  refine HT.out.mono ?_
  rintro e w1 ⟨Qb, rfl, hB1, hQ1, hO1⟩
  have HO1 := Lib.hid hO1
  have HU1 := Lib.hid (bbUvarint hB1 1 (by omega) HL0.out (by have := HNS.out.1; omega))
  rw [HNS.out.1] at HU1
  have HC1 := Lib.hid (hO1.blk HCELL.out (by simp))
  have HQ1 := Lib.hid hQ1
  clear hB1 hO1 hQ1
  go_wp2_with fail
  refine HU1.out.mono ?_
  rintro e w2 ⟨rfl, hB2⟩
  have HU2 := Lib.hid (bbUvarint hB2 codec HX.out.2.1 (by rw [Nat.zero_add]; exact HL1.out) (by have := HNS.out.2.1; omega))
  rw [← HNS.out.2.1, Nat.zero_add] at HU2
  clear hB2
  go_wp2_with fail
  refine HU2.out.mono ?_
  rintro e w3 ⟨rfl, hB3⟩
  have s3 : w3.cell? ⟨Qb, 2, none⟩ = some (.slice (some ⟨w.heap.size + 1, 0, none⟩) (1 + u) 64) := hB3.q.cell 2
  have HU3 := Lib.hid (bbUvarint hB3 code HX.out.1 HL2.out (by have := HNS.out.2.2.1; omega))
  rw [← HNS.out.2.2.1] at HU3
  clear hB3
  go_wp2_with fail
  refine HU3.out.mono ?_
  rintro e w4 ⟨rfl, hB4⟩
  have HU4 := Lib.hid (bbUvarint hB4 k (by omega) HL3.out (by have h1 := HNS.out.2.2.2.1; have h2 := HNS.out.2.2.2.2; omega))
  rw [← HNS.out.2.2.2.1, ← HNS.out.2.2.2.2] at HU4
  clear hB4 s3
  go_wp2_with fail
  refine HU4.out.mono ?_
  rintro e w5 ⟨rfl, hB5⟩
  have s5 : w5.cell? ⟨Qb, 2, none⟩ = some (.slice (some ⟨w.heap.size + 1, 0, none⟩) m 64) := hB5.q.cell 2
  have sf5 := hB5.q.frozen 2
  have hsum : (m : Int) + (k : Int) = (n : Int) := by have := HX.out.2.2; omega
  have hcw : IntKind.i64.wrap (k : Int) = (k : Int) := by rw [IntKind.wrap_i64]; omega
  have hk1 : ¬ ((33554432 : Int) < (k : Int)) := by omega
  have hmn : m ≤ n := by have := HX.out.2.2; omega
  have hnk : n - m = k := by have := HX.out.2.2; omega
  have hm64' : ¬ 64 = m := by omega
  have n1 := hB5.n1
  have n2 := hB5.n2
  have n5 := hB5.n5
  have hQf := HQ1.out
  simp at hQf
  have hcellne : w.heap.size ≠ Qb := by omega
  have hC5 : Blk w5 w.heap.size 133 #[.string ⟨#[]⟩] := hB5.off.blk (Blk.new w _ _) (ni1 (by omega))
  have HO5 : Hid (Off [R] w w5) := Lib.hid (((Off.refl [R] w).alloc _).then hB5.off (fun x hx => Or.inl hx))
  have HB5 := Lib.hid hB5
  have HC5 := Lib.hid hC5
  clear hB5 hC5 hsum
  have hsum : (m : Int) + (k : Int) = (n : Int) := by have := HX.out.2.2; omega
  by_cases hbig : 64 < n
  · have g1 : (64 : Int) < (n : Int) := by omega
    have hsub : (n : Int) - (m : Int) = (k : Int) := by omega
    have hmk' : m + k = n := by omega
    have hQ5 := HB5.out.q
    have hG5 := HB5.out.row
    rw [HD.out.1] at hG5
    have hS5 : Seg w5 (w.heap.size + 1) 0 (preC codec code k) := Seg.of_bytes hG5
    have HS5 := Lib.hid hS5
    have HQ5 := Lib.hid hQ5
    have hpb : (Lib.byteCells (preC codec code k)).length = m := by rw [Lib.byteCells_length]; exact HD.out.2.2.2.1
    have HPB := Lib.hid hpb
    have hsubw : IntKind.i64.wrap (k : Int) = (k : Int) := hcw
    have i64t := int_u64
    clear hQ5 hG5 hS5 hpb
    go_wp2_with fail
    go_region_law (first
      | (refine step_append_zeros _ rfl (.tmp 201) (.tmp 208) 47 3 rfl 5 ib Tryz.underlying47 i64t hib hz0 hz1 hz2 ⟨w.heap.size + 1, 0, none⟩ m 64 (Lib.byteCells (preC codec code k)) (by simp [Act.eval, Act.put]) HPB.out (fun j v hj => HS5.out.cells j v hj) k (by simp [Act.eval, Act.put]) (by omega) (by omega) (by omega) ?_; intro c9 w9 hc9 ho9 hb9; have HO9 : Hid (Off [] w5 w9) := Lib.hid (by first | exact ho9.out | exact (Off.refl [] w5).drew.then ho9.out (fun x hx => by simp at hx)); have q9 : w9.cell? ⟨Qb, 2, none⟩ = some (.slice (some ⟨w.heap.size + 1, 0, none⟩) m 64) := (HO9.out.blk HQ5.out (by simp)).cell 2; have qf9 : w9.frozen? ⟨Qb, 2, none⟩ = false := (HO9.out.blk HQ5.out (by simp)).frozen 2))
    all_goals
      go_wp2_with fail
      have hkp : 0 < k := by omega
      have hdgl : w.heap.size + 1 < w5.heap.size := HS5.out.lt (by rw [HD.out.2.2.2.1]; omega)
      have hO10 := (HO9.out.mono (S' := [Qb]) (fun x hx => by simp at hx)).setCell (p := ⟨Qb, 2, none⟩) (Or.inl (by simp)) (.slice (some ⟨w5.heap.size, 0, none⟩) n c9)
      have hQl := HQ5.out.lt
      have hR10 := HB5.out.rd.off hO10 (ni1 HB5.out.n1) (ni1 HB5.out.n3)
      have hQ10 := (HO9.out.blk HQ5.out (by simp)).set_ 2 (.slice (some ⟨w5.heap.size, 0, none⟩) n c9)
      have hG10 := hb9.out.far (p := ⟨Qb, 2, none⟩) (show w5.heap.size ≠ Qb by omega) (.slice (some ⟨w5.heap.size, 0, none⟩) n c9)
      have hC10 := (HO9.out.blk HC5.out (by simp)).far (p := ⟨Qb, 2, none⟩) hcellne (.slice (some ⟨w5.heap.size, 0, none⟩) n c9)
      have hO10' := (HO5.out.then HO9.out (fun x hx => by simp at hx)).setCell (p := ⟨Qb, 2, none⟩) (Or.inr (by show w.heap.size ≤ Qb; omega)) (.slice (some ⟨w5.heap.size, 0, none⟩) n c9)
      have hRl5 := HB5.out.rd.lt
      have hbl5 : b < w5.heap.size := HB5.out.rd.seg.lt (by have := HLEN.out; omega)
      have HF := Lib.hid (readFull_off hR10 w5.heap.size m k (c9 - m) (Lib.byteCells (preC codec code k) ++ (zeroBytes k ++ zeroBytes (c9 - (m + k)))) 5 hG10 (by omega) (by omega) hkp (by have := HLEN.out; omega) (by rw [List.length_append, List.length_append, HPB.out, zeroBytes_length, zeroBytes_length]; omega) (by omega) (by omega))
      rw [HD.out.2.1] at HF
      have HQ10 := Lib.hid hQ10
      have HC10 := Lib.hid hC10
      have HO10' := Lib.hid hO10'
      clear hO10 hR10 hQ10 hG10 hC10 hO10' q9 qf9 ho9 hb9
      refine HF.out.mono ?_
      rintro e w7 ⟨rfl, h1, h2, h3⟩
      obtain ⟨g7, hg7e⟩ : ∃ g7, g7 = w5.heap.size := ⟨_, rfl⟩
      obtain ⟨cp7, hcp7⟩ : ∃ cp7, cp7 = c9 := ⟨_, rfl⟩
      have hsp : splice (Lib.byteCells (preC codec code k) ++ (zeroBytes k ++ zeroBytes (c9 - (m + k)))) m (Lib.byteCells d) = Lib.byteCells C ++ zeroBytes (c9 - (m + k)) := by
        have hdk : (Lib.byteCells d).length = k := by rw [Lib.byteCells_length]; exact HD.out.2.2.2.2.1.symm
        rw [splice, hdk, List.take_left' HPB.out, List.drop_append, HPB.out, HD.out.2.2.1]
        have e1 : m + k - m = k := by omega
        have h2 := HPB.out
        rw [List.drop_of_length_le (by omega), e1, List.nil_append, List.drop_left' (zeroBytes_length k)]
        simp [Lib.byteCells, List.append_assoc]
      rw [hsp] at h2
      have HT7 : Hid (RAt R b cap l (i0 + n) w7 ∧ Blk w7 Qb 182 #[.iface 55 (.pointer (some ⟨R, 0, none⟩)), .nilIface, .slice (some ⟨g7, 0, none⟩) n cp7] ∧ Seg w7 g7 0 C ∧ n ≤ cp7 ∧ Blk w7 w.heap.size 133 #[.string ⟨#[]⟩] ∧ Off [R] w w7) := by
        refine Lib.hid ⟨?_, ?_, ?_, by omega, ?_, ?_⟩
        · rw [HX.out.2.2, ← Nat.add_assoc]; exact h1
        · rw [hg7e, hcp7]; exact h3.blk HQ10.out (ni2 (fun e => n1 e.symm) (by omega))
        · rw [hg7e]; exact Seg.of_bytes h2
        · exact h3.blk HC10.out (ni2 (by omega) (by omega))
        · exact HO10'.out.then h3 (fun x hx => by simp at hx; rcases hx with rfl | rfl <;> (first | (simp; done) | (right; omega)))
      clear h1 h2 h3 s5 sf5 hg7e hsp hcp7 hc9
      obtain ⟨hR7, hQ7, hS7, hn7, hC7, hO7⟩ := HT7.out
      have x2 : w7.cell? ⟨Qb, 2, none⟩ = some (.slice (some ⟨g7, 0, none⟩) n cp7) := hQ7.cell 2
      have hg7 : g7 < w7.heap.size := hS7.lt (by have := HD.out.2.2.2.2.2.1; omega)
      have hseq : Seg w7 g7 0 (Lib.uvarint 1 ++ (Lib.uvarint codec ++ mhB code d)) := by rw [← cid1_eq, ← HD.out.2.2.2.2.2.2]; exact hS7
      have hmh : Seg w7 g7 (1 + u) (mhB code d) := by
        have h1 := hseq.right.right
        rw [HNS.out.1, ← HNS.out.2.1, Nat.zero_add] at h1
        exact h1
      have hml : n - (1 + u) = (mhB code d).length := by
        have h1 := HD.out.2.2.2.2.2.1
        rw [HD.out.2.2.2.2.2.2, cid1_length, ← HNS.out.2.1] at h1
        omega
      have HM := Lib.hid (mhFromBytes_ok code g7 (1 + u) (n - (1 + u)) (cp7 - (1 + u)) d w7 HX.out.1 (by have := HD.out.2.2.2.2.1; omega) hml (by omega) hmh)
      have hne7 : ¬ cp7 = 1 + u := by have := HX.out.2.2; omega
      have hle7 : 1 + u ≤ n := by have := HX.out.2.2; omega
      clear hR7 hQ7 hS7 hC7 hO7 hseq hmh hml
      go_wp2_with fail
      refine HM.out.mono ?_
      rintro e w8 ⟨rfl, hD8⟩
      obtain ⟨hR7, hQ7, hS7, hn7', hC7, hO7⟩ := HT7.out
      have x8 : w8.cell? ⟨Qb, 2, none⟩ = some (.slice (some ⟨g7, 0, none⟩) n cp7) := (hD8.blk hQ7).cell 2
      have hC8 := hD8.blk hC7
      have y8 := hC8.cell 0
      have yf8 := hC8.frozen 0
      simp at y8
      have hcv := run_convert_seg (P := Tryz.prog) (W := w8.drew) (src := 47) (e := 5) (dst := 9) Tryz.underlying47 Tryz.underlying5 Tryz.underlying9 cp7 (hD8.seg hS7).drew
      rw [← HD.out.2.2.2.2.2.1] at hcv
      have HC8 := Lib.hid hC8
      have HR8 := Lib.hid (hR7.off (Off.ofDrew (S := []) hD8) (by simp) (by simp))
      have HO8 := Lib.hid (hO7.then (Off.ofDrew (S := []) hD8) (fun x hx => by simp at hx))
      clear hD8 hR7 hQ7 hS7 hC7 hO7 hC8
      go_wp2_with fail
      go_region
      go_wp2_with fail
      refine bodyPost_ret (results_trt rfl _ (HC8.out.fill1) rfl Tryz.underlying133 rfl (by kernel_rfl)) rfl ⟨rfl, ?_, ?_⟩
      · exact (HR8.out.off (((Off.refl [w.heap.size] w8).setCell (p := ⟨w.heap.size, 0, none⟩) (Or.inl (by simp)) _).drew) (ni1 (by omega)) (ni1 (by omega)))
      · exact (HO8.out.setCell (p := ⟨w.heap.size, 0, none⟩) (Or.inr (Nat.le_refl _)) _).drew
  · have hn64 : n ≤ 64 := by omega
    have g1 : ¬ ((64 : Int) < (n : Int)) := by omega
    have hO6 := (Off.refl [Qb] w5).setCell (p := ⟨Qb, 2, none⟩) (Or.inl (by simp)) (.slice (some ⟨w.heap.size + 1, 0, none⟩) n 64)
    have hR6 := HB5.out.rd.off hO6 (ni1 HB5.out.n1) (ni1 HB5.out.n3)
    have hQ6 := HB5.out.q.set_ 2 (.slice (some ⟨w.heap.size + 1, 0, none⟩) n 64)
    have hG6 := HB5.out.row.far (p := ⟨Qb, 2, none⟩) (fun e => n5 e.symm) (.slice (some ⟨w.heap.size + 1, 0, none⟩) n 64)
    rw [HD.out.1] at hG6
    have hC6 := HC5.out.far (p := ⟨Qb, 2, none⟩) hcellne (.slice (some ⟨w.heap.size + 1, 0, none⟩) n 64)
    have hO6' := HO5.out.setCell (p := ⟨Qb, 2, none⟩) (Or.inr (by show w.heap.size ≤ Qb; omega)) (.slice (some ⟨w.heap.size + 1, 0, none⟩) n 64)
    have hpb : (Lib.byteCells (preC codec code k)).length = m := by rw [Lib.byteCells_length]; exact HD.out.2.2.2.1
    by_cases hk0 : k = 0
    · subst hk0
      have hnm0 : n = m := by have := HX.out.2.2; omega
      subst hnm0
      have hd0 : d = [] := List.eq_nil_of_length_eq_zero HD.out.2.2.2.2.1.symm
      have HT7 : Hid (RAt R b cap l (i0 + n) (w5.setCell ⟨Qb, 2, none⟩ (.slice (some ⟨w.heap.size + 1, 0, none⟩) n 64)) ∧ Blk (w5.setCell ⟨Qb, 2, none⟩ (.slice (some ⟨w.heap.size + 1, 0, none⟩) n 64)) Qb 182 #[.iface 55 (.pointer (some ⟨R, 0, none⟩)), .nilIface, .slice (some ⟨w.heap.size + 1, 0, none⟩) n 64] ∧ Seg (w5.setCell ⟨Qb, 2, none⟩ (.slice (some ⟨w.heap.size + 1, 0, none⟩) n 64)) (w.heap.size + 1) 0 C ∧ n ≤ 64 ∧ Blk (w5.setCell ⟨Qb, 2, none⟩ (.slice (some ⟨w.heap.size + 1, 0, none⟩) n 64)) w.heap.size 133 #[.string ⟨#[]⟩] ∧ Off [R] w (w5.setCell ⟨Qb, 2, none⟩ (.slice (some ⟨w.heap.size + 1, 0, none⟩) n 64))) :=
        Lib.hid ⟨hR6, hQ6, by rw [HD.out.2.2.1, hd0, List.append_nil]; exact Seg.of_bytes hG6, hn64, hC6, hO6'⟩
      clear hO6 hR6 hQ6 hG6 hC6 hO6' hpb
      go_wp2_with fail
      refine (readFull_zero _ _ _ _).mono ?_
      rintro e w7 ⟨rfl, rfl⟩
      obtain ⟨w7, hw7⟩ : ∃ w7, w7 = w5.setCell ⟨Qb, 2, none⟩ (.slice (some ⟨w.heap.size + 1, 0, none⟩) n 64) := ⟨_, rfl⟩
      obtain ⟨g7, hg7e⟩ : ∃ g7, g7 = w.heap.size + 1 := ⟨_, rfl⟩
      obtain ⟨cp7, hcp7⟩ : ∃ cp7, cp7 = 64 := ⟨_, rfl⟩
      rw [← hw7, ← hg7e] at HT7
      rw [← hw7]
      rw [← hcp7] at HT7
      clear hw7 s5 sf5 hg7e hcp7
      obtain ⟨hR7, hQ7, hS7, hn7, hC7, hO7⟩ := HT7.out
      have x2 : w7.cell? ⟨Qb, 2, none⟩ = some (.slice (some ⟨g7, 0, none⟩) n cp7) := hQ7.cell 2
      have hg7 : g7 < w7.heap.size := hS7.lt (by have := HD.out.2.2.2.2.2.1; omega)
      have hseq : Seg w7 g7 0 (Lib.uvarint 1 ++ (Lib.uvarint codec ++ mhB code d)) := by rw [← cid1_eq, ← HD.out.2.2.2.2.2.2]; exact hS7
      have hmh : Seg w7 g7 (1 + u) (mhB code d) := by
        have h1 := hseq.right.right
        rw [HNS.out.1, ← HNS.out.2.1, Nat.zero_add] at h1
        exact h1
      have hml : n - (1 + u) = (mhB code d).length := by
        have h1 := HD.out.2.2.2.2.2.1
        rw [HD.out.2.2.2.2.2.2, cid1_length, ← HNS.out.2.1] at h1
        omega
      have HM := Lib.hid (mhFromBytes_ok code g7 (1 + u) (n - (1 + u)) (cp7 - (1 + u)) d w7 HX.out.1 (by have := HD.out.2.2.2.2.1; omega) hml (by omega) hmh)
      have hne7 : ¬ cp7 = 1 + u := by have := HX.out.2.2; omega
      have hle7 : 1 + u ≤ n := by have := HX.out.2.2; omega
      clear hR7 hQ7 hS7 hC7 hO7 hseq hmh hml
      go_wp2_with fail
      refine HM.out.mono ?_
      rintro e w8 ⟨rfl, hD8⟩
      obtain ⟨hR7, hQ7, hS7, hn7', hC7, hO7⟩ := HT7.out
      have x8 : w8.cell? ⟨Qb, 2, none⟩ = some (.slice (some ⟨g7, 0, none⟩) n cp7) := (hD8.blk hQ7).cell 2
      have hC8 := hD8.blk hC7
      have y8 := hC8.cell 0
      have yf8 := hC8.frozen 0
      simp at y8
      have hcv := run_convert_seg (P := Tryz.prog) (W := w8.drew) (src := 47) (e := 5) (dst := 9) Tryz.underlying47 Tryz.underlying5 Tryz.underlying9 cp7 (hD8.seg hS7).drew
      rw [← HD.out.2.2.2.2.2.1] at hcv
      have HC8 := Lib.hid hC8
      have HR8 := Lib.hid (hR7.off (Off.ofDrew (S := []) hD8) (by simp) (by simp))
      have HO8 := Lib.hid (hO7.then (Off.ofDrew (S := []) hD8) (fun x hx => by simp at hx))
      clear hD8 hR7 hQ7 hS7 hC7 hO7 hC8
      go_wp2_with fail
      go_region
      go_wp2_with fail
      refine bodyPost_ret (results_trt rfl _ (HC8.out.fill1) rfl Tryz.underlying133 rfl (by kernel_rfl)) rfl ⟨rfl, ?_, ?_⟩
      · exact (HR8.out.off (((Off.refl [w.heap.size] w8).setCell (p := ⟨w.heap.size, 0, none⟩) (Or.inl (by simp)) _).drew) (ni1 (by omega)) (ni1 (by omega)))
      · exact (HO8.out.setCell (p := ⟨w.heap.size, 0, none⟩) (Or.inr (Nat.le_refl _)) _).drew
    · have hkp : 0 < k := by omega
      have HF := Lib.hid (readFull_off hR6 (w.heap.size + 1) m k (64 - m) (Lib.byteCells (preC codec code k) ++ zeroBytes (64 - m)) 5 hG6 n2 HB5.out.n4 hkp (by have := HLEN.out; omega) (by rw [List.length_append, hpb, zeroBytes_length]; omega) (by omega) (by omega))
      rw [HD.out.2.1] at HF
      have HQ6 := Lib.hid hQ6
      have HC6 := Lib.hid hC6
      have HO6' := Lib.hid hO6'
      clear hO6 hR6 hQ6 hG6 hC6 hO6'
      go_wp2_with fail
      refine HF.out.mono ?_
      rintro e w7 ⟨rfl, h1, h2, h3⟩
      obtain ⟨g7, hg7e⟩ : ∃ g7, g7 = w.heap.size + 1 := ⟨_, rfl⟩
      obtain ⟨cp7, hcp7⟩ : ∃ cp7, cp7 = 64 := ⟨_, rfl⟩
      have hsp : splice (Lib.byteCells (preC codec code k) ++ zeroBytes (64 - m)) m (Lib.byteCells d) = Lib.byteCells C ++ zeroBytes (64 - n) := by
        have hdk : (Lib.byteCells d).length = k := by rw [Lib.byteCells_length]; exact HD.out.2.2.2.2.1.symm
        rw [splice, hdk, List.take_left' hpb, List.drop_append, hpb, HD.out.2.2.1]
        have e1 : m + k - m = k := by omega
        rw [List.drop_of_length_le (by omega), e1, List.nil_append]
        have e2 : zeroBytes (64 - m) = zeroBytes k ++ zeroBytes (64 - n) := by rw [← zeroBytes_append]; congr 1; omega
        rw [e2, List.drop_left' (zeroBytes_length k)]
        simp [Lib.byteCells, List.append_assoc]
      rw [hsp] at h2
      have HT7 : Hid (RAt R b cap l (i0 + n) w7 ∧ Blk w7 Qb 182 #[.iface 55 (.pointer (some ⟨R, 0, none⟩)), .nilIface, .slice (some ⟨g7, 0, none⟩) n cp7] ∧ Seg w7 g7 0 C ∧ n ≤ cp7 ∧ Blk w7 w.heap.size 133 #[.string ⟨#[]⟩] ∧ Off [R] w w7) := by
        refine Lib.hid ⟨?_, ?_, ?_, by omega, ?_, ?_⟩
        · rw [HX.out.2.2, ← Nat.add_assoc]; exact h1
        · rw [hg7e, hcp7]; exact h3.blk HQ6.out (ni2 (fun e => n1 e.symm) n5)
        · rw [hg7e]; exact Seg.of_bytes h2
        · exact h3.blk HC6.out (ni2 (by omega) (by omega))
        · exact HO6'.out.then h3 (fun x hx => by simp at hx; rcases hx with rfl | rfl <;> simp)
      clear h1 h2 h3 s5 sf5 hg7e hsp hpb hcp7
      obtain ⟨hR7, hQ7, hS7, hn7, hC7, hO7⟩ := HT7.out
      have x2 : w7.cell? ⟨Qb, 2, none⟩ = some (.slice (some ⟨g7, 0, none⟩) n cp7) := hQ7.cell 2
      have hg7 : g7 < w7.heap.size := hS7.lt (by have := HD.out.2.2.2.2.2.1; omega)
      have hseq : Seg w7 g7 0 (Lib.uvarint 1 ++ (Lib.uvarint codec ++ mhB code d)) := by rw [← cid1_eq, ← HD.out.2.2.2.2.2.2]; exact hS7
      have hmh : Seg w7 g7 (1 + u) (mhB code d) := by
        have h1 := hseq.right.right
        rw [HNS.out.1, ← HNS.out.2.1, Nat.zero_add] at h1
        exact h1
      have hml : n - (1 + u) = (mhB code d).length := by
        have h1 := HD.out.2.2.2.2.2.1
        rw [HD.out.2.2.2.2.2.2, cid1_length, ← HNS.out.2.1] at h1
        omega
      have HM := Lib.hid (mhFromBytes_ok code g7 (1 + u) (n - (1 + u)) (cp7 - (1 + u)) d w7 HX.out.1 (by have := HD.out.2.2.2.2.1; omega) hml (by omega) hmh)
      have hne7 : ¬ cp7 = 1 + u := by have := HX.out.2.2; omega
      have hle7 : 1 + u ≤ n := by have := HX.out.2.2; omega
      clear hR7 hQ7 hS7 hC7 hO7 hseq hmh hml
      go_wp2_with fail
      refine HM.out.mono ?_
      rintro e w8 ⟨rfl, hD8⟩
      obtain ⟨hR7, hQ7, hS7, hn7', hC7, hO7⟩ := HT7.out
      have x8 : w8.cell? ⟨Qb, 2, none⟩ = some (.slice (some ⟨g7, 0, none⟩) n cp7) := (hD8.blk hQ7).cell 2
      have hC8 := hD8.blk hC7
      have y8 := hC8.cell 0
      have yf8 := hC8.frozen 0
      simp at y8
      have hcv := run_convert_seg (P := Tryz.prog) (W := w8.drew) (src := 47) (e := 5) (dst := 9) Tryz.underlying47 Tryz.underlying5 Tryz.underlying9 cp7 (hD8.seg hS7).drew
      rw [← HD.out.2.2.2.2.2.1] at hcv
      have HC8 := Lib.hid hC8
      have HR8 := Lib.hid (hR7.off (Off.ofDrew (S := []) hD8) (by simp) (by simp))
      have HO8 := Lib.hid (hO7.then (Off.ofDrew (S := []) hD8) (fun x hx => by simp at hx))
      clear hD8 hR7 hQ7 hS7 hC7 hO7 hC8
      go_wp2_with fail
      go_region
      go_wp2_with fail
      refine bodyPost_ret (results_trt rfl _ (HC8.out.fill1) rfl Tryz.underlying133 rfl (by kernel_rfl)) rfl ⟨rfl, ?_, ?_⟩
      · exact (HR8.out.off (((Off.refl [w.heap.size] w8).setCell (p := ⟨w.heap.size, 0, none⟩) (Or.inl (by simp)) _).drew) (ni1 (by omega)) (ni1 (by omega)))
      · exact (HO8.out.setCell (p := ⟨w.heap.size, 0, none⟩) (Or.inr (Nat.le_refl _)) _).drew
end Go.Proofs.YthmhnknkidkdlaaGreatDoor
