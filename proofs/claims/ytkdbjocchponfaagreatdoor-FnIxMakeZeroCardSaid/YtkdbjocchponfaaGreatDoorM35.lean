/-
  Over a bytes.Reader: a number, some bytes behind others in a row, a step ahead; util.LdRead.
  SlickReaderStream.Readn at 1 to 4096 bytes: a row of their own.
  The CBOR decoder at a link: a tag, and bytes behind it.
  (No condition beyond those that each theorem states.)
-/
import Derived.Test.YtkdbjocchponfaaGreatDoorM27
import Derived.Test.YtkdbjocchponfaaGreatDoorM34
import Derived.Test.YtkdbjocchponfaaGreatDoorM03
import Derived.Test.YtkdbjocchponfaaGreatDoorM04
namespace Go.Proofs.YtkdbjocchponfaaGreatDoor
open Go.RowKit

theorem run_make0 {P : Program} {t e : TypeId} {i : TypeInfo} (ht : P.underlying t = some (.slice e)) (hi : P.info? e = some i) (hz : i.zero = some (.int .u8 0)) (hs : i.size = 1) (hb : i.bytes = 1)
    (n : Nat) (hn : n ≤ 281474976710656) (w : World) :
    (Instr.makeSlice t (.int .i64 0) (.int .i64 (n : Int))).run P w = .ok (.slice (some ⟨w.heap.size, 0, none⟩) 0 n) (w.alloc (.cells (zeroBytes n).toArray e)) := by
  have hr := run_make (P := P) w t e i (.int .u8 0) ht hi hz .i64 .i64 0 (n : Int) (by omega) (by omega) (by rw [hb]; omega) (by omega)
  simp only [Int.toNat_natCast, hs, Nat.mul_one, madeCells_bytes] at hr
  exact hr

theorem RAt.byte2 {R b cap i : Nat} {l : List UInt8} {w : World} (h : RAt R b cap l i w) (c : Nat) (hc : (l[i]?).map (·.toNat) = some c) :
    Calls Tryz.prog 202 #[.pointer (some ⟨R, 0, none⟩)] w fun e w' => e = .returned (.tuple #[.int .u8 (c : Int), .nilIface]) ∧ RAt R b cap l (i + 1) w' ∧ Off [R] w w' := by
  obtain ⟨p, hp⟩ := h.rd
  have hi : i < l.length := by
    rcases Nat.lt_or_ge i l.length with h1 | h1
    · exact h1
    · rw [List.getElem?_eq_none h1] at hc; simp at hc
  refine (brReadByte R b l.length cap i p l w rfl hp h.seg h.ne hi h.len (c : Int) ?_).mono ?_
  · rw [List.getElem?_eq_getElem hi] at hc
    simp at hc
    rw [hc]
  rintro e w' ⟨he, h1, h2⟩
  exact ⟨he, { h with rd := ⟨_, h1⟩, seg := h.seg.off h2 (ni1 (fun e => h.ne e.symm)) }, h2⟩

theorem enter_readByte (args : Array Value) (w : World) : (callFunc 202 args).run Tryz.prog w = .ok (.enter 202 args) w := by kernel_rfl

theorem drop_at {l p t : List UInt8} {i : Nat} (h : l.drop i = p ++ t) (j : Nat) (hj : j < p.length) : l[i + j]? = p[j]? := by
  rw [← List.getElem?_drop, h, List.getElem?_append_left hj]
theorem drop_more {l p t : List UInt8} {i : Nat} (h : l.drop i = p ++ t) : l.drop (i + p.length) = t := by
  rw [← List.drop_drop, h, List.drop_left]
theorem drop_lt {l p t : List UInt8} {i : Nat} (h : l.drop i = p ++ t) : i + p.length + t.length = l.length ∨ (p = [] ∧ t = [] ∧ l.length ≤ i) := by
  have h1 := congrArg List.length h
  rw [List.length_drop, List.length_append] at h1
  rcases Nat.lt_or_ge i l.length with h2 | h2
  · left; omega
  · right
    have h3 : p.length + t.length = 0 := by omega
    exact ⟨List.eq_nil_of_length_eq_zero (by omega), List.eq_nil_of_length_eq_zero (by omega), h2⟩

theorem readUvarint_at {R b cap i : Nat} {l t : List UInt8} {w : World} (h : RAt R b cap l i w) (x : Nat) (hx : x < 9223372036854775808) (hl : l.drop i = Lib.uvarint x ++ t) :
    Calls Tryz.prog 56 #[.iface 58 (.pointer (some ⟨R, 0, none⟩))] w fun e w' => e = .returned (.tuple #[.int .u64 (x : Int), .nilIface]) ∧ RAt R b cap l (i + (Lib.uvarint x).length) w' ∧ Off [R] w w' := by
  refine (readUvarint_gen 58 202 ⟨R, 0, none⟩ x hx (fun j W => RAt R b cap l (i + j) W ∧ Off [R] w W) enter_readByte (fun W => method_readByte _ W) (fun j c W hW hc => ?_) w ⟨h, Off.refl _ _⟩).mono fun e w' h => h
  have hj : j < (Lib.uvarint x).length := by
    rcases Nat.lt_or_ge j (Lib.uvarint x).length with h1 | h1
    · exact h1
    · rw [List.getElem?_eq_none h1] at hc; simp at hc
  refine (hW.1.byte2 c (by rw [drop_at hl j hj]; exact hc)).mono ?_
  rintro e w' ⟨he, h1, h2⟩
  exact ⟨he, h1, hW.2.then h2 (fun x hx => Or.inl hx)⟩

theorem readFull_off {R b cap i : Nat} {l : List UInt8} {w : World} (h : RAt R b cap l i w) (g o m dc : Nat) (cur : List Value) (t : TypeId) (hg : Blk w g t cur.toArray) (hRg : R ≠ g) (hbg : b ≠ g) (hm0 : 0 < m) (hm : m ≤ l.length - i) (hfit : o + m ≤ cur.length) (hdc : m ≤ dc) (hdc2 : m ≤ 2147483700) :
    Calls Tryz.prog 79 #[.iface 58 (.pointer (some ⟨R, 0, none⟩)), .slice (some ⟨g, o, none⟩) m dc] w fun e w' => e = .returned (.tuple #[.int .i64 m, .nilIface]) ∧ RAt R b cap l (i + m) w' ∧ Blk w' g t (splice cur o (Lib.byteCells ((l.drop i).take m))).toArray ∧ Off [R, g] w w' := by
  obtain ⟨p, hp⟩ := h.rd
  have hlen := h.len
  have HC := Lib.hid (readAtLeast_br R g o m dc w (fun w' => RdC w' R b l.length cap (i + m) (-1) ∧ Blk w' g t (splice cur o (Lib.byteCells ((l.drop i).take m))).toArray ∧ Off [R, g] w w') hm0 hdc hdc2 (fun W hW => by
    refine (brRead R g o m dc b l.length cap i m p l cur t W rfl (hW.blk hp) (hW.seg h.seg) (hW.blk hg) h.ne hRg (by omega) (by show m = min (l.length - i) m; omega) hm0 hfit h.len h.cap_).mono ?_
    rintro e w' ⟨rfl, h1, h2, h3⟩
    exact ⟨rfl, h1, h2, ((Off.ofDrew (S := []) hW).trans h3).mono (fun x h => by simp at h; rcases h with h | h <;> simp [h])⟩))
  have HH := Lib.hid h
  clear hp hg h
  go_enter Tryz.func79, Tryz.ntmps79
  go_wp2_with fail
  refine HC.out.mono ?_
  rintro e w1 ⟨rfl, h1, h2, h3⟩
  have H1 := Lib.hid h1
  have H2 := Lib.hid h2
  have H3 := Lib.hid h3
  clear h1 h2 h3
  go_wp2_with fail
  go_ret2
  exact ⟨rfl, { HH.out with rd := ⟨_, H1.out⟩, seg := HH.out.seg.off H3.out (ni2 (fun e => HH.out.ne e.symm) hbg) }, H2.out, H3.out⟩

set_option maxRecDepth 100000 in
set_option maxHeartbeats 1000000 in
theorem readAtLeast_zero (r : Value) (P : Option Addr) (dc : Nat) (w : World) :
    Calls Tryz.prog 99 #[r, .slice P 0 dc, .int .i64 0] w fun e w' => e = .returned (.tuple #[.int .i64 0, .nilIface]) ∧ w = w' := by
  go_enter Tryz.func99, Tryz.ntmps99
  go_wp2_with fail
  refine wp_loop_rounds 1 ?_
  rw [rounds_succ]
  go_wp2_with fail
  go_ret2
  exact ⟨rfl, rfl⟩
set_option maxRecDepth 100000 in
theorem readFull_zero (r : Value) (P : Option Addr) (dc : Nat) (w : World) :
    Calls Tryz.prog 79 #[r, .slice P 0 dc] w fun e w' => e = .returned (.tuple #[.int .i64 0, .nilIface]) ∧ w = w' := by
  go_enter Tryz.func79, Tryz.ntmps79
  go_wp2_with fail
  refine (readAtLeast_zero r P dc w).mono ?_
  rintro e w1 ⟨rfl, rfl⟩
  go_wp2_with fail
  go_ret2
  exact ⟨rfl, rfl⟩

set_option maxRecDepth 100000 in
set_option maxHeartbeats 1000000 in
theorem seek_on {R b cap i : Nat} {l : List UInt8} {w : World} (h : RAt R b cap l i w) (k : Nat) (hk : i + k ≤ l.length) :
    Calls Tryz.prog 203 #[.pointer (some ⟨R, 0, none⟩), .int .i64 (k : Int), .int .i64 1] w fun e w' => e = .returned (.tuple #[.int .i64 ((i + k : Nat) : Int), .nilIface]) ∧ RAt R b cap l (i + k) w' ∧ Off [R] w w' := by
  obtain ⟨p, hp⟩ := h.rd
  have c0 : w.cell? ⟨R, 0, none⟩ = some (.slice (some ⟨b, 0, none⟩) l.length cap) := Blk.cell hp 0
  have c1 : w.cell? ⟨R, 1, none⟩ = some (.int .i64 (i : Int)) := Blk.cell hp 1
  have c2 : w.cell? ⟨R, 2, none⟩ = some (.int .i64 p) := Blk.cell hp 2
  have f1 := Blk.frozen hp 1
  have f2 := Blk.frozen hp 2
  have hlen := h.len
  obtain ⟨s, hs⟩ : ∃ s, s = i + k := ⟨_, rfl⟩
  rw [← hs]
  have hw : IntKind.i64.wrap ((i : Int) + (k : Int)) = (s : Int) := by rw [IntKind.wrap_i64]; omega
  have hsum : (i : Int) + (k : Int) = (s : Int) := by omega
  have hw2 : IntKind.i64.wrap (s : Int) = (s : Int) := by rw [IntKind.wrap_i64]; omega
  have hneg : ¬ ((s : Int) < 0) := by omega
  have HH := Lib.hid h
  have HP := Lib.hid hp
  clear hp h hs
  go_enter Tryz.func203, Tryz.ntmps203
  go_wp2_with fail
  go_ret2
  have hO : Off [R] w ((w.setCell ⟨R, 2, none⟩ (.int .i64 (-1))).setCell ⟨R, 1, none⟩ (.int .i64 (s : Int))) := ((Off.refl [R] w).setCell (p := ⟨R, 2, none⟩) (Or.inl (by simp)) _).setCell (p := ⟨R, 1, none⟩) (Or.inl (by simp)) _
  refine ⟨rfl, { HH.out with rd := ⟨-1, ?_⟩, seg := HH.out.seg.off hO (ni1 (fun e => HH.out.ne e.symm)) }, hO⟩
  exact (Blk.set_ (Blk.set_ HP.out 2 (.int .i64 (-1))) 1 (.int .i64 (s : Int)))

set_option maxRecDepth 100000 in
set_option maxHeartbeats 1000000 in
theorem ldReadSize_at {R b cap i : Nat} {l t : List UInt8} {w : World} (h : RAt R b cap l i w) (x : Nat) (hx : x < 9223372036854775808) (hx0 : 0 < x) (hl : l.drop i = Lib.uvarint x ++ t) (most : Nat) (hmost : x ≤ most) :
    Calls Tryz.prog 95 #[.iface 58 (.pointer (some ⟨R, 0, none⟩)), .bool false, .int .u64 most] w fun e w' => e = .returned (.tuple #[.int .u64 (x : Int), .nilIface]) ∧ RAt R b cap l (i + (Lib.uvarint x).length) w' ∧ Off [R] w w' := by
  have HC := Lib.hid (readUvarint_at h x hx hl)
  have hb2 : ((x : Int) == 0) = false := beq_eq_false_iff_ne.2 (by omega)
  have hb3 : decide ((most : Int) < (x : Int)) = false := by simp; omega
  clear h hl
  go_enter Tryz.func95, Tryz.ntmps95
  go_wp2_with fail
  refine (toBr _ w).mono ?_
  rintro e w1 ⟨rfl, rfl⟩
  go_wp2_with fail
  refine HC.out.mono ?_
  rintro e w1 ⟨rfl, h1, h2⟩
  have H1 := Lib.hid h1
  have H2 := Lib.hid h2
  clear h1 h2
  go_wp2_with fail
  go_ret2
  exact ⟨rfl, H1.out, H2.out⟩

set_option maxRecDepth 100000 in
set_option maxHeartbeats 1000000 in
theorem ldRead_at {R b cap i : Nat} {l t : List UInt8} {w : World} (h : RAt R b cap l i w) (x : Nat) (hx : x ≤ 2147483600) (hx0 : 0 < x) (hl : l.drop i = Lib.uvarint x ++ t) (hxt : x ≤ t.length) (most : Nat) (hmost : x ≤ most) :
    Calls Tryz.prog 76 #[.iface 58 (.pointer (some ⟨R, 0, none⟩)), .bool false, .int .u64 most] w fun e w' => ∃ g, w.heap.size ≤ g ∧ e = .returned (.tuple #[.slice (some ⟨g, 0, none⟩) x x, .nilIface]) ∧ Blk w' g 5 (Lib.byteCells (t.take x)).toArray ∧ RAt R b cap l (i + (Lib.uvarint x).length + x) w' ∧ Off [R] w w' := by
  obtain ⟨i0, hi0, hz0, hz1, hz2⟩ := info_parts Tryz.infoByte
  have hmk := fun W => run_makeBytes (P := Tryz.prog) Tryz.underlying32 hi0 hz0 hz1 hz2 x (by omega) W .u64
  have HC := Lib.hid (ldReadSize_at h x (by omega) hx0 hl most hmost)
  have hRl := h.lt
  have hp := Lib.uvarint_pos x
  have hdl : i + (Lib.uvarint x).length + t.length = l.length := by
    rcases drop_lt hl with h1 | ⟨h1, _⟩
    · exact h1
    · rw [h1] at hp; simp at hp
  have hbl : b < w.heap.size := h.seg.lt (by omega)
  obtain ⟨j, hj⟩ : ∃ j, j = i + (Lib.uvarint x).length := ⟨_, rfl⟩
  rw [← hj] at HC ⊢
  have hdm : l.drop j = t := by rw [hj]; exact drop_more hl
  have HD := Lib.hid (fun W (hW : RAt R b cap l j W) (hs : w.heap.size ≤ W.heap.size) => readFull_at (hW.off ((Off.refl [] W).alloc (.cells (zeroBytes x).toArray 5)) (by simp) (by simp)) W.heap.size x (zeroBytes x) 5 (Blk.new W _ _) (by omega) (by omega) hx0 (by omega) (zeroBytes_length x))
  rw [hdm] at HD
  clear h hl hdl hdm hj
  go_enter Tryz.func76, Tryz.ntmps76
  go_wp2_with fail
  refine HC.out.mono ?_
  rintro e w1 ⟨rfl, h1, h2⟩
  have hsz := h2.size
  have HD1 := Lib.hid (HD.out w1 h1 hsz)
  have H2 := Lib.hid h2
  clear h1 h2
  go_wp2_with fail
  refine HD1.out.mono ?_
  rintro e w2 ⟨rfl, h1, h2, h3⟩
  have K1 := Lib.hid h1
  have K2 := Lib.hid h2
  have K3 := Lib.hid h3
  clear h1 h2 h3
  go_wp2_with fail
  go_ret2
  exact ⟨w1.heap.size, hsz, rfl, K2.out, K1.out, (H2.out.alloc (.cells (zeroBytes x).toArray 5)).then K3.out (fun x h => by simp at h; rcases h with h | h <;> simp [h]; exact Or.inr hsz)⟩
end Go.Proofs.YtkdbjocchponfaaGreatDoor
namespace Go.Proofs.YtkdbjocchponfaaGreatDoor
open Go.RowKit

section
variable {S T R b n cap i k : Nat} {l : List UInt8} {m : Int} {w : World}

/-- What Readn leaves: k bytes in a row of their own. -/
def Got (w : World) (S T R b n cap i k : Nat) (l : List UInt8) (m : Int) (g c : Nat) (w' : World) : Prop :=
  w.heap.size ≤ g ∧ g < w'.heap.size ∧ k ≤ c ∧ Seg w' g 0 ((l.drop i).take k) ∧ Chain w' S T R b n cap (i + k) l (m + k) ∧ Off [S, T, R] w w'

set_option maxRecDepth 100000 in
set_option maxHeartbeats 1000000 in
theorem readn_small (h : Chain w S T R b n cap i l m) (hk0 : 0 < k) (hk : k < 32) (hik : i + k ≤ n) (hm : 0 ≤ m) (hm2 : m < 4611686018427387904) :
    Calls Tryz.prog 313 #[.pointer (some ⟨S, 0, none⟩), .int .i64 k] w fun e w' => ∃ g c, e = .returned (.tuple #[.slice (some ⟨g, 0, none⟩) k c, .nilIface]) ∧ Got w S T R b n cap i k l m g c w' := by
  obtain ⟨i0, hi, hz0, hz1, hz2⟩ := info_parts Tryz.infoByte
  have hb1 : decide ((k : Int) < 32) = true := by simp; omega
  have hb2 : (k : Int) < 32 := by omega
  have hkl : ((l.drop i).take k).length = k := by have := h.len; simp; omega
  have HKL := Lib.hid hkl
  have HN := Lib.hid (show S < w.heap.size ∧ T < w.heap.size ∧ R < w.heap.size ∧ b < w.heap.size from by
    obtain ⟨sc, _, hs⟩ := h.ss
    obtain ⟨x, y, z, _, ht⟩ := h.ts
    obtain ⟨p, hp⟩ := h.rd
    exact ⟨Blk.lt hs, Blk.lt ht, Blk.lt hp, h.seg.lt (by have := h.len; omega)⟩)
  have HC := Lib.hid (readnPartial_ok S T R b n cap i k l m w h hk0 hk hik hm hm2)
  have HE := Lib.hid (show 0 < w.heap.size from by obtain ⟨q, hq⟩ := h.eof; exact World.block_lt_of_cell? _ _ hq)
  clear h hkl
  go_enter Tryz.func313, Tryz.ntmps313
  go_wp2_with fail
  refine HC.out.mono ?_
  rintro e w1 ⟨rfl, hseg1, hC1, hO1⟩
  have HG1 := Lib.hid hseg1
  have HC1 := Lib.hid hC1
  have HO1 := Lib.hid hO1
  clear hseg1 hC1 hO1
  go_wp2_with (first
    | (at_builtin
       refine wpList_append_own_at _ rfl _ _ 32 rfl w1.heap.size 5 i0 _ 1 1 Tryz.underlying32 hi hz0 hz1 hz2 rfl (by decide) (.slice none 0 0) 0 [] rfl (World.ownsRow_nil _ _ _ _) ⟨S, 1, none⟩ k 32 (Lib.byteCells ((l.drop i).take k)) rfl (by rw [Lib.byteCells_length, HKL.out, Nat.mul_one]) HG1.out.cells (byteCells_one _) (by unfold maxLen; omega) (by omega) (Nat.le_refl _) ?_
       intro v5 w5 hown5 hgr hnil hat
       have HO5 := Lib.hid hown5
       have HG5 := Lib.hid hgr
       have HA5 := Lib.hid hat
       clear hown5 hgr hnil hat))
  go_ret2
  obtain ⟨g, cp, cur, rfl, hg, hgg, hcp, hmx, hsz, htk⟩ : ∃ g cap cur, v5 = .slice (some ⟨g, 0, none⟩) (0 + k) cap ∧ w1.heap.size ≤ g ∧ w5.heap[g]? = some (.cells cur 5 (0, 0)) ∧ 0 + k ≤ cap ∧ cap ≤ maxLen ∧ cur.size = cap * 1 ∧ cur.toList.take ((0 + k) * 1) = [] ++ Lib.byteCells ((l.drop i).take k) := by
    rcases HO5.out.2 with ⟨_, h0⟩ | h0
    · omega
    · exact h0
  have hz1 := HO1.out.size
  have hOf : Off [] w1 w5 := off_grown_own (S := []) HG5.out (fun x hx => by simp [Value.ownBlock] at hx)
  have hgl : g < w5.heap.size := (Array.getElem?_eq_some_iff.1 hgg).1
  obtain ⟨n1, n2, n3, n4⟩ := HN.out
  refine ⟨g, cp, by first | rfl | simp, by omega, hgl, by omega, ?_, HC1.out.off hOf ⟨by simp, by simp, by simp, by simp, by simp⟩, HO1.out.then hOf (fun x hx => by simp at hx)⟩
  have htk2 : cur.toList.take k = Lib.byteCells ((l.drop i).take k) := by
    rw [Nat.zero_add, Nat.mul_one] at htk
    simpa using htk
  have hcur : cur = (Lib.byteCells ((l.drop i).take k) ++ cur.toList.drop k).toArray := by
    rw [← htk2, List.take_append_drop]
  refine Blk.seg (post := cur.toList.drop k) (t := 5) ?_
  rw [← hcur]
  exact hgg

theorem Chain.count (h : Chain w S T R b n cap i l m) (m' : Int) : Chain (w.setCell ⟨S, 33, none⟩ (.int .i64 m')) S T R b n cap i l m' := by
  obtain ⟨sc, hl, hs⟩ := h.ss
  obtain ⟨x, y, z, hy, ht⟩ := h.ts
  obtain ⟨p, hp⟩ := h.rd
  have hO : Off [S] w (w.setCell ⟨S, 33, none⟩ (.int .i64 m')) := (Off.refl [S] w).setCell (p := ⟨S, 33, none⟩) (Or.inl (by simp)) _
  have hes := h.es
  exact { h with ss := ⟨sc, hl, hs.count hl m'⟩, ts := ⟨x, y, z, hy, ht.far (p := ⟨S, 33, none⟩) h.ts' _⟩, rd := ⟨p, Blk.far hp (p := ⟨S, 33, none⟩) h.rs _⟩, seg := hO.seg h.seg (ni1 h.sb.symm), eof := h.eof.off hO (ni1 (by omega)) }

theorem readN_g (g : Nat) (W : World) (hW : Drew w W) (h : Chain w S T R b n cap i l m) (hg : Blk w g 5 (zeroBytes k).toArray) (h1 : g ≠ S) (h2 : g ≠ T) (h3 : g ≠ R) (h4 : g ≠ b) (h5 : 0 ≠ g) (hk0 : 0 < k) (hik : i + k ≤ n) :
    Calls Tryz.prog 320 #[.pointer (some ⟨T, 0, none⟩), .slice (some ⟨g, 0, none⟩) k k] W fun e w' => e = .returned (.tuple #[.int .i64 k, .nilIface]) ∧ Chain w' S T R b n cap (i + k) l m ∧ Blk w' g 5 (Lib.byteCells ((l.drop i).take k)).toArray ∧ Off [T, R, g] w w' := by
  have hh := h.drew hW
  obtain ⟨sc, hl, hs⟩ := hh.ss
  obtain ⟨x, y, z, hy, ht⟩ := hh.ts
  obtain ⟨p, hp⟩ := hh.rd
  have her := h.er
  have het := h.et
  have hes := h.es
  refine (tRead T R g 0 k k b n cap i k p x y z l (zeroBytes k) _ W hh.len ht hy hp hh.seg (hW.blk hg) hh.rb hh.rt h3.symm h2.symm (by omega) (by show k = min (n - i) k; omega) hk0 (by rw [zeroBytes_length]; omega) hh.big hh.cap hh.eof (by omega) (by omega) h5).mono ?_
  rintro e w' ⟨rfl, ⟨x', hT⟩, hR, hG, hO⟩
  have hbl : (Lib.byteCells ((l.drop i).take k)).length = k := by rw [Lib.byteCells_length]; have := hh.len; simp; omega
  have es : splice (zeroBytes k) 0 (Lib.byteCells ((l.drop i).take k)) = Lib.byteCells ((l.drop i).take k) := by
    have hcl := zeroBytes_length k
    simp only [splice]
    rw [hbl]
    simp [hcl]
  rw [es] at hG
  exact ⟨rfl, { hh with ss := ⟨sc, hl, hO.blk hs (ni3 hh.ts'.symm hh.rs.symm h1.symm)⟩, ts := ⟨x', 2, z, by decide, hT⟩, rd := ⟨-1, hR⟩, seg := hO.seg hh.seg (ni3 hh.tb.symm hh.rb.symm h4.symm), eof := hh.eof.off hO (ni3 (by omega) (by omega) h5) }, hG, (Off.ofDrew (S := []) hW).trans hO |>.mono (fun x h => by simp at h; rcases h with h | h | h <;> simp [h])⟩

set_option maxRecDepth 100000 in
set_option maxHeartbeats 2000000 in
theorem readnPartial_big (h : Chain w S T R b n cap i l m) (hk0 : 32 ≤ k) (hk : k ≤ 4096) (hik : i + k ≤ n) (hm : 0 ≤ m) (hm2 : m < 4611686018427387904) :
    Calls Tryz.prog 319 #[.pointer (some ⟨S, 0, none⟩), .int .i64 k] w fun e w' => ∃ g c, e = .returned (.tuple #[.slice (some ⟨g, 0, none⟩) k c, .nilIface]) ∧ Got w S T R b n cap i k l m g c w' := by
  obtain ⟨i0, hi, hz0, hz1, hz2⟩ := info_parts Tryz.infoByte
  have hmk := fun W => run_make0 (P := Tryz.prog) Tryz.underlying32 hi hz0 hz1 hz2 k (by omega) W
  have hn : S < w.heap.size ∧ T < w.heap.size ∧ R < w.heap.size ∧ b < w.heap.size ∧ 0 < w.heap.size := by
    obtain ⟨sc, _, hs⟩ := h.ss
    obtain ⟨x, y, z, _, ht⟩ := h.ts
    obtain ⟨p, hp⟩ := h.rd
    obtain ⟨q, hq⟩ := h.eof
    exact ⟨Blk.lt hs, Blk.lt ht, Blk.lt hp, h.seg.lt (by have := h.len; omega), World.block_lt_of_cell? _ _ hq⟩
  obtain ⟨n1, n2, n3, n4, n5⟩ := hn
  have hA : Off [] w (w.alloc (.cells (zeroBytes k).toArray 5)) := (Off.refl [] w).alloc _
  have hCA := h.off hA ⟨by simp, by simp, by simp, by simp, by simp⟩
  have HR := Lib.hid (fun W (hW : Drew (w.alloc (.cells (zeroBytes k).toArray 5)) W) => readAtLeast_ts T w.heap.size 0 k k W (fun w' => Chain w' S T R b n cap (i + k) l m ∧ Blk w' w.heap.size 5 (Lib.byteCells ((l.drop i).take k)).toArray ∧ Off [T, R, w.heap.size] (w.alloc (.cells (zeroBytes k).toArray 5)) w') (by omega) (Nat.le_refl _) (by omega) (fun W' hW' => readN_g w.heap.size W' (hW.trans hW') hCA (Blk.new w _ _) (by omega) (by omega) (by omega) (by omega) (by omega) (by omega) hik))
  obtain ⟨sc, hl, hs⟩ := hCA.ss
  obtain ⟨c0, -, -, -⟩ := hs.cells hl
  have HA := Lib.hid hA
  have hw1 : IntKind.i64.wrap (m + k) = m + k := by rw [IntKind.wrap_i64]; omega
  have hb0 : ((k : Int) == 0) = false := beq_eq_false_iff_ne.2 (by omega)
  have hb1 : ¬ ((k : Int) < 32) := by omega
  have hb2 : ¬ ((4096 : Int) < (k : Int)) := by omega
  have hb3 : (0 : Int) < (k : Int) := by omega
  have hlen := h.len
  clear h hs hA hCA
  go_enter Tryz.func319, Tryz.ntmps319
  go_wp2_with fail
  refine wp_loop_rounds 2 ?_
  rw [rounds_succ]
  go_wp2_with fail
  go_region_with (go_at_call 99; refine (HR.out _ (by repeat' (first | exact Drew.refl _ | refine Drew.step ?_))).mono ?_; rintro e w1 ⟨rfl, hC1, hB1, hO1⟩; obtain ⟨sc1, hl1, hs1⟩ := hC1.ss; obtain ⟨c0', c33, c34, c35⟩ := hs1.cells hl1; have f33 := Blk.frozen hs1 33; have HC1 := Lib.hid hC1; have HB1 := Lib.hid hB1; have HO1 := Lib.hid hO1; clear hC1 hB1 hO1 hs1)
  all_goals (go_wp2_with fail)
  all_goals (rw [rounds_succ])
  all_goals (go_wp2_with fail)
  all_goals go_ret2
  all_goals refine ⟨w.heap.size, k, rfl, Nat.le_refl _, ?_, Nat.le_refl _, ?_, HC1.out.count _, ?_⟩
  all_goals first
  | (have := HB1.out.lt; simp [World.setCell]; omega)
  | (exact ((Blk.seg' HB1.out)).setCell (p := ⟨S, 33, none⟩) (by simp; omega) _)
  | (exact ((HA.out.mono (S' := [S, T, R]) (fun x hx => by simp at hx)).then HO1.out (fun x hx => by simp at hx; rcases hx with rfl | rfl | rfl <;> simp)).setCell (p := ⟨S, 33, none⟩) (Or.inl (by simp)) _)

set_option maxRecDepth 100000 in
set_option maxHeartbeats 1000000 in
theorem readn_big (h : Chain w S T R b n cap i l m) (hk0 : 32 ≤ k) (hk : k ≤ 4096) (hik : i + k ≤ n) (hm : 0 ≤ m) (hm2 : m < 4611686018427387904) :
    Calls Tryz.prog 313 #[.pointer (some ⟨S, 0, none⟩), .int .i64 k] w fun e w' => ∃ g c, e = .returned (.tuple #[.slice (some ⟨g, 0, none⟩) k c, .nilIface]) ∧ Got w S T R b n cap i k l m g c w' := by
  have hb2 : ¬ ((k : Int) < 32) := by omega
  have HC := Lib.hid (readnPartial_big h hk0 hk hik hm hm2)
  clear h
  go_enter Tryz.func313, Tryz.ntmps313
  go_wp2_with fail
  refine HC.out.mono ?_
  rintro e w1 ⟨g, c, rfl, hG⟩
  have HG := Lib.hid hG
  clear hG
  go_wp2_with fail
  go_ret2
  exact ⟨g, c, rfl, HG.out⟩

theorem readn_any (h : Chain w S T R b n cap i l m) (hk0 : 0 < k) (hk : k ≤ 4096) (hik : i + k ≤ n) (hm : 0 ≤ m) (hm2 : m < 4611686018427387904) :
    Calls Tryz.prog 313 #[.pointer (some ⟨S, 0, none⟩), .int .i64 k] w fun e w' => ∃ g c, e = .returned (.tuple #[.slice (some ⟨g, 0, none⟩) k c, .nilIface]) ∧ Got w S T R b n cap i k l m g c w' := by
  rcases Nat.lt_or_ge k 32 with h1 | h1
  · exact readn_small h hk0 h1 hik hm hm2
  · exact readn_big h h1 hk hik hm hm2
end
end Go.Proofs.YtkdbjocchponfaaGreatDoor
namespace Go.Proofs.YtkdbjocchponfaaGreatDoor
open Go.RowKit

theorem method_readn (a : Addr) (w : World) : (method 513 268 (.pointer (some a)) "Readn").run Tryz.prog w = .ok (313, .pointer (some a)) w := by kernel_rfl

section
variable {A : DA} {Ks : List Nat} {w0 w w' : World} {ph : Int} {sn : Nat} {sa sb : Int} {ln : Nat} {la lb : Int} {i : Nat} {K : Nat}

/-- Some bytes in a row of their own, made since w. -/
def Row0 (w : World) (g c : Nat) (l : List UInt8) (w' : World) : Prop := w.heap.size ≤ g ∧ g < w'.heap.size ∧ l.length ≤ c ∧ Seg w' g 0 l

set_option maxRecDepth 100000 in
set_option maxHeartbeats 1000000 in
theorem d_bytes (h : DSt A Ks w0 ph sn sa sb ln la lb i w) (c v j : Nat) (hh : HdAt A.l i c v j) (hv0 : 0 < v) (hjv : j + v ≤ A.n) :
    Calls Tryz.prog 162 #[.pointer (some ⟨A.D, 0, none⟩), .int .u8 (c : Int)] w fun e w' => ∃ g cp, e = .returned (.tuple #[.slice (some ⟨g, 0, none⟩) v cp, .nilIface]) ∧ Row0 w g cp ((A.l.drop j).take v) w' ∧ DSt A Ks w0 ph sn sa sb ln la lb (j + v) w' ∧ Off [A.S, A.T, A.R] w w' := by
  have hv := hh.lt
  have hb1 : ¬ ((33554432 : Int) < (v : Int)) := by omega
  have hm1 := method_readn
  have hbig := h.chain.big
  have hlen := h.chain.len
  have hvl : ((A.l.drop j).take v).length = v := by simp; omega
  have HVL := Lib.hid hvl
  have HC := Lib.hid (d_len h c v j hh)
  have HR := Lib.hid (fun W (hW : DSt A Ks w0 ph sn sa sb ln la lb j W) => readn_any (k := v) hW.chain hv0 (by omega) hjv (by omega) (by omega))
  clear h hh hvl
  go_enter Tryz.func162, Tryz.ntmps162
  go_wp2_with fail
  refine HC.out.mono ?_
  rintro e w1 ⟨rfl, h3, h4⟩
  have d7 := h3.c7
  have H3 := Lib.hid h3
  have H4 := Lib.hid h4
  have HR1 := Lib.hid (HR.out w1 h3)
  clear h3 h4
  go_wp2_with fail
  refine HR1.out.mono ?_
  rintro e w2 ⟨g, cp, rfl, g1, g2, g3, g4, g5, g6⟩
  have G4 := Lib.hid g4
  have G5 := Lib.hid g5
  have G6 := Lib.hid g6
  clear g4 g5 g6
  go_wp2_with fail
  go_ret2
  have hz := H4.out.size
  refine ⟨g, cp, rfl, ⟨by omega, g2, by rw [HVL.out]; exact g3, G4.out⟩, H3.out.read (by rw [show ((j + v : Nat) : Int) = (j : Int) + v by omega]; exact G5.out) G6.out, H4.out.then G6.out (fun x hx => Or.inl hx)⟩

/-- A link's token before its bytes. -/
def tagTok : Array Value := tokCells 0 0 noBytes (.slice none 0 0) false 0 0 0 true 42

set_option maxRecDepth 100000 in
set_option maxHeartbeats 1000000 in
theorem d_byt (h : DSt A Ks w0 ph sn sa sb ln la lb i w) (hK : Blk w K 215 tagTok) (hf : A.Far K) (hk : K ∈ Ks ∨ w0.heap.size ≤ K) (c v j : Nat) (hh : HdAt A.l i c v j) (hv0 : 0 < v) (hjv : j + v ≤ A.n) (hc1 : 64 ≤ c) (hc2 : c < 95) :
    Calls Tryz.prog 142 #[.pointer (some ⟨A.D, 0, none⟩), .int .u8 (c : Int), .pointer (some ⟨K, 0, none⟩)] w fun e w' => ∃ g cp, e = .returned (.tuple #[.bool true, .nilIface]) ∧ Row0 w g cp ((A.l.drop j).take v) w' ∧ DSt A Ks w0 ph sn sa sb ln la lb (j + v) w' ∧ Blk w' K 215 (tokCells 120 0 noBytes (.slice (some ⟨g, 0, none⟩) v cp) false 0 0 0 true 42) := by
  obtain ⟨q1, q2, q3, q4, q5, q6, q7, q8, q9, q10, q11⟩ := sigils c (Or.inl hc2)
  have g1 : ¬ ((c : Int) < 32) := by omega
  have g2 : ¬ ((c : Int) < 64) := by omega
  have g3 : (c : Int) < 96 := by omega
  have g6 : (32 : Int) ≤ (c : Int) := by omega
  have g7 : (64 : Int) ≤ (c : Int) := by omega
  have k0 := hK.cell 0
  have kf0 := hK.frozen 0
  simp [tagTok, tokCells] at k0
  have hKl := hK.lt
  have HC := Lib.hid (d_bytes (h.tset hf hk 0 (.int .u8 120)) c v j hh hv0 hjv)
  have HK := Lib.hid hK
  have HF := Lib.hid hf
  clear h hK hf hh hc1 hc2
  go_enter Tryz.func142, Tryz.ntmps142
  go_wp2_with fail
  refine HC.out.mono ?_
  rintro e w1 ⟨g, cp, rfl, hr, h1, o1⟩
  have hK1 := o1.blk (HK.out.set_ 0 (.int .u8 120)) (ni3 HF.out.s HF.out.t HF.out.r)
  have k3 := hK1.cell 3
  have kf3 := hK1.frozen 3
  simp [tagTok, tokCells] at k3
  have HK1 := Lib.hid hK1
  have H1 := Lib.hid h1
  have HR1 := Lib.hid hr
  clear hK1 h1 o1 hr
  go_wp2_with fail
  go_ret2
  obtain ⟨r1, r2, r3, r4⟩ := HR1.out
  simp [World.setCell] at r1
  exact ⟨g, cp, rfl, ⟨r1, by simp [World.setCell]; exact r2, r3, r4.setCell (p := ⟨K, 3, none⟩) (by simp; omega) _⟩, H1.out.tset HF.out hk 3 _, HK1.out.set_ 3 _⟩

set_option maxRecDepth 100000 in
set_option maxHeartbeats 1000000 in
theorem d_link (h : DSt A Ks w0 ph sn sa sb ln la lb i w) (hK : Blk w K 215 zeroTok) (hf : A.Far K) (hk : K ∈ Ks ∨ w0.heap.size ≤ K) (ht : HdAt A.l i 216 42 (i + 1)) (c v j : Nat) (hb : (A.l[i + 1]?).map (·.toNat) = some c) (hh : HdAt A.l (i + 1 + 1) c v j) (hv0 : 0 < v) (hjv : j + v ≤ A.n) (hc1 : 64 ≤ c) (hc2 : c < 95) :
    Calls Tryz.prog 142 #[.pointer (some ⟨A.D, 0, none⟩), .int .u8 216, .pointer (some ⟨K, 0, none⟩)] w fun e w' => ∃ g cp, e = .returned (.tuple #[.bool true, .nilIface]) ∧ Row0 w g cp ((A.l.drop j).take v) w' ∧ DSt A Ks w0 ph sn sa sb ln la lb (j + v) w' ∧ Blk w' K 215 (tokCells 120 0 noBytes (.slice (some ⟨g, 0, none⟩) v cp) false 0 0 0 true 42) := by
  have k8 := hK.cell 8
  have kf8 := hK.frozen 8
  simp [zeroTok, tokCells] at k8
  have hm1 := method_readn1
  have HL := Lib.hid (d_len (h.tset hf hk 8 (.bool true)) 216 42 (i + 1) ht)
  have HK := Lib.hid hK
  have HF := Lib.hid hf
  clear h hK hf ht
  go_enter Tryz.func142, Tryz.ntmps142
  go_wp2_with fail
  refine HL.out.mono ?_
  rintro e w1 ⟨rfl, h1, o1⟩
  have hK1 := o1.blk (HK.out.set_ 8 (.bool true)) (ni3 HF.out.s HF.out.t HF.out.r)
  have k9 := hK1.cell 9
  have kf9 := hK1.frozen 9
  simp [zeroTok, tokCells] at k9
  have h2 := h1.tset HF.out hk 9 (.int .i64 42)
  have d7 := h2.c7
  have hK2 := hK1.set_ 9 (.int .i64 42)
  have z1 := o1.size
  simp [World.setCell] at z1
  have HK2 := Lib.hid hK2
  have HB := Lib.hid (h2.byte c hb)
  clear hK1 h1 o1 h2 hK2
  go_wp2_with fail
  refine HB.out.mono ?_
  rintro e w2 ⟨rfl, h3, o3⟩
  have hK3 : Blk w2 K 215 tagTok := o3.blk HK2.out (ni3 HF.out.s HF.out.t HF.out.r)
  have z2 := o3.size
  simp [World.setCell] at z2
  have HY := Lib.hid (d_byt h3 hK3 HF.out hk c v j hh hv0 hjv hc1 hc2)
  clear h3 o3 hK3
  go_wp2_with fail
  refine HY.out.mono ?_
  rintro e w3 ⟨g, cp, rfl, ⟨r1, r2, r3, r4⟩, h4, hK4⟩
  have R4 := Lib.hid r4
  have H4 := Lib.hid h4
  have HK4 := Lib.hid hK4
  clear r4 h4 hK4
  go_wp2_with fail
  go_ret2
  exact ⟨g, cp, rfl, ⟨by omega, r2, r3, R4.out⟩, H4.out, HK4.out⟩
end
end Go.Proofs.YtkdbjocchponfaaGreatDoor
