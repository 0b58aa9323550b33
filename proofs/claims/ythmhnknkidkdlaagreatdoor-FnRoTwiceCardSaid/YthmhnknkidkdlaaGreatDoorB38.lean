/-
  cid.CidFromReader over a bytes.Reader that stands at an identifier.
  cid.uvarint, Cid.Prefix: an identifier's hash function.
  car.LoadIndex over a file of version 1 behind whose sections a zero byte stands.
  (No condition beyond those that each theorem states.)
-/
import Derived.Test.YthmhnknkidkdlaaGreatDoorB37
import Derived.Test.YthmhnknkidkdlaaGreatDoorB06
import Derived.Test.YthmhnknkidkdlaaGreatDoorB33
import Derived.Laws.Strings3
import Derived.Lib.Strings
import Derived.Test.YthmhnknkidkdlaaGreatDoorB09
import Derived.Test.YthmhnknkidkdlaaGreatDoorB36
import Derived.Test.YthmhnknkidkdlaaGreatDoorB31
namespace Go.Proofs.YthmhnknkidkdlaaGreatDoor
open Go.RowKit

set_option maxRecDepth 100000 in
set_option maxHeartbeats 2000000 in
theorem cidFromReader_zero {R b cap i0 : Nat} {l t : List UInt8} {w : World} (h : RAt R b cap l i0 w) (d : List UInt8) (hd : d.length = 32) (hl : l.drop i0 = mhB 18 d ++ t) :
    Calls Tryz.prog 54 #[.iface 55 (.pointer (some ⟨R, 0, none⟩))] w fun e w' => e = .returned (.tuple #[.int .i64 34, .agg #[.string (str (mhB 18 d))], .nilIface]) ∧ RAt R b cap l (i0 + 34) w' ∧ Off [R] w w' := by
  obtain ⟨ib, hib, hz0, hz1, hz2⟩ := info_parts Tryz.infoByte
  have hmk := fun W => run_make0 (P := Tryz.prog) Tryz.underlying47 hib hz0 hz1 hz2 64 (by omega) W
  have e64 : ((64 : Nat) : Int) = 64 := rfl
  rw [e64] at hmk
  have hone : (Lib.uvarint 18).length = 1 := by rw [Lib.uvarint_small (by omega)]; rfl
  have hu18 : Lib.uvarint 18 = [18] := by rw [Lib.uvarint_small (by omega)]; rfl
  obtain ⟨C, hC⟩ : ∃ C, C = mhB 18 d := ⟨_, rfl⟩
  have hv0 : C = 18 :: 32 :: d := by rw [hC]; exact mhB_v0 d hd
  have hCl : C.length = 34 := by rw [hv0]; simp; omega
  rw [← hC] at hl ⊢
  have hl0 : l.drop i0 = Lib.uvarint 18 ++ ((32 :: d) ++ t) := by rw [hl, hv0, hu18]; rfl
  have hl1 : l.drop (i0 + 1) = (32 :: d) ++ t := by have := drop_more hl0; rwa [hone] at this
  have hlen : i0 + 34 + t.length = l.length := by
    rcases drop_lt hl with h1 | ⟨h1, _⟩
    · rw [hCl] at h1; exact h1
    · rw [h1] at hCl; simp at hCl
  have hbl : b < w.heap.size := h.seg.lt (by omega)
  have hRl := h.lt
  have htk : (l.drop i0).take 1 = [18] := by rw [hl0, hu18]; rfl
  have htd : (l.drop (i0 + 1)).take 33 = 32 :: d := by rw [hl1]; exact List.take_left' (by simp; omega)
  have hA2 : Off [] w ((w.alloc (.cells #[.string ⟨#[]⟩] 133)).alloc (.cells (zeroBytes 64).toArray 5)) := ((Off.refl [] w).alloc _).alloc _
  have hdg := Blk.new' (w.alloc (.cells #[.string ⟨#[]⟩] 133)) 5 (zeroBytes 64).toArray (g := w.heap.size + 1) (by simp)
  have HT := Lib.hid (toBb (w0 := w.alloc (.cells #[.string ⟨#[]⟩] 133)) (h.off hA2 (by simp) (by simp)) (w.heap.size + 1) hdg (by omega) (by omega) (by simp) ((Off.refl [] _).alloc _) (by omega) (by simp; omega))
  have HL0 := Lib.hid hl0
  have HD := Lib.hid (And.intro htk (And.intro htd (And.intro hv0 (And.intro hCl (And.intro hC (And.intro hone hd))))))
  have HLEN := Lib.hid hlen
  clear h hl hl0 hl1 hone hu18 hv0 hCl htk htd hC hA2 hdg hlen hd
  go_enter Tryz.func54, Tryz.ntmps54
  go_wp2_with fail
  refine HT.out.mono ?_
  rintro e w1 ⟨Qb, rfl, hB1, hQ1, hO1⟩
  have HU1 := Lib.hid (bbUvarint hB1 18 (by omega) HL0.out (by have := HD.out.2.2.2.2.2.1; omega))
  rw [HD.out.2.2.2.2.2.1] at HU1
  have HQ1 := Lib.hid hQ1
  clear hB1 hO1 hQ1
  go_wp2_with fail
  refine HU1.out.mono ?_
  rintro e w2 ⟨rfl, hB2⟩
  have s2 : w2.cell? ⟨Qb, 2, none⟩ = some (.slice (some ⟨w.heap.size + 1, 0, none⟩) 1 64) := hB2.q.cell 2
  have n1 := hB2.n1
  have n5 := hB2.n5
  have hQf := HQ1.out
  simp at hQf
  have hcellne : w.heap.size ≠ Qb := by omega
  have hG2 := hB2.row
  rw [Nat.zero_add, HD.out.1] at hG2
  have HF := Lib.hid (readFull_off hB2.rd (w.heap.size + 1) 1 33 63 _ 5 hG2 hB2.n2 hB2.n4 (by omega) (by have := HLEN.out; omega) (by rw [List.length_append, Lib.byteCells_length, zeroBytes_length]; simp) (by omega) (by omega))
  rw [Nat.zero_add, HD.out.2.1] at HF
  have HC2 := Lib.hid (hB2.off.blk (Blk.new w 133 #[.string ⟨#[]⟩]) (ni1 (by omega)))
  have HO2 : Hid (Off [R] w w2) := Lib.hid (((Off.refl [R] w).alloc _).then hB2.off (fun x hx => Or.inl hx))
  have HQ2 := Lib.hid hB2.q
  clear hB2 hG2
  go_wp2_with fail
  refine HF.out.mono ?_
  rintro e w3 ⟨rfl, h1, h2, h3⟩
  have hQ3 := h3.blk HQ2.out (ni2 (fun e => n1 e.symm) n5)
  have s3 : w3.cell? ⟨Qb, 2, none⟩ = some (.slice (some ⟨w.heap.size + 1, 0, none⟩) 1 64) := hQ3.cell 2
  have sf3 := hQ3.frozen 2
  have hsp : splice (Lib.byteCells [18] ++ zeroBytes (64 - (0 + 1))) 1 (Lib.byteCells (32 :: d)) = Lib.byteCells C ++ zeroBytes 30 := by
    have hdk : (Lib.byteCells (32 :: d)).length = 33 := by rw [Lib.byteCells_length]; have := HD.out.2.2.2.2.2.2; simp; omega
    rw [splice, hdk, List.take_left' (by rw [Lib.byteCells_length]; rfl), List.drop_append, Lib.byteCells_length]
    have e1 : zeroBytes (64 - (0 + 1)) = zeroBytes 33 ++ zeroBytes 30 := by rw [← zeroBytes_append]
    rw [e1, List.drop_of_length_le (by rw [Lib.byteCells_length]; simp), List.nil_append]
    have e2 : 1 + 33 - ([18] : List UInt8).length = 33 := rfl
    rw [e2, List.drop_left' (zeroBytes_length 33), HD.out.2.2.1]
    simp [Lib.byteCells]
  rw [hsp] at h2
  have hO4 := (Off.refl [Qb] w3).setCell (p := ⟨Qb, 2, none⟩) (Or.inl (by simp)) (.slice (some ⟨w.heap.size + 1, 0, none⟩) 34 64)
  have hG4 := h2.far (p := ⟨Qb, 2, none⟩) (fun e => n5 e.symm) (.slice (some ⟨w.heap.size + 1, 0, none⟩) 34 64)
  have hS4 : Seg (w3.setCell ⟨Qb, 2, none⟩ (.slice (some ⟨w.heap.size + 1, 0, none⟩) 34 64)) (w.heap.size + 1) 0 C := Seg.of_bytes hG4
  have HM := Lib.hid (mhCast_ok 18 (w.heap.size + 1) 0 34 64 d (w3.setCell ⟨Qb, 2, none⟩ (.slice (some ⟨w.heap.size + 1, 0, none⟩) 34 64)) (by omega) (by have := HD.out.2.2.2.2.2.2; omega) (by rw [← HD.out.2.2.2.2.1, HD.out.2.2.2.1]) (by omega) (by rw [← HD.out.2.2.2.2.1]; exact hS4) hG4.lt)
  have HS4 := Lib.hid hS4
  have HQ4 := Lib.hid (hQ3.set_ 2 (.slice (some ⟨w.heap.size + 1, 0, none⟩) 34 64))
  have HC4 := Lib.hid ((h3.blk HC2.out (ni2 (by omega) (by omega))).far (p := ⟨Qb, 2, none⟩) hcellne (.slice (some ⟨w.heap.size + 1, 0, none⟩) 34 64))
  have hQge : w.heap.size ≤ Qb := by omega
  have HO4 := Lib.hid ((HO2.out.then h3 (fun x hx => by simp at hx; rcases hx with rfl | rfl <;> simp)).setCell (p := ⟨Qb, 2, none⟩) (Or.inr hQge) (.slice (some ⟨w.heap.size + 1, 0, none⟩) 34 64))
  have HR4 := Lib.hid (h1.off hO4 (ni1 n1) (ni1 (by omega)))
  clear h1 h2 h3 hQ3 hO4 hG4 hS4 hsp
  go_wp2_with fail
  refine HM.out.mono ?_
  rintro e w5 ⟨rfl, ho5⟩
  have x5 : w5.cell? ⟨Qb, 2, none⟩ = some (.slice (some ⟨w.heap.size + 1, 0, none⟩) 34 64) := (ho5.blk HQ4.out (by simp)).cell 2
  have hC5 := ho5.blk HC4.out (by simp)
  have y5 := hC5.cell 0
  have yf5 := hC5.frozen 0
  simp at y5
  have hcv := run_convert_seg (P := Tryz.prog) (W := w5.drew) (src := 185) (e := 5) (dst := 9) Tryz.underlying185 Tryz.underlying5 Tryz.underlying9 64 (ho5.seg HS4.out (by simp)).drew
  rw [HD.out.2.2.2.1] at hcv
  have HC5 := Lib.hid hC5
  have HR5 := Lib.hid (HR4.out.off ho5 (by simp) (by simp))
  have HO5 := Lib.hid (HO4.out.then ho5 (fun x hx => by simp at hx))
  clear ho5 hC5
  go_wp2_with fail
  go_region
  go_wp2_with fail
  refine bodyPost_ret (results_trt rfl _ (HC5.out.fill1) rfl Tryz.underlying133 rfl (by kernel_rfl)) rfl ⟨rfl, ?_, ?_⟩
  · have h1 := (HR5.out.off (((Off.refl [w.heap.size] w5).setCell (p := ⟨w.heap.size, 0, none⟩) (Or.inl (by simp)) (.string (str C))).drew) (ni1 (by omega)) (ni1 (by omega)))
    rw [show i0 + 34 = i0 + (0 + 1) + 33 from by omega]
    exact h1
  · exact (HO5.out.setCell (p := ⟨w.heap.size, 0, none⟩) (Or.inr (Nat.le_refl _)) _).drew

theorem cidFromReader_any {R b cap i0 : Nat} {l t c : List UInt8} {w : World} (h : RAt R b cap l i0 w) (code : Nat) (d : List UInt8) (hc : IsCid c code d) (hd : d.length ≤ 1000) (hl : l.drop i0 = c ++ t) :
    Calls Tryz.prog 54 #[.iface 55 (.pointer (some ⟨R, 0, none⟩))] w fun e w' => e = .returned (.tuple #[.int .i64 (c.length : Int), .agg #[.string (str c)], .nilIface]) ∧ RAt R b cap l (i0 + c.length) w' ∧ Off [R] w w' := by
  obtain ⟨h1, h2, ⟨h3, rfl, h5⟩ | ⟨codec, h3, h4⟩⟩ := hc
  · have hl2 : c.length = 34 := by rw [h3, mhB_v0 d h5]; simp; omega
    rw [hl2]
    subst h3
    exact cidFromReader_zero h d h5 hl
  · subst h4
    exact cidFromReader_one h codec code d h1 h3 hd hl
end Go.Proofs.YthmhnknkidkdlaaGreatDoor
namespace Go.Proofs.YthmhnknkidkdlaaGreatDoor
open Go.RowKit

theorem index_str (s : ByteArray) (i c : Nat) (h : (s.data.toList[i]?).map (·.toNat) = some c) (W : World) : (Instr.index 9 (.string s) (.int .i64 (i : Int))).run Tryz.prog W = .ok (.int .u8 (c : Int)) W := by
  have hi : i < s.data.toList.length := by
    rcases Nat.lt_or_ge i s.data.toList.length with h1 | h1
    · exact h1
    · rw [List.getElem?_eq_none h1] at h; simp at h
  have hi2 : i < s.size := by simpa using hi
  rw [List.getElem?_eq_getElem hi] at h
  simp at h
  rw [run_index_string W 9 s .i64 (i : Int) Tryz.underlying9, dif_pos ⟨by omega, by omega⟩]
  have e : (s[(i : Int).toNat]'(by omega)).toNat = c := by
    rw [← h]
    rfl
  rw [e]
theorem slice_from (s : ByteArray) (k : Nat) (hk : k ≤ s.size) (W : World) : (Instr.slice 9 (.string s) (some (.int .i64 (k : Int))) none none).run Tryz.prog W = .ok (.string (str (s.data.toList.drop k))) W := by
  rw [run_slice_string_from_if W 9 s .i64 (k : Int) Tryz.underlying9, if_pos ⟨by omega, by omega⟩]
  congr 2
  apply ByteArray.ext
  apply Array.ext'
  rw [Lib.extract_data]
  simp
  exact List.take_of_length_le (by simp)

set_option maxRecDepth 100000 in
set_option maxHeartbeats 2000000 in
theorem uvarintS_ok (x : Nat) (hx : x < 9223372036854775808) (s : ByteArray) (t : List UInt8) (hs : s.data.toList = Lib.uvarint x ++ t) (hsz : s.size ≤ 2147483700) (w : World) :
    Calls Tryz.prog 80 #[.string s] w fun e w' => e = .returned (.tuple #[.int .u64 (x : Int), .int .i64 ((Lib.uvarint x).length : Int), .nilIface]) ∧ w = w' := by
  have hlen : (Lib.uvarint x).length ≤ s.size := by
    have h1 := congrArg List.length hs
    rw [List.length_append] at h1
    simp at h1
    omega
  have HX := Lib.hid hx
  have HS := Lib.hid hs
  have HL := Lib.hid hlen
  clear hx hs hlen
  go_enter Tryz.func80, Tryz.ntmps80
  go_wp2_with fail
  go_loopg [5, 6, 7] 10 (fun kx s5 s6 s7 wr => ∃ (j y acc : Nat) (pre : List UInt8), 9 - j ≤ kx ∧ Hid (pre.length = j ∧ Lib.uvarint x = pre ++ Lib.uvarint y ∧ x = acc + y * 2 ^ (7 * j) ∧ acc < 2 ^ (7 * j) ∧ (0 < j → 0 < y)) ∧
      s5 = .int .u64 acc ∧ s6 = .int .u64 ((7 * j : Nat) : Int) ∧ s7 = .int .i64 (j : Int) ∧ w = wr)
  case atStart => exact ⟨0, x, 0, [], by omega, Lib.hid ⟨rfl, rfl, by simp, by simp, by omega⟩, rfl, rfl, rfl, rfl⟩
  case round =>
    rename World => wr
    obtain ⟨j, y, acc, pre, hkx, hh, rfl, rfl, rfl, rfl⟩ := hrel
    obtain ⟨hpl, hsp, hxe, hacc, hy0⟩ := hh.out
    have hul := congrArg List.length hsp
    rw [List.length_append] at hul
    have hyp := Lib.uvarint_pos y
    have hx := HX.out
    have hL := HL.out
    have hget : (Lib.uvarint x)[j]? = (Lib.uvarint y)[0]? := by rw [hsp, List.getElem?_append_right (by omega)]; simp [hpl]
    have hgs : s.data.toList[j]? = (Lib.uvarint x)[j]? := by rw [HS.out, List.getElem?_append_left (by omega)]
    have hjs : (j : Int) < (s.size : Int) := by omega
    have hi8 : j ≤ 8 := by
      rcases Nat.lt_or_ge j 9 with h | h
      · omega
      · exfalso
        have h1 : 2 ^ 63 ≤ 2 ^ (7 * j) := Nat.pow_le_pow_right (by omega) (by omega)
        have h2 := Nat.le_mul_of_pos_left (2 ^ (7 * j)) (hy0 (by omega))
        omega
    have q7 : ¬ ((9 : Int) < (j : Int)) := by omega
    have q8 : ((j : Int) == 9) = false := beq_eq_false_iff_ne.2 (by omega)
    by_cases h128 : 128 ≤ y
    · have hb := Lib.uvarint_big h128
      have hmm := Lib.toUInt8_toNat (a := y % 128 + 128) (by omega)
      have hby : (s.data.toList[j]?).map (·.toNat) = some (y % 128 + 128) := by rw [hgs, hget, hb, List.getElem?_cons_zero, Option.map_some, hmm]
      have HH := Lib.hid (And.intro hsp (And.intro hxe (And.intro hacc (And.intro hpl (And.intro hb hul)))))
      obtain ⟨c, hc⟩ : ∃ c, c = y % 128 + 128 := ⟨_, rfl⟩
      rw [← hc] at hby
      have hix := index_str s j c hby
      have hc1 : 128 ≤ c := by omega
      have hc2 : c < 256 := by omega
      have q4 : ¬ ((c : Int) < 128) := by omega
      have HCE := Lib.hid hc
      clear hsp hxe hacc hpl hb hul hx hy0 hmm hyp hget hgs hby hh hc hL
      go_wp2_with fail
      go_roundg (gk - 1)
      case measure => omega
      case rel =>
        obtain ⟨hsp, hxe, hacc, hpl, hb, hul⟩ := HH.out
        have hx := HX.out
        have hpw : 2 ^ (7 * (j + 1)) = 128 * 2 ^ (7 * j) := by rw [show 7 * (j + 1) = 7 + 7 * j from by omega, Nat.pow_add]
        have hdm : y * 2 ^ (7 * j) = y % 128 * 2 ^ (7 * j) + y / 128 * (128 * 2 ^ (7 * j)) := by
          rw [← Nat.mul_assoc, ← Nat.add_mul]; congr 1; omega
        have hlt : y % 128 * 2 ^ (7 * j) + 2 ^ (7 * j) ≤ 128 * 2 ^ (7 * j) := by
          rw [← Nat.succ_mul]; exact Nat.mul_le_mul_right _ (by omega)
        refine ⟨j + 1, y / 128, acc + y % 128 * 2 ^ (7 * j), pre ++ [(y % 128 + 128).toUInt8], by omega, Lib.hid ⟨by simp [hpl], by rw [hsp, hb]; simp, by rw [hpw]; omega, by rw [hpw]; omega, by omega⟩, ?_, by go_num, by go_num, rfl⟩
        have ea : bits .and .u8 (c : Int) 127 = ((y % 128 : Nat) : Int) := by rw [HCE.out, u8_and127 (x := ((y % 128 + 128 : Nat) : Int)) (by omega) (by omega)]; omega
        have ew : IntKind.u64.wrap ((y % 128 : Nat) : Int) = ((y % 128 : Nat) : Int) := by rw [IntKind.wrap_u64, Int.emod_eq_of_lt (by omega) (by omega)]
        rw [ea, ew, or_join_w j acc (y % 128) hacc (by omega)]
    · have hb := Lib.uvarint_small (x := y) (by omega)
      have hmm := Lib.toUInt8_toNat (a := y) (by omega)
      have hby : (s.data.toList[j]?).map (·.toNat) = some y := by rw [hgs, hget, hb, List.getElem?_cons_zero, Option.map_some, hmm]
      have hix := index_str s j y hby
      have HH := Lib.hid (And.intro hsp (And.intro hxe (And.intro hacc (And.intro hpl (And.intro hb hul)))))
      have q4 : ((y : Int) < 128) := by omega
      have q5 : (y = 0 ∧ j = 0) ∨ ¬ y = 0 := by omega
      have HH0 := Lib.hid (And.intro q5 hy0)
      clear hsp hxe hacc hpl hb hul hx hy0 hmm hyp hget hgs hby hh q5 hL
      have hlast : Hid ((Lib.uvarint x).length = j + 1) := Lib.hid (by
        obtain ⟨_, _, _, hpl, hb, hul⟩ := HH.out
        rw [hb] at hul; simp at hul; omega)
      by_cases hz : y = 0
      · subst hz
        have hj0 : j = 0 := by have := HH0.out.2; omega
        subst hj0
        rw [show ((0 : Nat) : Int) = 0 from rfl] at hix
        go_wp2_with fail
        go_ret3
        obtain ⟨hsp, hxe, hacc, hpl, hb, hul⟩ := HH.out
        refine ⟨ret3 ?_ ?_, rfl⟩
        · have ha : acc = 0 := by simpa using hacc
          subst ha
          rw [hxe]; rfl
        · rw [hlast.out]; rfl
      · have q6 : ((y : Int) == 0) = false := beq_eq_false_iff_ne.2 (by omega)
        go_wp2_with fail
        all_goals (try go_ret3)
        all_goals
          obtain ⟨hsp, hxe, hacc, hpl, hb, hul⟩ := HH.out
          have hx := HX.out
          refine ⟨ret3 ?_ ?_, rfl⟩
          · first
            | (rw [or_join_w j acc y hacc (by rw [← hxe]; omega), ← hxe]; done)
            | (have h0 : j = 8 := by clear hxe hacc; omega
               subst h0
               have hj := or_join_w 8 acc y hacc (by rw [← hxe]; omega)
               rw [← hxe] at hj
               have e : IntKind.u64.wrap ((y : Int) * 2 ^ (7 * 8)) = (y : Int) * 72057594037927936 := by rw [IntKind.wrap_u64, Int.emod_eq_of_lt (by omega) (by omega)]; rfl
               rw [e] at hj
               exact hj)
          · rw [hlast.out]; push_cast; rfl

set_option maxRecDepth 100000 in
set_option maxHeartbeats 2000000 in
theorem prefix_one (codec code : Nat) (d : List UInt8) (hx : code < 9223372036854775808) (hcx : codec < 9223372036854775808) (hd : d.length ≤ 1000000) (s : ByteArray) (hs : s.data.toList = cid1 codec (mhB code d)) (w : World) :
    Calls Tryz.prog 55 #[.agg #[.string s]] w fun e w' => ∃ v c n : Int, e = .returned (.agg #[.int .u64 v, .int .u64 c, .int .u64 (code : Int), .int .i64 n]) ∧ Off [] w w' := by
  have q1 := Lib.uvarint_length64 (x := codec) (by omega)
  have q2 := Lib.uvarint_length64 (x := code) (by omega)
  have q3 := Lib.uvarint_length64 (x := d.length) (by omega)
  have hone : (Lib.uvarint 1).length = 1 := by rw [Lib.uvarint_small (by omega)]; rfl
  obtain ⟨u, hu⟩ : ∃ u, u = (Lib.uvarint codec).length := ⟨_, rfl⟩
  obtain ⟨v, hv⟩ : ∃ v, v = (Lib.uvarint code).length := ⟨_, rfl⟩
  have hsz : s.size = 1 + u + (v + (Lib.uvarint d.length).length + d.length) := by
    have h1 := congrArg List.length hs
    rw [cid1_length, mhB_length] at h1
    simp at h1
    omega
  have hs0 : s.data.toList = Lib.uvarint 1 ++ (Lib.uvarint codec ++ (Lib.uvarint code ++ (Lib.uvarint d.length ++ d))) := by rw [hs, cid1_eq, mhB]
  have d1 : s.data.toList.drop 1 = Lib.uvarint codec ++ (Lib.uvarint code ++ (Lib.uvarint d.length ++ d)) := by rw [hs0]; exact List.drop_left' hone
  have d2 : s.data.toList.drop (1 + u) = Lib.uvarint code ++ (Lib.uvarint d.length ++ d) := by rw [← List.drop_drop, d1]; exact List.drop_left' hu.symm
  have d3 : s.data.toList.drop (1 + u + v) = Lib.uvarint d.length ++ d := by rw [← List.drop_drop, d2]; exact List.drop_left' hv.symm
  have t0 := fun W => slice_from s 0 (Nat.zero_le _) W
  have t1 := fun W => slice_from s 1 (by omega) W
  have t2 := fun W => slice_from s (1 + u) (by omega) W
  have t3 := fun W => slice_from s (1 + u + v) (by omega) W
  obtain ⟨r0, hr0⟩ : ∃ r, r = str (s.data.toList.drop 0) := ⟨_, rfl⟩
  obtain ⟨r1, hr1⟩ : ∃ r, r = str (s.data.toList.drop 1) := ⟨_, rfl⟩
  obtain ⟨r2, hr2⟩ : ∃ r, r = str (s.data.toList.drop (1 + u)) := ⟨_, rfl⟩
  obtain ⟨r3, hr3⟩ : ∃ r, r = str (s.data.toList.drop (1 + u + v)) := ⟨_, rfl⟩
  rw [← hr0] at t0
  rw [← hr1] at t1
  rw [← hr2] at t2
  rw [← hr3] at t3
  rw [show ((0 : Nat) : Int) = 0 from rfl] at t0
  rw [show ((1 : Nat) : Int) = 1 from rfl] at t1
  have p2 : ((1 + u : Nat) : Int) = 1 + (u : Int) := by push_cast; rfl
  have p3 : ((1 + u + v : Nat) : Int) = 1 + (u : Int) + (v : Int) := by push_cast; rfl
  rw [p2] at t2
  rw [p3] at t3
  have hsl : s.data.toList.length = s.size := by simp
  have U0 := Lib.hid (fun W => uvarintS_ok 1 (by omega) r0 (Lib.uvarint codec ++ (Lib.uvarint code ++ (Lib.uvarint d.length ++ d))) (by rw [hr0, List.drop_zero]; exact hs0) (by rw [hr0]; show (s.data.toList.drop 0).length ≤ _; rw [List.length_drop]; omega) W)
  have U1 := Lib.hid (fun W => uvarintS_ok codec hcx r1 (Lib.uvarint code ++ (Lib.uvarint d.length ++ d)) (by rw [hr1]; exact d1) (by rw [hr1]; show (s.data.toList.drop 1).length ≤ _; rw [List.length_drop]; omega) W)
  have U2 := Lib.hid (fun W => uvarintS_ok code hx r2 (Lib.uvarint d.length ++ d) (by rw [hr2]; exact d2) (by rw [hr2]; show (s.data.toList.drop (1 + u)).length ≤ _; rw [List.length_drop]; omega) W)
  have U3 := Lib.hid (fun W => uvarintS_ok d.length (by omega) r3 d (by rw [hr3]; exact d3) (by rw [hr3]; show (s.data.toList.drop (1 + u + v)).length ≤ _; rw [List.length_drop]; omega) W)
  rw [hone, show ((1 : Nat) : Int) = 1 from rfl] at U0
  rw [← hu] at U1
  rw [← hv] at U2
  have HV := Lib.hid (fun W => version_one s (Lib.uvarint codec ++ mhB code d) W (by rw [hs]; rfl))
  have hw1 : IntKind.i64.wrap (1 + (u : Int)) = 1 + (u : Int) := by rw [IntKind.wrap_i64]; omega
  have hw2 : IntKind.i64.wrap (1 + (u : Int) + (v : Int)) = 1 + (u : Int) + (v : Int) := by rw [IntKind.wrap_i64]; omega
  clear hx hcx hs hs0 d1 d2 d3 hr0 hr1 hr2 hr3 hu hv hone p2 p3 hsl hsz
  go_enter Tryz.func55, Tryz.ntmps55
  go_wp2_with fail
  refine (HV.out _).mono ?_
  rintro e w1 ⟨rfl, hB1⟩
  have hO1 := Off.ofBelow (S := []) hB1
  have hS1 : Blk w1 w.heap.size 133 #[.string s] := hO1.blk ((Blk.new w _ _).alloc _) (by simp)
  have x0 := hS1.cell 0
  simp at x0
  have hP1 := hO1.blk (Blk.new' (w.alloc (.cells #[.string s] 133)) 137 #[.int .u64 0, .int .u64 0, .int .u64 0, .int .i64 0] (g := w.heap.size + 1) (by simp)) (by simp)
  have y0 := hP1.cell 0
  have y1 := hP1.cell 1
  have y2 := hP1.cell 2
  have y3 := hP1.cell 3
  have yf0 := hP1.frozen 0
  have yf1 := hP1.frozen 1
  have yf2 := hP1.frozen 2
  have yf3 := hP1.frozen 3
  simp at y0 y1 y2 y3
  have HP1 := Lib.hid hP1
  have HO1 := Lib.hid ((((Off.refl [] w).alloc (.cells #[.string s] 133)).alloc (.cells #[.int .u64 0, .int .u64 0, .int .u64 0, .int .i64 0] 137)).then hO1 (fun x hx => by simp at hx))
  clear hB1 hO1 hS1 hP1
  go_wp2_with fail
  refine (U0.out _).mono ?_
  rintro e w2 ⟨rfl, rfl⟩
  go_wp2_with fail
  refine (U1.out _).mono ?_
  rintro e w2 ⟨rfl, rfl⟩
  go_wp2_with fail
  refine (U2.out _).mono ?_
  rintro e w2 ⟨rfl, rfl⟩
  go_wp2_with fail
  refine (U3.out _).mono ?_
  rintro e w2 ⟨rfl, rfl⟩
  go_wp2_with fail
  refine bodyPost_ret (results_row rfl _ (HP1.out.fill4) rfl Tryz.underlying137 rfl (by kernel_rfl)) rfl ⟨_, _, _, rfl, ?_⟩
  exact (((HO1.out.setCell (p := ⟨w.heap.size + 1, 0, none⟩) (Or.inr (by simp)) _).setCell (p := ⟨w.heap.size + 1, 1, none⟩) (Or.inr (by simp)) _).setCell (p := ⟨w.heap.size + 1, 2, none⟩) (Or.inr (by simp)) _).setCell (p := ⟨w.heap.size + 1, 3, none⟩) (Or.inr (by simp)) _

set_option maxRecDepth 100000 in
set_option maxHeartbeats 1000000 in
theorem prefix_zero (d : List UInt8) (hd : d.length = 32) (s : ByteArray) (hs : s.data.toList = mhB 18 d) (w : World) :
    Calls Tryz.prog 55 #[.agg #[.string s]] w fun e w' => ∃ v c n : Int, e = .returned (.agg #[.int .u64 v, .int .u64 c, .int .u64 18, .int .i64 n]) ∧ Off [] w w' := by
  have HV := Lib.hid (fun W => version_zero s d W (by rw [hs]; exact mhB_v0 d hd) hd)
  clear hs hd
  go_enter Tryz.func55, Tryz.ntmps55
  go_wp2_with fail
  refine (HV.out _).mono ?_
  rintro e w1 ⟨rfl, hB1⟩
  have hO1 := Off.ofBelow (S := []) hB1
  have hP1 := hO1.blk (Blk.new' (w.alloc (.cells #[.string s] 133)) 137 #[.int .u64 0, .int .u64 0, .int .u64 0, .int .i64 0] (g := w.heap.size + 1) (by simp)) (by simp)
  have y0 := hP1.cell 0
  have y1 := hP1.cell 1
  have y2 := hP1.cell 2
  have y3 := hP1.cell 3
  have yf0 := hP1.frozen 0
  have yf1 := hP1.frozen 1
  have yf2 := hP1.frozen 2
  have yf3 := hP1.frozen 3
  simp at y0 y1 y2 y3
  have HP1 := Lib.hid hP1
  have HO1 := Lib.hid ((((Off.refl [] w).alloc (.cells #[.string s] 133)).alloc (.cells #[.int .u64 0, .int .u64 0, .int .u64 0, .int .i64 0] 137)).then hO1 (fun x hx => by simp at hx))
  clear hB1 hO1 hP1
  go_wp2_with fail
  refine bodyPost_ret (results_row rfl _ (HP1.out.fill4) rfl Tryz.underlying137 rfl (by kernel_rfl)) rfl ⟨_, _, _, rfl, ?_⟩
  exact (((HO1.out.setCell (p := ⟨w.heap.size + 1, 0, none⟩) (Or.inr (by simp)) _).setCell (p := ⟨w.heap.size + 1, 1, none⟩) (Or.inr (by simp)) _).setCell (p := ⟨w.heap.size + 1, 2, none⟩) (Or.inr (by simp)) _).setCell (p := ⟨w.heap.size + 1, 3, none⟩) (Or.inr (by simp)) _

theorem prefix_any (s : ByteArray) (code : Nat) (d : List UInt8) (h : IsCid s.data.toList code d) (hd : d.length ≤ 1000000) (w : World) :
    Calls Tryz.prog 55 #[.agg #[.string s]] w fun e w' => ∃ v c n : Int, e = .returned (.agg #[.int .u64 v, .int .u64 c, .int .u64 (code : Int), .int .i64 n]) ∧ Off [] w w' := by
  obtain ⟨h1, h2, ⟨h3, rfl, h5⟩ | ⟨codec, h3, h4⟩⟩ := h
  · exact prefix_zero d h5 s h3 w
  · exact prefix_one codec code d h1 h3 hd s h4 w
end Go.Proofs.YthmhnknkidkdlaaGreatDoor
namespace Go.Proofs.YthmhnknkidkdlaaGreatDoor
open Go.RowKit

theorem method_seek (a : Addr) (w : World) : (method 480 55 (.pointer (some a)) "Seek").run Tryz.prog w = .ok (144, .pointer (some a)) w := by kernel_rfl
theorem field_pfx (pv pc pn c : Int) (w : World) : (Instr.field 137 (.agg #[.int .u64 pv, .int .u64 pc, .int .u64 c, .int .i64 pn]) 2).run Tryz.prog w = .ok (.int .u64 c) w := by kernel_rfl
def zeroOptsZ : Array Value := #[.int .u64 0, .int .u64 0, .int .u64 0, .bool false, .int .u64 0, .bool false, .bool false, .bool false, .int .u64 0, .bool false, .bool false, .int .u64 0, .int .u64 0]

theorem it_s {e : Ent} (h : e.ok) : e.it.s = str (cidB e) := by
  show str (if e.ver = 0 then mhB 18 e.dg.data.toList else cid1 e.codec (mhB e.code e.dg.data.toList)) = _
  unfold cidB
  rcases h.ver with ⟨h1, h2, h3, h4⟩ | ⟨h1, h2, h3⟩
  · rw [if_pos h1, if_pos h1, h3]
  · rw [if_neg (by omega), if_neg (by omega)]

theorem genE_ok : ∀ (bs : List Bk) (a : Nat), (∀ b, b ∈ bs → b.ok) → a + (secs bs).length < 18446744073709551616 → ∀ e, e ∈ genE a bs → e.ok
  | [], a, _, _, e, h => by simp [genE] at h
  | b :: bs, a, hb, hl, e, h => by
    have hs : (secs (b :: bs)).length = (secB (cidB b.1) b.2.data.toList).length + (secs bs).length := by
      unfold secs
      rw [List.map_cons, List.flatMap_cons, List.length_append]
      rfl
    rw [hs] at hl
    rw [genE, List.mem_append] at h
    rcases h with h | h
    · by_cases h0 : b.1.code = 0
      · rw [if_pos h0] at h; simp at h
      · rw [if_neg h0] at h
        have he := List.mem_singleton.1 h
        have h1 := (hb b List.mem_cons_self).e
        rw [he]
        exact ⟨h1.ver, h1.small, by show a < _; omega⟩
    · exact genE_ok bs _ (fun x hx => hb x (List.mem_cons_of_mem _ hx)) (by omega) e h

end Go.Proofs.YthmhnknkidkdlaaGreatDoor
