/-
  Identifiers: their bytes, versions, hashes; what is made of a hash.
  strings.Builder: what its writing methods do at a builder that has been used.
  Identifiers of version 1 are made: their bytes are the version, the codec and the multihash.
  An identifier is made of its parts: impl.cidIn at tidy identifiers.
  What the statements' own guards compute of an identifier.
  (No condition beyond those that each theorem states.)
-/
import Derived.Test.YtcgggcjmmphldaaGreatDoorHa2
import Derived.Defers
import Derived.Recover
import Derived.Lib.Builder
import Derived.Deep.RegionHeld3
namespace Go.Proofs.YtcgggcjmmphldaaGreatDoor
open Go.RowKit

set_option maxRecDepth 100000 in
theorem defined_yes (s : ByteArray) (w : World) (hs : s.data.toList ≠ []) :
    Calls Tryz.prog 226 #[.agg #[.string s]] w fun e w' => e = .returned (.bool true) ∧ Below w.heap.size w w' := by
  have hne : ¬ s.toList = [] := by rw [ByteArray.toList_eq]; exact hs
  clear hs
  go_enter Tryz.func226, Tryz.ntmps226
  go_wp2_with fail
  go_ret
  refine ⟨?_, (Below.refl _ w).alloc (Nat.le_refl _) _⟩
  simp [hne]

set_option maxRecDepth 100000 in
theorem bytes_yes (s : ByteArray) (w : World) (hs : s.data.toList ≠ []) :
    Calls Tryz.prog 203 #[.agg #[.string s]] w fun e w' => ∃ g c, e = .returned (.slice (some ⟨g, 0, none⟩) s.size c) ∧ w.heap.size ≤ g ∧ s.size ≤ c ∧ Seg w' g 0 s.data.toList ∧ Below w.heap.size w w' := by
  have HD := Lib.hid (fun W => defined_yes s W hs)
  have hcv := fun W => run_bytes_of_string (P := Tryz.prog) W 9 46 5 s Tryz.underlying9 Tryz.underlying46 Tryz.underlying5
  clear hs
  go_enter Tryz.func203, Tryz.ntmps203
  go_wp2_with fail
  refine (HD.out _).mono ?_
  rintro e w1 ⟨rfl, hB1⟩
  have hc0 := hB1.cell (p := ⟨w.heap.size, 0, none⟩) (by simp)
  simp [go_sem] at hc0
  have HB := Lib.hid hB1
  clear hB1
  go_wp2_with fail
  go_ret
  have hB := HB.out
  have hz := hB.size
  simp at hz
  refine ⟨_, _, rfl, by omega, grownCap_ge _ _ _ _, ?_, ?_⟩
  · have hh := heap_alloc_new w1 (.cells (bytesRow s (grownCap w1 s.size 0 5)) 5 ((bytesRow s (grownCap w1 s.size 0 5)).size, (bytesRow s (grownCap w1 s.size 0 5)).size + 1))
    rw [← bytesRow_list] at hh
    have hs := Seg.drew (Seg.of_bytes hh)
    rw [bytesRow_list] at hs
    exact hs
  · refine Below.drew ((Below.trans ?_ ((hB.mono (by simp)))).alloc (by omega) _)
    exact (Below.refl _ w).alloc (Nat.le_refl _) _

set_option maxRecDepth 100000 in
set_option maxHeartbeats 1000000 in
theorem version_one (s : ByteArray) (r : List UInt8) (w : World) (hs : s.data.toList = 1 :: r) :
    Calls Tryz.prog 204 #[.agg #[.string s]] w fun e w' => e = .returned (.int .u64 1) ∧ Below w.heap.size w w' := by
  have hz : 0 < s.size := by have := congrArg List.length hs; simp at this; omega
  have h0 : s[0] = 1 := by
    have : s.data.toList[0]? = some 1 := by rw [hs]; rfl
    have h1 : s.data.toList[0]? = some s[0] := by rw [List.getElem?_eq_getElem (by simpa using hz)]; rfl
    rw [h1] at this; exact Option.some.inj this
  clear hs
  by_cases h : s.size = 34
  · have hb : ((s.size : Int) == 34) = true := beq_iff_eq.2 (by omega)
    have H := Lib.hid h
    clear h
    go_enter Tryz.func204, Tryz.ntmps204
    go_wp2_with fail
    go_ret
    exact ⟨rfl, (Below.refl _ w).alloc (Nat.le_refl _) _⟩
  · have hb : ((s.size : Int) == 34) = false := beq_eq_false_iff_ne.2 (by omega)
    go_enter Tryz.func204, Tryz.ntmps204
    go_wp2_with fail
    go_ret
    exact ⟨rfl, (Below.refl _ w).alloc (Nat.le_refl _) _⟩

set_option maxRecDepth 100000 in
set_option maxHeartbeats 1000000 in
theorem version_zero (s : ByteArray) (r : List UInt8) (w : World) (hs : s.data.toList = 18 :: 32 :: r) (hr : r.length = 32) :
    Calls Tryz.prog 204 #[.agg #[.string s]] w fun e w' => e = .returned (.int .u64 0) ∧ Below w.heap.size w w' := by
  have hz : s.size = 34 := by have := congrArg List.length hs; simp at this; omega
  have hl0 : 0 < s.size := by omega
  have hl1 : 1 < s.size := by omega
  have h0 : s[0] = 18 := by
    have : s.data.toList[0]? = some 18 := by rw [hs]; rfl
    have h1 : s.data.toList[0]? = some s[0] := by rw [List.getElem?_eq_getElem (by simp; omega)]; rfl
    rw [h1] at this; exact Option.some.inj this
  have h2 : s[1] = 32 := by
    have : s.data.toList[1]? = some 32 := by rw [hs]; rfl
    have h1 : s.data.toList[1]? = some s[1] := by rw [List.getElem?_eq_getElem (by simp; omega)]; rfl
    rw [h1] at this; exact Option.some.inj this
  have hb : ((s.size : Int) == 34) = true := beq_iff_eq.2 (by omega)
  clear hs hz
  go_enter Tryz.func204, Tryz.ntmps204
  go_wp2_with fail
  go_ret
  exact ⟨rfl, (Below.refl _ w).alloc (Nat.le_refl _) _⟩

/-- The bytes of an identifier of version 1. -/
def cid1 (codec : Nat) (mh : List UInt8) : List UInt8 := 1 :: (Lib.uvarint codec ++ mh)
theorem cid1_eq (codec : Nat) (mh : List UInt8) : cid1 codec mh = Lib.uvarint 1 ++ (Lib.uvarint codec ++ mh) := by rw [Lib.uvarint_small (by omega)]; rfl
theorem cid1_length (codec : Nat) (mh : List UInt8) : (cid1 codec mh).length = 1 + (Lib.uvarint codec).length + mh.length := by simp [cid1]; omega

set_option maxRecDepth 100000 in
set_option maxHeartbeats 1000000 in
theorem hash_one (s : ByteArray) (codec : Nat) (mh : List UInt8) (w : World) (hs : s.data.toList = cid1 codec mh) (hm : 0 < mh.length) (hm2 : mh.length ≤ 2147483700) (hc : codec < 9223372036854775808) :
    Calls Tryz.prog 188 #[.agg #[.string s]] w fun e w' => ∃ g o c, e = .returned (.slice (some ⟨g, o, none⟩) mh.length c) ∧ w.heap.size ≤ g ∧ g < w'.heap.size ∧ mh.length ≤ c ∧ Seg w' g o mh ∧ Below w.heap.size w w' := by
  have hz : s.size = (cid1 codec mh).length := by rw [← hs]; simp
  rw [cid1_length] at hz
  have hlu := Lib.uvarint_length64 (x := codec) (by omega)
  have hpu := Lib.uvarint_pos codec
  have HD := Lib.hid (fun W => bytes_yes s W (by rw [hs]; simp [cid1]))
  have HV := Lib.hid (fun W => version_one s (Lib.uvarint codec ++ mh) W hs)
  have HS := Lib.hid hs
  have HC := Lib.hid hc
  have HZ := Lib.hid hz
  have hz1 : 2 < s.size := by omega
  have hz2 : s.size ≤ 2147483800 := by omega
  have hz3 : 1 + (Lib.uvarint codec).length < s.size := by omega
  clear hs hz hc
  go_enter Tryz.func188, Tryz.ntmps188
  go_wp2_with fail
  refine (HD.out _).mono ?_
  rintro e w1 ⟨g, c, rfl, hg, hcap, hseg, hB1⟩
  simp at hg
  have hc0 := hB1.cell (p := ⟨w.heap.size, 0, none⟩) (by simp)
  simp [go_sem] at hc0
  have HB := Lib.hid hB1
  have HG := Lib.hid hseg
  have hgz : g < w1.heap.size := hseg.lt (by simp; omega)
  clear hB1 hseg
  go_wp2_with fail
  refine (HV.out _).mono ?_
  rintro e w2 ⟨rfl, hB2⟩
  have HB2 := Lib.hid hB2
  have HG2 := Lib.hid (HG.out.below hB2 hgz)
  clear hB2
  have HS2 : Hid (Seg w2 g 0 (Lib.uvarint 1 ++ (Lib.uvarint codec ++ mh))) := by show Seg _ _ _ _; rw [← cid1_eq, ← HS.out]; exact HG2.out
  go_wp2_with fail
  refine (fromUvarint_ok 1 g 0 s.size c w2 (by omega) (by rw [Lib.uvarint_small (by omega)]; simp; omega) HS2.out.left).mono ?_
  rintro e w' ⟨rfl, rfl⟩
  rw [show (Lib.uvarint 1).length = 1 from by rw [Lib.uvarint_small (by omega)]; rfl]
  have hc1 : ¬ c = 1 := by omega
  go_wp2_with fail
  refine (fromUvarint_ok codec g 1 (s.size - 1) (c - 1) w2 HC.out (by omega) ?_).mono ?_
  · have := HS2.out.right.left
    rw [show (Lib.uvarint 1).length = 1 from by rw [Lib.uvarint_small (by omega)]; rfl] at this
    exact this
  rintro e w' ⟨rfl, rfl⟩
  have hc2 : ¬ c = 1 + (Lib.uvarint codec).length := by omega
  go_wp2_with fail
  go_ret
  have e : s.size - (1 + (Lib.uvarint codec).length) = mh.length := by have := HZ.out; omega
  refine ⟨g, 1 + (Lib.uvarint codec).length, c - (1 + (Lib.uvarint codec).length), by rw [← e]; rfl, by omega, Nat.lt_of_lt_of_le hgz HB2.out.size, by omega, ?_, ?_⟩
  · have h3 := HS2.out.right.right
    exact h3.cast (by rw [Lib.uvarint_small (by omega)]; simp)
  · exact (((Below.refl _ w).alloc (Nat.le_refl _) _).trans (HB.out.mono (by simp))).trans (HB2.out.mono (by have := HB.out.size; simp at this; omega))

set_option maxRecDepth 100000 in
set_option maxHeartbeats 1000000 in
theorem hash_zero (s : ByteArray) (r : List UInt8) (w : World) (hs : s.data.toList = 18 :: 32 :: r) (hr : r.length = 32) :
    Calls Tryz.prog 188 #[.agg #[.string s]] w fun e w' => ∃ g o c, e = .returned (.slice (some ⟨g, o, none⟩) s.data.toList.length c) ∧ w.heap.size ≤ g ∧ g < w'.heap.size ∧ s.data.toList.length ≤ c ∧ Seg w' g o s.data.toList ∧ Below w.heap.size w w' := by
  have hz : s.size = s.data.toList.length := by simp
  have HD := Lib.hid (fun W => bytes_yes s W (by rw [hs]; simp))
  have HV := Lib.hid (fun W => version_zero s r W hs hr)
  have hp : 0 < s.data.toList.length := by rw [hs]; simp
  clear hs hr
  rw [← hz]
  clear hz
  go_enter Tryz.func188, Tryz.ntmps188
  go_wp2_with fail
  refine (HD.out _).mono ?_
  rintro e w1 ⟨g, c, rfl, hg, hcap, hseg, hB1⟩
  simp at hg
  have hc0 := hB1.cell (p := ⟨w.heap.size, 0, none⟩) (by simp)
  simp [go_sem] at hc0
  have HB := Lib.hid hB1
  have HG := Lib.hid hseg
  have hgz : g < w1.heap.size := hseg.lt (by simpa using hp)
  clear hB1 hseg
  go_wp2_with fail
  refine (HV.out _).mono ?_
  rintro e w2 ⟨rfl, hB2⟩
  have HB2 := Lib.hid hB2
  clear hB2
  go_wp2_with fail
  go_ret
  refine ⟨g, 0, c, rfl, by omega, Nat.lt_of_lt_of_le hgz HB2.out.size, by omega, HG.out.below HB2.out hgz, ?_⟩
  exact (((Below.refl _ w).alloc (Nat.le_refl _) _).trans (HB.out.mono (by simp))).trans (HB2.out.mono (by have := HB.out.size; simp at this; omega))

/-- The bytes of an identifier's string: of version 0 its multihash, of version 1 more. -/
def IsCid (l : List UInt8) (code : Nat) (d : List UInt8) : Prop :=
  code < 9223372036854775808 ∧ d.length ≤ 2147483647 ∧ ((l = mhB code d ∧ code = 18 ∧ d.length = 32) ∨ ∃ codec, codec < 9223372036854775808 ∧ l = cid1 codec (mhB code d))

theorem mhB_v0 (d : List UInt8) (h : d.length = 32) : mhB 18 d = 18 :: 32 :: d := by rw [mhB, h, Lib.uvarint_small (by omega), Lib.uvarint_small (by omega)]; rfl
theorem mhB_pos (code : Nat) (d : List UInt8) : 2 ≤ (mhB code d).length := by
  have := Lib.uvarint_pos code
  have := Lib.uvarint_pos d.length
  rw [mhB_length]; omega

theorem hash_any (s : ByteArray) (code : Nat) (d : List UInt8) (w : World) (hs : IsCid s.data.toList code d) :
    Calls Tryz.prog 188 #[.agg #[.string s]] w fun e w' => ∃ g o c, e = .returned (.slice (some ⟨g, o, none⟩) (mhB code d).length c) ∧ w.heap.size ≤ g ∧ g < w'.heap.size ∧ (mhB code d).length ≤ c ∧ Seg w' g o (mhB code d) ∧ Below w.heap.size w w' := by
  obtain ⟨h1, h2, h3 | ⟨codec, h3, h4⟩⟩ := hs
  · obtain ⟨h3, rfl, h5⟩ := h3
    have h := hash_zero s d w (by rw [h3, mhB_v0 d h5]) h5
    rw [h3] at h
    exact h
  · refine hash_one s codec (mhB code d) w h4 (by have := mhB_pos code d; omega) ?_ h3
    have a := Lib.uvarint_length64 (x := code) (by omega)
    have b := Lib.uvarint_length64 (x := d.length) (by omega)
    rw [mhB_length]; omega

set_option maxRecDepth 100000 in
set_option maxHeartbeats 1000000 in
theorem tryV0_ok (b o c : Nat) (d : List UInt8) (w : World) (hd : d.length = 32) (hnc : 34 ≤ c) (hs : Seg w b o (mhB 18 d)) (hb : b < w.heap.size) :
    Calls Tryz.prog 102 #[.slice (some ⟨b, o, none⟩) 34 c] w fun e w' => e = .returned (.tuple #[.agg #[.string (str (mhB 18 d))], .nilIface]) ∧ Below w.heap.size w w' := by
  have hl : (mhB 18 d).length = 34 := by rw [mhB_v0 d hd]; simp; omega
  have HD := Lib.hid (fun W hg hb => decodeP_ok 18 b o 34 c d W (by omega) (by omega) hl.symm hnc hg hb)
  have HS := Lib.hid hs
  have HL := Lib.hid hl
  have HDL := Lib.hid hd
  clear hs hl hd
  go_enter Tryz.func102, Tryz.ntmps102
  go_wp2_with fail
  refine (HD.out _ (HS.out.alloc hb _) (by simp; omega)).mono ?_
  rintro e w1 ⟨A, C, k, rfl, hk, hblk, hdg, hB1⟩
  have h0 := hblk.cell 0
  have h2 := hblk.cell 2
  simp [dmh] at h0 h2
  rw [HDL.out] at h2
  have HB := Lib.hid hB1
  have HS1 : Hid (Seg w1 b o (mhB 18 d)) := (HS.out.alloc hb _).below hB1 (by simp; omega)
  have hk1 : Blk w1 w.heap.size 78 #[.string ByteArray.empty] := (Blk.new _ _ _).below hB1 (by simp)
  have hc0 := hk1.cell 0
  have hf0 := hk1.frozen 0
  simp at hc0
  have HK := Lib.hid hk1
  have hcv := run_convert_seg (P := Tryz.prog) (src := 116) (e := 5) (dst := 9) Tryz.underlying116 Tryz.underlying5 Tryz.underlying9 c HS1.out
  rw [HL.out] at hcv
  clear hB1 hblk hdg hk1
  go_wp2_with fail
  refine bodyPost_ret (results_row_tmp rfl _ (HK.out.fill1) rfl Tryz.underlying78 rfl (by kernel_rfl)) rfl ⟨rfl, ?_⟩
  exact (((Below.refl _ w).alloc (Nat.le_refl _) _).trans (HB.out.mono (by simp))).setCell (Nat.le_refl _) _

set_option maxRecDepth 100000 in
set_option maxHeartbeats 1000000 in
theorem newV0_ok (b o c : Nat) (d : List UInt8) (w : World) (hd : d.length = 32) (hnc : 34 ≤ c) (hs : Seg w b o (mhB 18 d)) (hb : b < w.heap.size) :
    Calls Tryz.prog 63 #[.slice (some ⟨b, o, none⟩) 34 c] w fun e w' => e = .returned (.agg #[.string (str (mhB 18 d))]) ∧ Below w.heap.size w w' := by
  have HD := Lib.hid (fun W hg hb => tryV0_ok b o c d W hd hnc hg hb)
  have HS := Lib.hid hs
  clear hs hd
  go_enter Tryz.func63, Tryz.ntmps63
  go_wp2_with fail
  refine (HD.out _ (HS.out.alloc hb _) (by simp; omega)).mono ?_
  rintro e w1 ⟨rfl, hB1⟩
  have HB := Lib.hid hB1
  have hk1 : Blk w1 w.heap.size 78 #[.string ByteArray.empty] := (Blk.new _ _ _).below hB1 (by simp)
  have hc0 := hk1.cell 0
  have hf0 := hk1.frozen 0
  simp at hc0
  have hlt := hk1.lt
  have HK := Lib.hid hk1
  clear hB1 hk1
  go_wp2_with fail
  refine bodyPost_ret (results_row rfl _ ((HK.out.fill1).alloc _) rfl Tryz.underlying78 rfl (by kernel_rfl)) rfl ⟨rfl, ?_⟩
  exact ((((Below.refl _ w).alloc (Nat.le_refl _) _).trans (HB.out.mono (by simp))).setCell (p := ⟨w.heap.size, 0, none⟩) (Nat.le_refl _) _).alloc (by simp [World.setCell]; omega) _
end Go.Proofs.YtcgggcjmmphldaaGreatDoor
namespace Go.Proofs.YtcgggcjmmphldaaGreatDoor
open Go.RowKit

set_option maxRecDepth 100000 in
theorem copyCheck_used (b : Nat) (w : World) (h0 : w.cell? ⟨b, 0, none⟩ = some (.pointer (some ⟨b, 0, none⟩))) :
    Calls Tryz.prog 123 #[.pointer (some ⟨b, 0, none⟩)] w fun e w' => e = .returned (.tuple #[]) ∧ w = w' := by
  obtain ⟨j, hj, _⟩ := Option.map_eq_some_iff.1 (show (Tryz.prog.info? 181).map (fun i => i.size) = some 2 by kernel_rfl)
  have hne := fun W => Lib.run_neq_ptr_same (P := Tryz.prog) W ⟨b, 0, none⟩ Tryz.underlying179 hj
  go_enter Tryz.func123, Tryz.ntmps123
  go_wp2
  go_end0
  exact ⟨rfl, rfl⟩

set_option maxRecDepth 100000 in
set_option maxHeartbeats 1000000 in
theorem bldWriteByte (B b : Nat) (bs : List Value) (c : Int) (w : World) (h : Lib.BuilderAt 181 5 B b (.pointer (some ⟨b, 0, none⟩)) bs w) (hlen : bs.length + 1 ≤ 140737488355328) (hBw : B ≤ w.heap.size) :
    Calls Tryz.prog 104 #[.pointer (some ⟨b, 0, none⟩), .int .u8 c] w fun e w' => e = .returned .nilIface ∧ Lib.BuilderAt 181 5 B b (.pointer (some ⟨b, 0, none⟩)) (bs ++ [.int .u8 c]) w' ∧ Below B w w' := by
  obtain ⟨i0, hi, hz0, hz1, hz2⟩ := info_parts Tryz.infoByte
  have hlt := h.lt
  have c0 := h.cell0
  obtain ⟨hB, v, hbk, hown, hne⟩ := h
  have c1 : w.cell? ⟨b, 1, none⟩ = some v := by rw [Lib.cell_of_heap hbk]; rfl
  have HBK := Lib.hid hbk
  have HO := Lib.hid hown
  have HNE := Lib.hid hne
  clear hbk hown hne
  go_enter Tryz.func104, Tryz.ntmps104
  go_wp2_with fail
  refine (copyCheck_used b w c0).mono ?_
  rintro e w' ⟨rfl, rfl⟩
  go_wp2_with (at_builtin; refine wpList_append_own _ rfl _ _ 46 rfl B 5 i0 (.int .u8 0) 1 1 Tryz.underlying46 hi hz0 hz1 hz2 rfl (by decide) _ _ _ rfl (HO.out.alloc _) ⟨w.heap.size, 0, none⟩ 1 1 [.int .u8 c] rfl rfl ?c1 ?c2 ?c3 ?c4 ?c5 ?_)
  case c1 =>
    intro j u hj
    match j, hj with
    | 0, hj => simp at hj; subst hj; simp [Addr.add]
  case c2 => intro u hu; simp at hu; subst hu; rfl
  case c3 => unfold maxLen; omega
  case c4 => omega
  case c5 => simp; omega
  intro v' w2 hown' hgrow _
  have hb2 : w2.heap[b]? = some (.cells #[.pointer (some ⟨b, 0, none⟩), v] 181 (0, 0)) := by
    rw [hgrow.block b (by simp; omega) (fun e => HNE.out e.symm), Lib.alloc_old w _ b hlt]
    exact HBK.out
  have d0 : w2.cell? ⟨b, 0, none⟩ = some (.pointer (some ⟨b, 0, none⟩)) := by rw [Lib.cell_of_heap hb2]; rfl
  have d1 : w2.cell? ⟨b, 1, none⟩ = some v := by rw [Lib.cell_of_heap hb2]; rfl
  have f1 : w2.frozen? ⟨b, 1, none⟩ = false := Lib.frozen_of_heap hb2 1
  obtain ⟨g, cap, rfl⟩ : ∃ g cap, v' = .slice (some ⟨g, 0, none⟩) (bs.length + 1) cap := by
    rcases hown'.2 with ⟨_, h0⟩ | ⟨g, cap, cur, hv, _⟩
    · omega
    · exact ⟨g, cap, hv⟩
  have HB2 := Lib.hid hb2
  have HOW := Lib.hid hown'
  have HGR := Lib.hid hgrow
  clear hb2 hown' hgrow
  go_wp2_with fail
  go_ret
  refine ⟨rfl, ?_, ?_⟩
  · exact Lib.BuilderAt.put (T := 181) (e := 5) hB HB2.out (bs' := bs ++ [.int .u8 c]) (by simpa using HOW.out) (by decide)
  · exact ((((Below.refl B w).alloc hBw _).grown HGR.out (by simp; omega) (fun k hk => (HO.out.lt k hk).1))).setCell (p := ⟨b, 1, none⟩) hB _

set_option maxRecDepth 100000 in
set_option maxHeartbeats 1000000 in
theorem bldWrite (B b : Nat) (bs : List Value) (sb so sc n : Nat) (l : List UInt8) (w : World) (h : Lib.BuilderAt 181 5 B b (.pointer (some ⟨b, 0, none⟩)) bs w) (hn : l.length = n) (hlen : bs.length + n ≤ 140737488355328) (hp : 0 < n) (hBw : B ≤ w.heap.size) (hs : Seg w sb so l) :
    Calls Tryz.prog 105 #[.pointer (some ⟨b, 0, none⟩), .slice (some ⟨sb, so, none⟩) n sc] w fun e w' => e = .returned (.tuple #[.int .i64 n, .nilIface]) ∧ Lib.BuilderAt 181 5 B b (.pointer (some ⟨b, 0, none⟩)) (bs ++ Lib.byteCells l) w' ∧ Below B w w' := by
  obtain ⟨i0, hi, hz0, hz1, hz2⟩ := info_parts Tryz.infoByte
  have hlt := h.lt
  have c0 := h.cell0
  obtain ⟨hB, v, hbk, hown, hne⟩ := h
  have c1 : w.cell? ⟨b, 1, none⟩ = some v := by rw [Lib.cell_of_heap hbk]; rfl
  have HBK := Lib.hid hbk
  have HO := Lib.hid hown
  have HNE := Lib.hid hne
  have HS := Lib.hid hs
  have HN := Lib.hid hn
  clear hbk hown hne hs hn
  go_enter Tryz.func105, Tryz.ntmps105
  go_wp2_with fail
  refine (copyCheck_used b w c0).mono ?_
  rintro e w' ⟨rfl, rfl⟩
  go_wp2_with (at_builtin; refine wpList_append_own _ rfl _ _ 46 rfl B 5 i0 (.int .u8 0) 1 1 Tryz.underlying46 hi hz0 hz1 hz2 rfl (by decide) _ _ _ rfl HO.out ⟨sb, so, none⟩ n sc (Lib.byteCells l) rfl ?c0 ?c1 ?c2 ?c3 ?c4 ?c5 ?_)
  case c0 => rw [Lib.byteCells_length, HN.out, Nat.mul_one]
  case c1 => exact HS.out.cells
  case c2 => exact byteCells_one l
  case c3 => unfold maxLen; omega
  case c4 => omega
  case c5 => omega
  intro v' w2 hown' hgrow _
  have hb2 : w2.heap[b]? = some (.cells #[.pointer (some ⟨b, 0, none⟩), v] 181 (0, 0)) := by
    rw [hgrow.block b hlt (fun e => HNE.out e.symm)]
    exact HBK.out
  have d0 : w2.cell? ⟨b, 0, none⟩ = some (.pointer (some ⟨b, 0, none⟩)) := by rw [Lib.cell_of_heap hb2]; rfl
  have d1 : w2.cell? ⟨b, 1, none⟩ = some v := by rw [Lib.cell_of_heap hb2]; rfl
  have f1 : w2.frozen? ⟨b, 1, none⟩ = false := Lib.frozen_of_heap hb2 1
  obtain ⟨g, cap, rfl⟩ : ∃ g cap, v' = .slice (some ⟨g, 0, none⟩) (bs.length + n) cap := by
    rcases hown'.2 with ⟨_, h0⟩ | ⟨g, cap, cur, hv, _⟩
    · omega
    · exact ⟨g, cap, hv⟩
  have HB2 := Lib.hid hb2
  have HOW := Lib.hid hown'
  have HGR := Lib.hid hgrow
  clear hb2 hown' hgrow
  go_wp2_with fail
  go_ret2
  refine ⟨rfl, ?_, ?_⟩
  · refine Lib.BuilderAt.put (T := 181) (e := 5) hB HB2.out (bs' := bs ++ Lib.byteCells l) ?_ (by decide)
    have h := HOW.out
    rw [← HN.out] at h ⊢
    simpa [Lib.byteCells_length] using h
  · exact ((Below.refl B w).grown HGR.out hBw (fun k hk => (HO.out.lt k hk).1)).setCell (p := ⟨b, 1, none⟩) hB _
end Go.Proofs.YtcgggcjmmphldaaGreatDoor
namespace Go.Proofs.YtcgggcjmmphldaaGreatDoor
open Go.RowKit

theorem ownsRow_below {w w' : World} {B e size n : Nat} {v : Value} {xs : List Value} (h : w.ownsRow B e size v n xs) (hb : Below w.heap.size w w') : w'.ownsRow B e size v n xs := by
  refine ⟨h.1, ?_⟩
  rcases h.2 with hn | ⟨g, cap, cur, rfl, hg, hgg, rest⟩
  · exact .inl hn
  · exact .inr ⟨g, cap, cur, rfl, hg, by rw [hb.block g (Array.getElem?_eq_some_iff.1 hgg).1]; exact hgg, rest⟩
theorem builder_below {w w' : World} {T e B b : Nat} {p : Value} {bs : List Value} (h : Lib.BuilderAt T e B b p bs w) (hb : Below w.heap.size w w') : Lib.BuilderAt T e B b p bs w' := by
  have hlt := h.lt
  obtain ⟨hB, v, hbk, hown, hne⟩ := h
  exact ⟨hB, v, by rw [hb.block b hlt]; exact hbk, ownsRow_below hown hb, hne⟩

set_option maxRecDepth 100000 in
set_option maxHeartbeats 1000000 in
theorem newV1_ok (codec b o c n : Nat) (mh : List UInt8) (w : World) (hx : codec < 18446744073709551616) (hn : mh.length = n) (hp : 0 < n) (hm : n ≤ 2147483700) (hs : Seg w b o mh) :
    Calls Tryz.prog 64 #[.int .u64 codec, .slice (some ⟨b, o, none⟩) n c] w fun e w' => e = .returned (.agg #[.string (str (cid1 codec mh))]) ∧ Below w.heap.size w w' := by
  have hlu := Lib.uvarint_length64 hx
  have hpu := Lib.uvarint_pos codec
  have hbw : b < w.heap.size := hs.lt (by omega)
  obtain ⟨i0, hi, _, _, _⟩ := info_parts Tryz.infoByte
  have HX := Lib.hid hx
  have HN := Lib.hid hn
  have HS := Lib.hid hs
  clear hx hn hs
  go_enter Tryz.func64, Tryz.ntmps64
  go_wp2_with fail
  refine (uvarintSize_any codec _ HX.out).mono ?_
  rintro e w' ⟨rfl, rfl⟩
  go_wp2_with fail
  rw [show (1 : Int) + ((Lib.uvarint codec).length : Int) + (n : Int) = ((1 + (Lib.uvarint codec).length + n : Nat) : Int) from by omega]
  refine (Tryz.Builder_Grow_fresh (w.heap.size + 1) (w.heap.size + 1) (1 + (Lib.uvarint codec).length + n) _ (Nat.le_refl _) ?_ (by simp) (by omega)).mono ?_
  · have h := Blk.new (w.alloc (.cells #[Value.string ByteArray.empty] 78)) 181 #[Value.pointer none, Value.slice none 0 0]
    have e : (w.alloc (.cells #[Value.string ByteArray.empty] 78)).heap.size = w.heap.size + 1 := by simp
    rw [e] at h
    exact h
  rintro e w1 ⟨rfl, hbd1, hB1⟩
  have hz1 := hB1.size
  simp at hz1
  have HB1 := Lib.hid hB1
  have HBD1 := Lib.hid hbd1
  clear hbd1 hB1
  go_wp2_with fail
  refine (bldWriteByte _ _ _ 1 _ HBD1.out (by simp) (by omega)).mono ?_
  rintro e w2 ⟨rfl, hbd2, hB2⟩
  have hz2 := hB2.size
  have HB2 := Lib.hid hB2
  have HBD2 := Lib.hid hbd2
  clear hbd2 hB2
  go_wp2_with fail
  have hlX : (Lib.uvarint codec).length + (10 - (Lib.uvarint codec).length) = 10 := by omega
  refine (putUvarint_blk w2.heap.size 0 10 10 codec 184 [] (zeroBytes (Lib.uvarint codec).length) (zeroBytes (10 - (Lib.uvarint codec).length)) HX.out _ (by omega) rfl (zeroBytes_length _) ?_).mono ?_
  · rw [List.nil_append, ← zeroBytes_append, hlX]
    exact Blk.new w2 184 _
  rintro e w3 ⟨rfl, hb3, hg3, hz3⟩
  simp at hz3
  have hB3 : Below w2.heap.size w2 w3 := below_of_grown ((Below.refl _ w2).alloc (Nat.le_refl _) _) hg3 (by simp) (Nat.le_refl _)
  have HBD3 := Lib.hid (builder_below HBD2.out hB3)
  have hS3 : Seg w3 w2.heap.size 0 (Lib.uvarint codec) := by
    rw [List.nil_append] at hb3
    exact hb3.seg
  have HB3 := Lib.hid hB3
  have HS3 := Lib.hid hS3
  clear hb3 hg3 hB3 hS3 hlX
  have hsl := run_sliceAt_arr (P := Tryz.prog) Tryz.underlying184 hi w2.heap.size 0 (Lib.uvarint codec).length (by omega) w3
  go_wp2_with fail
  refine (bldWrite (w.heap.size + 1) _ _ _ _ _ _ (Lib.uvarint codec) _ HBD3.out rfl (by simp; omega) (by omega) (by omega) HS3.out).mono ?_
  rintro e w4 ⟨rfl, hbd4, hB4⟩
  have hz4 := hB4.size
  have HB4 := Lib.hid hB4
  have HBD4 := Lib.hid hbd4
  have HB14 := Lib.hid ((((HB1.out.trans HB2.out).trans (HB3.out.mono (by omega))).trans HB4.out))
  have HS4 : Hid (Seg w4 b o mh) := by
    show Seg _ _ _ _
    refine Seg.below (B := w.heap.size + 1) (w := ((w.alloc (.cells #[Value.string ByteArray.empty] 78)).alloc (.cells #[Value.pointer none, Value.slice none 0 0] 181))) ?_ HB14.out (by omega)
    exact (HS.out.alloc hbw _).alloc (by simp; omega) _
  clear hbd4 hB4
  go_wp2_with fail
  refine (bldWrite (w.heap.size + 1) _ _ _ _ _ n mh _ HBD4.out HN.out (by simp [Lib.byteCells_length]; omega) hp (by omega) HS4.out).mono ?_
  rintro e w5 ⟨rfl, hbd5, hB5⟩
  have hz5 := hB5.size
  have HB5 := Lib.hid hB5
  have hbs : (([] : List Value) ++ [Value.int .u8 1] ++ Lib.byteCells (Lib.uvarint codec) ++ Lib.byteCells mh) = Lib.byteCells (cid1 codec mh) := by simp [Lib.byteCells, cid1]
  rw [hbs] at hbd5
  have HBD5 := Lib.hid hbd5
  clear hbd5 hB5 hbs
  have hnn : ((n : Int) != (n : Int)) = false := by simp
  go_wp2_with fail
  refine (Tryz.Builder_String_any (w.heap.size + 1) _ (cid1 codec mh) _ (Or.inr HBD5.out) (by omega)).mono ?_
  rintro e w6 ⟨rfl, hB6⟩
  have HB6 := Lib.hid hB6
  have HB16 := Lib.hid ((HB14.out.trans HB5.out).trans HB6.out)
  have hk6 : Blk w6 w.heap.size 78 #[.string ByteArray.empty] := by
    refine Blk.below ?_ HB16.out (by omega)
    exact (Blk.new w _ _).alloc _
  have hc0 := hk6.cell 0
  have hf0 := hk6.frozen 0
  simp at hc0
  have HK := Lib.hid hk6
  clear hB6 hk6
  go_wp2_with fail
  refine bodyPost_ret (results_row rfl _ (HK.out.fill1) rfl Tryz.underlying78 rfl (by kernel_rfl)) rfl ⟨rfl, ?_⟩
  exact ((((Below.refl w.heap.size w).alloc (Nat.le_refl _) _).alloc (by simp) _).trans (HB16.out.mono (by omega))).setCell (p := ⟨w.heap.size, 0, none⟩) (Nat.le_refl _) _
end Go.Proofs.YtcgggcjmmphldaaGreatDoor
namespace Go.Proofs.YtcgggcjmmphldaaGreatDoor
open Go.RowKit

theorem cidIn_idle (p q : Addr) (w : World) :
    CallsD Tryz.prog 61 #[.pointer (some p), .pointer (some q)] .returning w fun e u' w' => e = .returned (.tuple #[]) ∧ u' = .returning ∧ w' = w := by
  refine callsD_of_wpS Tryz.func61 rfl fun c₀ cs hu => ?_
  apply wpS_seq
  apply wpS_region
  simp [wpOpsS, go_sem, recoverD, hu, Tryz.ntmps61, Exit.thenS]
  refine wpS_cond (t := false) (by simp [Act.eval, Array.replicate]) ?_
  simp only [Bool.false_eq_true, if_false]
  refine wpS_of_wp (wp_skip ?_)
  cases c₀
  simp_all [bodyPostS, results, Tryz.results61]

theorem encode_n (b o n c code : Nat) (d : List UInt8) (w : World) (hn : n = d.length) (hd : n ≤ 2147483647) (hc : code < 18446744073709551616) (hs : Seg w b o d) :
    Calls Tryz.prog 62 #[.slice (some ⟨b, o, none⟩) n c, .int .u64 code] w fun e w' =>
      ∃ g, e = .returned (.tuple #[.slice (some ⟨g, 0, none⟩) (mhB code d).length (mhB code d).length, .nilIface]) ∧ w.heap.size ≤ g ∧ Blk w' g 5 (Lib.byteCells (mhB code d)).toArray ∧ Below w.heap.size w w' := by
  subst hn
  exact (encode_any b o c code d w hd hc hs).mono fun e w' ⟨h1, h2, h3⟩ => ⟨_, h1, Nat.le_refl _, h2, h3⟩
theorem seg_bytes (W : World) (s : ByteArray) (c : Nat) (t : TypeId) (fr : Nat × Nat) : Seg (W.alloc (.cells (bytesRow s c) t fr)) W.heap.size 0 s.data.toList := by
  have hh := heap_alloc_new W (.cells (bytesRow s c) t fr)
  rw [← bytesRow_list] at hh
  have hs := Seg.of_bytes hh
  rw [bytesRow_list] at hs
  exact hs

/-- An identifier as a value: version, codec, code, digest. -/
abbrev cidV (ver codec code : Nat) (dg : ByteArray) : Value := .agg #[.int .u64 ver, .int .u64 codec, .int .u64 code, .string dg]

set_option maxRecDepth 100000 in
set_option maxHeartbeats 1000000 in
theorem cidIn_one (codec code : Nat) (dg : ByteArray) (w : World) (hx : codec < 18446744073709551616) (hc : code < 18446744073709551616) (hd : dg.size ≤ 2147483647) :
    Calls Tryz.prog 39 #[cidV 1 codec code dg] w fun e w' => e = .returned (.tuple #[.agg #[.string (str (cid1 codec (mhB code dg.data.toList)))], .bool true]) ∧ Below w.heap.size w w' := by
  have hmf : ∀ (fn : Fn) (first cap : Array Value) (w : World), (Instr.makeFunc fn first cap).run Tryz.prog w = .ok (.func fn first cap) w := fun _ _ _ _ => rfl
  have hcv := fun W => run_bytes_of_string (P := Tryz.prog) W 9 46 5 dg Tryz.underlying9 Tryz.underlying46 Tryz.underlying5
  have hl1 := Lib.uvarint_length64 hc
  have hl2 := Lib.uvarint_length64 (x := dg.data.toList.length) (by simp; omega)
  have hml : (mhB code dg.data.toList).length ≤ 2147483700 := by rw [mhB_length]; simp at hl2 ⊢; omega
  have hmp := mhB_pos code dg.data.toList
  have HX := Lib.hid hx
  have HC := Lib.hid hc
  clear hx hc hl1 hl2
  go_enter_defers Tryz.func39, Tryz.ntmps39
  go_wp2_with fail
  refine (encode_n _ _ _ _ code dg.data.toList _ (by simp) hd HC.out ?_).mono ?_
  · have h := seg_bytes ((((w.alloc (.cells #[Value.int .u64 1, .int .u64 codec, .int .u64 code, .string dg] 25)).alloc (.cells #[Value.string ByteArray.empty] 78)).alloc (.cells #[Value.bool false] 4))) dg
    simp only [size_alloc] at h
    exact (h _ _ _).drew
  rintro e w1 ⟨g, rfl, hg, hb1, hB1⟩
  have hz1 := hB1.size
  simp at hz1 hg
  have hkN : Blk w1 w.heap.size 25 #[.int .u64 1, .int .u64 codec, .int .u64 code, .string dg] := Blk.below ((((((Blk.new w _ _).alloc _).alloc _).alloc _)).drew) hB1 (by simp; omega)
  have hkM : Blk w1 (w.heap.size + 1) 78 #[.string ByteArray.empty] := Blk.below (((((Blk.new' (w.alloc _) _ _ (by simp)).alloc _).alloc _)).drew) hB1 (by simp)
  have hkP : Blk w1 (w.heap.size + 1 + 1) 4 #[.bool false] := Blk.below ((((Blk.new' ((w.alloc _).alloc _) _ _ (by simp)).alloc _)).drew) hB1 (by simp)
  have hBw : Below w.heap.size w w1 := Below.trans (((((Below.refl _ w).alloc (Nat.le_refl _) _).alloc (by simp) _).alloc (by simp; omega) _).alloc (by simp; omega) _).drew (hB1.mono (by simp; omega))
  have hgz := hb1.lt
  have HS := Lib.hid hb1.seg'
  have HM := Lib.hid hkM
  have HP := Lib.hid hkP
  have HB := Lib.hid hBw
  have c0 := hkN.cell 0
  have c1 := hkN.cell 1
  simp at c0 c1
  clear hB1 hb1 hkM hkP hBw hkN hcv
  go_wp2_with fail
  refine (newV1_ok codec g 0 _ _ (mhB code dg.data.toList) w1 HX.out rfl (by omega) hml HS.out).mono ?_
  rintro e w2 ⟨rfl, hB2⟩
  have hkM2 := HM.out.below hB2 (by omega)
  have hkP2 := HP.out.below hB2 (by omega)
  have m0 := hkM2.cell 0
  have mf0 := hkM2.frozen 0
  have p0 := hkP2.cell 0
  have pf0 := hkP2.frozen 0
  simp at m0 p0
  have HB2 := Lib.hid (HB.out.trans (hB2.mono (by omega)))
  have HM2 := Lib.hid hkM2
  have HP2 := Lib.hid hkP2
  clear hB2 hkM2 hkP2 c0 c1
  go_wp2_with fail
  refine leaves_cons (f := 61) (args := #[.pointer (some ⟨w.heap.size + 1, 0, none⟩), .pointer (some ⟨w.heap.size + 1 + 1, 0, none⟩)]) (by simp) (by simp [go_sem]) ?_
  refine (cidIn_idle _ _ _).mono ?_
  rintro e u' w'' ⟨rfl, rfl, rfl⟩
  have hA : Blk ((w2.setCell ⟨w.heap.size + 1, 0, none⟩ (.string (str (cid1 codec (mhB code dg.data.toList))))).setCell ⟨w.heap.size + 1 + 1, 0, none⟩ (.bool true)) (w.heap.size + 1) 78 #[.string (str (cid1 codec (mhB code dg.data.toList)))] :=
    (HM2.out.fill1).far (p := ⟨w.heap.size + 1 + 1, 0, none⟩) (by simp) _
  have hP : Blk ((w2.setCell ⟨w.heap.size + 1, 0, none⟩ (.string (str (cid1 codec (mhB code dg.data.toList))))).setCell ⟨w.heap.size + 1 + 1, 0, none⟩ (.bool true)) (w.heap.size + 1 + 1) 4 #[.bool true] :=
    (HP2.out.far (p := ⟨w.heap.size + 1, 0, none⟩) (by simp) _).fill1
  have hb1 : Below w.heap.size w ((w2.setCell ⟨w.heap.size + 1, 0, none⟩ (.string (str (cid1 codec (mhB code dg.data.toList))))).setCell ⟨w.heap.size + 1 + 1, 0, none⟩ (.bool true)) :=
    (HB2.out.setCell (p := ⟨w.heap.size + 1, 0, none⟩) (by simp) _).setCell (p := ⟨w.heap.size + 1 + 1, 0, none⟩) (by simp; omega) _
  exact ⟨_, results_row_one rfl _ hA hP rfl rfl Tryz.underlying78 rfl (by kernel_rfl) Tryz.underlying4 rfl, rfl, hb1⟩

set_option maxRecDepth 100000 in
set_option maxHeartbeats 1000000 in
theorem cidIn_zero (dg : ByteArray) (w : World) (hdl : dg.data.toList.length = 32) :
    Calls Tryz.prog 39 #[cidV 0 112 18 dg] w fun e w' => e = .returned (.tuple #[.agg #[.string (str (mhB 18 dg.data.toList))], .bool true]) ∧ Below w.heap.size w w' := by
  have hmf : ∀ (fn : Fn) (first cap : Array Value) (w : World), (Instr.makeFunc fn first cap).run Tryz.prog w = .ok (.func fn first cap) w := fun _ _ _ _ => rfl
  have hcv := fun W => run_bytes_of_string (P := Tryz.prog) W 9 46 5 dg Tryz.underlying9 Tryz.underlying46 Tryz.underlying5
  have hd : dg.size ≤ 2147483647 := by simp at hdl; omega
  have hml : (mhB 18 dg.data.toList).length = 34 := by rw [mhB_v0 _ hdl]; simp at hdl ⊢; omega
  have HDL := Lib.hid hdl
  have HML := Lib.hid hml
  clear hdl hml
  go_enter_defers Tryz.func39, Tryz.ntmps39
  go_wp2_with fail
  refine (encode_n _ _ _ _ 18 dg.data.toList _ (by simp) hd (by omega) ?_).mono ?_
  · have h := seg_bytes ((((w.alloc (.cells #[Value.int .u64 0, .int .u64 112, .int .u64 18, .string dg] 25)).alloc (.cells #[Value.string ByteArray.empty] 78)).alloc (.cells #[Value.bool false] 4))) dg
    simp only [size_alloc] at h
    exact (h _ _ _).drew
  rw [HML.out]
  rintro e w1 ⟨g, rfl, hg, hb1, hB1⟩
  have hz1 := hB1.size
  simp at hz1 hg
  have hkN : Blk w1 w.heap.size 25 #[.int .u64 0, .int .u64 112, .int .u64 18, .string dg] := Blk.below ((((((Blk.new w _ _).alloc _).alloc _).alloc _)).drew) hB1 (by simp; omega)
  have hkM : Blk w1 (w.heap.size + 1) 78 #[.string ByteArray.empty] := Blk.below (((((Blk.new' (w.alloc _) _ _ (by simp)).alloc _).alloc _)).drew) hB1 (by simp)
  have hkP : Blk w1 (w.heap.size + 1 + 1) 4 #[.bool false] := Blk.below ((((Blk.new' ((w.alloc _).alloc _) _ _ (by simp)).alloc _)).drew) hB1 (by simp)
  have hBw : Below w.heap.size w w1 := Below.trans (((((Below.refl _ w).alloc (Nat.le_refl _) _).alloc (by simp) _).alloc (by simp; omega) _).alloc (by simp; omega) _).drew (hB1.mono (by simp; omega))
  have hgz := hb1.lt
  have HS := Lib.hid hb1.seg'
  have HM := Lib.hid hkM
  have HP := Lib.hid hkP
  have HB := Lib.hid hBw
  have c0 := hkN.cell 0
  have c1 := hkN.cell 1
  simp at c0 c1
  clear hB1 hb1 hkM hkP hBw hkN hcv
  go_wp2_with fail
  have HV := Lib.hid (fun W (hW : Drew w1 W) => newV0_ok g 0 34 dg.data.toList W HDL.out (Nat.le_refl _) (hW.seg HS.out) (by rw [hW.size]; exact hgz))
  have HF := Lib.hid (fun W W2 (hW : Drew w1 W) (hB : Below W.heap.size W W2) => (And.intro ((hW.blk HM.out).below hB (by rw [hW.size]; omega)) (And.intro ((hW.blk HP.out).below hB (by rw [hW.size]; omega)) ((HB.out.trans (hW.below _)).trans (hB.mono (by rw [hW.size]; omega))))))
  refine wp_region_noPanic ?_
  go_region_with (go_at_call 63; refine (HV.out _ (Drew.one w1)).mono ?_; rintro e w2 ⟨rfl, hB2⟩; have HX2 := Lib.hid (HF.out _ _ (Drew.one w1) hB2); have m0 := HX2.out.1.cell 0; have mf0 := HX2.out.1.frozen 0; have p0 := HX2.out.2.1.cell 0; have pf0 := HX2.out.2.1.frozen 0; simp at m0 p0; have cB := bcell hB2; have c1' := hB2.cell (p := ⟨w.heap.size, 1, none⟩) (by simp; omega); simp [c1] at c1'; clear hB2 cB)
  all_goals
    refine NoPanic.normal ?_
    go_wp2_with fail
    refine leaves_cons (f := 61) (args := #[.pointer (some ⟨w.heap.size + 1, 0, none⟩), .pointer (some ⟨w.heap.size + 1 + 1, 0, none⟩)]) (by simp) (by simp [go_sem]) ?_
    refine (cidIn_idle _ _ _).mono ?_
    rintro e u' w'' ⟨rfl, rfl, rfl⟩
    obtain ⟨hM2, hP2, hB2⟩ := HX2.out
    have hA := (hM2.fill1 (a' := .string (str (mhB 18 dg.data.toList)))).far (p := ⟨w.heap.size + 1 + 1, 0, none⟩) (by simp) (.bool true)
    have hP := (hP2.far (p := ⟨w.heap.size + 1, 0, none⟩) (by simp) (.string (str (mhB 18 dg.data.toList)))).fill1 (a' := .bool true)
    have hb1 := (hB2.setCell (p := ⟨w.heap.size + 1, 0, none⟩) (by simp) (.string (str (mhB 18 dg.data.toList)))).setCell (p := ⟨w.heap.size + 1 + 1, 0, none⟩) (by simp; omega) (.bool true)
    exact ⟨_, results_row_one rfl _ hA hP rfl rfl Tryz.underlying78 rfl (by kernel_rfl) Tryz.underlying4 rfl, rfl, hb1⟩
end Go.Proofs.YtcgggcjmmphldaaGreatDoor
namespace Go.Proofs.YtcgggcjmmphldaaGreatDoor
open Go.RowKit

/-- Is it a tidy identifier? -/
def tidyB (ver codec code n : Nat) : Bool := if ver = 0 then (codec == 112 && code == 18 && n == 32) else (ver == 1 && decide (codec < 9223372036854775808) && decide (code < 9223372036854775808))

theorem beqT {a : Nat} {b : Int} (h : (a : Int) = b) : ((a : Int) == b) = true := beq_iff_eq.2 h
theorem beqF {a : Nat} {b : Int} (h : ¬ (a : Int) = b) : ((a : Int) == b) = false := beq_eq_false_iff_ne.2 h

set_option maxRecDepth 100000 in
set_option maxHeartbeats 2000000 in
theorem tidy_any (ver codec code : Nat) (dg : ByteArray) (w : World) :
    Calls Tryz.prog 19 #[cidV ver codec code dg] w fun e w' => e = .returned (.bool (tidyB ver codec code dg.size)) ∧ Below w.heap.size w w' := by
  obtain ⟨B, hB⟩ : ∃ B, B = tidyB ver codec code dg.size := ⟨_, rfl⟩
  rw [← hB]
  have HB := Lib.hid hB
  clear hB
  have cs : (ver = 0 ∧ ¬ codec = 112) ∨ (ver = 0 ∧ codec = 112 ∧ ¬ code = 18) ∨ (ver = 0 ∧ codec = 112 ∧ code = 18 ∧ ¬ dg.size = 32) ∨ (ver = 0 ∧ codec = 112 ∧ code = 18 ∧ dg.size = 32) ∨ (¬ ver = 0 ∧ ¬ ver = 1) ∨
      (ver = 1 ∧ ¬ codec < 9223372036854775808) ∨ (ver = 1 ∧ codec < 9223372036854775808 ∧ ¬ code < 9223372036854775808) ∨ (ver = 1 ∧ codec < 9223372036854775808 ∧ code < 9223372036854775808) := by omega
  rcases cs with ⟨h1, h2⟩ | ⟨h1, h2, h3⟩ | ⟨h1, h2, h3, h4⟩ | ⟨h1, h2, h3, h4⟩ | ⟨h1, h2⟩ | ⟨h1, h2⟩ | ⟨h1, h2, h3⟩ | ⟨h1, h2, h3⟩
  · have a0 := beqT (b := 0) (a := ver) (by omega)
    have a1 := beqF (b := 112) (a := codec) (by omega)
    have H := Lib.hid (And.intro h1 h2)
    clear h1 h2
    go_enter Tryz.func19, Tryz.ntmps19
    go_wp2_with fail
    go_ret
    refine ⟨?_, (Below.refl _ w).alloc (Nat.le_refl _) _⟩
    have := H.out
    rw [HB.out]; simp [tidyB, this]
  · have a0 := beqT (b := 0) (a := ver) (by omega)
    have a1 := beqT (b := 112) (a := codec) (by omega)
    have a2 := beqF (b := 18) (a := code) (by omega)
    have H := Lib.hid (And.intro h1 (And.intro h2 h3))
    clear h1 h2 h3
    go_enter Tryz.func19, Tryz.ntmps19
    go_wp2_with fail
    go_ret
    refine ⟨?_, (Below.refl _ w).alloc (Nat.le_refl _) _⟩
    have := H.out
    rw [HB.out]; simp [tidyB, this]
  · have a0 := beqT (b := 0) (a := ver) (by omega)
    have a1 := beqT (b := 112) (a := codec) (by omega)
    have a2 := beqT (b := 18) (a := code) (by omega)
    have a3 := beqF (b := 32) (a := dg.size) (by omega)
    have H := Lib.hid (And.intro h1 (And.intro h2 (And.intro h3 h4)))
    clear h1 h2 h3 h4
    go_enter Tryz.func19, Tryz.ntmps19
    go_wp2_with fail
    go_ret
    refine ⟨?_, (Below.refl _ w).alloc (Nat.le_refl _) _⟩
    have := H.out
    rw [HB.out]; simp [tidyB, this]
  · have a0 := beqT (b := 0) (a := ver) (by omega)
    have a1 := beqT (b := 112) (a := codec) (by omega)
    have a2 := beqT (b := 18) (a := code) (by omega)
    have a3 := beqT (b := 32) (a := dg.size) (by omega)
    have H := Lib.hid (And.intro h1 (And.intro h2 (And.intro h3 h4)))
    clear h1 h2 h3 h4
    go_enter Tryz.func19, Tryz.ntmps19
    go_wp2_with fail
    go_ret
    refine ⟨?_, (Below.refl _ w).alloc (Nat.le_refl _) _⟩
    have := H.out
    rw [HB.out]; simp [tidyB, this]
  · have a0 := beqF (b := 0) (a := ver) (by omega)
    have a1 := beqF (b := 1) (a := ver) (by omega)
    have H := Lib.hid (And.intro h1 h2)
    clear h1 h2
    go_enter Tryz.func19, Tryz.ntmps19
    go_wp2_with fail
    go_ret
    refine ⟨?_, (Below.refl _ w).alloc (Nat.le_refl _) _⟩
    have := H.out
    rw [HB.out]; simp [tidyB, this]
  · have a0 := beqF (b := 0) (a := ver) (by omega)
    have a1 := beqT (b := 1) (a := ver) (by omega)
    have a2 : ¬ ((codec : Int) < 9223372036854775808) := by omega
    have H := Lib.hid (And.intro h1 h2)
    clear h1 h2
    go_enter Tryz.func19, Tryz.ntmps19
    go_wp2_with fail
    go_ret
    refine ⟨?_, (Below.refl _ w).alloc (Nat.le_refl _) _⟩
    have := H.out
    rw [HB.out]; simp [tidyB, this]
  · have a0 := beqF (b := 0) (a := ver) (by omega)
    have a1 := beqT (b := 1) (a := ver) (by omega)
    have a2 : (codec : Int) < 9223372036854775808 := by omega
    have a3 : ¬ ((code : Int) < 9223372036854775808) := by omega
    have H := Lib.hid (And.intro h1 (And.intro h2 h3))
    clear h1 h2 h3
    go_enter Tryz.func19, Tryz.ntmps19
    go_wp2_with fail
    go_ret
    refine ⟨?_, (Below.refl _ w).alloc (Nat.le_refl _) _⟩
    have := H.out
    rw [HB.out]; simp [tidyB, this]
  · have a0 := beqF (b := 0) (a := ver) (by omega)
    have a1 := beqT (b := 1) (a := ver) (by omega)
    have a2 : (codec : Int) < 9223372036854775808 := by omega
    have a3 : (code : Int) < 9223372036854775808 := by omega
    have H := Lib.hid (And.intro h1 (And.intro h2 h3))
    clear h1 h2 h3
    go_enter Tryz.func19, Tryz.ntmps19
    go_wp2_with fail
    go_ret
    refine ⟨?_, (Below.refl _ w).alloc (Nat.le_refl _) _⟩
    have := H.out
    rw [HB.out]; simp [tidyB, this]

set_option maxRecDepth 100000 in
theorem zzFits1_any (ver codec code : Nat) (dg : ByteArray) (w : World) :
    Calls Tryz.prog 18 #[cidV ver codec code dg] w fun e w' => e = .returned (.bool (decide (dg.size ≤ 2147483647))) ∧ Below w.heap.size w w' := by
  by_cases h : dg.size ≤ 2147483647
  · have h2 : ¬ (2147483647 < (dg.size : Int)) := by omega
    rw [show decide (dg.size ≤ 2147483647) = true from by simpa using h]
    clear h
    go_enter Tryz.func18, Tryz.ntmps18
    go_wp2_with fail
    go_ret
    exact ⟨rfl, (Below.refl _ w).alloc (Nat.le_refl _) _⟩
  · have h2 : (2147483647 < (dg.size : Int)) := by omega
    rw [show decide (dg.size ≤ 2147483647) = false from by simpa using h]
    clear h
    go_enter Tryz.func18, Tryz.ntmps18
    go_wp2_with fail
    go_ret
    exact ⟨rfl, (Below.refl _ w).alloc (Nat.le_refl _) _⟩
end Go.Proofs.YtcgggcjmmphldaaGreatDoor
