/- Identifiers: their bytes, versions, hashes; what is made of a hash. -/
import Derived.Test.YtpipfopddlgakaaDoorDec
import Derived.Defers
import Derived.Recover
namespace Go.Proofs.YtpipfopddlgakaaDoor
open Go.RowKit

/-- The string of some bytes. -/
abbrev str (l : List UInt8) : ByteArray := ⟨l.toArray⟩

theorem run_convert_seg {P : Program} {W : World} {b o : Nat} {l : List UInt8} {src e dst : TypeId} (hs : P.underlying src = some (.slice e)) (he : P.underlying e = some (.int .u8)) (hd : P.underlying dst = some .string) (cap : Nat) (h : Seg W b o l) :
    (convert src dst (.slice (some ⟨b, o, none⟩) l.length cap)).run P W = .ok (.string (str l)) W := by
  have hr := run_convert_bytes_arg W src e hs he b o l.length cap (l.map fun x => (x.toNat : Int)) (by simp) (fun i hi => by
    rw [h i hi]; simp [List.getD, List.getElem?_eq_getElem hi]) dst hd
  rw [hr]
  have : strOfNums (l.map fun x => (x.toNat : Int)) = str l := by
    apply ByteArray.ext
    apply Array.ext'
    rw [strOfNums_data]
    simp [str, Function.comp_def]
  rw [this]

theorem bytesRow_list (s : ByteArray) (c : Nat) : (Lib.byteCells s.data.toList ++ List.replicate (c - s.size) (Value.int .u8 0)).toArray = bytesRow s c := by
  apply Array.ext'
  simp [bytesRow, Lib.byteCells]

set_option maxRecDepth 100000 in
theorem defined_yes (s : ByteArray) (w : World) (hs : s.data.toList ≠ []) :
    Calls Tryd.prog 51 #[.agg #[.string s]] w fun e w' => e = .returned (.bool true) ∧ Below w.heap.size w w' := by
  have hne : ¬ s.toList = [] := by rw [ByteArray.toList_eq]; exact hs
  clear hs
  go_enter Tryd.func51, Tryd.ntmps51
  go_wp2_with fail
  go_ret
  refine ⟨?_, (Below.refl _ w).alloc (Nat.le_refl _) _⟩
  simp [hne]

set_option maxRecDepth 100000 in
theorem bytes_yes (s : ByteArray) (w : World) (hs : s.data.toList ≠ []) :
    Calls Tryd.prog 35 #[.agg #[.string s]] w fun e w' => ∃ g c, e = .returned (.slice (some ⟨g, 0, none⟩) s.size c) ∧ w.heap.size ≤ g ∧ s.size ≤ c ∧ Seg w' g 0 s.data.toList ∧ Below w.heap.size w w' := by
  have HD := Lib.hid (fun W => defined_yes s W hs)
  have hcv := fun W => run_bytes_of_string (P := Tryd.prog) W 9 33 5 s Tryd.underlying9 Tryd.underlying33 Tryd.underlying5
  clear hs
  go_enter Tryd.func35, Tryd.ntmps35
  go_wp2_with fail
  refine (HD.out _).mono ?_
  rintro e w1 ⟨rfl, hB1⟩
  have hc0 := hB1.cell (p := ⟨w.heap.size, 0, none⟩) (by simp)
  simp [go_sem] at hc0
  have HB := Lib.hid hB1
  clear hB1
  go_wp2_with fail
  go_ret
  have hB := HB.out
  have hz := hB.size
  simp at hz
  refine ⟨_, _, rfl, by omega, grownCap_ge _ _ _ _, ?_, ?_⟩
  · have hh := heap_alloc_new w1 (.cells (bytesRow s (grownCap w1 s.size 0 5)) 5 ((bytesRow s (grownCap w1 s.size 0 5)).size, (bytesRow s (grownCap w1 s.size 0 5)).size + 1))
    rw [← bytesRow_list] at hh
    have hs := Seg.drew (Seg.of_bytes hh)
    rw [bytesRow_list] at hs
    exact hs
  · refine Below.drew ((Below.trans ?_ ((hB.mono (by simp)))).alloc (by omega) _)
    exact (Below.refl _ w).alloc (Nat.le_refl _) _

set_option maxRecDepth 100000 in
set_option maxHeartbeats 1000000 in
theorem version_one (s : ByteArray) (r : List UInt8) (w : World) (hs : s.data.toList = 1 :: r) :
    Calls Tryd.prog 36 #[.agg #[.string s]] w fun e w' => e = .returned (.int .u64 1) ∧ Below w.heap.size w w' := by
  have hz : 0 < s.size := by have := congrArg List.length hs; simp at this; omega
  have h0 : s[0] = 1 := by
    have : s.data.toList[0]? = some 1 := by rw [hs]; rfl
    have h1 : s.data.toList[0]? = some s[0] := by rw [List.getElem?_eq_getElem (by simpa using hz)]; rfl
    rw [h1] at this; exact Option.some.inj this
  clear hs
  by_cases h : s.size = 34
  · have hb : ((s.size : Int) == 34) = true := beq_iff_eq.2 (by omega)
    have H := Lib.hid h
    clear h
    go_enter Tryd.func36, Tryd.ntmps36
    go_wp2_with fail
    go_ret
    exact ⟨rfl, (Below.refl _ w).alloc (Nat.le_refl _) _⟩
  · have hb : ((s.size : Int) == 34) = false := beq_eq_false_iff_ne.2 (by omega)
    go_enter Tryd.func36, Tryd.ntmps36
    go_wp2_with fail
    go_ret
    exact ⟨rfl, (Below.refl _ w).alloc (Nat.le_refl _) _⟩

set_option maxRecDepth 100000 in
set_option maxHeartbeats 1000000 in
theorem version_zero (s : ByteArray) (r : List UInt8) (w : World) (hs : s.data.toList = 18 :: 32 :: r) (hr : r.length = 32) :
    Calls Tryd.prog 36 #[.agg #[.string s]] w fun e w' => e = .returned (.int .u64 0) ∧ Below w.heap.size w w' := by
  have hz : s.size = 34 := by have := congrArg List.length hs; simp at this; omega
  have hl0 : 0 < s.size := by omega
  have hl1 : 1 < s.size := by omega
  have h0 : s[0] = 18 := by
    have : s.data.toList[0]? = some 18 := by rw [hs]; rfl
    have h1 : s.data.toList[0]? = some s[0] := by rw [List.getElem?_eq_getElem (by simp; omega)]; rfl
    rw [h1] at this; exact Option.some.inj this
  have h2 : s[1] = 32 := by
    have : s.data.toList[1]? = some 32 := by rw [hs]; rfl
    have h1 : s.data.toList[1]? = some s[1] := by rw [List.getElem?_eq_getElem (by simp; omega)]; rfl
    rw [h1] at this; exact Option.some.inj this
  have hb : ((s.size : Int) == 34) = true := beq_iff_eq.2 (by omega)
  clear hs hz
  go_enter Tryd.func36, Tryd.ntmps36
  go_wp2_with fail
  go_ret
  exact ⟨rfl, (Below.refl _ w).alloc (Nat.le_refl _) _⟩

/-- The bytes of an identifier of version 1. -/
def cid1 (codec : Nat) (mh : List UInt8) : List UInt8 := 1 :: (Lib.uvarint codec ++ mh)
theorem cid1_eq (codec : Nat) (mh : List UInt8) : cid1 codec mh = Lib.uvarint 1 ++ (Lib.uvarint codec ++ mh) := by rw [Lib.uvarint_small (by omega)]; rfl
theorem cid1_length (codec : Nat) (mh : List UInt8) : (cid1 codec mh).length = 1 + (Lib.uvarint codec).length + mh.length := by simp [cid1]; omega

set_option maxRecDepth 100000 in
set_option maxHeartbeats 1000000 in
theorem hash_one (s : ByteArray) (codec : Nat) (mh : List UInt8) (w : World) (hs : s.data.toList = cid1 codec mh) (hm : 0 < mh.length) (hm2 : mh.length ≤ 2147483700) (hc : codec < 9223372036854775808) :
    Calls Tryd.prog 17 #[.agg #[.string s]] w fun e w' => ∃ g o c, e = .returned (.slice (some ⟨g, o, none⟩) mh.length c) ∧ w.heap.size ≤ g ∧ g < w'.heap.size ∧ mh.length ≤ c ∧ Seg w' g o mh ∧ Below w.heap.size w w' := by
  have hz : s.size = (cid1 codec mh).length := by rw [← hs]; simp
  rw [cid1_length] at hz
  have hlu := Lib.uvarint_length64 (x := codec) (by omega)
  have hpu := Lib.uvarint_pos codec
  have HD := Lib.hid (fun W => bytes_yes s W (by rw [hs]; simp [cid1]))
  have HV := Lib.hid (fun W => version_one s (Lib.uvarint codec ++ mh) W hs)
  have HS := Lib.hid hs
  have HC := Lib.hid hc
  have HZ := Lib.hid hz
  have hz1 : 2 < s.size := by omega
  have hz2 : s.size ≤ 2147483800 := by omega
  have hz3 : 1 + (Lib.uvarint codec).length < s.size := by omega
  clear hs hz hc
  go_enter Tryd.func17, Tryd.ntmps17
  go_wp2_with fail
  refine (HD.out _).mono ?_
  rintro e w1 ⟨g, c, rfl, hg, hcap, hseg, hB1⟩
  simp at hg
  have hc0 := hB1.cell (p := ⟨w.heap.size, 0, none⟩) (by simp)
  simp [go_sem] at hc0
  have HB := Lib.hid hB1
  have HG := Lib.hid hseg
  have hgz : g < w1.heap.size := hseg.lt (by simp; omega)
  clear hB1 hseg
  go_wp2_with fail
  refine (HV.out _).mono ?_
  rintro e w2 ⟨rfl, hB2⟩
  have HB2 := Lib.hid hB2
  have HG2 := Lib.hid (HG.out.below hB2 hgz)
  clear hB2
  have HS2 : Hid (Seg w2 g 0 (Lib.uvarint 1 ++ (Lib.uvarint codec ++ mh))) := by show Seg _ _ _ _; rw [← cid1_eq, ← HS.out]; exact HG2.out
  go_wp2_with fail
  refine (fromUvarint_ok 1 g 0 s.size c w2 (by omega) (by rw [Lib.uvarint_small (by omega)]; simp; omega) HS2.out.left).mono ?_
  rintro e w' ⟨rfl, rfl⟩
  rw [show (Lib.uvarint 1).length = 1 from by rw [Lib.uvarint_small (by omega)]; rfl]
  have hc1 : ¬ c = 1 := by omega
  go_wp2_with fail
  refine (fromUvarint_ok codec g 1 (s.size - 1) (c - 1) w2 HC.out (by omega) ?_).mono ?_
  · have := HS2.out.right.left
    rw [show (Lib.uvarint 1).length = 1 from by rw [Lib.uvarint_small (by omega)]; rfl] at this
    exact this
  rintro e w' ⟨rfl, rfl⟩
  have hc2 : ¬ c = 1 + (Lib.uvarint codec).length := by omega
  go_wp2_with fail
  go_ret
  have e : s.size - (1 + (Lib.uvarint codec).length) = mh.length := by have := HZ.out; omega
  refine ⟨g, 1 + (Lib.uvarint codec).length, c - (1 + (Lib.uvarint codec).length), by rw [← e]; rfl, by omega, Nat.lt_of_lt_of_le hgz HB2.out.size, by omega, ?_, ?_⟩
  · have h3 := HS2.out.right.right
    exact h3.cast (by rw [Lib.uvarint_small (by omega)]; simp)
  · exact (((Below.refl _ w).alloc (Nat.le_refl _) _).trans (HB.out.mono (by simp))).trans (HB2.out.mono (by have := HB.out.size; simp at this; omega))

set_option maxRecDepth 100000 in
set_option maxHeartbeats 1000000 in
theorem hash_zero (s : ByteArray) (r : List UInt8) (w : World) (hs : s.data.toList = 18 :: 32 :: r) (hr : r.length = 32) :
    Calls Tryd.prog 17 #[.agg #[.string s]] w fun e w' => ∃ g o c, e = .returned (.slice (some ⟨g, o, none⟩) s.data.toList.length c) ∧ w.heap.size ≤ g ∧ g < w'.heap.size ∧ s.data.toList.length ≤ c ∧ Seg w' g o s.data.toList ∧ Below w.heap.size w w' := by
  have hz : s.size = s.data.toList.length := by simp
  have HD := Lib.hid (fun W => bytes_yes s W (by rw [hs]; simp))
  have HV := Lib.hid (fun W => version_zero s r W hs hr)
  have hp : 0 < s.data.toList.length := by rw [hs]; simp
  clear hs hr
  rw [← hz]
  clear hz
  go_enter Tryd.func17, Tryd.ntmps17
  go_wp2_with fail
  refine (HD.out _).mono ?_
  rintro e w1 ⟨g, c, rfl, hg, hcap, hseg, hB1⟩
  simp at hg
  have hc0 := hB1.cell (p := ⟨w.heap.size, 0, none⟩) (by simp)
  simp [go_sem] at hc0
  have HB := Lib.hid hB1
  have HG := Lib.hid hseg
  have hgz : g < w1.heap.size := hseg.lt (by simpa using hp)
  clear hB1 hseg
  go_wp2_with fail
  refine (HV.out _).mono ?_
  rintro e w2 ⟨rfl, hB2⟩
  have HB2 := Lib.hid hB2
  clear hB2
  go_wp2_with fail
  go_ret
  refine ⟨g, 0, c, rfl, by omega, Nat.lt_of_lt_of_le hgz HB2.out.size, by omega, HG.out.below HB2.out hgz, ?_⟩
  exact (((Below.refl _ w).alloc (Nat.le_refl _) _).trans (HB.out.mono (by simp))).trans (HB2.out.mono (by have := HB.out.size; simp at this; omega))

/-- The bytes of an identifier's string: of version 0 its multihash, of version 1 more. -/
def IsCid (l : List UInt8) (code : Nat) (d : List UInt8) : Prop :=
  code < 9223372036854775808 ∧ d.length ≤ 2147483647 ∧ ((l = mhB code d ∧ code = 18 ∧ d.length = 32) ∨ ∃ codec, codec < 9223372036854775808 ∧ l = cid1 codec (mhB code d))

theorem mhB_v0 (d : List UInt8) (h : d.length = 32) : mhB 18 d = 18 :: 32 :: d := by rw [mhB, h, Lib.uvarint_small (by omega), Lib.uvarint_small (by omega)]; rfl
theorem mhB_pos (code : Nat) (d : List UInt8) : 2 ≤ (mhB code d).length := by
  have := Lib.uvarint_pos code
  have := Lib.uvarint_pos d.length
  rw [mhB_length]; omega

theorem hash_any (s : ByteArray) (code : Nat) (d : List UInt8) (w : World) (hs : IsCid s.data.toList code d) :
    Calls Tryd.prog 17 #[.agg #[.string s]] w fun e w' => ∃ g o c, e = .returned (.slice (some ⟨g, o, none⟩) (mhB code d).length c) ∧ w.heap.size ≤ g ∧ g < w'.heap.size ∧ (mhB code d).length ≤ c ∧ Seg w' g o (mhB code d) ∧ Below w.heap.size w w' := by
  obtain ⟨h1, h2, h3 | ⟨codec, h3, h4⟩⟩ := hs
  · obtain ⟨h3, rfl, h5⟩ := h3
    have h := hash_zero s d w (by rw [h3, mhB_v0 d h5]) h5
    rw [h3] at h
    exact h
  · refine hash_one s codec (mhB code d) w h4 (by have := mhB_pos code d; omega) ?_ h3
    have a := Lib.uvarint_length64 (x := code) (by omega)
    have b := Lib.uvarint_length64 (x := d.length) (by omega)
    rw [mhB_length]; omega

set_option maxRecDepth 100000 in
set_option maxHeartbeats 1000000 in
theorem isIdentity_any (s : ByteArray) (code : Nat) (d : List UInt8) (w : World) (hs : IsCid s.data.toList code d) :
    Calls Tryd.prog 10 #[.agg #[.string s]] w fun e w' => ∃ A C b o, e = .returned (.tuple #[.slice A d.length C, .bool ((code : Int) == 0), .nilIface]) ∧ DgAt A C b o d ∧ Seg w' b o d ∧ Below w.heap.size w w' := by
  have HH := Lib.hid (fun W => hash_any s code d W hs)
  have HD := Lib.hid (fun (b o n c : Nat) W hn hnc hg hb => decodeP_ok code b o n c d W hs.1 hs.2.1 hn hnc hg hb)
  clear hs
  go_enter Tryd.func10, Tryd.ntmps10
  go_wp2_with fail
  refine (HH.out _).mono ?_
  rintro e w1 ⟨g, o, c, rfl, hg, hgz, hcap, hseg, hB1⟩
  have HB := Lib.hid hB1
  have HG := Lib.hid hseg
  clear hB1 hseg
  go_wp2_with fail
  refine (HD.out g o _ c w1 rfl hcap HG.out hgz).mono ?_
  rintro e w2 ⟨A, C, k, rfl, hk, hblk, hdg, hB2⟩
  have h0 := hblk.cell 0
  have h3 := hblk.cell 3
  simp [dmh] at h0 h3
  have HB2 := Lib.hid hB2
  have HDG := Lib.hid hdg
  have hG2 := mhB_dig (HG.out.below hB2 hgz)
  have HG2 := Lib.hid hG2
  clear hB2 hblk hdg hG2
  go_wp2_with fail
  go_ret3
  refine ⟨A, C, g, o + mhO code d, rfl, HDG.out, HG2.out, ?_⟩
  exact (((Below.refl _ w).alloc (Nat.le_refl _) _).trans (HB.out.mono (by simp))).trans (HB2.out.mono (by have := HB.out.size; simp at this; omega))

set_option maxRecDepth 100000 in
set_option maxHeartbeats 1000000 in
theorem tryV0_ok (b o c : Nat) (d : List UInt8) (w : World) (hd : d.length = 32) (hnc : 34 ≤ c) (hs : Seg w b o (mhB 18 d)) (hb : b < w.heap.size) :
    Calls Tryd.prog 29 #[.slice (some ⟨b, o, none⟩) 34 c] w fun e w' => e = .returned (.tuple #[.agg #[.string (str (mhB 18 d))], .nilIface]) ∧ Below w.heap.size w w' := by
  have hl : (mhB 18 d).length = 34 := by rw [mhB_v0 d hd]; simp; omega
  have HD := Lib.hid (fun W hg hb => decodeP_ok 18 b o 34 c d W (by omega) (by omega) hl.symm hnc hg hb)
  have HS := Lib.hid hs
  have HL := Lib.hid hl
  have HDL := Lib.hid hd
  clear hs hl hd
  go_enter Tryd.func29, Tryd.ntmps29
  go_wp2_with fail
  refine (HD.out _ (HS.out.alloc hb _) (by simp; omega)).mono ?_
  rintro e w1 ⟨A, C, k, rfl, hk, hblk, hdg, hB1⟩
  have h0 := hblk.cell 0
  have h2 := hblk.cell 2
  simp [dmh] at h0 h2
  rw [HDL.out] at h2
  have HB := Lib.hid hB1
  have HS1 : Hid (Seg w1 b o (mhB 18 d)) := (HS.out.alloc hb _).below hB1 (by simp; omega)
  have hk1 : Blk w1 w.heap.size 30 #[.string ByteArray.empty] := (Blk.new _ _ _).below hB1 (by simp)
  have hc0 := hk1.cell 0
  have hf0 := hk1.frozen 0
  simp at hc0
  have HK := Lib.hid hk1
  have hcv := run_convert_seg (P := Tryd.prog) (src := 47) (e := 5) (dst := 9) Tryd.underlying47 Tryd.underlying5 Tryd.underlying9 c HS1.out
  rw [HL.out] at hcv
  clear hB1 hblk hdg hk1
  go_wp2_with fail
  refine bodyPost_ret (results_row_tmp rfl _ (HK.out.fill1) rfl Tryd.underlying30 rfl (by kernel_rfl)) rfl ⟨rfl, ?_⟩
  exact (((Below.refl _ w).alloc (Nat.le_refl _) _).trans (HB.out.mono (by simp))).setCell (Nat.le_refl _) _

set_option maxRecDepth 100000 in
set_option maxHeartbeats 1000000 in
theorem newV0_ok (b o c : Nat) (d : List UInt8) (w : World) (hd : d.length = 32) (hnc : 34 ≤ c) (hs : Seg w b o (mhB 18 d)) (hb : b < w.heap.size) :
    Calls Tryd.prog 14 #[.slice (some ⟨b, o, none⟩) 34 c] w fun e w' => e = .returned (.agg #[.string (str (mhB 18 d))]) ∧ Below w.heap.size w w' := by
  have HD := Lib.hid (fun W hg hb => tryV0_ok b o c d W hd hnc hg hb)
  have HS := Lib.hid hs
  clear hs hd
  go_enter Tryd.func14, Tryd.ntmps14
  go_wp2_with fail
  refine (HD.out _ (HS.out.alloc hb _) (by simp; omega)).mono ?_
  rintro e w1 ⟨rfl, hB1⟩
  have HB := Lib.hid hB1
  have hk1 : Blk w1 w.heap.size 30 #[.string ByteArray.empty] := (Blk.new _ _ _).below hB1 (by simp)
  have hc0 := hk1.cell 0
  have hf0 := hk1.frozen 0
  simp at hc0
  have hlt := hk1.lt
  have HK := Lib.hid hk1
  clear hB1 hk1
  go_wp2_with fail
  refine bodyPost_ret (results_row rfl _ ((HK.out.fill1).alloc _) rfl Tryd.underlying30 rfl (by kernel_rfl)) rfl ⟨rfl, ?_⟩
  exact ((((Below.refl _ w).alloc (Nat.le_refl _) _).trans (HB.out.mono (by simp))).setCell (p := ⟨w.heap.size, 0, none⟩) (Nat.le_refl _) _).alloc (by simp [World.setCell]; omega) _
end Go.Proofs.YtpipfopddlgakaaDoor
