/-
  Identifiers: their bytes, versions, hashes; what is made of a hash.
  spec.low: a number's bytes, the lowest first, behind a row of bytes.
  spec.little; spec.HeadBytes.
  bytes.Reader: Read and ReadByte where bytes are left.
  car.NewHeader; spec.NewHead, spec.Padded.
  (No condition beyond those that each theorem states.)
-/
import Derived.Test.YthedhibdbgcgoaaGreatDoorB03
import Derived.Defers
import Derived.Recover
import Derived.Test.YthedhibdbgcgoaaGreatDoorB02
import Derived.Lib.Endian
import Derived.Deep.LoopGhost
import Derived.LoopTactic
import Derived.LoopN
import Derived.Deep.RegionHeld3
import Derived.Deep.RegionWith
import Derived.Deep.QuietTactic
import Derived.BigQuiet
import Derived.Deep.DeepFit
namespace Go.Proofs.YthedhibdbgcgoaaGreatDoor
open Go.RowKit

set_option maxRecDepth 100000 in
theorem defined_yes (s : ByteArray) (w : World) (hs : s.data.toList ≠ []) :
    Calls Tryz.prog 284 #[.agg #[.string s]] w fun e w' => e = .returned (.bool true) ∧ Below w.heap.size w w' := by
  have hne : ¬ s.toList = [] := by rw [ByteArray.toList_eq]; exact hs
  clear hs
  go_enter Tryz.func284, Tryz.ntmps284
  go_wp2_with fail
  go_ret
  refine ⟨?_, (Below.refl _ w).alloc (Nat.le_refl _) _⟩
  simp [hne]

set_option maxRecDepth 100000 in
theorem bytes_yes (s : ByteArray) (w : World) (hs : s.data.toList ≠ []) :
    Calls Tryz.prog 277 #[.agg #[.string s]] w fun e w' => ∃ g c, e = .returned (.slice (some ⟨g, 0, none⟩) s.size c) ∧ w.heap.size ≤ g ∧ s.size ≤ c ∧ Seg w' g 0 s.data.toList ∧ Below w.heap.size w w' := by
  have HD := Lib.hid (fun W => defined_yes s W hs)
  have hcv := fun W => run_bytes_of_string (P := Tryz.prog) W 9 45 5 s Tryz.underlying9 Tryz.underlying45 Tryz.underlying5
  clear hs
  go_enter Tryz.func277, Tryz.ntmps277
  go_wp2_with fail
  refine (HD.out _).mono ?_
  rintro e w1 ⟨rfl, hB1⟩
  have hc0 := hB1.cell (p := ⟨w.heap.size, 0, none⟩) (by simp)
  simp [go_sem] at hc0
  have HB := Lib.hid hB1
  clear hB1
  go_wp2_with fail
  go_ret
  have hB := HB.out
  have hz := hB.size
  simp at hz
  refine ⟨_, _, rfl, by omega, grownCap_ge _ _ _ _, ?_, ?_⟩
  · have hh := heap_alloc_new w1 (.cells (bytesRow s (grownCap w1 s.size 0 5)) 5 ((bytesRow s (grownCap w1 s.size 0 5)).size, (bytesRow s (grownCap w1 s.size 0 5)).size + 1))
    rw [← bytesRow_list] at hh
    have hs := Seg.drew (Seg.of_bytes hh)
    rw [bytesRow_list] at hs
    exact hs
  · refine Below.drew ((Below.trans ?_ ((hB.mono (by simp)))).alloc (by omega) _)
    exact (Below.refl _ w).alloc (Nat.le_refl _) _

set_option maxRecDepth 100000 in
set_option maxHeartbeats 1000000 in
theorem version_one (s : ByteArray) (r : List UInt8) (w : World) (hs : s.data.toList = 1 :: r) :
    Calls Tryz.prog 100 #[.agg #[.string s]] w fun e w' => e = .returned (.int .u64 1) ∧ Below w.heap.size w w' := by
  have hz : 0 < s.size := by have := congrArg List.length hs; simp at this; omega
  have h0 : s[0] = 1 := by
    have : s.data.toList[0]? = some 1 := by rw [hs]; rfl
    have h1 : s.data.toList[0]? = some s[0] := by rw [List.getElem?_eq_getElem (by simpa using hz)]; rfl
    rw [h1] at this; exact Option.some.inj this
  clear hs
  by_cases h : s.size = 34
  · have hb : ((s.size : Int) == 34) = true := beq_iff_eq.2 (by omega)
    have H := Lib.hid h
    clear h
    go_enter Tryz.func100, Tryz.ntmps100
    go_wp2_with fail
    go_ret
    exact ⟨rfl, (Below.refl _ w).alloc (Nat.le_refl _) _⟩
  · have hb : ((s.size : Int) == 34) = false := beq_eq_false_iff_ne.2 (by omega)
    go_enter Tryz.func100, Tryz.ntmps100
    go_wp2_with fail
    go_ret
    exact ⟨rfl, (Below.refl _ w).alloc (Nat.le_refl _) _⟩

set_option maxRecDepth 100000 in
set_option maxHeartbeats 1000000 in
theorem version_zero (s : ByteArray) (r : List UInt8) (w : World) (hs : s.data.toList = 18 :: 32 :: r) (hr : r.length = 32) :
    Calls Tryz.prog 100 #[.agg #[.string s]] w fun e w' => e = .returned (.int .u64 0) ∧ Below w.heap.size w w' := by
  have hz : s.size = 34 := by have := congrArg List.length hs; simp at this; omega
  have hl0 : 0 < s.size := by omega
  have hl1 : 1 < s.size := by omega
  have h0 : s[0] = 18 := by
    have : s.data.toList[0]? = some 18 := by rw [hs]; rfl
    have h1 : s.data.toList[0]? = some s[0] := by rw [List.getElem?_eq_getElem (by simp; omega)]; rfl
    rw [h1] at this; exact Option.some.inj this
  have h2 : s[1] = 32 := by
    have : s.data.toList[1]? = some 32 := by rw [hs]; rfl
    have h1 : s.data.toList[1]? = some s[1] := by rw [List.getElem?_eq_getElem (by simp; omega)]; rfl
    rw [h1] at this; exact Option.some.inj this
  have hb : ((s.size : Int) == 34) = true := beq_iff_eq.2 (by omega)
  clear hs hz
  go_enter Tryz.func100, Tryz.ntmps100
  go_wp2_with fail
  go_ret
  exact ⟨rfl, (Below.refl _ w).alloc (Nat.le_refl _) _⟩

/-- The bytes of an identifier of version 1. -/
def cid1 (codec : Nat) (mh : List UInt8) : List UInt8 := 1 :: (Lib.uvarint codec ++ mh)
theorem cid1_eq (codec : Nat) (mh : List UInt8) : cid1 codec mh = Lib.uvarint 1 ++ (Lib.uvarint codec ++ mh) := by rw [Lib.uvarint_small (by omega)]; rfl
theorem cid1_length (codec : Nat) (mh : List UInt8) : (cid1 codec mh).length = 1 + (Lib.uvarint codec).length + mh.length := by simp [cid1]; omega

set_option maxRecDepth 100000 in
set_option maxHeartbeats 1000000 in
theorem hash_one (s : ByteArray) (codec : Nat) (mh : List UInt8) (w : World) (hs : s.data.toList = cid1 codec mh) (hm : 0 < mh.length) (hm2 : mh.length ≤ 2147483700) (hc : codec < 9223372036854775808) :
    Calls Tryz.prog 270 #[.agg #[.string s]] w fun e w' => ∃ g o c, e = .returned (.slice (some ⟨g, o, none⟩) mh.length c) ∧ w.heap.size ≤ g ∧ g < w'.heap.size ∧ mh.length ≤ c ∧ Seg w' g o mh ∧ Below w.heap.size w w' := by
  have hz : s.size = (cid1 codec mh).length := by rw [← hs]; simp
  rw [cid1_length] at hz
  have hlu := Lib.uvarint_length64 (x := codec) (by omega)
  have hpu := Lib.uvarint_pos codec
  have HD := Lib.hid (fun W => bytes_yes s W (by rw [hs]; simp [cid1]))
  have HV := Lib.hid (fun W => version_one s (Lib.uvarint codec ++ mh) W hs)
  have HS := Lib.hid hs
  have HC := Lib.hid hc
  have HZ := Lib.hid hz
  have hz1 : 2 < s.size := by omega
  have hz2 : s.size ≤ 2147483800 := by omega
  have hz3 : 1 + (Lib.uvarint codec).length < s.size := by omega
  clear hs hz hc
  go_enter Tryz.func270, Tryz.ntmps270
  go_wp2_with fail
  refine (HD.out _).mono ?_
  rintro e w1 ⟨g, c, rfl, hg, hcap, hseg, hB1⟩
  simp at hg
  have hc0 := hB1.cell (p := ⟨w.heap.size, 0, none⟩) (by simp)
  simp [go_sem] at hc0
  have HB := Lib.hid hB1
  have HG := Lib.hid hseg
  have hgz : g < w1.heap.size := hseg.lt (by simp; omega)
  clear hB1 hseg
  go_wp2_with fail
  refine (HV.out _).mono ?_
  rintro e w2 ⟨rfl, hB2⟩
  have HB2 := Lib.hid hB2
  have HG2 := Lib.hid (HG.out.below hB2 hgz)
  clear hB2
  have HS2 : Hid (Seg w2 g 0 (Lib.uvarint 1 ++ (Lib.uvarint codec ++ mh))) := by show Seg _ _ _ _; rw [← cid1_eq, ← HS.out]; exact HG2.out
  go_wp2_with fail
  refine (fromUvarint_ok 1 g 0 s.size c w2 (by omega) (by rw [Lib.uvarint_small (by omega)]; simp; omega) HS2.out.left).mono ?_
  rintro e w' ⟨rfl, rfl⟩
  rw [show (Lib.uvarint 1).length = 1 from by rw [Lib.uvarint_small (by omega)]; rfl]
  have hc1 : ¬ c = 1 := by omega
  go_wp2_with fail
  refine (fromUvarint_ok codec g 1 (s.size - 1) (c - 1) w2 HC.out (by omega) ?_).mono ?_
  · have := HS2.out.right.left
    rw [show (Lib.uvarint 1).length = 1 from by rw [Lib.uvarint_small (by omega)]; rfl] at this
    exact this
  rintro e w' ⟨rfl, rfl⟩
  have hc2 : ¬ c = 1 + (Lib.uvarint codec).length := by omega
  go_wp2_with fail
  go_ret
  have e : s.size - (1 + (Lib.uvarint codec).length) = mh.length := by have := HZ.out; omega
  refine ⟨g, 1 + (Lib.uvarint codec).length, c - (1 + (Lib.uvarint codec).length), by rw [← e]; rfl, by omega, Nat.lt_of_lt_of_le hgz HB2.out.size, by omega, ?_, ?_⟩
  · have h3 := HS2.out.right.right
    exact h3.cast (by rw [Lib.uvarint_small (by omega)]; simp)
  · exact (((Below.refl _ w).alloc (Nat.le_refl _) _).trans (HB.out.mono (by simp))).trans (HB2.out.mono (by have := HB.out.size; simp at this; omega))

set_option maxRecDepth 100000 in
set_option maxHeartbeats 1000000 in
theorem hash_zero (s : ByteArray) (r : List UInt8) (w : World) (hs : s.data.toList = 18 :: 32 :: r) (hr : r.length = 32) :
    Calls Tryz.prog 270 #[.agg #[.string s]] w fun e w' => ∃ g o c, e = .returned (.slice (some ⟨g, o, none⟩) s.data.toList.length c) ∧ w.heap.size ≤ g ∧ g < w'.heap.size ∧ s.data.toList.length ≤ c ∧ Seg w' g o s.data.toList ∧ Below w.heap.size w w' := by
  have hz : s.size = s.data.toList.length := by simp
  have HD := Lib.hid (fun W => bytes_yes s W (by rw [hs]; simp))
  have HV := Lib.hid (fun W => version_zero s r W hs hr)
  have hp : 0 < s.data.toList.length := by rw [hs]; simp
  clear hs hr
  rw [← hz]
  clear hz
  go_enter Tryz.func270, Tryz.ntmps270
  go_wp2_with fail
  refine (HD.out _).mono ?_
  rintro e w1 ⟨g, c, rfl, hg, hcap, hseg, hB1⟩
  simp at hg
  have hc0 := hB1.cell (p := ⟨w.heap.size, 0, none⟩) (by simp)
  simp [go_sem] at hc0
  have HB := Lib.hid hB1
  have HG := Lib.hid hseg
  have hgz : g < w1.heap.size := hseg.lt (by simpa using hp)
  clear hB1 hseg
  go_wp2_with fail
  refine (HV.out _).mono ?_
  rintro e w2 ⟨rfl, hB2⟩
  have HB2 := Lib.hid hB2
  clear hB2
  go_wp2_with fail
  go_ret
  refine ⟨g, 0, c, rfl, by omega, Nat.lt_of_lt_of_le hgz HB2.out.size, by omega, HG.out.below HB2.out hgz, ?_⟩
  exact (((Below.refl _ w).alloc (Nat.le_refl _) _).trans (HB.out.mono (by simp))).trans (HB2.out.mono (by have := HB.out.size; simp at this; omega))

/-- The bytes of an identifier's string: of version 0 its multihash, of version 1 more. -/
def IsCid (l : List UInt8) (code : Nat) (d : List UInt8) : Prop :=
  code < 9223372036854775808 ∧ d.length ≤ 2147483647 ∧ ((l = mhB code d ∧ code = 18 ∧ d.length = 32) ∨ ∃ codec, codec < 9223372036854775808 ∧ l = cid1 codec (mhB code d))

theorem mhB_v0 (d : List UInt8) (h : d.length = 32) : mhB 18 d = 18 :: 32 :: d := by rw [mhB, h, Lib.uvarint_small (by omega), Lib.uvarint_small (by omega)]; rfl
theorem mhB_pos (code : Nat) (d : List UInt8) : 2 ≤ (mhB code d).length := by
  have := Lib.uvarint_pos code
  have := Lib.uvarint_pos d.length
  rw [mhB_length]; omega

theorem hash_any (s : ByteArray) (code : Nat) (d : List UInt8) (w : World) (hs : IsCid s.data.toList code d) :
    Calls Tryz.prog 270 #[.agg #[.string s]] w fun e w' => ∃ g o c, e = .returned (.slice (some ⟨g, o, none⟩) (mhB code d).length c) ∧ w.heap.size ≤ g ∧ g < w'.heap.size ∧ (mhB code d).length ≤ c ∧ Seg w' g o (mhB code d) ∧ Below w.heap.size w w' := by
  obtain ⟨h1, h2, h3 | ⟨codec, h3, h4⟩⟩ := hs
  · obtain ⟨h3, rfl, h5⟩ := h3
    have h := hash_zero s d w (by rw [h3, mhB_v0 d h5]) h5
    rw [h3] at h
    exact h
  · refine hash_one s codec (mhB code d) w h4 (by have := mhB_pos code d; omega) ?_ h3
    have a := Lib.uvarint_length64 (x := code) (by omega)
    have b := Lib.uvarint_length64 (x := d.length) (by omega)
    rw [mhB_length]; omega

end Go.Proofs.YthedhibdbgcgoaaGreatDoor
namespace Go.Proofs.YthedhibdbgcgoaaGreatDoor
open Go.RowKit

theorem leBytes_snoc : ∀ (k v : Nat), Lib.leBytes (k + 1) v = Lib.leBytes k v ++ [((v / 256 ^ k) % 256).toUInt8]
  | 0, v => by simp [Lib.leBytes]
  | k + 1, v => by
    have h := leBytes_snoc k (v / 256)
    rw [Lib.leBytes, h, Lib.leBytes, List.cons_append, Nat.div_div_eq_div_mul, show 256 * 256 ^ k = 256 ^ (k + 1) by rw [Nat.pow_succ, Nat.mul_comm]]

/-- A row of bytes over a block of its own (or none). -/
def Row8 (w : World) (B : Nat) (v : Value) (l : List UInt8) : Prop := w.ownsRow B 5 1 v l.length (Lib.byteCells l)
def ob (v : Value) : List Nat := v.ownBlock.toList
theorem Row8.off {w w' : World} {B : Nat} {v : Value} {l : List UInt8} {S : List Nat} (h : Row8 w B v l) (ho : Off S w w') (hS : ∀ x, x ∈ ob v → x ∉ S) : Row8 w' B v l := by
  refine ⟨h.1, ?_⟩
  rcases id h.2 with hn | ⟨g, cap, cur, rfl, hg, hgg, rest⟩
  · exact .inl hn
  · exact .inr ⟨g, cap, cur, rfl, hg, by rw [ho.block g (Array.getElem?_eq_some_iff.1 hgg).1 (hS g (by simp [ob, Value.ownBlock]))]; exact hgg, rest⟩

theorem new_one (w : World) (u : Value) (t : TypeId) : ∀ (j : Nat) (x : Value), ([u] : List Value)[j]? = some x → (w.alloc (.cells #[u] t)).cell? ((⟨w.heap.size, 0, none⟩ : Addr).add j) = some x := fun j x hj => by
  have h := Blk.new w t #[u]
  rw [add_plain, Nat.zero_add, h.cell]
  simpa using hj

end Go.Proofs.YthedhibdbgcgoaaGreatDoor
namespace Go.Proofs.YthedhibdbgcgoaaGreatDoor
open Go.RowKit

def le8C (n j : Nat) : List Value := Lib.byteCells (Lib.leBytes j n) ++ List.replicate (8 - j) (.int .u8 0)
theorem le8C_zero (n : Nat) : (le8C n 0).toArray = #[.int .u8 0, .int .u8 0, .int .u8 0, .int .u8 0, .int .u8 0, .int .u8 0, .int .u8 0, .int .u8 0] := rfl
theorem le8C_length (n j : Nat) (hj : j ≤ 8) : (le8C n j).length = 8 := by simp [le8C, Lib.byteCells_length, Lib.leBytes_length]; omega
set_option maxRecDepth 100000 in
theorem le8C_step (n j : Nat) (hj : j < 8) : (le8C n j).set j (.int .u8 ((n : Int) / 2 ^ (8 * j) % 256)) = le8C n (j + 1) := by
  have hb : ((((n / 256 ^ j) % 256).toUInt8.toNat : Nat) : Int) = (n : Int) / 2 ^ (8 * j) % 256 := by
    have e : (256 : Nat) ^ j = 2 ^ (8 * j) := by rw [show (256 : Nat) = 2 ^ 8 from rfl, ← Nat.pow_mul]
    rw [e, Nat.toUInt8_eq, UInt8.toNat_ofNat', Nat.mod_mod]
    push_cast
    rfl
  have hl : (Lib.byteCells (Lib.leBytes j n)).length = j := by rw [Lib.byteCells_length, Lib.leBytes_length]
  have e8 : 8 - j = (8 - (j + 1)) + 1 := by omega
  unfold le8C
  rw [leBytes_snoc, Lib.byteCells_append, e8, List.replicate_succ, List.set_append_right _ _ (by rw [hl]; exact Nat.le_refl _), hl, Nat.sub_self, List.set_cons_zero, List.append_assoc, ← hb]
  rfl

set_option maxRecDepth 100000 in
set_option maxHeartbeats 2000000 in
theorem little_any (n : Nat) (_hn : n < 18446744073709551616) (w : World) :
    Calls Tryz.prog 111 #[.int .u64 (n : Int)] w fun e w' => e = .returned (.string (str (Lib.leBytes 8 n))) ∧ Off [] w w' := by
  obtain ⟨A, hA⟩ : ∃ A, A = w.heap.size := ⟨_, rfl⟩
  go_enter Tryz.func111, Tryz.ntmps111
  go_wp2_with fail
  rw [← hA]
  have HA := Lib.hid hA
  clear hA
  go_loopg [5] 8 (fun kx s5 wr => ∃ j : Nat, s5 = .int .i64 (j : Int) ∧ j ≤ 8 ∧ 8 - j ≤ kx ∧ Hid (Blk wr A 256 (le8C n j).toArray) ∧ Hid (Off [] w wr))
  case atStart => exact ⟨0, rfl, Nat.zero_le _, by omega, Lib.hid (by rw [le8C_zero]; exact Blk.new' w _ _ HA.out), Lib.hid ((Off.refl [] w).alloc _)⟩
  case round =>
    rename World => wr
    obtain ⟨j, rfl, hj8, hkx, HB, HO⟩ := hrel
    by_cases hlt : j < 8
    · have hltz : (j : Int) < 8 := by omega
      obtain ⟨old, hold⟩ : ∃ old, wr.cell? ⟨A, j, none⟩ = some old := ⟨(le8C n j)[j]'(by rw [le8C_length n j hj8]; exact hlt), by rw [HB.out.cell, List.getElem?_toArray, List.getElem?_eq_getElem]⟩
      have hfr := HB.out.frozen j
      have h8 : IntKind.i64.wrap (8 * (j : Int)) = ((8 * j : Nat) : Int) := by rw [IntKind.wrap_i64]; omega
      go_wp2_with fail
      go_roundg (8 - (j + 1))
      case measure => omega
      case rel =>
        refine ⟨j + 1, by go_num, by omega, by omega, Lib.hid ?_, Lib.hid (HO.out.setCell (p := ⟨A, j, none⟩) (Or.inr (by rw [HA.out]; exact Nat.le_refl _)) _)⟩
        have h1 := HB.out.set_ j (.int .u8 ((n : Int) / 2 ^ (8 * j) % 256))
        rw [List.setIfInBounds_toArray, le8C_step n j hlt] at h1
        exact h1
    · obtain rfl : j = 8 := by omega
      have hseg : Seg wr A 0 (Lib.leBytes 8 n) := by
        have h1 := HB.out
        exact Blk.seg h1
      have hcv : (convert 45 9 (.slice (some ⟨A, 0, none⟩) 8 8)).run Tryz.prog wr = .ok (.string (str (Lib.leBytes 8 n))) wr := by
        have h1 := run_convert_seg (P := Tryz.prog) (src := 45) (e := 5) (dst := 9) Tryz.underlying45 Tryz.underlying5 Tryz.underlying9 8 hseg
        rw [Lib.leBytes_length] at h1
        exact h1
      have hn8 : ¬ (((8 : Nat) : Int) < 8) := by omega
      clear hseg
      go_wp2_with fail
      go_ret
      exact ⟨rfl, HO.out⟩

theorem str_add (a b : List UInt8) : str a ++ str b = str (a ++ b) := by
  apply ByteArray.ext
  simp [str]
theorem str_size (a : List UInt8) : (str a).size = a.length := by simp [ByteArray.size]

set_option maxRecDepth 100000 in
set_option maxHeartbeats 4000000 in
theorem headBytes_any (hi lo d n x : Nat) (h1 : hi < 18446744073709551616) (h2 : lo < 18446744073709551616) (h3 : d < 18446744073709551616) (h4 : n < 18446744073709551616) (h5 : x < 18446744073709551616) (w : World) :
    Calls Tryz.prog 92 #[.agg #[.int .u64 (hi : Int), .int .u64 (lo : Int), .int .u64 (d : Int), .int .u64 (n : Int), .int .u64 (x : Int)]] w fun e w' => e = .returned (.string (str ((Lib.leBytes 8 hi ++ Lib.leBytes 8 lo) ++ (Lib.leBytes 8 d ++ (Lib.leBytes 8 n ++ Lib.leBytes 8 x))))) ∧ Off [] w w' := by
  obtain ⟨c0, hc0⟩ : ∃ c : Int, c = (hi : Int) := ⟨_, rfl⟩
  obtain ⟨c1, hc1⟩ : ∃ c : Int, c = (lo : Int) := ⟨_, rfl⟩
  obtain ⟨c2, hc2⟩ : ∃ c : Int, c = (d : Int) := ⟨_, rfl⟩
  obtain ⟨c3, hc3⟩ : ∃ c : Int, c = (n : Int) := ⟨_, rfl⟩
  obtain ⟨c4, hc4⟩ : ∃ c : Int, c = (x : Int) := ⟨_, rfl⟩
  obtain ⟨s0, e0⟩ : ∃ s, s = str (Lib.leBytes 8 hi) := ⟨_, rfl⟩
  obtain ⟨s1, e1⟩ : ∃ s, s = str (Lib.leBytes 8 lo) := ⟨_, rfl⟩
  obtain ⟨s2, e2⟩ : ∃ s, s = str (Lib.leBytes 8 d) := ⟨_, rfl⟩
  obtain ⟨s3, e3⟩ : ∃ s, s = str (Lib.leBytes 8 n) := ⟨_, rfl⟩
  obtain ⟨s4, e4⟩ : ∃ s, s = str (Lib.leBytes 8 x) := ⟨_, rfl⟩
  have L0 := Lib.hid (fun W => little_any hi h1 W)
  have L1 := Lib.hid (fun W => little_any lo h2 W)
  have L2 := Lib.hid (fun W => little_any d h3 W)
  have L3 := Lib.hid (fun W => little_any n h4 W)
  have L4 := Lib.hid (fun W => little_any x h5 W)
  have hres : str ((Lib.leBytes 8 hi ++ Lib.leBytes 8 lo) ++ (Lib.leBytes 8 d ++ (Lib.leBytes 8 n ++ Lib.leBytes 8 x))) = s0 ++ s1 ++ s2 ++ s3 ++ s4 := by
    rw [e0, e1, e2, e3, e4]; simp only [str_add, List.append_assoc]
  have z0 : s0.size = 8 := by rw [e0, str_size, Lib.leBytes_length]
  have z1 : s1.size = 8 := by rw [e1, str_size, Lib.leBytes_length]
  have z2 : s2.size = 8 := by rw [e2, str_size, Lib.leBytes_length]
  have z3 : s3.size = 8 := by rw [e3, str_size, Lib.leBytes_length]
  have z4 : s4.size = 8 := by rw [e4, str_size, Lib.leBytes_length]
  have hb1 : ¬ ((9223372036854775807 : Int) < (s0.size : Int) + (s1.size : Int)) := by omega
  have hb2 : ¬ ((9223372036854775807 : Int) < (s0.size : Int) + (s1.size : Int) + (s2.size : Int)) := by omega
  have hb3 : ¬ ((9223372036854775807 : Int) < (s0.size : Int) + (s1.size : Int) + (s2.size : Int) + (s3.size : Int)) := by omega
  have hb4 : ¬ ((9223372036854775807 : Int) < (s0.size : Int) + (s1.size : Int) + (s2.size : Int) + (s3.size : Int) + (s4.size : Int)) := by omega
  clear z0 z1 z2 z3 z4
  rw [hres]
  rw [← hc0, ← e0] at L0
  rw [← hc1, ← e1] at L1
  rw [← hc2, ← e2] at L2
  rw [← hc3, ← e3] at L3
  rw [← hc4, ← e4] at L4
  rw [← hc0, ← hc1, ← hc2, ← hc3, ← hc4]
  have hB := Lib.hid (Blk.new w 112 #[.int .u64 c0, .int .u64 c1, .int .u64 c2, .int .u64 c3, .int .u64 c4])
  have hA := Lib.hid ((Off.refl [] w).alloc (.cells #[.int .u64 c0, .int .u64 c1, .int .u64 c2, .int .u64 c3, .int .u64 c4] 112))
  clear h1 h2 h3 h4 h5 hc0 hc1 hc2 hc3 hc4 e0 e1 e2 e3 e4 hres
  go_enter Tryz.func92, Tryz.ntmps92
  go_wp2_with fail
  go_region_held (fun W => W.cell? ⟨w.heap.size, 0, none⟩ = some (.int .u64 c0) ∧ W.cell? ⟨w.heap.size, 1, none⟩ = some (.int .u64 c1) ∧ W.cell? ⟨w.heap.size, 2, none⟩ = some (.int .u64 c2) ∧ W.cell? ⟨w.heap.size, 3, none⟩ = some (.int .u64 c3) ∧ W.cell? ⟨w.heap.size, 4, none⟩ = some (.int .u64 c4)) (first | exact ⟨hB.out.cell 0, hB.out.cell 1, hB.out.cell 2, hB.out.cell 3, hB.out.cell 4⟩ | exact ⟨B1.out.cell 0, B1.out.cell 1, B1.out.cell 2, B1.out.cell 3, B1.out.cell 4⟩ | exact ⟨B2.out.cell 0, B2.out.cell 1, B2.out.cell 2, B2.out.cell 3, B2.out.cell 4⟩ | exact ⟨B3.out.cell 0, B3.out.cell 1, B3.out.cell 2, B3.out.cell 3, B3.out.cell 4⟩ | exact ⟨B4.out.cell 0, B4.out.cell 1, B4.out.cell 2, B4.out.cell 3, B4.out.cell 4⟩ | exact ⟨B5.out.cell 0, B5.out.cell 1, B5.out.cell 2, B5.out.cell 3, B5.out.cell 4⟩) (first
    | (go_at_call_of 111 (Value.int .u64 c0); refine (L0.out _).mono ?_; rintro r w1 ⟨rfl, ho⟩; have B1 := Lib.hid (show Blk w1 w.heap.size 112 #[.int .u64 c0, .int .u64 c1, .int .u64 c2, .int .u64 c3, .int .u64 c4] from ho.blk hB.out (by simp)); have P1 : Hid (Off [] w w1) := Lib.hid (by first | exact hA.out.then ho (fun x hx => by simp at hx) | exact hA.out.drew.then ho (fun x hx => by simp at hx) | exact (hA.out.drewN _).then ho (fun x hx => by simp at hx)); clear ho)
    | (go_at_call_of 111 (Value.int .u64 c1); refine (L1.out _).mono ?_; rintro r w2 ⟨rfl, ho⟩; have B2 := Lib.hid (show Blk w2 w.heap.size 112 #[.int .u64 c0, .int .u64 c1, .int .u64 c2, .int .u64 c3, .int .u64 c4] from ho.blk B1.out (by simp)); have P2 : Hid (Off [] w w2) := Lib.hid (by first | exact P1.out.then ho (fun x hx => by simp at hx) | exact P1.out.drew.then ho (fun x hx => by simp at hx) | exact (P1.out.drewN _).then ho (fun x hx => by simp at hx)); clear ho)
    | (go_at_call_of 111 (Value.int .u64 c2); refine (L2.out _).mono ?_; rintro r w3 ⟨rfl, ho⟩; have B3 := Lib.hid (show Blk w3 w.heap.size 112 #[.int .u64 c0, .int .u64 c1, .int .u64 c2, .int .u64 c3, .int .u64 c4] from ho.blk B2.out (by simp)); have P3 : Hid (Off [] w w3) := Lib.hid (by first | exact P2.out.then ho (fun x hx => by simp at hx) | exact P2.out.drew.then ho (fun x hx => by simp at hx) | exact (P2.out.drewN _).then ho (fun x hx => by simp at hx)); clear ho)
    | (go_at_call_of 111 (Value.int .u64 c3); refine (L3.out _).mono ?_; rintro r w4 ⟨rfl, ho⟩; have B4 := Lib.hid (show Blk w4 w.heap.size 112 #[.int .u64 c0, .int .u64 c1, .int .u64 c2, .int .u64 c3, .int .u64 c4] from ho.blk B3.out (by simp)); have P4 : Hid (Off [] w w4) := Lib.hid (by first | exact P3.out.then ho (fun x hx => by simp at hx) | exact P3.out.drew.then ho (fun x hx => by simp at hx) | exact (P3.out.drewN _).then ho (fun x hx => by simp at hx)); clear ho)
    | (go_at_call_of 111 (Value.int .u64 c4); refine (L4.out _).mono ?_; rintro r w5 ⟨rfl, ho⟩; have B5 := Lib.hid (show Blk w5 w.heap.size 112 #[.int .u64 c0, .int .u64 c1, .int .u64 c2, .int .u64 c3, .int .u64 c4] from ho.blk B4.out (by simp)); have P5 : Hid (Off [] w w5) := Lib.hid (by first | exact P4.out.then ho (fun x hx => by simp at hx) | exact P4.out.drew.then ho (fun x hx => by simp at hx) | exact (P4.out.drewN _).then ho (fun x hx => by simp at hx)); clear ho))
  all_goals go_wp2_with fail
  all_goals go_ret
  all_goals exact ⟨rfl, P5.out⟩
end Go.Proofs.YthedhibdbgcgoaaGreatDoor
namespace Go.Proofs.YthedhibdbgcgoaaGreatDoor
open Go.RowKit

/-- Block R is a bytes.Reader over the n bytes from block b's beginning, at place i. -/
def RdC (w : World) (R b n cap i : Nat) (p : Int) : Prop := Blk w R 97 #[.slice (some ⟨b, 0, none⟩) n cap, .int .i64 i, .int .i64 p]

set_option maxRecDepth 100000 in
set_option maxHeartbeats 1000000 in
theorem brReadByte (R b n cap i : Nat) (p : Int) (l : List UInt8) (w : World) (hn : n = l.length) (hR : RdC w R b n cap i p) (hs : Seg w b 0 l) (hRb : R ≠ b) (hi : i < n) (hL : n ≤ 2147483700) (c : Int) (hc : ((l[i]'(hn ▸ hi)).toNat : Int) = c) :
    Calls Tryz.prog 243 #[.pointer (some ⟨R, 0, none⟩)] w fun e w' => e = .returned (.tuple #[.int .u8 c, .nilIface]) ∧ RdC w' R b n cap (i + 1) (-1) ∧ Off [R] w w' := by
  have c0 := hR.cell 0
  have c1 := hR.cell 1
  have c2 := hR.cell 2
  have f0 := hR.frozen 0
  have f1 := hR.frozen 1
  have f2 := hR.frozen 2
  have d0 := hs i (hn ▸ hi)
  rw [hc, Nat.zero_add] at d0
  have d1 : ∀ u, (w.setCell ⟨R, 2, none⟩ u).cell? ⟨b, i, none⟩ = some (.int .u8 c) := fun u => by rw [World.cell?_setCell_other w _ _ u (fun h => by injection h with h1 _ _; exact hRb h1)]; exact d0
  simp at c0 c1 c2
  have HD := Lib.hid d1
  have HR := Lib.hid hR
  have hle : ((n : Int) ≤ (i : Int)) = False := by simp; omega
  have hw1 : IntKind.i64.wrap ((i : Int) + 1) = (i : Int) + 1 := by rw [IntKind.wrap_i64]; omega
  have hi2 : i + 1 = i + 1 := rfl
  clear hs hc d0 d1 hR hn
  go_enter Tryz.func243, Tryz.ntmps243
  go_wp2_with fail
  have e1 := HD.out (.int .i64 (-1))
  go_quiet (fail)
  go_wp2_with fail
  go_quiet (fail)
  go_wp2_with fail
  go_ret2
  exact ⟨rfl, ((HR.out.set_ 2 _).drewN _).set_ 1 _, (((Off.refl [R] w).setCell (p := ⟨R, 2, none⟩) (by simp) _).drewN _).setCell (p := ⟨R, 1, none⟩) (by simp) _⟩

set_option maxRecDepth 100000 in
set_option maxHeartbeats 1000000 in
theorem brRead (R g o m dc b n cap i k : Nat) (p : Int) (l : List UInt8) (cur : List Value) (t : TypeId) (w : World) (hn : n = l.length) (hR : RdC w R b n cap i p) (hs : Seg w b 0 l) (hg : Blk w g t cur.toArray) (hRb : R ≠ b) (hRg : R ≠ g) (hi : i < n) (hk : k = Nat.min (n - i) m) (hk0 : 0 < k) (hfit : o + k ≤ cur.length) (hL : n ≤ 2147483700) (hcap : n ≤ cap) :
    Calls Tryz.prog 242 #[.pointer (some ⟨R, 0, none⟩), .slice (some ⟨g, o, none⟩) m dc] w fun e w' => e = .returned (.tuple #[.int .i64 k, .nilIface]) ∧ RdC w' R b n cap (i + k) (-1) ∧ Blk w' g t (splice cur o (Lib.byteCells ((l.drop i).take k))).toArray ∧ Off [R, g] w w' := by
  have c0 := hR.cell 0
  have c1 := hR.cell 1
  have c2 := hR.cell 2
  have f0 := hR.frozen 0
  have f1 := hR.frozen 1
  have f2 := hR.frozen 2
  simp at c0 c1 c2
  have hkl : ((l.drop i).take k).length = k := by
    have : k ≤ n - i := by rw [hk]; exact Nat.min_le_left _ _
    simp
    omega
  have hG : Blk (w.setCell ⟨R, 2, none⟩ (.int .i64 (-1))) g t cur.toArray := hg.far (p := ⟨R, 2, none⟩) (fun e => hRg e.symm) _
  have hSG : ∀ j v, (Lib.byteCells ((l.drop i).take k))[j]? = some v → (w.setCell ⟨R, 2, none⟩ (.int .i64 (-1))).cell? ((⟨b, i, none⟩ : Addr).add j) = some v := by
    have h2 := ((hs.drop i (by omega)).take k).setCell (p := ⟨R, 2, none⟩) hRb (.int .i64 (-1))
    rw [Nat.zero_add] at h2
    exact h2.cells
  have hD := hR.set_ 2 (.int .i64 (-1))
  have hO := (Off.refl [R] w).setCell (p := ⟨R, 2, none⟩) (by simp) (.int .i64 (-1))
  have HG := Lib.hid hG
  have HS := Lib.hid hSG
  have HDD := Lib.hid hD
  have HO := Lib.hid hO
  have HK := Lib.hid hk
  have hle : ((n : Int) ≤ (i : Int)) = False := by simp; omega
  have hin : i ≤ n := by omega
  have hci : ¬ (cap = i) := by omega
  have hkn : k ≤ n - i := by rw [HK.out]; exact Nat.min_le_left _ _
  have hw1 : IntKind.i64.wrap ((i : Int) + (k : Int)) = (i : Int) + (k : Int) := by rw [IntKind.wrap_i64]; omega
  have HKL := Lib.hid hkl
  have HF := Lib.hid hfit
  clear hs hR hn hg hG hSG hD hO hk hkl hfit
  go_enter Tryz.func242, Tryz.ntmps242
  go_wp2_with fail
  go_quiet (fail)
  go_wp2_with fail
  go_region_law (refine step_copyO rfl (.tmp 20) (.tmp 29) 45 45 rfl 5 Tryz.underlying45 Tryz.sizeByte g o cur t HG.out (Lib.byteCells ((l.drop i).take k)) (by rw [Lib.byteCells_length, HKL.out]; exact HF.out) (byteCells_one _) m dc (n - i) (cap - i) ⟨b, i, none⟩ (by simp [Act.eval, Act.put]) (by simp [Act.eval, Act.put]) (by rw [Lib.byteCells_length, HKL.out]; exact HK.out) HS.out k (by rw [Lib.byteCells_length, HKL.out]) ?_; intro w4 HW4 HO4)
  all_goals
    have hO5 : Off [R, g] w w4 := (HO.out.mono (S' := [R, g]) (fun x h => by simp at h; simp [h])).next HO4.out ⟨rfl, rfl, rfl, rfl⟩ (fun x h => by simp at h; simp [h])
    have hR4 := HO4.out.blk HDD.out (by simp; exact hRg)
    have r1 := hR4.cell 1
    have rf1 := hR4.frozen 1
    simp at r1
    have HO5 := Lib.hid hO5
    have HR4 := Lib.hid hR4
    clear hO5 hR4
    go_wp2_with fail
    go_ret2
    exact ⟨rfl, HR4.out.set_ 1 _, HW4.out.far (p := ⟨R, 1, none⟩) (fun e => hRg e.symm) _, HO5.out.setCell (p := ⟨R, 1, none⟩) (by simp) _⟩
end Go.Proofs.YthedhibdbgcgoaaGreatDoor
namespace Go.Proofs.YthedhibdbgcgoaaGreatDoor
open Go.RowKit

set_option maxRecDepth 100000 in
set_option maxHeartbeats 1000000 in
theorem newHeader_any (n : Nat) (hn : n < 9223372036854775000) (w : World) :
    Calls Tryz.prog 31 #[.int .u64 (n : Int)] w fun e w' => e = .returned (.agg #[.int .u64 0, .int .u64 0, .int .u64 51, .int .u64 (n : Int), .int .u64 ((51 + n : Nat) : Int)]) ∧ Off [] w w' := by
  obtain ⟨x, hx⟩ : ∃ x, x = 51 + n := ⟨_, rfl⟩
  rw [← hx]
  have hw : IntKind.u64.wrap (51 + (n : Int)) = (x : Int) := by rw [IntKind.wrap_u64]; omega
  have hs : 51 + (n : Int) = (x : Int) := by omega
  have hx2 : x < 18446744073709551615 := by omega
  clear hx
  go_enter Tryz.func31, Tryz.ntmps31
  go_wp2_with fail
  refine bodyPost_ret (results_row rfl _ ((Blk.new w _ _).alloc _) rfl Tryz.underlying87 rfl (by kernel_rfl)) rfl ⟨rfl, ?_⟩
  exact ((Off.refl [] w).alloc _).alloc _

set_option maxRecDepth 100000 in
set_option maxHeartbeats 1000000 in
theorem newHead_any (n : Nat) (hn : n < 9223372036854775000) (w : World) :
    Calls Tryz.prog 53 #[.int .u64 (n : Int)] w fun e w' => e = .returned (.agg #[.int .u64 0, .int .u64 0, .int .u64 51, .int .u64 (n : Int), .int .u64 ((51 + n : Nat) : Int)]) ∧ Off [] w w' := by
  obtain ⟨x, hx⟩ : ∃ x, x = 51 + n := ⟨_, rfl⟩
  rw [← hx]
  have hw : IntKind.u64.wrap (51 + (n : Int)) = (x : Int) := by rw [IntKind.wrap_u64]; omega
  have hs : 51 + (n : Int) = (x : Int) := by omega
  have hx2 : x < 18446744073709551615 := by omega
  clear hx
  go_enter Tryz.func53, Tryz.ntmps53
  go_wp2_with fail
  refine bodyPost_ret (results_row rfl _ (Blk.new w _ _) rfl Tryz.underlying112 rfl (by kernel_rfl)) rfl ⟨rfl, ?_⟩
  exact (Off.refl [] w).alloc _

set_option maxRecDepth 100000 in
set_option maxHeartbeats 1000000 in
theorem padded_any (n x d : Nat) (hx : x < 9223372036854775000) (hd : d ≤ 255) (w : World) :
    Calls Tryz.prog 52 #[.agg #[.int .u64 0, .int .u64 0, .int .u64 51, .int .u64 (n : Int), .int .u64 (x : Int)], .int .u64 (d : Int), .int .u64 0] w fun e w' => e = .returned (.agg #[.int .u64 0, .int .u64 0, .int .u64 ((51 + d : Nat) : Int), .int .u64 (n : Int), .int .u64 ((x + d : Nat) : Int)]) ∧ Off [] w w' := by
  obtain ⟨y, hy⟩ : ∃ y, y = 51 + d := ⟨_, rfl⟩
  obtain ⟨z, hz⟩ : ∃ z, z = x + d := ⟨_, rfl⟩
  rw [← hy, ← hz]
  have hs : 51 + (d : Int) = (y : Int) := by omega
  have hs2 : (x : Int) + (d : Int) = (z : Int) := by omega
  have hx2 : y < 18446744073709551615 := by omega
  have hx3 : z < 18446744073709551615 := by omega
  clear hy hz
  go_enter Tryz.func52, Tryz.ntmps52
  go_wp2_with fail
  refine bodyPost_ret (results_row rfl _ (Blk.new' _ _ _ (by simp)) rfl Tryz.underlying112 rfl (by kernel_rfl)) rfl ⟨rfl, ?_⟩
  exact ((Off.refl [] w).alloc _).alloc _
end Go.Proofs.YthedhibdbgcgoaaGreatDoor
