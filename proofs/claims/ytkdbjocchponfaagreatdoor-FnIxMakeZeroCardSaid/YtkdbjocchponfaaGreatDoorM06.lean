/-
  Multihashes: what the functions that write one make.
  Multihashes: what the functions that read one make of the bytes that Encode writes.
  Identifiers: their bytes, versions, hashes; what is made of a hash.
  spec.low: a number's bytes, the lowest first, behind a row of bytes.
  (No condition beyond those that each theorem states.)
-/
import Derived.Test.YtkdbjocchponfaaGreatDoorProg
import Derived.Test.YtkdbjocchponfaaGreatDoorM05
import Derived.Test.YtkdbjocchponfaaGreatDoorM01
import Derived.Deep.RegionWith
import Derived.WalkSpells
import Derived.WalkLawsBesides
import Derived.Deep.QuietTactic
import Derived.BigQuiet
import Derived.Deep.DeepFit
import Derived.Defers
import Derived.Recover
import Derived.Lib.Endian
import Derived.Deep.LoopGhost
namespace Go.Proofs.YtkdbjocchponfaaGreatDoor
open Go.RowKit

set_option maxRecDepth 100000 in
theorem putUvarint_any (g o n c x : Nat) (hx : x < 18446744073709551616) (w : World) (hn : (Lib.uvarint x).length ≤ n) (hcell : ∀ j, j < (Lib.uvarint x).length → (w.cell? ⟨g, o + j, none⟩).isSome = true ∧ w.frozen? ⟨g, o + j, none⟩ = false) :
    Calls Tryz.prog 71 #[.slice (some ⟨g, o, none⟩) n c, .int .u64 x] w fun e w' => e = .returned (.int .i64 (Lib.uvarint x).length) ∧ w.setCells g o (Lib.byteCells (Lib.uvarint x)) = w' := by
  have H := Lib.hid (Tryz.binary_PutUvarint g o n c x hx w hn hcell)
  clear hcell hn hx
  go_enter Tryz.func71, Tryz.ntmps71
  go_wp2_with (go_at_call 86; refine H.out.mono ?_; rintro e w' ⟨rfl, rfl⟩)
  go_ret
  exact ⟨rfl, rfl⟩

/-- A varint is laid into a block of the caller's: at a place 'pre.length', over as many cells. -/
theorem putUvarint_blk (g o n c x : Nat) (t : TypeId) (pre mid post : List Value) (hx : x < 18446744073709551616) (w : World) (hn : (Lib.uvarint x).length ≤ n) (hpre : pre.length = o) (hmid : mid.length = (Lib.uvarint x).length) (hb : Blk w g t (pre ++ (mid ++ post)).toArray) :
    Calls Tryz.prog 71 #[.slice (some ⟨g, o, none⟩) n c, .int .u64 x] w fun e w' => e = .returned (.int .i64 (Lib.uvarint x).length) ∧ Blk w' g t (pre ++ (Lib.byteCells (Lib.uvarint x) ++ post)).toArray ∧ w.grownBy w' (some g) ∧ w'.heap.size = w.heap.size := by
  refine (putUvarint_any g o n c x hx w hn ?_).mono ?_
  · intro j hj
    refine ⟨?_, hb.frozen _⟩
    rw [hb.cell]
    simp
    omega
  · rintro e w' ⟨rfl, rfl⟩
    exact ⟨rfl, hb.setCells _ _ _ _ _ _ hpre (by rw [hmid, Lib.byteCells_length]), grown_setCells _ _ _ _, setCells_size _ _ _ _⟩

/-- A multihash's bytes. -/
def mhB (code : Nat) (d : List UInt8) : List UInt8 := Lib.uvarint code ++ (Lib.uvarint d.length ++ d)
theorem mhB_length (code : Nat) (d : List UInt8) : (mhB code d).length = (Lib.uvarint code).length + (Lib.uvarint d.length).length + d.length := by simp [mhB]; omega

end Go.Proofs.YtkdbjocchponfaaGreatDoor
namespace Go.Proofs.YtkdbjocchponfaaGreatDoor
open Go.RowKit

/-- The address that a slice 's[k:]' has. -/
def cutA (b o c k : Nat) : Option Addr := if c = k then some ⟨b, o, none⟩ else some ⟨b, o + k, none⟩

set_option maxRecDepth 100000 in
set_option maxHeartbeats 1000000 in
theorem mhUvarint_ok (x b o n c : Nat) (rest : List UInt8) (w : World) (hx : x < 9223372036854775808) (hn : n = (Lib.uvarint x).length + rest.length) (hnc : n ≤ c) (_hnm : n ≤ 4294967296) (hs : Seg w b o (Lib.uvarint x ++ rest)) :
    Calls Tryz.prog 134 #[.slice (some ⟨b, o, none⟩) n c] w fun e w' =>
      e = .returned (.tuple #[.int .u64 x, .slice (cutA b o c (Lib.uvarint x).length) rest.length (c - (Lib.uvarint x).length), .nilIface]) ∧ Drew w w' := by
  have hp := Lib.uvarint_pos x
  obtain ⟨k, hk⟩ : ∃ k, k = (Lib.uvarint x).length := ⟨_, rfl⟩
  have HC := Lib.hid (fromUvarint_ok x b o n c w hx (by omega) hs.left)
  rw [show (Lib.uvarint x).length = k from hk.symm] at HC hn hp ⊢
  have HK := Lib.hid hk
  have HN := Lib.hid hn
  have hkn : k ≤ n := by omega
  have hb1 : ((k : Int) == 0) = false := beq_eq_false_iff_ne.2 (by omega)
  have hb2 : ¬ ((k : Int) < 0) := by omega
  clear hx hk hs hn
  go_enter Tryz.func134, Tryz.ntmps134
  go_wp2_with fail

  go_fit HC.out
  rintro e w' ⟨rfl, rfl⟩
  go_wp2_with fail
  go_quiet (fail)
  go_wp2
  all_goals
    go_ret3
    have hl : n - k = rest.length := by have := HN.out; omega
    refine ⟨?_, Drew.drewN _ _⟩
    rename_i h
    simp [cutA, h, hl]

theorem mhUvarint_more (x b o n c m : Nat) (rest : List UInt8) (w : World) (hx : x < 9223372036854775808) (hm : m = rest.length) (hn : n = (Lib.uvarint x).length + m) (hnc : n ≤ c) (hnm : n ≤ 4294967296) (hr : 0 < m) (hs : Seg w b o (Lib.uvarint x ++ rest)) :
    Calls Tryz.prog 134 #[.slice (some ⟨b, o, none⟩) n c] w fun e w' =>
      e = .returned (.tuple #[.int .u64 x, .slice (some ⟨b, o + (Lib.uvarint x).length, none⟩) m (c - (Lib.uvarint x).length), .nilIface]) ∧ Drew w w' := by
  subst hm
  have h := mhUvarint_ok x b o n c rest w hx hn hnc hnm hs
  rw [cutA, if_neg (by omega)] at h
  exact h

theorem results_tmp4 {fn : Func} {t u v x : Tmp} (h : fn.results = #[.tmp t, .tmp u, .tmp v, .tmp x]) (tmps : Array Value) (P : Program) (w : World) :
    (results fn tmps).run P w = .ok (.tuple #[tmps.getD t undef, tmps.getD u undef, tmps.getD v undef, tmps.getD x undef]) w := by simp [results, h]

set_option maxRecDepth 100000 in
set_option maxHeartbeats 1000000 in
theorem readMh_ok (code b o n c : Nat) (d : List UInt8) (w : World) (hx : code < 9223372036854775808) (hd : d.length ≤ 2147483647) (hn : n = (mhB code d).length) (hnc : n ≤ c) (hs : Seg w b o (mhB code d)) :
    Calls Tryz.prog 101 #[.slice (some ⟨b, o, none⟩) n c] w fun e w' =>
      e = .returned (.tuple #[.int .i64 n, .int .u64 code, .slice (cutA b (o + (Lib.uvarint code).length) (c - (Lib.uvarint code).length) (Lib.uvarint d.length).length) d.length (c - (Lib.uvarint code).length - (Lib.uvarint d.length).length), .nilIface]) ∧ Drew w w' := by
  have hp := Lib.uvarint_pos code
  have hp2 := Lib.uvarint_pos d.length
  have hl1 := Lib.uvarint_length64 (x := code) (by omega)
  have hl2 := Lib.uvarint_length64 (x := d.length) (by omega)
  rw [mhB_length] at hn
  have HA := Lib.hid (mhUvarint_more code b o n c ((Lib.uvarint d.length).length + d.length) (Lib.uvarint d.length ++ d) w hx (by simp) (by omega) hnc (by omega) (by omega) hs)
  have HB := Lib.hid (fun W (hW : Drew w W) => mhUvarint_ok d.length b (o + (Lib.uvarint code).length) ((Lib.uvarint d.length).length + d.length) (c - (Lib.uvarint code).length) d W (by omega) rfl (by omega) (by omega) (hW.seg (Seg.right hs)))
  have HN := Lib.hid hn
  have hn2 : 2 ≤ n := by omega
  have hnb : n ≤ 2147483700 := by omega
  have hnd : d.length ≤ n := by omega
  have hcap : d.length ≤ c - (Lib.uvarint code).length - (Lib.uvarint d.length).length := by omega
  clear hx hs hn hl1 hl2
  go_enter Tryz.func101, Tryz.ntmps101
  go_wp2_with fail
  refine HA.out.mono ?_
  rintro e w1 ⟨rfl, hD1⟩
  go_wp2_with fail
  refine (HB.out w1 hD1).mono ?_
  rintro e w2 ⟨rfl, hD2⟩
  go_wp2_with fail
  go_quiet (fail)
  go_wp2_with fail
  all_goals
    refine bodyPost_ret (results_tmp4 rfl _ _ _) rfl ?_
    refine ⟨?_, (hD1.trans hD2).more _⟩
    rfl

/-- A slice value that is a digest: where it lies, if it has a byte. -/
def DgAt (A : Option Addr) (C b o : Nat) (d : List UInt8) : Prop := d.length ≤ C ∧ (0 < d.length → A = some ⟨b, o, none⟩)

/-- Where in a multihash the digest begins. -/
def mhO (code : Nat) (d : List UInt8) : Nat := (Lib.uvarint code).length + (Lib.uvarint d.length).length
theorem mhB_dig {w : World} {b o code : Nat} {d : List UInt8} (h : Seg w b o (mhB code d)) : Seg w b (o + mhO code d) d := by
  have := (Seg.right (Seg.right h))
  exact this.cast (by rw [mhO]; omega)

theorem readMh_dg (code b o n c : Nat) (d : List UInt8) (w : World) (hx : code < 9223372036854775808) (hd : d.length ≤ 2147483647) (hn : n = (mhB code d).length) (hnc : n ≤ c) (hs : Seg w b o (mhB code d)) :
    Calls Tryz.prog 101 #[.slice (some ⟨b, o, none⟩) n c] w fun e w' =>
      ∃ A C, e = .returned (.tuple #[.int .i64 n, .int .u64 code, .slice A d.length C, .nilIface]) ∧ DgAt A C b (o + mhO code d) d ∧ Drew w w' := by
  refine (readMh_ok code b o n c d w hx hd hn hnc hs).mono fun e w' ⟨he, hD⟩ => ⟨_, _, he, ⟨?_, fun hp => ?_⟩, hD⟩
  · rw [mhB_length] at hn; omega
  · rw [mhB_length] at hn
    rw [cutA, if_neg (by omega), mhO, Nat.add_assoc]

set_option maxRecDepth 100000 in
set_option maxHeartbeats 1000000 in
theorem decode_ok (code b o n c : Nat) (d : List UInt8) (w : World) (hx : code < 9223372036854775808) (hd : d.length ≤ 2147483647) (hn : n = (mhB code d).length) (hnc : n ≤ c) (hs : Seg w b o (mhB code d)) (hb : b < w.heap.size) :
    Calls Tryz.prog 133 #[.slice (some ⟨b, o, none⟩) n c] w fun e w' =>
      ∃ A C, e = .returned (.tuple #[.agg #[.int .u64 code, .string ByteArray.empty, .int .i64 d.length, .slice A d.length C], .nilIface]) ∧ DgAt A C b (o + mhO code d) d ∧ Below w.heap.size w w' := by
  have HC := Lib.hid (fun W (h : Seg W b o (mhB code d)) => readMh_dg code b o n c d W hx hd hn hnc h)
  have HS := Lib.hid hs
  have HN := Lib.hid hn
  clear hx hs hn
  go_enter Tryz.func133, Tryz.ntmps133
  go_wp2_with fail
  refine (HC.out _ (HS.out.alloc hb _)).mono ?_
  rintro e w1 ⟨A, C, rfl, hdg, hD1⟩
  have HDG := Lib.hid hdg
  clear hdg
  have hz : w1.heap.size = w.heap.size + 1 := by rw [hD1.size]; simp
  have hB1 : Below w.heap.size w w1 := ((Below.refl _ w).alloc (Nat.le_refl _) _).trans (hD1.below _)
  have hk1 : Blk w1 w.heap.size 254 #[.int .u64 0, .string ByteArray.empty, .int .i64 0, .slice none 0 0] := hD1.blk (Blk.new _ _ _)
  have hc0 := hk1.cell 0
  have hc1 := hk1.cell 1
  have hc2 := hk1.cell 2
  have hc3 := hk1.cell 3
  simp at hc0 hc1 hc2 hc3
  have hf0 := hk1.frozen 0
  have hf1 := hk1.frozen 1
  have hf2 := hk1.frozen 2
  have hf3 := hk1.frozen 3
  have HK := Lib.hid hk1
  clear hk1 hz
  go_wp2_with fail
  refine bodyPost_ret (results_row_tmp rfl _ (HK.out.fill4.fill4) rfl Tryz.underlying254 rfl (by kernel_rfl)) rfl ⟨A, C, rfl, HDG.out, ?_⟩
  exact below_fill4 (below_fill4 hB1 (Nat.le_refl _)) (Nat.le_refl _)

/-- The struct that a decoded multihash lies in. -/
def dmh (code : Nat) (d : List UInt8) (A : Option Addr) (C : Nat) : Array Value := #[.int .u64 code, .string ByteArray.empty, .int .i64 d.length, .slice A d.length C]

set_option maxRecDepth 100000 in
set_option maxHeartbeats 1000000 in
theorem decodeP_ok (code b o n c : Nat) (d : List UInt8) (w : World) (hx : code < 9223372036854775808) (hd : d.length ≤ 2147483647) (hn : n = (mhB code d).length) (hnc : n ≤ c) (hs : Seg w b o (mhB code d)) (hb : b < w.heap.size) :
    Calls Tryz.prog 100 #[.slice (some ⟨b, o, none⟩) n c] w fun e w' =>
      ∃ A C g, e = .returned (.tuple #[.pointer (some ⟨g, 0, none⟩), .nilIface]) ∧ w.heap.size ≤ g ∧ Blk w' g 254 (dmh code d A C) ∧ DgAt A C b (o + mhO code d) d ∧ Below w.heap.size w w' := by
  have HC := Lib.hid (decode_ok code b o n c d w hx hd hn hnc hs hb)
  clear hx hs hn
  go_enter Tryz.func100, Tryz.ntmps100
  go_wp2_with fail
  refine HC.out.mono ?_
  rintro e w1 ⟨A, C, rfl, hdg, hB1⟩
  have HDG := Lib.hid hdg
  have HB := Lib.hid hB1
  clear hdg hB1
  go_wp2_with fail
  go_ret2
  exact ⟨A, C, w1.heap.size, rfl, HB.out.size, Blk.new _ _ _, HDG.out, HB.out.alloc HB.out.size _⟩
end Go.Proofs.YtkdbjocchponfaaGreatDoor
namespace Go.Proofs.YtkdbjocchponfaaGreatDoor
open Go.RowKit

set_option maxRecDepth 100000 in
theorem defined_yes (s : ByteArray) (w : World) (hs : s.data.toList ≠ []) :
    Calls Tryz.prog 233 #[.agg #[.string s]] w fun e w' => e = .returned (.bool true) ∧ Below w.heap.size w w' := by
  have hne : ¬ s.toList = [] := by rw [ByteArray.toList_eq]; exact hs
  clear hs
  go_enter Tryz.func233, Tryz.ntmps233
  go_wp2_with fail
  go_ret
  refine ⟨?_, (Below.refl _ w).alloc (Nat.le_refl _) _⟩
  simp [hne]

set_option maxRecDepth 100000 in
theorem bytes_yes (s : ByteArray) (w : World) (hs : s.data.toList ≠ []) :
    Calls Tryz.prog 226 #[.agg #[.string s]] w fun e w' => ∃ g c, e = .returned (.slice (some ⟨g, 0, none⟩) s.size c) ∧ w.heap.size ≤ g ∧ s.size ≤ c ∧ Seg w' g 0 s.data.toList ∧ Below w.heap.size w w' := by
  have HD := Lib.hid (fun W => defined_yes s W hs)
  have hcv := fun W => run_bytes_of_string (P := Tryz.prog) W 9 32 5 s Tryz.underlying9 Tryz.underlying32 Tryz.underlying5
  clear hs
  go_enter Tryz.func226, Tryz.ntmps226
  go_wp2_with fail
  refine (HD.out _).mono ?_
  rintro e w1 ⟨rfl, hB1⟩
  have hc0 := hB1.cell (p := ⟨w.heap.size, 0, none⟩) (by simp)
  simp [go_sem] at hc0
  have HB := Lib.hid hB1
  clear hB1
  go_wp2_with fail
  go_ret
  have hB := HB.out
  have hz := hB.size
  simp at hz
  refine ⟨_, _, rfl, by omega, grownCap_ge _ _ _ _, ?_, ?_⟩
  · have hh := heap_alloc_new w1 (.cells (bytesRow s (grownCap w1 s.size 0 5)) 5 ((bytesRow s (grownCap w1 s.size 0 5)).size, (bytesRow s (grownCap w1 s.size 0 5)).size + 1))
    rw [← bytesRow_list] at hh
    have hs := Seg.drew (Seg.of_bytes hh)
    rw [bytesRow_list] at hs
    exact hs
  · refine Below.drew ((Below.trans ?_ ((hB.mono (by simp)))).alloc (by omega) _)
    exact (Below.refl _ w).alloc (Nat.le_refl _) _

set_option maxRecDepth 100000 in
set_option maxHeartbeats 1000000 in
theorem version_one (s : ByteArray) (r : List UInt8) (w : World) (hs : s.data.toList = 1 :: r) :
    Calls Tryz.prog 84 #[.agg #[.string s]] w fun e w' => e = .returned (.int .u64 1) ∧ Below w.heap.size w w' := by
  have hz : 0 < s.size := by have := congrArg List.length hs; simp at this; omega
  have h0 : s[0] = 1 := by
    have : s.data.toList[0]? = some 1 := by rw [hs]; rfl
    have h1 : s.data.toList[0]? = some s[0] := by rw [List.getElem?_eq_getElem (by simpa using hz)]; rfl
    rw [h1] at this; exact Option.some.inj this
  clear hs
  by_cases h : s.size = 34
  · have hb : ((s.size : Int) == 34) = true := beq_iff_eq.2 (by omega)
    have H := Lib.hid h
    clear h
    go_enter Tryz.func84, Tryz.ntmps84
    go_wp2_with fail
    go_ret
    exact ⟨rfl, (Below.refl _ w).alloc (Nat.le_refl _) _⟩
  · have hb : ((s.size : Int) == 34) = false := beq_eq_false_iff_ne.2 (by omega)
    go_enter Tryz.func84, Tryz.ntmps84
    go_wp2_with fail
    go_ret
    exact ⟨rfl, (Below.refl _ w).alloc (Nat.le_refl _) _⟩

set_option maxRecDepth 100000 in
set_option maxHeartbeats 1000000 in
theorem version_zero (s : ByteArray) (r : List UInt8) (w : World) (hs : s.data.toList = 18 :: 32 :: r) (hr : r.length = 32) :
    Calls Tryz.prog 84 #[.agg #[.string s]] w fun e w' => e = .returned (.int .u64 0) ∧ Below w.heap.size w w' := by
  have hz : s.size = 34 := by have := congrArg List.length hs; simp at this; omega
  have hl0 : 0 < s.size := by omega
  have hl1 : 1 < s.size := by omega
  have h0 : s[0] = 18 := by
    have : s.data.toList[0]? = some 18 := by rw [hs]; rfl
    have h1 : s.data.toList[0]? = some s[0] := by rw [List.getElem?_eq_getElem (by simp; omega)]; rfl
    rw [h1] at this; exact Option.some.inj this
  have h2 : s[1] = 32 := by
    have : s.data.toList[1]? = some 32 := by rw [hs]; rfl
    have h1 : s.data.toList[1]? = some s[1] := by rw [List.getElem?_eq_getElem (by simp; omega)]; rfl
    rw [h1] at this; exact Option.some.inj this
  have hb : ((s.size : Int) == 34) = true := beq_iff_eq.2 (by omega)
  clear hs hz
  go_enter Tryz.func84, Tryz.ntmps84
  go_wp2_with fail
  go_ret
  exact ⟨rfl, (Below.refl _ w).alloc (Nat.le_refl _) _⟩

/-- The bytes of an identifier of version 1. -/
def cid1 (codec : Nat) (mh : List UInt8) : List UInt8 := 1 :: (Lib.uvarint codec ++ mh)
theorem cid1_eq (codec : Nat) (mh : List UInt8) : cid1 codec mh = Lib.uvarint 1 ++ (Lib.uvarint codec ++ mh) := by rw [Lib.uvarint_small (by omega)]; rfl
theorem cid1_length (codec : Nat) (mh : List UInt8) : (cid1 codec mh).length = 1 + (Lib.uvarint codec).length + mh.length := by simp [cid1]; omega

set_option maxRecDepth 100000 in
set_option maxHeartbeats 1000000 in
theorem hash_one (s : ByteArray) (codec : Nat) (mh : List UInt8) (w : World) (hs : s.data.toList = cid1 codec mh) (hm : 0 < mh.length) (hm2 : mh.length ≤ 2147483700) (hc : codec < 9223372036854775808) :
    Calls Tryz.prog 219 #[.agg #[.string s]] w fun e w' => ∃ g o c, e = .returned (.slice (some ⟨g, o, none⟩) mh.length c) ∧ w.heap.size ≤ g ∧ g < w'.heap.size ∧ mh.length ≤ c ∧ Seg w' g o mh ∧ Below w.heap.size w w' := by
  have hz : s.size = (cid1 codec mh).length := by rw [← hs]; simp
  rw [cid1_length] at hz
  have hlu := Lib.uvarint_length64 (x := codec) (by omega)
  have hpu := Lib.uvarint_pos codec
  have HD := Lib.hid (fun W => bytes_yes s W (by rw [hs]; simp [cid1]))
  have HV := Lib.hid (fun W => version_one s (Lib.uvarint codec ++ mh) W hs)
  have HS := Lib.hid hs
  have HC := Lib.hid hc
  have HZ := Lib.hid hz
  have hz1 : 2 < s.size := by omega
  have hz2 : s.size ≤ 2147483800 := by omega
  have hz3 : 1 + (Lib.uvarint codec).length < s.size := by omega
  clear hs hz hc
  go_enter Tryz.func219, Tryz.ntmps219
  go_wp2_with fail
  refine (HD.out _).mono ?_
  rintro e w1 ⟨g, c, rfl, hg, hcap, hseg, hB1⟩
  simp at hg
  have hc0 := hB1.cell (p := ⟨w.heap.size, 0, none⟩) (by simp)
  simp [go_sem] at hc0
  have HB := Lib.hid hB1
  have HG := Lib.hid hseg
  have hgz : g < w1.heap.size := hseg.lt (by simp; omega)
  clear hB1 hseg
  go_wp2_with fail
  refine (HV.out _).mono ?_
  rintro e w2 ⟨rfl, hB2⟩
  have HB2 := Lib.hid hB2
  have HG2 := Lib.hid (HG.out.below hB2 hgz)
  clear hB2
  have HS2 : Hid (Seg w2 g 0 (Lib.uvarint 1 ++ (Lib.uvarint codec ++ mh))) := by show Seg _ _ _ _; rw [← cid1_eq, ← HS.out]; exact HG2.out
  go_wp2_with fail
  refine (fromUvarint_ok 1 g 0 s.size c w2 (by omega) (by rw [Lib.uvarint_small (by omega)]; simp; omega) HS2.out.left).mono ?_
  rintro e w' ⟨rfl, rfl⟩
  rw [show (Lib.uvarint 1).length = 1 from by rw [Lib.uvarint_small (by omega)]; rfl]
  have hc1 : ¬ c = 1 := by omega
  go_wp2_with fail
  refine (fromUvarint_ok codec g 1 (s.size - 1) (c - 1) w2 HC.out (by omega) ?_).mono ?_
  · have := HS2.out.right.left
    rw [show (Lib.uvarint 1).length = 1 from by rw [Lib.uvarint_small (by omega)]; rfl] at this
    exact this
  rintro e w' ⟨rfl, rfl⟩
  have hc2 : ¬ c = 1 + (Lib.uvarint codec).length := by omega
  go_wp2_with fail
  go_ret
  have e : s.size - (1 + (Lib.uvarint codec).length) = mh.length := by have := HZ.out; omega
  refine ⟨g, 1 + (Lib.uvarint codec).length, c - (1 + (Lib.uvarint codec).length), by rw [← e]; rfl, by omega, Nat.lt_of_lt_of_le hgz HB2.out.size, by omega, ?_, ?_⟩
  · have h3 := HS2.out.right.right
    exact h3.cast (by rw [Lib.uvarint_small (by omega)]; simp)
  · exact (((Below.refl _ w).alloc (Nat.le_refl _) _).trans (HB.out.mono (by simp))).trans (HB2.out.mono (by have := HB.out.size; simp at this; omega))

set_option maxRecDepth 100000 in
set_option maxHeartbeats 1000000 in
theorem hash_zero (s : ByteArray) (r : List UInt8) (w : World) (hs : s.data.toList = 18 :: 32 :: r) (hr : r.length = 32) :
    Calls Tryz.prog 219 #[.agg #[.string s]] w fun e w' => ∃ g o c, e = .returned (.slice (some ⟨g, o, none⟩) s.data.toList.length c) ∧ w.heap.size ≤ g ∧ g < w'.heap.size ∧ s.data.toList.length ≤ c ∧ Seg w' g o s.data.toList ∧ Below w.heap.size w w' := by
  have hz : s.size = s.data.toList.length := by simp
  have HD := Lib.hid (fun W => bytes_yes s W (by rw [hs]; simp))
  have HV := Lib.hid (fun W => version_zero s r W hs hr)
  have hp : 0 < s.data.toList.length := by rw [hs]; simp
  clear hs hr
  rw [← hz]
  clear hz
  go_enter Tryz.func219, Tryz.ntmps219
  go_wp2_with fail
  refine (HD.out _).mono ?_
  rintro e w1 ⟨g, c, rfl, hg, hcap, hseg, hB1⟩
  simp at hg
  have hc0 := hB1.cell (p := ⟨w.heap.size, 0, none⟩) (by simp)
  simp [go_sem] at hc0
  have HB := Lib.hid hB1
  have HG := Lib.hid hseg
  have hgz : g < w1.heap.size := hseg.lt (by simpa using hp)
  clear hB1 hseg
  go_wp2_with fail
  refine (HV.out _).mono ?_
  rintro e w2 ⟨rfl, hB2⟩
  have HB2 := Lib.hid hB2
  clear hB2
  go_wp2_with fail
  go_ret
  refine ⟨g, 0, c, rfl, by omega, Nat.lt_of_lt_of_le hgz HB2.out.size, by omega, HG.out.below HB2.out hgz, ?_⟩
  exact (((Below.refl _ w).alloc (Nat.le_refl _) _).trans (HB.out.mono (by simp))).trans (HB2.out.mono (by have := HB.out.size; simp at this; omega))

/-- The bytes of an identifier's string: of version 0 its multihash, of version 1 more. -/
def IsCid (l : List UInt8) (code : Nat) (d : List UInt8) : Prop :=
  code < 9223372036854775808 ∧ d.length ≤ 2147483647 ∧ ((l = mhB code d ∧ code = 18 ∧ d.length = 32) ∨ ∃ codec, codec < 9223372036854775808 ∧ l = cid1 codec (mhB code d))

theorem mhB_v0 (d : List UInt8) (h : d.length = 32) : mhB 18 d = 18 :: 32 :: d := by rw [mhB, h, Lib.uvarint_small (by omega), Lib.uvarint_small (by omega)]; rfl
theorem mhB_pos (code : Nat) (d : List UInt8) : 2 ≤ (mhB code d).length := by
  have := Lib.uvarint_pos code
  have := Lib.uvarint_pos d.length
  rw [mhB_length]; omega

theorem hash_any (s : ByteArray) (code : Nat) (d : List UInt8) (w : World) (hs : IsCid s.data.toList code d) :
    Calls Tryz.prog 219 #[.agg #[.string s]] w fun e w' => ∃ g o c, e = .returned (.slice (some ⟨g, o, none⟩) (mhB code d).length c) ∧ w.heap.size ≤ g ∧ g < w'.heap.size ∧ (mhB code d).length ≤ c ∧ Seg w' g o (mhB code d) ∧ Below w.heap.size w w' := by
  obtain ⟨h1, h2, h3 | ⟨codec, h3, h4⟩⟩ := hs
  · obtain ⟨h3, rfl, h5⟩ := h3
    have h := hash_zero s d w (by rw [h3, mhB_v0 d h5]) h5
    rw [h3] at h
    exact h
  · refine hash_one s codec (mhB code d) w h4 (by have := mhB_pos code d; omega) ?_ h3
    have a := Lib.uvarint_length64 (x := code) (by omega)
    have b := Lib.uvarint_length64 (x := d.length) (by omega)
    rw [mhB_length]; omega

end Go.Proofs.YtkdbjocchponfaaGreatDoor
namespace Go.Proofs.YtkdbjocchponfaaGreatDoor
open Go.RowKit

theorem leBytes_snoc : ∀ (k v : Nat), Lib.leBytes (k + 1) v = Lib.leBytes k v ++ [((v / 256 ^ k) % 256).toUInt8]
  | 0, v => by simp [Lib.leBytes]
  | k + 1, v => by
    have h := leBytes_snoc k (v / 256)
    rw [Lib.leBytes, h, Lib.leBytes, List.cons_append, Nat.div_div_eq_div_mul, show 256 * 256 ^ k = 256 ^ (k + 1) by rw [Nat.pow_succ, Nat.mul_comm]]

/-- A row of bytes over a block of its own (or none). -/
def Row8 (w : World) (B : Nat) (v : Value) (l : List UInt8) : Prop := w.ownsRow B 5 1 v l.length (Lib.byteCells l)
def ob (v : Value) : List Nat := v.ownBlock.toList
/-- What an append leaves: the old block, or a new one. -/
def Grew (w : World) (v v' : Value) : Prop := v'.ownBlock = v.ownBlock ∨ ∃ g, v'.ownBlock = some g ∧ w.heap.size ≤ g
theorem Grew.trans {w w' : World} {v v1 v2 : Value} (h : Grew w v v1) (k : Grew w' v1 v2) (hs : w.heap.size ≤ w'.heap.size) : Grew w v v2 := by
  rcases k with k | ⟨g, k1, k2⟩
  · rcases h with h | ⟨g, h1, h2⟩
    · exact Or.inl (k.trans h)
    · exact Or.inr ⟨g, k.trans h1, h2⟩
  · exact Or.inr ⟨g, k1, Nat.le_trans hs k2⟩
theorem Grew.off {w w' w'' : World} {v v' : Value} (h : Grew w v v') (ho : Off (ob v) w w') (k : Off (ob v') w' w'') : Off (ob v) w w'' := ho.then k (fun x hx => by
  unfold ob at hx ⊢
  rcases h with h | ⟨g, h1, h2⟩
  · rw [h] at hx; exact Or.inl hx
  · rw [h1] at hx; simp at hx; subst hx; exact Or.inr h2)
theorem Row8.off {w w' : World} {B : Nat} {v : Value} {l : List UInt8} {S : List Nat} (h : Row8 w B v l) (ho : Off S w w') (hS : ∀ x, x ∈ ob v → x ∉ S) : Row8 w' B v l := by
  refine ⟨h.1, ?_⟩
  rcases id h.2 with hn | ⟨g, cap, cur, rfl, hg, hgg, rest⟩
  · exact .inl hn
  · exact .inr ⟨g, cap, cur, rfl, hg, by rw [ho.block g (Array.getElem?_eq_some_iff.1 hgg).1 (hS g (by simp [ob, Value.ownBlock]))]; exact hgg, rest⟩

theorem new_one (w : World) (u : Value) (t : TypeId) : ∀ (j : Nat) (x : Value), ([u] : List Value)[j]? = some x → (w.alloc (.cells #[u] t)).cell? ((⟨w.heap.size, 0, none⟩ : Addr).add j) = some x := fun j x hj => by
  have h := Blk.new w t #[u]
  rw [add_plain, Nat.zero_add, h.cell]
  simpa using hj

set_option maxRecDepth 100000 in
set_option maxHeartbeats 2000000 in
theorem low_any (w : World) (B n size : Nat) (v : Value) (l : List UInt8) (hv : Row8 w B v l) (_hn : n < 18446744073709551616) (hs : size ≤ 8) (hl : l.length ≤ 100000000) (hB : B ≤ w.heap.size) :
    Calls Tryz.prog 47 #[v, .int .u64 (n : Int), .int .i64 (size : Int)] w fun r w' => ∃ v', r = .returned v' ∧ Row8 w' B v' (l ++ Lib.leBytes size n) ∧ Off (ob v) w w' ∧ Grew w v v' := by
  obtain ⟨i0, hi, hz0, hz1, hz2⟩ := info_parts Tryz.infoByte
  have HV := Lib.hid hv
  clear hv
  go_enter Tryz.func47, Tryz.ntmps47
  go_wp2_with fail
  go_loopg [0, 7] size (fun kx s0 s7 wr => ∃ j : Nat, s7 = .int .i64 (j : Int) ∧ j ≤ size ∧ size - j ≤ kx ∧ Hid (Row8 wr B s0 (l ++ Lib.leBytes j n) ∧ Off (ob v) w wr ∧ Grew w v s0))
  case atStart => exact ⟨0, rfl, Nat.zero_le _, by omega, Lib.hid ⟨by rw [Lib.leBytes, List.append_nil]; exact HV.out, Off.refl _ _, Or.inl rfl⟩⟩
  case round =>
    rename World => wr
    obtain ⟨j, rfl, hjs, hkx, hh⟩ := hrel
    by_cases hlt : j < size
    · obtain ⟨h1, h2, h3⟩ := hh.out
      have hlen : (l ++ Lib.leBytes j n).length = l.length + j := by rw [List.length_append, Lib.leBytes_length]
      have hown : (wr.alloc (.cells #[.int .u8 ((n : Int) / 2 ^ (8 * j) % 256)] 5)).ownsRow B 5 1 u0 (l.length + j) (Lib.byteCells (l ++ Lib.leBytes j n)) := by
        rw [← hlen]
        exact h1.off (S := []) (Off.alloc (Off.refl [] wr) _) (fun x _ => by simp)
      have HOWN := Lib.hid hown
      have H1 := Lib.hid h1
      have H2 := Lib.hid h2
      have H3 := Lib.hid h3
      have HB := Lib.hid (Nat.le_trans hB h2.size)
      clear hlen hown h1 h2 h3 hh
      go_wp2_with (first
        | (at_builtin
           refine wpList_append_own_at _ rfl _ _ 32 rfl B 5 i0 _ 1 1 Tryz.underlying32 hi hz0 hz1 hz2 rfl (by decide) u0 (l.length + j) (Lib.byteCells (l ++ Lib.leBytes j n)) rfl HOWN.out ⟨wr.heap.size, 0, none⟩ 1 1 [.int .u8 ((n : Int) / 2 ^ (8 * j) % 256)] rfl rfl (new_one wr _ _) (fun u hu => by simp at hu; subst hu; rfl) (by unfold maxLen; omega) (by omega) (by have := HB.out; simp; omega) ?_
           intro v5 w5 hown5 hgr hnil hat
           have HO5 := Lib.hid hown5
           have HG5 := Lib.hid hgr
           have HA5 := Lib.hid hat
           clear hown5 hgr hnil hat))
      go_roundg (size - (j + 1))
      case measure => omega
      case rel =>
        have hoff : Off (ob u0) wr w5 := (Off.alloc (Off.refl (ob u0) wr) _).then (off_grown_own (S := ob u0) HG5.out (fun g hg => by simp [ob, hg])) (fun x hx => Or.inl hx)
        have hgw : Grew wr u0 v5 := by
          rcases HA5.out with h | h
          · exact Or.inl h
          · exact Or.inr ⟨_, h, by simp⟩
        have hb : ((((n / 256 ^ j) % 256).toUInt8.toNat : Nat) : Int) = (n : Int) / 2 ^ (8 * j) % 256 := by
          have e : (256 : Nat) ^ j = 2 ^ (8 * j) := by rw [show (256 : Nat) = 2 ^ 8 from rfl, ← Nat.pow_mul]
          rw [e, Nat.toUInt8_eq, UInt8.toNat_ofNat', Nat.mod_mod]
          push_cast
          rfl
        refine ⟨j + 1, rfl, by omega, by omega, Lib.hid ⟨?_, H3.out.off H2.out hoff, H3.out.trans hgw H2.out.size⟩⟩
        have h6 := HO5.out
        show w5.ownsRow B _ 1 v5 (l ++ Lib.leBytes (j + 1) n).length _
        rw [leBytes_snoc, ← List.append_assoc, List.length_append, List.length_append, Lib.leBytes_length]
        have e2 : Lib.byteCells (l ++ Lib.leBytes j n ++ [((n / 256 ^ j) % 256).toUInt8]) = Lib.byteCells (l ++ Lib.leBytes j n) ++ [.int .u8 ((n : Int) / 2 ^ (8 * j) % 256)] := by
          rw [← hb]; simp [Lib.byteCells]
        rw [e2]
        exact h6
    · obtain rfl : size = j := by omega
      go_wp2_with fail
      go_ret
      obtain ⟨h1, h2, h3⟩ := hh.out
      exact ⟨_, rfl, h1, h2, h3⟩
end Go.Proofs.YtkdbjocchponfaaGreatDoor
