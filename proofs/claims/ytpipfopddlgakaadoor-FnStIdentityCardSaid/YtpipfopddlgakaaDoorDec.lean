/- Multihashes: what the functions that read one make of the bytes that Encode writes. -/
import Derived.Test.YtpipfopddlgakaaDoorMh
import Derived.Deep.QuietTactic
import Derived.BigQuiet
import Derived.Deep.DeepFit
namespace Go.Proofs.YtpipfopddlgakaaDoor
open Go.RowKit

/-- The address that a slice 's[k:]' has. -/
def cutA (b o c k : Nat) : Option Addr := if c = k then some ⟨b, o, none⟩ else some ⟨b, o + k, none⟩

set_option maxRecDepth 100000 in
set_option maxHeartbeats 1000000 in
theorem mhUvarint_ok (x b o n c : Nat) (rest : List UInt8) (w : World) (hx : x < 9223372036854775808) (hn : n = (Lib.uvarint x).length + rest.length) (hnc : n ≤ c) (hnm : n ≤ 4294967296) (hs : Seg w b o (Lib.uvarint x ++ rest)) :
    Calls Tryd.prog 57 #[.slice (some ⟨b, o, none⟩) n c] w fun e w' =>
      e = .returned (.tuple #[.int .u64 x, .slice (cutA b o c (Lib.uvarint x).length) rest.length (c - (Lib.uvarint x).length), .nilIface]) ∧ Drew w w' := by
  have hp := Lib.uvarint_pos x
  obtain ⟨k, hk⟩ : ∃ k, k = (Lib.uvarint x).length := ⟨_, rfl⟩
  have HC := Lib.hid (fromUvarint_ok x b o n c w hx (by omega) hs.left)
  rw [show (Lib.uvarint x).length = k from hk.symm] at HC hn hp ⊢
  have HK := Lib.hid hk
  have HN := Lib.hid hn
  have hkn : k ≤ n := by omega
  have hb1 : ((k : Int) == 0) = false := beq_eq_false_iff_ne.2 (by omega)
  have hb2 : ¬ ((k : Int) < 0) := by omega
  clear hx hk hs hn
  go_enter Tryd.func57, Tryd.ntmps57
  go_wp2_with fail

  go_fit HC.out
  rintro e w' ⟨rfl, rfl⟩
  go_wp2_with fail
  go_quiet (fail)
  go_wp2
  all_goals
    go_ret3
    have hl : n - k = rest.length := by have := HN.out; omega
    refine ⟨?_, Drew.drewN _ _⟩
    rename_i h
    simp [cutA, h, hl]

theorem mhUvarint_more (x b o n c m : Nat) (rest : List UInt8) (w : World) (hx : x < 9223372036854775808) (hm : m = rest.length) (hn : n = (Lib.uvarint x).length + m) (hnc : n ≤ c) (hnm : n ≤ 4294967296) (hr : 0 < m) (hs : Seg w b o (Lib.uvarint x ++ rest)) :
    Calls Tryd.prog 57 #[.slice (some ⟨b, o, none⟩) n c] w fun e w' =>
      e = .returned (.tuple #[.int .u64 x, .slice (some ⟨b, o + (Lib.uvarint x).length, none⟩) m (c - (Lib.uvarint x).length), .nilIface]) ∧ Drew w w' := by
  subst hm
  have h := mhUvarint_ok x b o n c rest w hx hn hnc hnm hs
  rw [cutA, if_neg (by omega)] at h
  exact h

theorem results_tmp4 {fn : Func} {t u v x : Tmp} (h : fn.results = #[.tmp t, .tmp u, .tmp v, .tmp x]) (tmps : Array Value) (P : Program) (w : World) :
    (results fn tmps).run P w = .ok (.tuple #[tmps.getD t undef, tmps.getD u undef, tmps.getD v undef, tmps.getD x undef]) w := by simp [results, h]

set_option maxRecDepth 100000 in
set_option maxHeartbeats 1000000 in
theorem readMh_ok (code b o n c : Nat) (d : List UInt8) (w : World) (hx : code < 9223372036854775808) (hd : d.length ≤ 2147483647) (hn : n = (mhB code d).length) (hnc : n ≤ c) (hs : Seg w b o (mhB code d)) :
    Calls Tryd.prog 50 #[.slice (some ⟨b, o, none⟩) n c] w fun e w' =>
      e = .returned (.tuple #[.int .i64 n, .int .u64 code, .slice (cutA b (o + (Lib.uvarint code).length) (c - (Lib.uvarint code).length) (Lib.uvarint d.length).length) d.length (c - (Lib.uvarint code).length - (Lib.uvarint d.length).length), .nilIface]) ∧ Drew w w' := by
  have hp := Lib.uvarint_pos code
  have hp2 := Lib.uvarint_pos d.length
  have hl1 := Lib.uvarint_length64 (x := code) (by omega)
  have hl2 := Lib.uvarint_length64 (x := d.length) (by omega)
  rw [mhB_length] at hn
  have HA := Lib.hid (mhUvarint_more code b o n c ((Lib.uvarint d.length).length + d.length) (Lib.uvarint d.length ++ d) w hx (by simp) (by omega) hnc (by omega) (by omega) hs)
  have HB := Lib.hid (fun W (hW : Drew w W) => mhUvarint_ok d.length b (o + (Lib.uvarint code).length) ((Lib.uvarint d.length).length + d.length) (c - (Lib.uvarint code).length) d W (by omega) rfl (by omega) (by omega) (hW.seg (Seg.right hs)))
  have HN := Lib.hid hn
  have hn2 : 2 ≤ n := by omega
  have hnb : n ≤ 2147483700 := by omega
  have hnd : d.length ≤ n := by omega
  have hcap : d.length ≤ c - (Lib.uvarint code).length - (Lib.uvarint d.length).length := by omega
  clear hx hs hn hl1 hl2
  go_enter Tryd.func50, Tryd.ntmps50
  go_wp2_with fail
  refine HA.out.mono ?_
  rintro e w1 ⟨rfl, hD1⟩
  go_wp2_with fail
  refine (HB.out w1 hD1).mono ?_
  rintro e w2 ⟨rfl, hD2⟩
  go_wp2_with fail
  go_quiet (fail)
  go_wp2_with fail
  all_goals
    refine bodyPost_ret (results_tmp4 rfl _ _ _) rfl ?_
    refine ⟨?_, (hD1.trans hD2).more _⟩
    rfl

/-- A slice value that is a digest: where it lies, if it has a byte. -/
def DgAt (A : Option Addr) (C b o : Nat) (d : List UInt8) : Prop := d.length ≤ C ∧ (0 < d.length → A = some ⟨b, o, none⟩)

/-- Where in a multihash the digest begins. -/
def mhO (code : Nat) (d : List UInt8) : Nat := (Lib.uvarint code).length + (Lib.uvarint d.length).length
theorem mhO_add (code : Nat) (d : List UInt8) : mhO code d + d.length = (mhB code d).length := by rw [mhB_length, mhO]
theorem mhB_dig {w : World} {b o code : Nat} {d : List UInt8} (h : Seg w b o (mhB code d)) : Seg w b (o + mhO code d) d := by
  have := (Seg.right (Seg.right h))
  exact this.cast (by rw [mhO]; omega)

theorem readMh_dg (code b o n c : Nat) (d : List UInt8) (w : World) (hx : code < 9223372036854775808) (hd : d.length ≤ 2147483647) (hn : n = (mhB code d).length) (hnc : n ≤ c) (hs : Seg w b o (mhB code d)) :
    Calls Tryd.prog 50 #[.slice (some ⟨b, o, none⟩) n c] w fun e w' =>
      ∃ A C, e = .returned (.tuple #[.int .i64 n, .int .u64 code, .slice A d.length C, .nilIface]) ∧ DgAt A C b (o + mhO code d) d ∧ Drew w w' := by
  refine (readMh_ok code b o n c d w hx hd hn hnc hs).mono fun e w' ⟨he, hD⟩ => ⟨_, _, he, ⟨?_, fun hp => ?_⟩, hD⟩
  · rw [mhB_length] at hn; omega
  · rw [mhB_length] at hn
    rw [cutA, if_neg (by omega), mhO, Nat.add_assoc]

set_option maxRecDepth 100000 in
set_option maxHeartbeats 1000000 in
theorem decode_ok (code b o n c : Nat) (d : List UInt8) (w : World) (hx : code < 9223372036854775808) (hd : d.length ≤ 2147483647) (hn : n = (mhB code d).length) (hnc : n ≤ c) (hs : Seg w b o (mhB code d)) (hb : b < w.heap.size) :
    Calls Tryd.prog 34 #[.slice (some ⟨b, o, none⟩) n c] w fun e w' =>
      ∃ A C, e = .returned (.tuple #[.agg #[.int .u64 code, .string ByteArray.empty, .int .i64 d.length, .slice A d.length C], .nilIface]) ∧ DgAt A C b (o + mhO code d) d ∧ Below w.heap.size w w' := by
  have HC := Lib.hid (fun W (h : Seg W b o (mhB code d)) => readMh_dg code b o n c d W hx hd hn hnc h)
  have HS := Lib.hid hs
  have HN := Lib.hid hn
  clear hx hs hn
  go_enter Tryd.func34, Tryd.ntmps34
  go_wp2_with fail
  refine (HC.out _ (HS.out.alloc hb _)).mono ?_
  rintro e w1 ⟨A, C, rfl, hdg, hD1⟩
  have HDG := Lib.hid hdg
  clear hdg
  have hz : w1.heap.size = w.heap.size + 1 := by rw [hD1.size]; simp
  have hB1 : Below w.heap.size w w1 := ((Below.refl _ w).alloc (Nat.le_refl _) _).trans (hD1.below _)
  have hk1 : Blk w1 w.heap.size 50 #[.int .u64 0, .string ByteArray.empty, .int .i64 0, .slice none 0 0] := hD1.blk (Blk.new _ _ _)
  have hc0 := hk1.cell 0
  have hc1 := hk1.cell 1
  have hc2 := hk1.cell 2
  have hc3 := hk1.cell 3
  simp at hc0 hc1 hc2 hc3
  have hf0 := hk1.frozen 0
  have hf1 := hk1.frozen 1
  have hf2 := hk1.frozen 2
  have hf3 := hk1.frozen 3
  have HK := Lib.hid hk1
  clear hk1 hz
  go_wp2_with fail
  refine bodyPost_ret (results_row_tmp rfl _ (HK.out.fill4.fill4) rfl Tryd.underlying50 rfl (by kernel_rfl)) rfl ⟨A, C, rfl, HDG.out, ?_⟩
  exact below_fill4 (below_fill4 hB1 (Nat.le_refl _)) (Nat.le_refl _)

/-- The struct that a decoded multihash lies in. -/
def dmh (code : Nat) (d : List UInt8) (A : Option Addr) (C : Nat) : Array Value := #[.int .u64 code, .string ByteArray.empty, .int .i64 d.length, .slice A d.length C]

set_option maxRecDepth 100000 in
set_option maxHeartbeats 1000000 in
theorem decodeP_ok (code b o n c : Nat) (d : List UInt8) (w : World) (hx : code < 9223372036854775808) (hd : d.length ≤ 2147483647) (hn : n = (mhB code d).length) (hnc : n ≤ c) (hs : Seg w b o (mhB code d)) (hb : b < w.heap.size) :
    Calls Tryd.prog 16 #[.slice (some ⟨b, o, none⟩) n c] w fun e w' =>
      ∃ A C g, e = .returned (.tuple #[.pointer (some ⟨g, 0, none⟩), .nilIface]) ∧ w.heap.size ≤ g ∧ Blk w' g 50 (dmh code d A C) ∧ DgAt A C b (o + mhO code d) d ∧ Below w.heap.size w w' := by
  have HC := Lib.hid (decode_ok code b o n c d w hx hd hn hnc hs hb)
  clear hx hs hn
  go_enter Tryd.func16, Tryd.ntmps16
  go_wp2_with fail
  refine HC.out.mono ?_
  rintro e w1 ⟨A, C, rfl, hdg, hB1⟩
  have HDG := Lib.hid hdg
  have HB := Lib.hid hB1
  clear hdg hB1
  go_wp2_with fail
  go_ret2
  exact ⟨A, C, w1.heap.size, rfl, HB.out.size, Blk.new _ _ _, HDG.out, HB.out.alloc HB.out.size _⟩
end Go.Proofs.YtpipfopddlgakaaDoor
