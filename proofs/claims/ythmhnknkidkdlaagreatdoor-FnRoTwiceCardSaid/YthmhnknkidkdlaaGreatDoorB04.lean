/-
  Identifiers: their bytes, versions, hashes; what is made of a hash.
  spec.low: a number's bytes, the lowest first, behind a row of bytes.
  bytes.Reader: Read and ReadByte where bytes are left.
  car.NewHeader; spec.NewHead, spec.Padded.
  (No condition beyond those that each theorem states.)
-/
import Derived.Test.YthmhnknkidkdlaaGreatDoorB03
import Derived.Defers
import Derived.Recover
import Derived.Test.YthmhnknkidkdlaaGreatDoorB02
import Derived.Lib.Endian
import Derived.Deep.LoopGhost
import Derived.Deep.QuietTactic
import Derived.BigQuiet
import Derived.Deep.DeepFit
namespace Go.Proofs.YthmhnknkidkdlaaGreatDoor
open Go.RowKit

set_option maxRecDepth 100000 in
theorem defined_yes (s : ByteArray) (w : World) (hs : s.data.toList ≠ []) :
    Calls Tryz.prog 184 #[.agg #[.string s]] w fun e w' => e = .returned (.bool true) ∧ Below w.heap.size w w' := by
  have hne : ¬ s.toList = [] := by rw [ByteArray.toList_eq]; exact hs
  clear hs
  go_enter Tryz.func184, Tryz.ntmps184
  go_wp2_with fail
  go_ret
  refine ⟨?_, (Below.refl _ w).alloc (Nat.le_refl _) _⟩
  simp [hne]

set_option maxRecDepth 100000 in
theorem bytes_yes (s : ByteArray) (w : World) (hs : s.data.toList ≠ []) :
    Calls Tryz.prog 177 #[.agg #[.string s]] w fun e w' => ∃ g c, e = .returned (.slice (some ⟨g, 0, none⟩) s.size c) ∧ w.heap.size ≤ g ∧ s.size ≤ c ∧ Seg w' g 0 s.data.toList ∧ Below w.heap.size w w' := by
  have HD := Lib.hid (fun W => defined_yes s W hs)
  have hcv := fun W => run_bytes_of_string (P := Tryz.prog) W 9 47 5 s Tryz.underlying9 Tryz.underlying47 Tryz.underlying5
  clear hs
  go_enter Tryz.func177, Tryz.ntmps177
  go_wp2_with fail
  refine (HD.out _).mono ?_
  rintro e w1 ⟨rfl, hB1⟩
  have hc0 := hB1.cell (p := ⟨w.heap.size, 0, none⟩) (by simp)
  simp [go_sem] at hc0
  have HB := Lib.hid hB1
  clear hB1
  go_wp2_with fail
  go_ret
  have hB := HB.out
  have hz := hB.size
  simp at hz
  refine ⟨_, _, rfl, by omega, grownCap_ge _ _ _ _, ?_, ?_⟩
  · have hh := heap_alloc_new w1 (.cells (bytesRow s (grownCap w1 s.size 0 5)) 5 ((bytesRow s (grownCap w1 s.size 0 5)).size, (bytesRow s (grownCap w1 s.size 0 5)).size + 1))
    rw [← bytesRow_list] at hh
    have hs := Seg.drew (Seg.of_bytes hh)
    rw [bytesRow_list] at hs
    exact hs
  · refine Below.drew ((Below.trans ?_ ((hB.mono (by simp)))).alloc (by omega) _)
    exact (Below.refl _ w).alloc (Nat.le_refl _) _

set_option maxRecDepth 100000 in
set_option maxHeartbeats 1000000 in
theorem version_one (s : ByteArray) (r : List UInt8) (w : World) (hs : s.data.toList = 1 :: r) :
    Calls Tryz.prog 79 #[.agg #[.string s]] w fun e w' => e = .returned (.int .u64 1) ∧ Below w.heap.size w w' := by
  have hz : 0 < s.size := by have := congrArg List.length hs; simp at this; omega
  have h0 : s[0] = 1 := by
    have : s.data.toList[0]? = some 1 := by rw [hs]; rfl
    have h1 : s.data.toList[0]? = some s[0] := by rw [List.getElem?_eq_getElem (by simpa using hz)]; rfl
    rw [h1] at this; exact Option.some.inj this
  clear hs
  by_cases h : s.size = 34
  · have hb : ((s.size : Int) == 34) = true := beq_iff_eq.2 (by omega)
    have H := Lib.hid h
    clear h
    go_enter Tryz.func79, Tryz.ntmps79
    go_wp2_with fail
    go_ret
    exact ⟨rfl, (Below.refl _ w).alloc (Nat.le_refl _) _⟩
  · have hb : ((s.size : Int) == 34) = false := beq_eq_false_iff_ne.2 (by omega)
    go_enter Tryz.func79, Tryz.ntmps79
    go_wp2_with fail
    go_ret
    exact ⟨rfl, (Below.refl _ w).alloc (Nat.le_refl _) _⟩

set_option maxRecDepth 100000 in
set_option maxHeartbeats 1000000 in
theorem version_zero (s : ByteArray) (r : List UInt8) (w : World) (hs : s.data.toList = 18 :: 32 :: r) (hr : r.length = 32) :
    Calls Tryz.prog 79 #[.agg #[.string s]] w fun e w' => e = .returned (.int .u64 0) ∧ Below w.heap.size w w' := by
  have hz : s.size = 34 := by have := congrArg List.length hs; simp at this; omega
  have hl0 : 0 < s.size := by omega
  have hl1 : 1 < s.size := by omega
  have h0 : s[0] = 18 := by
    have : s.data.toList[0]? = some 18 := by rw [hs]; rfl
    have h1 : s.data.toList[0]? = some s[0] := by rw [List.getElem?_eq_getElem (by simp; omega)]; rfl
    rw [h1] at this; exact Option.some.inj this
  have h2 : s[1] = 32 := by
    have : s.data.toList[1]? = some 32 := by rw [hs]; rfl
    have h1 : s.data.toList[1]? = some s[1] := by rw [List.getElem?_eq_getElem (by simp; omega)]; rfl
    rw [h1] at this; exact Option.some.inj this
  have hb : ((s.size : Int) == 34) = true := beq_iff_eq.2 (by omega)
  clear hs hz
  go_enter Tryz.func79, Tryz.ntmps79
  go_wp2_with fail
  go_ret
  exact ⟨rfl, (Below.refl _ w).alloc (Nat.le_refl _) _⟩

/-- The bytes of an identifier of version 1. -/
def cid1 (codec : Nat) (mh : List UInt8) : List UInt8 := 1 :: (Lib.uvarint codec ++ mh)
theorem cid1_eq (codec : Nat) (mh : List UInt8) : cid1 codec mh = Lib.uvarint 1 ++ (Lib.uvarint codec ++ mh) := by rw [Lib.uvarint_small (by omega)]; rfl
theorem cid1_length (codec : Nat) (mh : List UInt8) : (cid1 codec mh).length = 1 + (Lib.uvarint codec).length + mh.length := by simp [cid1]; omega

set_option maxRecDepth 100000 in
set_option maxHeartbeats 1000000 in
theorem hash_one (s : ByteArray) (codec : Nat) (mh : List UInt8) (w : World) (hs : s.data.toList = cid1 codec mh) (hm : 0 < mh.length) (hm2 : mh.length ≤ 2147483700) (hc : codec < 9223372036854775808) :
    Calls Tryz.prog 170 #[.agg #[.string s]] w fun e w' => ∃ g o c, e = .returned (.slice (some ⟨g, o, none⟩) mh.length c) ∧ w.heap.size ≤ g ∧ g < w'.heap.size ∧ mh.length ≤ c ∧ Seg w' g o mh ∧ Below w.heap.size w w' := by
  have hz : s.size = (cid1 codec mh).length := by rw [← hs]; simp
  rw [cid1_length] at hz
  have hlu := Lib.uvarint_length64 (x := codec) (by omega)
  have hpu := Lib.uvarint_pos codec
  have HD := Lib.hid (fun W => bytes_yes s W (by rw [hs]; simp [cid1]))
  have HV := Lib.hid (fun W => version_one s (Lib.uvarint codec ++ mh) W hs)
  have HS := Lib.hid hs
  have HC := Lib.hid hc
  have HZ := Lib.hid hz
  have hz1 : 2 < s.size := by omega
  have hz2 : s.size ≤ 2147483800 := by omega
  have hz3 : 1 + (Lib.uvarint codec).length < s.size := by omega
  clear hs hz hc
  go_enter Tryz.func170, Tryz.ntmps170
  go_wp2_with fail
  refine (HD.out _).mono ?_
  rintro e w1 ⟨g, c, rfl, hg, hcap, hseg, hB1⟩
  simp at hg
  have hc0 := hB1.cell (p := ⟨w.heap.size, 0, none⟩) (by simp)
  simp [go_sem] at hc0
  have HB := Lib.hid hB1
  have HG := Lib.hid hseg
  have hgz : g < w1.heap.size := hseg.lt (by simp; omega)
  clear hB1 hseg
  go_wp2_with fail
  refine (HV.out _).mono ?_
  rintro e w2 ⟨rfl, hB2⟩
  have HB2 := Lib.hid hB2
  have HG2 := Lib.hid (HG.out.below hB2 hgz)
  clear hB2
  have HS2 : Hid (Seg w2 g 0 (Lib.uvarint 1 ++ (Lib.uvarint codec ++ mh))) := by show Seg _ _ _ _; rw [← cid1_eq, ← HS.out]; exact HG2.out
  go_wp2_with fail
  refine (fromUvarint_ok 1 g 0 s.size c w2 (by omega) (by rw [Lib.uvarint_small (by omega)]; simp; omega) HS2.out.left).mono ?_
  rintro e w' ⟨rfl, rfl⟩
  rw [show (Lib.uvarint 1).length = 1 from by rw [Lib.uvarint_small (by omega)]; rfl]
  have hc1 : ¬ c = 1 := by omega
  go_wp2_with fail
  refine (fromUvarint_ok codec g 1 (s.size - 1) (c - 1) w2 HC.out (by omega) ?_).mono ?_
  · have := HS2.out.right.left
    rw [show (Lib.uvarint 1).length = 1 from by rw [Lib.uvarint_small (by omega)]; rfl] at this
    exact this
  rintro e w' ⟨rfl, rfl⟩
  have hc2 : ¬ c = 1 + (Lib.uvarint codec).length := by omega
  go_wp2_with fail
  go_ret
  have e : s.size - (1 + (Lib.uvarint codec).length) = mh.length := by have := HZ.out; omega
  refine ⟨g, 1 + (Lib.uvarint codec).length, c - (1 + (Lib.uvarint codec).length), by rw [← e]; rfl, by omega, Nat.lt_of_lt_of_le hgz HB2.out.size, by omega, ?_, ?_⟩
  · have h3 := HS2.out.right.right
    exact h3.cast (by rw [Lib.uvarint_small (by omega)]; simp)
  · exact (((Below.refl _ w).alloc (Nat.le_refl _) _).trans (HB.out.mono (by simp))).trans (HB2.out.mono (by have := HB.out.size; simp at this; omega))

set_option maxRecDepth 100000 in
set_option maxHeartbeats 1000000 in
theorem hash_zero (s : ByteArray) (r : List UInt8) (w : World) (hs : s.data.toList = 18 :: 32 :: r) (hr : r.length = 32) :
    Calls Tryz.prog 170 #[.agg #[.string s]] w fun e w' => ∃ g o c, e = .returned (.slice (some ⟨g, o, none⟩) s.data.toList.length c) ∧ w.heap.size ≤ g ∧ g < w'.heap.size ∧ s.data.toList.length ≤ c ∧ Seg w' g o s.data.toList ∧ Below w.heap.size w w' := by
  have hz : s.size = s.data.toList.length := by simp
  have HD := Lib.hid (fun W => bytes_yes s W (by rw [hs]; simp))
  have HV := Lib.hid (fun W => version_zero s r W hs hr)
  have hp : 0 < s.data.toList.length := by rw [hs]; simp
  clear hs hr
  rw [← hz]
  clear hz
  go_enter Tryz.func170, Tryz.ntmps170
  go_wp2_with fail
  refine (HD.out _).mono ?_
  rintro e w1 ⟨g, c, rfl, hg, hcap, hseg, hB1⟩
  simp at hg
  have hc0 := hB1.cell (p := ⟨w.heap.size, 0, none⟩) (by simp)
  simp [go_sem] at hc0
  have HB := Lib.hid hB1
  have HG := Lib.hid hseg
  have hgz : g < w1.heap.size := hseg.lt (by simpa using hp)
  clear hB1 hseg
  go_wp2_with fail
  refine (HV.out _).mono ?_
  rintro e w2 ⟨rfl, hB2⟩
  have HB2 := Lib.hid hB2
  clear hB2
  go_wp2_with fail
  go_ret
  refine ⟨g, 0, c, rfl, by omega, Nat.lt_of_lt_of_le hgz HB2.out.size, by omega, HG.out.below HB2.out hgz, ?_⟩
  exact (((Below.refl _ w).alloc (Nat.le_refl _) _).trans (HB.out.mono (by simp))).trans (HB2.out.mono (by have := HB.out.size; simp at this; omega))

/-- The bytes of an identifier's string: of version 0 its multihash, of version 1 more. -/
def IsCid (l : List UInt8) (code : Nat) (d : List UInt8) : Prop :=
  code < 9223372036854775808 ∧ d.length ≤ 2147483647 ∧ ((l = mhB code d ∧ code = 18 ∧ d.length = 32) ∨ ∃ codec, codec < 9223372036854775808 ∧ l = cid1 codec (mhB code d))

theorem mhB_v0 (d : List UInt8) (h : d.length = 32) : mhB 18 d = 18 :: 32 :: d := by rw [mhB, h, Lib.uvarint_small (by omega), Lib.uvarint_small (by omega)]; rfl
theorem mhB_pos (code : Nat) (d : List UInt8) : 2 ≤ (mhB code d).length := by
  have := Lib.uvarint_pos code
  have := Lib.uvarint_pos d.length
  rw [mhB_length]; omega

theorem hash_any (s : ByteArray) (code : Nat) (d : List UInt8) (w : World) (hs : IsCid s.data.toList code d) :
    Calls Tryz.prog 170 #[.agg #[.string s]] w fun e w' => ∃ g o c, e = .returned (.slice (some ⟨g, o, none⟩) (mhB code d).length c) ∧ w.heap.size ≤ g ∧ g < w'.heap.size ∧ (mhB code d).length ≤ c ∧ Seg w' g o (mhB code d) ∧ Below w.heap.size w w' := by
  obtain ⟨h1, h2, h3 | ⟨codec, h3, h4⟩⟩ := hs
  · obtain ⟨h3, rfl, h5⟩ := h3
    have h := hash_zero s d w (by rw [h3, mhB_v0 d h5]) h5
    rw [h3] at h
    exact h
  · refine hash_one s codec (mhB code d) w h4 (by have := mhB_pos code d; omega) ?_ h3
    have a := Lib.uvarint_length64 (x := code) (by omega)
    have b := Lib.uvarint_length64 (x := d.length) (by omega)
    rw [mhB_length]; omega

end Go.Proofs.YthmhnknkidkdlaaGreatDoor
namespace Go.Proofs.YthmhnknkidkdlaaGreatDoor
open Go.RowKit

/-- A row of bytes over a block of its own (or none). -/
def Row8 (w : World) (B : Nat) (v : Value) (l : List UInt8) : Prop := w.ownsRow B 5 1 v l.length (Lib.byteCells l)
def ob (v : Value) : List Nat := v.ownBlock.toList
theorem Row8.off {w w' : World} {B : Nat} {v : Value} {l : List UInt8} {S : List Nat} (h : Row8 w B v l) (ho : Off S w w') (hS : ∀ x, x ∈ ob v → x ∉ S) : Row8 w' B v l := by
  refine ⟨h.1, ?_⟩
  rcases id h.2 with hn | ⟨g, cap, cur, rfl, hg, hgg, rest⟩
  · exact .inl hn
  · exact .inr ⟨g, cap, cur, rfl, hg, by rw [ho.block g (Array.getElem?_eq_some_iff.1 hgg).1 (hS g (by simp [ob, Value.ownBlock]))]; exact hgg, rest⟩

theorem new_one (w : World) (u : Value) (t : TypeId) : ∀ (j : Nat) (x : Value), ([u] : List Value)[j]? = some x → (w.alloc (.cells #[u] t)).cell? ((⟨w.heap.size, 0, none⟩ : Addr).add j) = some x := fun j x hj => by
  have h := Blk.new w t #[u]
  rw [add_plain, Nat.zero_add, h.cell]
  simpa using hj

end Go.Proofs.YthmhnknkidkdlaaGreatDoor
namespace Go.Proofs.YthmhnknkidkdlaaGreatDoor
open Go.RowKit

/-- Block R is a bytes.Reader over the n bytes from block b's beginning, at place i. -/
def RdC (w : World) (R b n cap i : Nat) (p : Int) : Prop := Blk w R 97 #[.slice (some ⟨b, 0, none⟩) n cap, .int .i64 i, .int .i64 p]

set_option maxRecDepth 100000 in
set_option maxHeartbeats 1000000 in
theorem brReadByte (R b n cap i : Nat) (p : Int) (l : List UInt8) (w : World) (hn : n = l.length) (hR : RdC w R b n cap i p) (hs : Seg w b 0 l) (hRb : R ≠ b) (hi : i < n) (hL : n ≤ 2147483700) (c : Int) (hc : ((l[i]'(hn ▸ hi)).toNat : Int) = c) :
    Calls Tryz.prog 143 #[.pointer (some ⟨R, 0, none⟩)] w fun e w' => e = .returned (.tuple #[.int .u8 c, .nilIface]) ∧ RdC w' R b n cap (i + 1) (-1) ∧ Off [R] w w' := by
  have c0 := hR.cell 0
  have c1 := hR.cell 1
  have c2 := hR.cell 2
  have f0 := hR.frozen 0
  have f1 := hR.frozen 1
  have f2 := hR.frozen 2
  have d0 := hs i (hn ▸ hi)
  rw [hc, Nat.zero_add] at d0
  have d1 : ∀ u, (w.setCell ⟨R, 2, none⟩ u).cell? ⟨b, i, none⟩ = some (.int .u8 c) := fun u => by rw [World.cell?_setCell_other w _ _ u (fun h => by injection h with h1 _ _; exact hRb h1)]; exact d0
  simp at c0 c1 c2
  have HD := Lib.hid d1
  have HR := Lib.hid hR
  have hle : ((n : Int) ≤ (i : Int)) = False := by simp; omega
  have hw1 : IntKind.i64.wrap ((i : Int) + 1) = (i : Int) + 1 := by rw [IntKind.wrap_i64]; omega
  have hi2 : i + 1 = i + 1 := rfl
  clear hs hc d0 d1 hR hn
  go_enter Tryz.func143, Tryz.ntmps143
  go_wp2_with fail
  have e1 := HD.out (.int .i64 (-1))
  go_quiet (fail)
  go_wp2_with fail
  go_quiet (fail)
  go_wp2_with fail
  go_ret2
  exact ⟨rfl, ((HR.out.set_ 2 _).drewN _).set_ 1 _, (((Off.refl [R] w).setCell (p := ⟨R, 2, none⟩) (by simp) _).drewN _).setCell (p := ⟨R, 1, none⟩) (by simp) _⟩

set_option maxRecDepth 100000 in
set_option maxHeartbeats 1000000 in
theorem brRead (R g o m dc b n cap i k : Nat) (p : Int) (l : List UInt8) (cur : List Value) (t : TypeId) (w : World) (hn : n = l.length) (hR : RdC w R b n cap i p) (hs : Seg w b 0 l) (hg : Blk w g t cur.toArray) (hRb : R ≠ b) (hRg : R ≠ g) (hi : i < n) (hk : k = Nat.min (n - i) m) (hk0 : 0 < k) (hfit : o + k ≤ cur.length) (hL : n ≤ 2147483700) (hcap : n ≤ cap) :
    Calls Tryz.prog 142 #[.pointer (some ⟨R, 0, none⟩), .slice (some ⟨g, o, none⟩) m dc] w fun e w' => e = .returned (.tuple #[.int .i64 k, .nilIface]) ∧ RdC w' R b n cap (i + k) (-1) ∧ Blk w' g t (splice cur o (Lib.byteCells ((l.drop i).take k))).toArray ∧ Off [R, g] w w' := by
  have c0 := hR.cell 0
  have c1 := hR.cell 1
  have c2 := hR.cell 2
  have f0 := hR.frozen 0
  have f1 := hR.frozen 1
  have f2 := hR.frozen 2
  simp at c0 c1 c2
  have hkl : ((l.drop i).take k).length = k := by
    have : k ≤ n - i := by rw [hk]; exact Nat.min_le_left _ _
    simp
    omega
  have hG : Blk (w.setCell ⟨R, 2, none⟩ (.int .i64 (-1))) g t cur.toArray := hg.far (p := ⟨R, 2, none⟩) (fun e => hRg e.symm) _
  have hSG : ∀ j v, (Lib.byteCells ((l.drop i).take k))[j]? = some v → (w.setCell ⟨R, 2, none⟩ (.int .i64 (-1))).cell? ((⟨b, i, none⟩ : Addr).add j) = some v := by
    have h2 := ((hs.drop i (by omega)).take k).setCell (p := ⟨R, 2, none⟩) hRb (.int .i64 (-1))
    rw [Nat.zero_add] at h2
    exact h2.cells
  have hD := hR.set_ 2 (.int .i64 (-1))
  have hO := (Off.refl [R] w).setCell (p := ⟨R, 2, none⟩) (by simp) (.int .i64 (-1))
  have HG := Lib.hid hG
  have HS := Lib.hid hSG
  have HDD := Lib.hid hD
  have HO := Lib.hid hO
  have HK := Lib.hid hk
  have hle : ((n : Int) ≤ (i : Int)) = False := by simp; omega
  have hin : i ≤ n := by omega
  have hci : ¬ (cap = i) := by omega
  have hkn : k ≤ n - i := by rw [HK.out]; exact Nat.min_le_left _ _
  have hw1 : IntKind.i64.wrap ((i : Int) + (k : Int)) = (i : Int) + (k : Int) := by rw [IntKind.wrap_i64]; omega
  have HKL := Lib.hid hkl
  have HF := Lib.hid hfit
  clear hs hR hn hg hG hSG hD hO hk hkl hfit
  go_enter Tryz.func142, Tryz.ntmps142
  go_wp2_with fail
  go_quiet (fail)
  go_wp2_with fail
  go_region_law (refine step_copyO rfl (.tmp 20) (.tmp 29) 47 47 rfl 5 Tryz.underlying47 Tryz.sizeByte g o cur t HG.out (Lib.byteCells ((l.drop i).take k)) (by rw [Lib.byteCells_length, HKL.out]; exact HF.out) (byteCells_one _) m dc (n - i) (cap - i) ⟨b, i, none⟩ (by simp [Act.eval, Act.put]) (by simp [Act.eval, Act.put]) (by rw [Lib.byteCells_length, HKL.out]; exact HK.out) HS.out k (by rw [Lib.byteCells_length, HKL.out]) ?_; intro w4 HW4 HO4)
  all_goals
    have hO5 : Off [R, g] w w4 := (HO.out.mono (S' := [R, g]) (fun x h => by simp at h; simp [h])).next HO4.out ⟨rfl, rfl, rfl, rfl⟩ (fun x h => by simp at h; simp [h])
    have hR4 := HO4.out.blk HDD.out (by simp; exact hRg)
    have r1 := hR4.cell 1
    have rf1 := hR4.frozen 1
    simp at r1
    have HO5 := Lib.hid hO5
    have HR4 := Lib.hid hR4
    clear hO5 hR4
    go_wp2_with fail
    go_ret2
    exact ⟨rfl, HR4.out.set_ 1 _, HW4.out.far (p := ⟨R, 1, none⟩) (fun e => hRg e.symm) _, HO5.out.setCell (p := ⟨R, 1, none⟩) (by simp) _⟩
end Go.Proofs.YthmhnknkidkdlaaGreatDoor
namespace Go.Proofs.YthmhnknkidkdlaaGreatDoor
open Go.RowKit

set_option maxRecDepth 100000 in
set_option maxHeartbeats 1000000 in
theorem newHeader_any (n : Nat) (hn : n < 9223372036854775000) (w : World) :
    Calls Tryz.prog 28 #[.int .u64 (n : Int)] w fun e w' => e = .returned (.agg #[.int .u64 0, .int .u64 0, .int .u64 51, .int .u64 (n : Int), .int .u64 ((51 + n : Nat) : Int)]) ∧ Off [] w w' := by
  obtain ⟨x, hx⟩ : ∃ x, x = 51 + n := ⟨_, rfl⟩
  rw [← hx]
  have hw : IntKind.u64.wrap (51 + (n : Int)) = (x : Int) := by rw [IntKind.wrap_u64]; omega
  have hs : 51 + (n : Int) = (x : Int) := by omega
  have hx2 : x < 18446744073709551615 := by omega
  clear hx
  go_enter Tryz.func28, Tryz.ntmps28
  go_wp2_with fail
  refine bodyPost_ret (results_row rfl _ ((Blk.new w _ _).alloc _) rfl Tryz.underlying87 rfl (by kernel_rfl)) rfl ⟨rfl, ?_⟩
  exact ((Off.refl [] w).alloc _).alloc _

end Go.Proofs.YthmhnknkidkdlaaGreatDoor
