/- The CBOR decoder's small steps: numbers below 24, a phase pushed. -/
import Derived.Test.YtioabgenlaikaaaGreatDoorRn
import Derived.RegionTactic
import Derived.ChangeAlike
namespace Go.Proofs.YtioabgenlaikaaaGreatDoor
open Go.RowKit

set_option maxRecDepth 100000 in
set_option maxHeartbeats 1000000 in
theorem decodeUint_small (D c v : Nat) (w : World) (hc : bits .and .u8 (c : Int) 31 = (v : Int)) (hv : v ≤ 23) :
    Calls Tryz.prog 62 #[.pointer (some ⟨D, 0, none⟩), .int .u8 c] w fun e w' => e = .returned (.tuple #[.int .u64 v, .nilIface]) ∧ w = w' := by
  have hb1 : decide ((v : Int) ≤ 23) = true := by simp; omega
  go_enter Tryz.func62, Tryz.ntmps62
  go_wp2_with fail
  go_ret2
  exact ⟨rfl, rfl⟩

set_option maxRecDepth 100000 in
set_option maxHeartbeats 1000000 in
theorem decodeLen_small (D c v : Nat) (w : World) (hc : bits .and .u8 (c : Int) 31 = (v : Int)) (hv : v ≤ 23) :
    Calls Tryz.prog 66 #[.pointer (some ⟨D, 0, none⟩), .int .u8 c] w fun e w' => e = .returned (.tuple #[.int .i64 v, .nilIface]) ∧ w = w' := by
  have hb1 : decide ((9223372036854775807 : Int) < (v : Int)) = false := by simp; omega
  have hw1 : IntKind.i64.wrap (v : Int) = (v : Int) := by rw [IntKind.wrap_i64]; omega
  have HC := Lib.hid (decodeUint_small D c v w hc hv)
  clear hc
  go_enter Tryz.func66, Tryz.ntmps66
  go_wp2_with fail
  refine HC.out.mono ?_
  rintro e w' ⟨rfl, rfl⟩
  go_wp2_with fail
  go_ret2
  exact ⟨rfl, rfl⟩

/-- A decoder's cells. -/
def decCells (S sg sn : Nat) (ph : Int) (lg ln : Nat) : Array Value := #[.bool true, .bool false, .int .i64 0, .bool false, .bool false, .bool false, .bool false, .iface 107 (.pointer (some ⟨S, 0, none⟩)), .slice (some ⟨sg, 0, none⟩) sn 10, .int .u8 ph, .slice (some ⟨lg, 0, none⟩) ln 10]
/-- A row of ten numbers, but for the first all zero. -/
def tenCells (k : IntKind) (v : Int) : Array Value := #[.int k v, .int k 0, .int k 0, .int k 0, .int k 0, .int k 0, .int k 0, .int k 0, .int k 0, .int k 0]

set_option maxRecDepth 100000 in
set_option maxHeartbeats 1000000 in
theorem pushPhase_ok (D S sg lg ln : Nat) (ph ph2 v : Int) (w : World) (hD : Blk w D 93 (decCells S sg 0 ph lg ln)) (hS : Blk w sg 91 (tenCells .u8 v)) (hne : D ≠ sg) :
    Calls Tryz.prog 61 #[.pointer (some ⟨D, 0, none⟩), .int .u8 ph2] w fun e w' => e = .returned (.tuple #[]) ∧ Blk w' D 93 (decCells S sg 1 ph2 lg ln) ∧ Blk w' sg 91 (tenCells .u8 ph) ∧ Off [D, sg] w w' := by
  have c8 := hD.cell 8
  have c9 := hD.cell 9
  have f8 := hD.frozen 8
  have f9 := hD.frozen 9
  have s0 := hS.cell 0
  have sf0 := hS.frozen 0
  simp [decCells, tenCells] at c8 c9 s0
  have a0 := fun ob => (hS.alloc ob).cell 0
  have af0 := fun ob => (hS.alloc ob).frozen 0
  have a8 := fun ob => (hD.alloc ob).cell 8
  have a9 := fun ob => (hD.alloc ob).cell 9
  have af8 := fun ob => (hD.alloc ob).frozen 8
  have af9 := fun ob => (hD.alloc ob).frozen 9
  simp [decCells, tenCells] at a0 a8 a9
  have HD := Lib.hid hD
  have HS := Lib.hid hS
  clear hD hS
  go_enter Tryz.func61, Tryz.ntmps61
  go_wp2_with fail
  go_region
  go_wp2_with fail
  go_end0
  refine ⟨rfl, ?_, ?_, ?_⟩
  · exact ((((HD.out.alloc _).far (p := ⟨sg, 0, none⟩) hne _).set_ 8 _).set_ 9 _)
  · exact ((((HS.out.alloc _).set_ 0 _).far (p := ⟨D, 8, none⟩) (fun e => hne e.symm) _).far (p := ⟨D, 9, none⟩) (fun e => hne e.symm) _)
  · exact (((((Off.refl [D, sg] w).alloc _).setCell (p := ⟨sg, 0, none⟩) (by simp) _).setCell (p := ⟨D, 8, none⟩) (by simp) _).drew.setCell (p := ⟨D, 9, none⟩) (by simp) _)

/-- A token's cells. -/
def tokCells (ty ln : Int) (st : ByteArray) (bs : Value) (bo : Bool) (it ui : Int) (fl : Nat) (tg : Bool) (tn : Int) : Array Value := #[.int .u8 ty, .int .i64 ln, .string st, bs, .bool bo, .int .i64 it, .int .u64 ui, .float .f64 fl, .bool tg, .int .i64 tn]
def noBytes : ByteArray := ⟨#[]⟩
def zeroTok : Array Value := tokCells 0 0 noBytes (.slice none 0 0) false 0 0 0 false 0

set_option maxRecDepth 100000 in
set_option maxHeartbeats 1000000 in
theorem helper_map1 (D S K sg lg : Nat) (v l0 : Int) (w : World) (hD : Blk w D 93 (decCells S sg 0 0 lg 0)) (hS : Blk w sg 91 (tenCells .u8 v)) (hL : Blk w lg 3 (tenCells .i64 l0)) (hK : Blk w K 73 zeroTok)
    (h1 : D ≠ sg) (h2 : D ≠ lg) (h3 : D ≠ K) (h4 : sg ≠ lg) (h5 : sg ≠ K) (h6 : lg ≠ K) :
    Calls Tryz.prog 56 #[.pointer (some ⟨D, 0, none⟩), .int .u8 161, .pointer (some ⟨K, 0, none⟩)] w fun e w' => e = .returned (.tuple #[.bool false, .nilIface]) ∧ Blk w' D 93 (decCells S sg 1 5 lg 1) ∧ Blk w' sg 91 (tenCells .u8 0) ∧ Blk w' lg 3 (tenCells .i64 1) ∧ Blk w' K 73 (tokCells 123 1 noBytes (.slice none 0 0) false 0 0 0 false 0) ∧ Off [D, sg, lg, K] w w' := by
  have k0 := hK.cell 0
  have k1 := hK.cell 1
  have kf0 := hK.frozen 0
  have kf1 := hK.frozen 1
  simp [zeroTok, tokCells] at k0 k1
  have d10 := hD.cell 10
  have df10 := hD.frozen 10
  have a10 := fun ob u1 u2 => (((hD.far (p := ⟨K, 0, none⟩) h3 u1).far (p := ⟨K, 1, none⟩) h3 u2).alloc ob).cell 10
  have af10 := fun ob u1 u2 => (((hD.far (p := ⟨K, 0, none⟩) h3 u1).far (p := ⟨K, 1, none⟩) h3 u2).alloc ob).frozen 10
  have l0 := fun ob u1 u2 => (((hL.far (p := ⟨K, 0, none⟩) h6 u1).far (p := ⟨K, 1, none⟩) h6 u2).alloc ob).cell 0
  have lf0 := fun ob u1 u2 => (((hL.far (p := ⟨K, 0, none⟩) h6 u1).far (p := ⟨K, 1, none⟩) h6 u2).alloc ob).frozen 0
  simp [decCells, tenCells] at d10 a10 l0
  have HD := Lib.hid hD
  have HS := Lib.hid hS
  have HL := Lib.hid hL
  have HK := Lib.hid hK
  clear hD hS hL hK
  go_enter Tryz.func56, Tryz.ntmps56
  go_wp2_with fail
  refine (decodeLen_small D 161 1 w (by decide +kernel) (by omega)).mono ?_
  rintro e w' ⟨rfl, rfl⟩
  go_wp2_with fail
  have hD3 := (((((HD.out.far (p := ⟨K, 0, none⟩) h3 (.int .u8 123)).far (p := ⟨K, 1, none⟩) h3 (.int .i64 1)).alloc (.cells #[.int .i64 1] 3)).far (p := ⟨lg, 0, none⟩) h2 (.int .i64 1)).set_ 10 (.slice (some ⟨lg, 0, none⟩) 1 10))
  have hS3 := (((((HS.out.far (p := ⟨K, 0, none⟩) h5 (.int .u8 123)).far (p := ⟨K, 1, none⟩) h5 (.int .i64 1)).alloc (.cells #[.int .i64 1] 3)).far (p := ⟨lg, 0, none⟩) h4 (.int .i64 1)).far (p := ⟨D, 10, none⟩) (fun e => h1 e.symm) (.slice (some ⟨lg, 0, none⟩) 1 10))
  have hL3 := (((((HL.out.far (p := ⟨K, 0, none⟩) h6 (.int .u8 123)).far (p := ⟨K, 1, none⟩) h6 (.int .i64 1)).alloc (.cells #[.int .i64 1] 3)).set_ 0 (.int .i64 1)).far (p := ⟨D, 10, none⟩) (fun e => h2 e.symm) (.slice (some ⟨lg, 0, none⟩) 1 10))
  have hK3 := (((((HK.out.set_ 0 (.int .u8 123)).set_ 1 (.int .i64 1)).alloc (.cells #[.int .i64 1] 3)).far (p := ⟨lg, 0, none⟩) (fun e => h6 e.symm) (.int .i64 1)).far (p := ⟨D, 10, none⟩) (fun e => h3 e.symm) (.slice (some ⟨lg, 0, none⟩) 1 10))
  have hO3 := (((((Off.refl [D, sg, lg, K] w).setCell (p := ⟨K, 0, none⟩) (by simp) (.int .u8 123)).setCell (p := ⟨K, 1, none⟩) (by simp) (.int .i64 1)).alloc (.cells #[.int .i64 1] 3)).setCell (p := ⟨lg, 0, none⟩) (by simp) (.int .i64 1)).setCell (p := ⟨D, 10, none⟩) (by simp) (.slice (some ⟨lg, 0, none⟩) 1 10)
  refine (pushPhase_ok D S sg lg 1 0 5 v _ hD3 hS3 h1).mono ?_
  rintro e w2 ⟨rfl, hD4, hS4, hO4⟩
  have hL4 := hO4.blk hL3 (by simp; exact ⟨fun e => h2 e.symm, fun e => h4 e.symm⟩)
  have hK4 := hO4.blk hK3 (by simp; exact ⟨fun e => h3 e.symm, fun e => h5 e.symm⟩)
  have hO5 := hO3.then hO4 (fun x h => by simp at h; rcases h with h | h <;> simp [h])
  have HD4 := Lib.hid hD4
  have HS4 := Lib.hid hS4
  have HL4 := Lib.hid hL4
  have HK4 := Lib.hid hK4
  have HO5 := Lib.hid hO5
  clear hD4 hS4 hL4 hK4 hO5 hO3 hO4 hK3 hL3 hS3 hD3
  go_wp2_with fail
  go_ret2
  exact ⟨rfl, HD4.out, HS4.out, HL4.out, HK4.out, HO5.out⟩

theorem method_readn1 (a : Addr) (w : World) : (method 289 107 (.pointer (some a)) "Readn1").run Tryz.prog w = .ok (115, .pointer (some a)) w := by kernel_rfl
theorem method_readnzc (a : Addr) (w : World) : (method 289 107 (.pointer (some a)) "Readnzc").run Tryz.prog w = .ok (116, .pointer (some a)) w := by kernel_rfl

set_option maxRecDepth 100000 in
set_option maxHeartbeats 1000000 in
theorem decodeString_ok (D sg sn lg ln : Nat) (ph : Int) (S T R b n cap i c k : Nat) (l : List UInt8) (m : Int) (w : World) (hD : Blk w D 93 (decCells S sg sn ph lg ln)) (h : Chain w S T R b n cap i l m) (hc : bits .and .u8 (c : Int) 31 = (k : Int)) (hk0 : 0 < k) (hk : k ≤ 23) (hik : i + k ≤ n) (hm : 0 ≤ m) (hm2 : m < 4611686018427387904) :
    Calls Tryz.prog 65 #[.pointer (some ⟨D, 0, none⟩), .int .u8 c] w fun e w' => e = .returned (.tuple #[.string (str ((l.drop i).take k)), .nilIface]) ∧ Chain w' S T R b n cap (i + k) l (m + k) ∧ Off [S, T, R] w w' := by
  have d7 := hD.cell 7
  simp [decCells] at d7
  have hm1 := method_readnzc
  have HC := Lib.hid (readnzc_ok S T R b n cap i k l m w h hk0 (by omega) hik hm hm2)
  have HE := Lib.hid (decodeLen_small D c k w hc hk)
  have hkl : ((l.drop i).take k).length = k := by have := h.len; simp; omega
  have HKL := Lib.hid hkl
  have hb1 : decide ((33554432 : Int) < (k : Int)) = false := by simp; omega
  clear h hc hkl hD
  go_enter Tryz.func65, Tryz.ntmps65
  go_wp2_with fail
  refine HE.out.mono ?_
  rintro e w' ⟨rfl, rfl⟩
  go_wp2_with fail
  refine HC.out.mono ?_
  rintro e w1 ⟨rfl, hseg1, hC1, hO1⟩
  have hcv := run_convert_seg (P := Tryz.prog) (src := 35) (e := 5) (dst := 9) Tryz.underlying35 Tryz.underlying5 Tryz.underlying9 32 hseg1
  rw [HKL.out] at hcv
  have HC1 := Lib.hid hC1
  have HO1 := Lib.hid hO1
  clear hseg1 hC1 hO1
  go_wp2_with fail
  go_ret2
  exact ⟨rfl, HC1.out, HO1.out⟩
end Go.Proofs.YtioabgenlaikaaaGreatDoor
