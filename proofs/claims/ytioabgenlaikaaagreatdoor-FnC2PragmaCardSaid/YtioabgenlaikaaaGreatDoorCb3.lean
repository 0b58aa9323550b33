/- The CBOR decoder's steps in a map of one entry: the key, the value, the end. -/
import Derived.Test.YtioabgenlaikaaaGreatDoorCb2
namespace Go.Proofs.YtioabgenlaikaaaGreatDoor
open Go.RowKit

set_option maxRecDepth 100000 in
set_option maxHeartbeats 1000000 in
theorem step_value2 (D sg sn lg ln K : Nat) (l0 : Int) (S T R b n cap i : Nat) (l : List UInt8) (m : Int) (w : World) (h : Dec w D sg sn lg ln K 6 l0 S T R b n cap i l m) (hK : Blk w K 73 zeroTok) (hi : i < n) (hc : (l[i]'(h.chain.len ▸ hi)).toNat = 2) (hm : 0 ≤ m) (hm2 : m < 4611686018427387904) :
    Calls Tryz.prog 54 #[.pointer (some ⟨D, 0, none⟩), .pointer (some ⟨K, 0, none⟩)] w fun e w' => e = .returned (.tuple #[.bool false, .nilIface]) ∧ Dec w' D sg sn lg ln K 5 l0 S T R b n cap (i + 1) l (m + 1) ∧ Blk w' K 73 (tokCells 117 0 noBytes (.slice none 0 0) false 0 2 0 false 0) ∧ Off [D, sg, lg, S, T, R, K] w w' := by
  have hh := h
  obtain ⟨hC, hD, ⟨v, hS⟩, hL, ⟨n1, n2, n3, n4, n5, n6, n7, n8, n9, n10, n11, n12, n13, n14, n15⟩, ⟨k1, k2, k3, k4, k5, k6, k7⟩, ⟨e1, e2, e3, e4⟩⟩ := h
  have d7 := hD.cell 7
  simp [decCells] at d7
  have hm1 := method_readn1
  have HC := Lib.hid (readn1 S T R b n cap i l m w hC hi hm hm2 2 (by rw [hc]; rfl))
  have HD := Lib.hid hD
  have HS := Lib.hid hS
  have HL := Lib.hid hL
  have HK := Lib.hid hK
  have HH := Lib.hid hh
  clear hc
  clear hh hC hD hS hL hK
  go_enter Tryz.func54, Tryz.ntmps54
  go_wp2_with fail
  refine HC.out.mono ?_
  rintro e w1 ⟨rfl, hC1, hO1⟩
  have hD1 := hO1.blk HD.out (ni3 n4 n5 n6)
  have hS1 := hO1.blk HS.out (ni3 n8 n9 n10)
  have hL1 := hO1.blk HL.out (ni3 n12 n13 n14)
  have hK1 := hO1.blk HK.out (ni3 k4 k5 k6)
  have d9 := hD1.cell 9
  have df9 := hD1.frozen 9
  have q8 := hK1.cell 8
  have qf8 := hK1.frozen 8
  simp [zeroTok, tokCells, decCells] at q8 d9
  have hD2 := (hD1.set_ 9 (.int .u8 5)).far (p := ⟨K, 8, none⟩) (fun e => k1 e.symm) (.bool false)
  have hS2 := (hS1.far (p := ⟨D, 9, none⟩) (fun e => n1 e.symm) (.int .u8 5)).far (p := ⟨K, 8, none⟩) (fun e => k2 e.symm) (.bool false)
  have hL2 := (hL1.far (p := ⟨D, 9, none⟩) (fun e => n2 e.symm) (.int .u8 5)).far (p := ⟨K, 8, none⟩) (fun e => k3 e.symm) (.bool false)
  have hK2 := (hK1.far (p := ⟨D, 9, none⟩) k1 (.int .u8 5)).set_ 8 (.bool false)
  have hO2 := ((Off.refl [D, K] w1).setCell (p := ⟨D, 9, none⟩) (by simp) (.int .u8 5)).setCell (p := ⟨K, 8, none⟩) (by simp) (.bool false)
  have hC2 := hC1.off hO2 ⟨ni2 n4.symm k4.symm, ni2 n5.symm k5.symm, ni2 n6.symm k6.symm, ni2 n7.symm k7.symm, ni2 (Nat.ne_of_lt e1) (Nat.ne_of_lt e4)⟩
  have HM := Lib.hid (helper_two D K _ hK2)
  have HO3 := Lib.hid (hO1.trans hO2)
  have HD2 := Lib.hid hD2
  have HS2 := Lib.hid hS2
  have HL2 := Lib.hid hL2
  have HC2 := Lib.hid hC2
  clear hD1 hS1 hL1 hK1 hC1 hO1 hD2 hS2 hL2 hK2 hO2 hC2
  go_wp2_with fail
  refine HM.out.mono ?_
  rintro e w2 ⟨rfl, hK3, hO3⟩
  have hD3 := hO3.blk HD2.out (by simp; exact fun e => k1 e.symm)
  have hS3 := hO3.blk HS2.out (by simp; exact fun e => k2 e.symm)
  have hL3 := hO3.blk HL2.out (by simp; exact fun e => k3 e.symm)
  have hC3 := HC2.out.off hO3 ⟨ni1 k4.symm, ni1 k5.symm, ni1 k6.symm, ni1 k7.symm, ni1 (Nat.ne_of_lt e4)⟩
  have HK3 := Lib.hid hK3
  have HD3 := Lib.hid hD3
  have HS3 := Lib.hid hS3
  have HL3 := Lib.hid hL3
  have HC3 := Lib.hid hC3
  have HO4 := Lib.hid ((HO3.out.trans hO3).mono (S' := [D, sg, lg, S, T, R, K]) (fun x h => by simp at h; rcases h with h | h | h | h | h | h <;> first | (simp [h]; done) | (simp; done)))
  clear hK3 hO3 hD3 hS3 hL3 hC3
  go_wp2_with fail
  go_ret2
  exact ⟨rfl, ⟨HC3.out, HD3.out, ⟨_, HS3.out⟩, HL3.out, HH.out.nd, HH.out.nk, HH.out.lo⟩, HK3.out, HO4.out⟩

set_option maxRecDepth 100000 in
set_option maxHeartbeats 1000000 in
theorem step_end (D sg sn lg K : Nat) (S T R b n cap i : Nat) (l : List UInt8) (m : Int) (w : World) (h : Dec w D sg sn lg 1 K 5 0 S T R b n cap i l m) (hK : Blk w K 73 zeroTok) :
    Calls Tryz.prog 53 #[.pointer (some ⟨D, 0, none⟩), .pointer (some ⟨K, 0, none⟩)] w fun e w' => e = .returned (.tuple #[.bool true, .nilIface]) ∧ Dec w' D sg sn lg 0 K 5 0 S T R b n cap i l m ∧ Blk w' K 73 (tokCells 125 0 noBytes (.slice none 0 0) false 0 0 0 false 0) ∧ Off [D, sg, lg, S, T, R, K] w w' := by
  have hh := h
  obtain ⟨hC, hD, ⟨v, hS⟩, hL, ⟨n1, n2, n3, n4, n5, n6, n7, n8, n9, n10, n11, n12, n13, n14, n15⟩, ⟨k1, k2, k3, k4, k5, k6, k7⟩, ⟨e1, e2, e3, e4⟩⟩ := h
  have d10 := hD.cell 10
  have df10 := hD.frozen 10
  have l0 := hL.cell 0
  have q0 := hK.cell 0
  have qf0 := hK.frozen 0
  simp [decCells, tenCells, zeroTok, tokCells] at d10 l0 q0
  have HC := Lib.hid hC
  have HD := Lib.hid hD
  have HS := Lib.hid hS
  have HL := Lib.hid hL
  have HK := Lib.hid hK
  have HH := Lib.hid hh
  clear hh hC hD hS hL hK
  go_enter Tryz.func53, Tryz.ntmps53
  go_wp2_with fail
  go_ret2
  have hO := ((Off.refl [D, K] w).setCell (p := ⟨D, 10, none⟩) (by simp) (.slice (some ⟨lg, 0, none⟩) 0 10)).setCell (p := ⟨K, 0, none⟩) (by simp) (.int .u8 125)
  refine ⟨rfl, ⟨HC.out.off hO ⟨ni2 n4.symm k4.symm, ni2 n5.symm k5.symm, ni2 n6.symm k6.symm, ni2 n7.symm k7.symm, ni2 (Nat.ne_of_lt e1) (Nat.ne_of_lt e4)⟩, (HD.out.set_ 10 _).far (p := ⟨K, 0, none⟩) (fun e => k1 e.symm) _, ⟨v, (HS.out.far (p := ⟨D, 10, none⟩) (fun e => n1 e.symm) _).far (p := ⟨K, 0, none⟩) (fun e => k2 e.symm) _⟩, (HL.out.far (p := ⟨D, 10, none⟩) (fun e => n2 e.symm) _).far (p := ⟨K, 0, none⟩) (fun e => k3 e.symm) _, HH.out.nd, HH.out.nk, HH.out.lo⟩, (HK.out.far (p := ⟨D, 10, none⟩) k1 _).set_ 0 _, hO.mono (fun x h => by simp at h; rcases h with h | h <;> first | (simp [h]; done) | (simp; done))⟩

set_option maxRecDepth 100000 in
set_option maxHeartbeats 1000000 in
theorem step_key (D sg sn lg K : Nat) (S T R b n cap i : Nat) (l : List UInt8) (m : Int) (w : World) (h : Dec w D sg sn lg 1 K 5 1 S T R b n cap i l m) (hK : Blk w K 73 zeroTok) (hi : i < n) (hi7 : i + 1 + 7 ≤ n) (hc : (l[i]'(h.chain.len ▸ hi)).toNat = 103) (hm : 0 ≤ m) (hm2 : m + 1 < 4611686018427387904) :
    Calls Tryz.prog 53 #[.pointer (some ⟨D, 0, none⟩), .pointer (some ⟨K, 0, none⟩)] w fun e w' => e = .returned (.tuple #[.bool false, .nilIface]) ∧ Dec w' D sg sn lg 1 K 6 0 S T R b n cap (i + 1 + 7) l (m + 1 + 7) ∧ Blk w' K 73 (tokCells 115 0 (str ((l.drop (i + 1)).take 7)) (.slice none 0 0) false 0 0 0 false 0) ∧ Off [D, sg, lg, S, T, R, K] w w' := by
  have hh := h
  obtain ⟨hC, hD, ⟨v, hS⟩, hL, ⟨n1, n2, n3, n4, n5, n6, n7, n8, n9, n10, n11, n12, n13, n14, n15⟩, ⟨k1, k2, k3, k4, k5, k6, k7⟩, ⟨e1, e2, e3, e4⟩⟩ := h
  have d10 := hD.cell 10
  have l0 := hL.cell 0
  have lf0 := hL.frozen 0
  have d7 := (hD.far (p := ⟨lg, 0, none⟩) n2 (.int .i64 0)).cell 7
  have d7' := hD.cell 7
  simp [decCells, tenCells] at d10 l0 d7 d7'
  have hm1 := method_readn1
  have hO0 := (Off.refl [lg] w).setCell (p := ⟨lg, 0, none⟩) (by simp) (.int .i64 0)
  have HC := Lib.hid (readn1 S T R b n cap i l m (w.setCell ⟨lg, 0, none⟩ (.int .i64 0)) (hC.off hO0 ⟨ni1 n12.symm, ni1 n13.symm, ni1 n14.symm, ni1 n15.symm, ni1 (Nat.ne_of_lt e3)⟩) hi hm (by omega) 103 (by rw [hc]; rfl))
  have HD := Lib.hid (hD.far (p := ⟨lg, 0, none⟩) n2 (.int .i64 0))
  have HS := Lib.hid (hS.far (p := ⟨lg, 0, none⟩) n3 (.int .i64 0))
  have HL := Lib.hid (hL.set_ 0 (.int .i64 0))
  have HK := Lib.hid (hK.far (p := ⟨lg, 0, none⟩) k3 (.int .i64 0))
  have HO0 := Lib.hid hO0
  have HH := Lib.hid hh
  clear hc
  clear hh hC hD hS hL hK hO0
  go_enter Tryz.func53, Tryz.ntmps53
  go_wp2_with fail
  refine HC.out.mono ?_
  rintro e w1 ⟨rfl, hC1, hO1⟩
  have hD1 := hO1.blk HD.out (ni3 n4 n5 n6)
  have hS1 := hO1.blk HS.out (ni3 n8 n9 n10)
  have hL1 := hO1.blk HL.out (ni3 n12 n13 n14)
  have hK1 := hO1.blk HK.out (ni3 k4 k5 k6)
  have d9 := hD1.cell 9
  have df9 := hD1.frozen 9
  have q8 := hK1.cell 8
  have qf8 := hK1.frozen 8
  simp [zeroTok, tokCells, decCells] at q8 d9
  have hD2 := (hD1.set_ 9 (.int .u8 6)).far (p := ⟨K, 8, none⟩) (fun e => k1 e.symm) (.bool false)
  have hS2 := (hS1.far (p := ⟨D, 9, none⟩) (fun e => n1 e.symm) (.int .u8 6)).far (p := ⟨K, 8, none⟩) (fun e => k2 e.symm) (.bool false)
  have hL2 := (hL1.far (p := ⟨D, 9, none⟩) (fun e => n2 e.symm) (.int .u8 6)).far (p := ⟨K, 8, none⟩) (fun e => k3 e.symm) (.bool false)
  have hK2 := (hK1.far (p := ⟨D, 9, none⟩) k1 (.int .u8 6)).set_ 8 (.bool false)
  have hO2 := ((Off.refl [D, K] w1).setCell (p := ⟨D, 9, none⟩) (by simp) (.int .u8 6)).setCell (p := ⟨K, 8, none⟩) (by simp) (.bool false)
  have hC2 := hC1.off hO2 ⟨ni2 n4.symm k4.symm, ni2 n5.symm k5.symm, ni2 n6.symm k6.symm, ni2 n7.symm k7.symm, ni2 (Nat.ne_of_lt e1) (Nat.ne_of_lt e4)⟩
  have HM := Lib.hid (helper_str D sg sn lg 1 K 6 S T R b n cap (i + 1) l (m + 1) _ hD2 hC2 hK2 hi7 (by omega) (by omega) k1 k4 k5 k6 k7 (Nat.ne_of_lt e4))
  have HO3 := Lib.hid ((HO0.out.trans hO1).trans hO2)
  have HD2 := Lib.hid hD2
  have HS2 := Lib.hid hS2
  have HL2 := Lib.hid hL2
  clear hD1 hS1 hL1 hK1 hC1 hO1 hD2 hS2 hL2 hK2 hO2 hC2
  go_wp2_with fail
  refine HM.out.mono ?_
  rintro e w2 ⟨rfl, hC3, hK3, hO3⟩
  have hD3 := hO3.blk HD2.out (ni4 n4 n5 n6 k1.symm)
  have hS3 := hO3.blk HS2.out (ni4 n8 n9 n10 k2.symm)
  have hL3 := hO3.blk HL2.out (ni4 n12 n13 n14 k3.symm)
  have HK3 := Lib.hid hK3
  have HD3 := Lib.hid hD3
  have HS3 := Lib.hid hS3
  have HL3 := Lib.hid hL3
  have HC3 := Lib.hid hC3
  have HO4 := Lib.hid ((HO3.out.trans hO3).mono (S' := [D, sg, lg, S, T, R, K]) (fun x h => by simp at h; rcases h with h | h | h | h | h | h | h | h | h | h <;> first | (simp [h]; done) | (simp; done)))
  clear hK3 hO3 hD3 hS3 hL3 hC3
  go_wp2_with fail
  go_ret2
  exact ⟨rfl, ⟨HC3.out, HD3.out, ⟨_, HS3.out⟩, HL3.out, HH.out.nd, HH.out.nk, HH.out.lo⟩, HK3.out, HO4.out⟩
end Go.Proofs.YtioabgenlaikaaaGreatDoor
