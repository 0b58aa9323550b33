/-
  The CBOR decoder's steps over the ten bytes of the pragma's map.
  The CBOR decoder's steps in a map of one entry: the key, the value, the end.
  The CBOR decoder's Step, at each of the four places of the pragma's map; what makes a decoder.
  What makes a decoder.
  (No condition beyond those that each theorem states.)
-/
import Derived.Test.YthmhnknkidkdlaaGreatDoorB09
import Derived.Deep.RegionHeld3
namespace Go.Proofs.YthmhnknkidkdlaaGreatDoor
open Go.RowKit

set_option maxRecDepth 100000 in
set_option maxHeartbeats 1000000 in
theorem helper_str (D sg sn lg ln K : Nat) (ph : Int) (S T R b n cap i : Nat) (l : List UInt8) (m : Int) (w : World) (hD : Blk w D 222 (decCells S sg sn ph lg ln)) (h : Chain w S T R b n cap i l m) (hK : Blk w K 203 zeroTok) (hik : i + 7 ≤ n) (hm : 0 ≤ m) (hm2 : m < 4611686018427387904)
    (hKD : K ≠ D) (hKS : K ≠ S) (hKT : K ≠ T) (hKR : K ≠ R) (hKb : K ≠ b) (hKE : 1 ≠ K) :
    Calls Tryz.prog 101 #[.pointer (some ⟨D, 0, none⟩), .int .u8 103, .pointer (some ⟨K, 0, none⟩)] w fun e w' => e = .returned (.tuple #[.bool true, .nilIface]) ∧ Chain w' S T R b n cap (i + 7) l (m + 7) ∧ Blk w' K 203 (tokCells 115 0 (str ((l.drop i).take 7)) (.slice none 0 0) false 0 0 0 false 0) ∧ Off [S, T, R, K] w w' := by
  have k0 := hK.cell 0
  have kf0 := hK.frozen 0
  simp [zeroTok, tokCells] at k0
  have HC := Lib.hid (decodeString_ok D sg sn lg ln ph S T R b n cap i 103 7 l m (w.setCell ⟨K, 0, none⟩ (.int .u8 115)) (hD.far (p := ⟨K, 0, none⟩) (fun e => hKD e.symm) _) (h.off (X := [K]) ((Off.refl [K] w).setCell (p := ⟨K, 0, none⟩) (by simp) _) (by simp; exact ⟨fun e => hKS e.symm, fun e => hKT e.symm, fun e => hKR e.symm, fun e => hKb e.symm, hKE⟩)) (by decide +kernel) (by omega) (by omega) hik hm hm2)
  have HK := Lib.hid hK
  clear hD h hK
  go_enter Tryz.func101, Tryz.ntmps101
  go_wp2_with fail
  refine HC.out.mono ?_
  rintro e w1 ⟨rfl, hC1, hO1⟩
  have hK1 := hO1.blk (HK.out.set_ 0 (.int .u8 115)) (by simp; exact ⟨hKS, hKT, hKR⟩)
  have k2 := hK1.cell 2
  have kf2 := hK1.frozen 2
  simp [zeroTok, tokCells] at k2
  have hO2 := ((Off.refl [S, T, R, K] w).setCell (p := ⟨K, 0, none⟩) (by simp) (.int .u8 115)).then hO1 (fun x h => by simp at h; rcases h with h | h | h <;> simp [h])
  have HK1 := Lib.hid hK1
  have HC1 := Lib.hid hC1
  have HO2 := Lib.hid hO2
  clear hK1 hC1 hO2 hO1
  go_wp2_with fail
  go_ret2
  exact ⟨rfl, HC1.out.off (X := [K]) ((Off.refl [K] w1).setCell (p := ⟨K, 2, none⟩) (by simp) _) (by simp; exact ⟨fun e => hKS e.symm, fun e => hKT e.symm, fun e => hKR e.symm, fun e => hKb e.symm, hKE⟩), HK1.out.set_ 2 _, HO2.out.setCell (p := ⟨K, 2, none⟩) (by simp) _⟩

set_option maxRecDepth 100000 in
set_option maxHeartbeats 1000000 in
theorem helper_two (D K : Nat) (w : World) (hK : Blk w K 203 zeroTok) :
    Calls Tryz.prog 101 #[.pointer (some ⟨D, 0, none⟩), .int .u8 2, .pointer (some ⟨K, 0, none⟩)] w fun e w' => e = .returned (.tuple #[.bool true, .nilIface]) ∧ Blk w' K 203 (tokCells 117 0 noBytes (.slice none 0 0) false 0 2 0 false 0) ∧ Off [K] w w' := by
  have k0 := hK.cell 0
  have kf0 := hK.frozen 0
  have k6 := hK.cell 6
  have kf6 := hK.frozen 6
  simp [zeroTok, tokCells] at k0 k6
  have HK := Lib.hid hK
  clear hK
  go_enter Tryz.func101, Tryz.ntmps101
  go_wp2_with fail
  refine (decodeUint_small D 2 2 _ (by decide +kernel) (by omega)).mono ?_
  rintro e w' ⟨rfl, rfl⟩
  go_wp2_with fail
  go_ret2
  exact ⟨rfl, (HK.out.set_ 0 _).set_ 6 _, ((Off.refl [K] w).setCell (p := ⟨K, 0, none⟩) (by simp) _).setCell (p := ⟨K, 6, none⟩) (by simp) _⟩

/-- The decoder over its readers, and the token that it is to fill. -/
structure Dec (w : World) (D sg sn lg ln K : Nat) (ph l0 : Int) (S T R b n cap i : Nat) (l : List UInt8) (m : Int) : Prop where
  chain : Chain w S T R b n cap i l m
  dec : Blk w D 222 (decCells S sg sn ph lg ln)
  stk : ∃ v, Blk w sg 220 (tenCells .u8 v)
  left : Blk w lg 3 (tenCells .i64 l0)
  nd : D ≠ sg ∧ D ≠ lg ∧ sg ≠ lg ∧ D ≠ S ∧ D ≠ T ∧ D ≠ R ∧ D ≠ b ∧ sg ≠ S ∧ sg ≠ T ∧ sg ≠ R ∧ sg ≠ b ∧ lg ≠ S ∧ lg ≠ T ∧ lg ≠ R ∧ lg ≠ b
  nk : K ≠ D ∧ K ≠ sg ∧ K ≠ lg ∧ K ≠ S ∧ K ≠ T ∧ K ≠ R ∧ K ≠ b
  lo : 1 < D ∧ 1 < sg ∧ 1 < lg ∧ 1 < K

set_option maxRecDepth 100000 in
set_option maxHeartbeats 1000000 in
theorem step_value (D sg lg K : Nat) (l0 : Int) (S T R b n cap i : Nat) (l : List UInt8) (m : Int) (w : World) (h : Dec w D sg 0 lg 0 K 0 l0 S T R b n cap i l m) (hK : Blk w K 203 zeroTok) (hi : i < n) (hc : (l[i]'(h.chain.len ▸ hi)).toNat = 161) (hm : 0 ≤ m) (hm2 : m < 4611686018427387904) :
    Calls Tryz.prog 91 #[.pointer (some ⟨D, 0, none⟩), .pointer (some ⟨K, 0, none⟩)] w fun e w' => e = .returned (.tuple #[.bool false, .nilIface]) ∧ Dec w' D sg 1 lg 1 K 5 1 S T R b n cap (i + 1) l (m + 1) ∧ Blk w' K 203 (tokCells 123 1 noBytes (.slice none 0 0) false 0 0 0 false 0) ∧ Off [D, sg, lg, S, T, R, K] w w' := by
  have hh := h
  obtain ⟨hC, hD, ⟨v, hS⟩, hL, ⟨n1, n2, n3, n4, n5, n6, n7, n8, n9, n10, n11, n12, n13, n14, n15⟩, ⟨k1, k2, k3, k4, k5, k6, k7⟩, ⟨e1, e2, e3, e4⟩⟩ := h
  have d7 := hD.cell 7
  simp [decCells] at d7
  have hm1 := method_readn1
  have HC := Lib.hid (readn1 S T R b n cap i l m w hC hi hm hm2 161 (by rw [hc]; rfl))
  have HD := Lib.hid hD
  have HS := Lib.hid hS
  have HL := Lib.hid hL
  have HK := Lib.hid hK
  have HH := Lib.hid hh
  clear hc
  clear hh hC hD hS hL hK
  go_enter Tryz.func91, Tryz.ntmps91
  go_wp2_with fail
  refine HC.out.mono ?_
  rintro e w1 ⟨rfl, hC1, hO1⟩
  have hD1 := hO1.blk HD.out (by simp; exact ⟨n4, n5, n6⟩)
  have hS1 := hO1.blk HS.out (by simp; exact ⟨n8, n9, n10⟩)
  have hL1 := hO1.blk HL.out (by simp; exact ⟨n12, n13, n14⟩)
  have hK1 := hO1.blk HK.out (by simp; exact ⟨k4, k5, k6⟩)
  have q8 := hK1.cell 8
  have qf8 := hK1.frozen 8
  simp [zeroTok, tokCells] at q8
  have HM := Lib.hid (helper_map1 D S K sg lg v l0 (w1.setCell ⟨K, 8, none⟩ (.bool false)) (hD1.far (p := ⟨K, 8, none⟩) (fun e => k1 e.symm) _) (hS1.far (p := ⟨K, 8, none⟩) (fun e => k2 e.symm) _) (hL1.far (p := ⟨K, 8, none⟩) (fun e => k3 e.symm) _) (hK1.set_ 8 (.bool false)) n1 n2 (fun e => k1 e.symm) n3 (fun e => k2 e.symm) (fun e => k3 e.symm))
  have HC1 := Lib.hid hC1
  have HO1 := Lib.hid hO1
  clear hD1 hS1 hL1 hK1 hC1 hO1
  go_wp2_with fail
  refine HM.out.mono ?_
  rintro e w2 ⟨rfl, hD2, hS2, hL2, hK2, hO2⟩
  have hO3 : Off [D, sg, lg, S, T, R, K] w w2 := ((HO1.out.mono (S' := [D, sg, lg, S, T, R, K]) (fun x h => by simp at h; rcases h with h | h | h <;> simp [h])).setCell (p := ⟨K, 8, none⟩) (by simp) (.bool false)).then hO2 (fun x h => by simp at h; rcases h with h | h | h | h <;> simp [h])
  have hO4 : Off [D, sg, lg, K] w1 w2 := ((Off.refl [D, sg, lg, K] w1).setCell (p := ⟨K, 8, none⟩) (by simp) (.bool false)).then hO2 (fun x h => by simp at h; rcases h with h | h | h | h <;> simp [h])
  have hC2 := HC1.out.off hO4 ⟨ni4 n4.symm n8.symm n12.symm k4.symm, ni4 n5.symm n9.symm n13.symm k5.symm, ni4 n6.symm n10.symm n14.symm k6.symm, ni4 n7.symm n11.symm n15.symm k7.symm, ni4 (Nat.ne_of_lt e1) (Nat.ne_of_lt e2) (Nat.ne_of_lt e3) (Nat.ne_of_lt e4)⟩
  have HD2 := Lib.hid hD2
  have HS2 := Lib.hid hS2
  have HL2 := Lib.hid hL2
  have HK2 := Lib.hid hK2
  have HC2 := Lib.hid hC2
  have HO3 := Lib.hid hO3
  clear hD2 hS2 hL2 hK2 hO2 hO3 hO4 hC2
  go_wp2_with fail
  go_ret2
  exact ⟨rfl, ⟨HC2.out, HD2.out, ⟨_, HS2.out⟩, HL2.out, HH.out.nd, HH.out.nk, HH.out.lo⟩, HK2.out, HO3.out⟩
end Go.Proofs.YthmhnknkidkdlaaGreatDoor
namespace Go.Proofs.YthmhnknkidkdlaaGreatDoor
open Go.RowKit

set_option maxRecDepth 100000 in
set_option maxHeartbeats 1000000 in
theorem step_value2 (D sg sn lg ln K : Nat) (l0 : Int) (S T R b n cap i : Nat) (l : List UInt8) (m : Int) (w : World) (h : Dec w D sg sn lg ln K 6 l0 S T R b n cap i l m) (hK : Blk w K 203 zeroTok) (hi : i < n) (hc : (l[i]'(h.chain.len ▸ hi)).toNat = 2) (hm : 0 ≤ m) (hm2 : m < 4611686018427387904) :
    Calls Tryz.prog 97 #[.pointer (some ⟨D, 0, none⟩), .pointer (some ⟨K, 0, none⟩)] w fun e w' => e = .returned (.tuple #[.bool false, .nilIface]) ∧ Dec w' D sg sn lg ln K 5 l0 S T R b n cap (i + 1) l (m + 1) ∧ Blk w' K 203 (tokCells 117 0 noBytes (.slice none 0 0) false 0 2 0 false 0) ∧ Off [D, sg, lg, S, T, R, K] w w' := by
  have hh := h
  obtain ⟨hC, hD, ⟨v, hS⟩, hL, ⟨n1, n2, n3, n4, n5, n6, n7, n8, n9, n10, n11, n12, n13, n14, n15⟩, ⟨k1, k2, k3, k4, k5, k6, k7⟩, ⟨e1, e2, e3, e4⟩⟩ := h
  have d7 := hD.cell 7
  simp [decCells] at d7
  have hm1 := method_readn1
  have HC := Lib.hid (readn1 S T R b n cap i l m w hC hi hm hm2 2 (by rw [hc]; rfl))
  have HD := Lib.hid hD
  have HS := Lib.hid hS
  have HL := Lib.hid hL
  have HK := Lib.hid hK
  have HH := Lib.hid hh
  clear hc
  clear hh hC hD hS hL hK
  go_enter Tryz.func97, Tryz.ntmps97
  go_wp2_with fail
  refine HC.out.mono ?_
  rintro e w1 ⟨rfl, hC1, hO1⟩
  have hD1 := hO1.blk HD.out (ni3 n4 n5 n6)
  have hS1 := hO1.blk HS.out (ni3 n8 n9 n10)
  have hL1 := hO1.blk HL.out (ni3 n12 n13 n14)
  have hK1 := hO1.blk HK.out (ni3 k4 k5 k6)
  have d9 := hD1.cell 9
  have df9 := hD1.frozen 9
  have q8 := hK1.cell 8
  have qf8 := hK1.frozen 8
  simp [zeroTok, tokCells, decCells] at q8 d9
  have hD2 := (hD1.set_ 9 (.int .u8 5)).far (p := ⟨K, 8, none⟩) (fun e => k1 e.symm) (.bool false)
  have hS2 := (hS1.far (p := ⟨D, 9, none⟩) (fun e => n1 e.symm) (.int .u8 5)).far (p := ⟨K, 8, none⟩) (fun e => k2 e.symm) (.bool false)
  have hL2 := (hL1.far (p := ⟨D, 9, none⟩) (fun e => n2 e.symm) (.int .u8 5)).far (p := ⟨K, 8, none⟩) (fun e => k3 e.symm) (.bool false)
  have hK2 := (hK1.far (p := ⟨D, 9, none⟩) k1 (.int .u8 5)).set_ 8 (.bool false)
  have hO2 := ((Off.refl [D, K] w1).setCell (p := ⟨D, 9, none⟩) (by simp) (.int .u8 5)).setCell (p := ⟨K, 8, none⟩) (by simp) (.bool false)
  have hC2 := hC1.off hO2 ⟨ni2 n4.symm k4.symm, ni2 n5.symm k5.symm, ni2 n6.symm k6.symm, ni2 n7.symm k7.symm, ni2 (Nat.ne_of_lt e1) (Nat.ne_of_lt e4)⟩
  have HM := Lib.hid (helper_two D K _ hK2)
  have HO3 := Lib.hid (hO1.trans hO2)
  have HD2 := Lib.hid hD2
  have HS2 := Lib.hid hS2
  have HL2 := Lib.hid hL2
  have HC2 := Lib.hid hC2
  clear hD1 hS1 hL1 hK1 hC1 hO1 hD2 hS2 hL2 hK2 hO2 hC2
  go_wp2_with fail
  refine HM.out.mono ?_
  rintro e w2 ⟨rfl, hK3, hO3⟩
  have hD3 := hO3.blk HD2.out (by simp; exact fun e => k1 e.symm)
  have hS3 := hO3.blk HS2.out (by simp; exact fun e => k2 e.symm)
  have hL3 := hO3.blk HL2.out (by simp; exact fun e => k3 e.symm)
  have hC3 := HC2.out.off hO3 ⟨ni1 k4.symm, ni1 k5.symm, ni1 k6.symm, ni1 k7.symm, ni1 (Nat.ne_of_lt e4)⟩
  have HK3 := Lib.hid hK3
  have HD3 := Lib.hid hD3
  have HS3 := Lib.hid hS3
  have HL3 := Lib.hid hL3
  have HC3 := Lib.hid hC3
  have HO4 := Lib.hid ((HO3.out.trans hO3).mono (S' := [D, sg, lg, S, T, R, K]) (fun x h => by simp at h; rcases h with h | h | h | h | h | h <;> first | (simp [h]; done) | (simp; done)))
  clear hK3 hO3 hD3 hS3 hL3 hC3
  go_wp2_with fail
  go_ret2
  exact ⟨rfl, ⟨HC3.out, HD3.out, ⟨_, HS3.out⟩, HL3.out, HH.out.nd, HH.out.nk, HH.out.lo⟩, HK3.out, HO4.out⟩

set_option maxRecDepth 100000 in
set_option maxHeartbeats 1000000 in
theorem step_end (D sg sn lg K : Nat) (S T R b n cap i : Nat) (l : List UInt8) (m : Int) (w : World) (h : Dec w D sg sn lg 1 K 5 0 S T R b n cap i l m) (hK : Blk w K 203 zeroTok) :
    Calls Tryz.prog 96 #[.pointer (some ⟨D, 0, none⟩), .pointer (some ⟨K, 0, none⟩)] w fun e w' => e = .returned (.tuple #[.bool true, .nilIface]) ∧ Dec w' D sg sn lg 0 K 5 0 S T R b n cap i l m ∧ Blk w' K 203 (tokCells 125 0 noBytes (.slice none 0 0) false 0 0 0 false 0) ∧ Off [D, sg, lg, S, T, R, K] w w' := by
  have hh := h
  obtain ⟨hC, hD, ⟨v, hS⟩, hL, ⟨n1, n2, n3, n4, n5, n6, n7, n8, n9, n10, n11, n12, n13, n14, n15⟩, ⟨k1, k2, k3, k4, k5, k6, k7⟩, ⟨e1, e2, e3, e4⟩⟩ := h
  have d10 := hD.cell 10
  have df10 := hD.frozen 10
  have l0 := hL.cell 0
  have q0 := hK.cell 0
  have qf0 := hK.frozen 0
  simp [decCells, tenCells, zeroTok, tokCells] at d10 l0 q0
  have HC := Lib.hid hC
  have HD := Lib.hid hD
  have HS := Lib.hid hS
  have HL := Lib.hid hL
  have HK := Lib.hid hK
  have HH := Lib.hid hh
  clear hh hC hD hS hL hK
  go_enter Tryz.func96, Tryz.ntmps96
  go_wp2_with fail
  go_ret2
  have hO := ((Off.refl [D, K] w).setCell (p := ⟨D, 10, none⟩) (by simp) (.slice (some ⟨lg, 0, none⟩) 0 10)).setCell (p := ⟨K, 0, none⟩) (by simp) (.int .u8 125)
  refine ⟨rfl, ⟨HC.out.off hO ⟨ni2 n4.symm k4.symm, ni2 n5.symm k5.symm, ni2 n6.symm k6.symm, ni2 n7.symm k7.symm, ni2 (Nat.ne_of_lt e1) (Nat.ne_of_lt e4)⟩, (HD.out.set_ 10 _).far (p := ⟨K, 0, none⟩) (fun e => k1 e.symm) _, ⟨v, (HS.out.far (p := ⟨D, 10, none⟩) (fun e => n1 e.symm) _).far (p := ⟨K, 0, none⟩) (fun e => k2 e.symm) _⟩, (HL.out.far (p := ⟨D, 10, none⟩) (fun e => n2 e.symm) _).far (p := ⟨K, 0, none⟩) (fun e => k3 e.symm) _, HH.out.nd, HH.out.nk, HH.out.lo⟩, (HK.out.far (p := ⟨D, 10, none⟩) k1 _).set_ 0 _, hO.mono (fun x h => by simp at h; rcases h with h | h <;> first | (simp [h]; done) | (simp; done))⟩

set_option maxRecDepth 100000 in
set_option maxHeartbeats 1000000 in
theorem step_key (D sg sn lg K : Nat) (S T R b n cap i : Nat) (l : List UInt8) (m : Int) (w : World) (h : Dec w D sg sn lg 1 K 5 1 S T R b n cap i l m) (hK : Blk w K 203 zeroTok) (hi : i < n) (hi7 : i + 1 + 7 ≤ n) (hc : (l[i]'(h.chain.len ▸ hi)).toNat = 103) (hm : 0 ≤ m) (hm2 : m + 1 < 4611686018427387904) :
    Calls Tryz.prog 96 #[.pointer (some ⟨D, 0, none⟩), .pointer (some ⟨K, 0, none⟩)] w fun e w' => e = .returned (.tuple #[.bool false, .nilIface]) ∧ Dec w' D sg sn lg 1 K 6 0 S T R b n cap (i + 1 + 7) l (m + 1 + 7) ∧ Blk w' K 203 (tokCells 115 0 (str ((l.drop (i + 1)).take 7)) (.slice none 0 0) false 0 0 0 false 0) ∧ Off [D, sg, lg, S, T, R, K] w w' := by
  have hh := h
  obtain ⟨hC, hD, ⟨v, hS⟩, hL, ⟨n1, n2, n3, n4, n5, n6, n7, n8, n9, n10, n11, n12, n13, n14, n15⟩, ⟨k1, k2, k3, k4, k5, k6, k7⟩, ⟨e1, e2, e3, e4⟩⟩ := h
  have d10 := hD.cell 10
  have l0 := hL.cell 0
  have lf0 := hL.frozen 0
  have d7 := (hD.far (p := ⟨lg, 0, none⟩) n2 (.int .i64 0)).cell 7
  have d7' := hD.cell 7
  simp [decCells, tenCells] at d10 l0 d7 d7'
  have hm1 := method_readn1
  have hO0 := (Off.refl [lg] w).setCell (p := ⟨lg, 0, none⟩) (by simp) (.int .i64 0)
  have HC := Lib.hid (readn1 S T R b n cap i l m (w.setCell ⟨lg, 0, none⟩ (.int .i64 0)) (hC.off hO0 ⟨ni1 n12.symm, ni1 n13.symm, ni1 n14.symm, ni1 n15.symm, ni1 (Nat.ne_of_lt e3)⟩) hi hm (by omega) 103 (by rw [hc]; rfl))
  have HD := Lib.hid (hD.far (p := ⟨lg, 0, none⟩) n2 (.int .i64 0))
  have HS := Lib.hid (hS.far (p := ⟨lg, 0, none⟩) n3 (.int .i64 0))
  have HL := Lib.hid (hL.set_ 0 (.int .i64 0))
  have HK := Lib.hid (hK.far (p := ⟨lg, 0, none⟩) k3 (.int .i64 0))
  have HO0 := Lib.hid hO0
  have HH := Lib.hid hh
  clear hc
  clear hh hC hD hS hL hK hO0
  go_enter Tryz.func96, Tryz.ntmps96
  go_wp2_with fail
  refine HC.out.mono ?_
  rintro e w1 ⟨rfl, hC1, hO1⟩
  have hD1 := hO1.blk HD.out (ni3 n4 n5 n6)
  have hS1 := hO1.blk HS.out (ni3 n8 n9 n10)
  have hL1 := hO1.blk HL.out (ni3 n12 n13 n14)
  have hK1 := hO1.blk HK.out (ni3 k4 k5 k6)
  have d9 := hD1.cell 9
  have df9 := hD1.frozen 9
  have q8 := hK1.cell 8
  have qf8 := hK1.frozen 8
  simp [zeroTok, tokCells, decCells] at q8 d9
  have hD2 := (hD1.set_ 9 (.int .u8 6)).far (p := ⟨K, 8, none⟩) (fun e => k1 e.symm) (.bool false)
  have hS2 := (hS1.far (p := ⟨D, 9, none⟩) (fun e => n1 e.symm) (.int .u8 6)).far (p := ⟨K, 8, none⟩) (fun e => k2 e.symm) (.bool false)
  have hL2 := (hL1.far (p := ⟨D, 9, none⟩) (fun e => n2 e.symm) (.int .u8 6)).far (p := ⟨K, 8, none⟩) (fun e => k3 e.symm) (.bool false)
  have hK2 := (hK1.far (p := ⟨D, 9, none⟩) k1 (.int .u8 6)).set_ 8 (.bool false)
  have hO2 := ((Off.refl [D, K] w1).setCell (p := ⟨D, 9, none⟩) (by simp) (.int .u8 6)).setCell (p := ⟨K, 8, none⟩) (by simp) (.bool false)
  have hC2 := hC1.off hO2 ⟨ni2 n4.symm k4.symm, ni2 n5.symm k5.symm, ni2 n6.symm k6.symm, ni2 n7.symm k7.symm, ni2 (Nat.ne_of_lt e1) (Nat.ne_of_lt e4)⟩
  have HM := Lib.hid (helper_str D sg sn lg 1 K 6 S T R b n cap (i + 1) l (m + 1) _ hD2 hC2 hK2 hi7 (by omega) (by omega) k1 k4 k5 k6 k7 (Nat.ne_of_lt e4))
  have HO3 := Lib.hid ((HO0.out.trans hO1).trans hO2)
  have HD2 := Lib.hid hD2
  have HS2 := Lib.hid hS2
  have HL2 := Lib.hid hL2
  clear hD1 hS1 hL1 hK1 hC1 hO1 hD2 hS2 hL2 hK2 hO2 hC2
  go_wp2_with fail
  refine HM.out.mono ?_
  rintro e w2 ⟨rfl, hC3, hK3, hO3⟩
  have hD3 := hO3.blk HD2.out (ni4 n4 n5 n6 k1.symm)
  have hS3 := hO3.blk HS2.out (ni4 n8 n9 n10 k2.symm)
  have hL3 := hO3.blk HL2.out (ni4 n12 n13 n14 k3.symm)
  have HK3 := Lib.hid hK3
  have HD3 := Lib.hid hD3
  have HS3 := Lib.hid hS3
  have HL3 := Lib.hid hL3
  have HC3 := Lib.hid hC3
  have HO4 := Lib.hid ((HO3.out.trans hO3).mono (S' := [D, sg, lg, S, T, R, K]) (fun x h => by simp at h; rcases h with h | h | h | h | h | h | h | h | h | h <;> first | (simp [h]; done) | (simp; done)))
  clear hK3 hO3 hD3 hS3 hL3 hC3
  go_wp2_with fail
  go_ret2
  exact ⟨rfl, ⟨HC3.out, HD3.out, ⟨_, HS3.out⟩, HL3.out, HH.out.nd, HH.out.nk, HH.out.lo⟩, HK3.out, HO4.out⟩
end Go.Proofs.YthmhnknkidkdlaaGreatDoor
namespace Go.Proofs.YthmhnknkidkdlaaGreatDoor
open Go.RowKit

set_option maxRecDepth 100000 in
set_option maxHeartbeats 1000000 in
theorem Step_value (D sg lg K : Nat) (l0 : Int) (S T R b n cap i : Nat) (l : List UInt8) (m : Int) (w : World) (h : Dec w D sg 0 lg 0 K 0 l0 S T R b n cap i l m) (hK : Blk w K 203 zeroTok) (hi : i < n) (hc : (l[i]'(h.chain.len ▸ hi)).toNat = 161) (hm : 0 ≤ m) (hm2 : m < 4611686018427387904) :
    Calls Tryz.prog 85 #[.pointer (some ⟨D, 0, none⟩), .pointer (some ⟨K, 0, none⟩)] w fun e w' => e = .returned (.tuple #[.bool false, .nilIface]) ∧ Dec w' D sg 1 lg 1 K 5 1 S T R b n cap (i + 1) l (m + 1) ∧ Blk w' K 203 (tokCells 123 1 noBytes (.slice none 0 0) false 0 0 0 false 0) ∧ Off [D, sg, lg, S, T, R, K] w w' := by
  have d9 := h.dec.cell 9
  simp [decCells] at d9
  have HC := Lib.hid (step_value D sg lg K l0 S T R b n cap i l m w h hK hi hc hm hm2)
  clear hc
  clear h hK
  go_enter Tryz.func85, Tryz.ntmps85
  go_wp2_with fail
  refine HC.out.mono ?_
  rintro e w1 ⟨rfl, h1, h2, h3⟩
  have d8 := h1.dec.cell 8
  simp [decCells] at d8
  have H1 := Lib.hid h1
  have H2 := Lib.hid h2
  have H3 := Lib.hid h3
  clear h1 h2 h3
  go_wp2_with fail
  go_ret2
  exact ⟨rfl, H1.out, H2.out, H3.out⟩

set_option maxRecDepth 100000 in
set_option maxHeartbeats 1000000 in
theorem Step_key (D sg lg K : Nat) (S T R b n cap i : Nat) (l : List UInt8) (m : Int) (w : World) (h : Dec w D sg 1 lg 1 K 5 1 S T R b n cap i l m) (hK : Blk w K 203 zeroTok) (hi : i < n) (hi7 : i + 1 + 7 ≤ n) (hc : (l[i]'(h.chain.len ▸ hi)).toNat = 103) (hm : 0 ≤ m) (hm2 : m + 1 < 4611686018427387904) :
    Calls Tryz.prog 85 #[.pointer (some ⟨D, 0, none⟩), .pointer (some ⟨K, 0, none⟩)] w fun e w' => e = .returned (.tuple #[.bool false, .nilIface]) ∧ Dec w' D sg 1 lg 1 K 6 0 S T R b n cap (i + 1 + 7) l (m + 1 + 7) ∧ Blk w' K 203 (tokCells 115 0 (str ((l.drop (i + 1)).take 7)) (.slice none 0 0) false 0 0 0 false 0) ∧ Off [D, sg, lg, S, T, R, K] w w' := by
  have d9 := h.dec.cell 9
  simp [decCells] at d9
  have HC := Lib.hid (step_key D sg 1 lg K S T R b n cap i l m w h hK hi hi7 hc hm hm2)
  clear hc
  clear h hK
  go_enter Tryz.func85, Tryz.ntmps85
  go_wp2_with fail
  refine HC.out.mono ?_
  rintro e w1 ⟨rfl, h1, h2, h3⟩
  have d8 := h1.dec.cell 8
  simp [decCells] at d8
  have H1 := Lib.hid h1
  have H2 := Lib.hid h2
  have H3 := Lib.hid h3
  clear h1 h2 h3
  go_wp2_with fail
  go_ret2
  exact ⟨rfl, H1.out, H2.out, H3.out⟩

set_option maxRecDepth 100000 in
set_option maxHeartbeats 1000000 in
theorem Step_value2 (D sg lg K : Nat) (l0 : Int) (S T R b n cap i : Nat) (l : List UInt8) (m : Int) (w : World) (h : Dec w D sg 1 lg 1 K 6 l0 S T R b n cap i l m) (hK : Blk w K 203 zeroTok) (hi : i < n) (hc : (l[i]'(h.chain.len ▸ hi)).toNat = 2) (hm : 0 ≤ m) (hm2 : m < 4611686018427387904) :
    Calls Tryz.prog 85 #[.pointer (some ⟨D, 0, none⟩), .pointer (some ⟨K, 0, none⟩)] w fun e w' => e = .returned (.tuple #[.bool false, .nilIface]) ∧ Dec w' D sg 1 lg 1 K 5 l0 S T R b n cap (i + 1) l (m + 1) ∧ Blk w' K 203 (tokCells 117 0 noBytes (.slice none 0 0) false 0 2 0 false 0) ∧ Off [D, sg, lg, S, T, R, K] w w' := by
  have d9 := h.dec.cell 9
  simp [decCells] at d9
  have HC := Lib.hid (step_value2 D sg 1 lg 1 K l0 S T R b n cap i l m w h hK hi hc hm hm2)
  clear hc
  clear h hK
  go_enter Tryz.func85, Tryz.ntmps85
  go_wp2_with fail
  refine HC.out.mono ?_
  rintro e w1 ⟨rfl, h1, h2, h3⟩
  have d8 := h1.dec.cell 8
  simp [decCells] at d8
  have H1 := Lib.hid h1
  have H2 := Lib.hid h2
  have H3 := Lib.hid h3
  clear h1 h2 h3
  go_wp2_with fail
  go_ret2
  exact ⟨rfl, H1.out, H2.out, H3.out⟩

set_option maxRecDepth 100000 in
set_option maxHeartbeats 1000000 in
theorem Step_end (D sg lg K : Nat) (S T R b n cap i : Nat) (l : List UInt8) (m : Int) (w : World) (h : Dec w D sg 1 lg 1 K 5 0 S T R b n cap i l m) (hK : Blk w K 203 zeroTok) :
    Calls Tryz.prog 85 #[.pointer (some ⟨D, 0, none⟩), .pointer (some ⟨K, 0, none⟩)] w fun e w' => e = .returned (.tuple #[.bool true, .nilIface]) ∧ Dec w' D sg 1 lg 0 K 5 0 S T R b n cap i l m ∧ Blk w' K 203 (tokCells 125 0 noBytes (.slice none 0 0) false 0 0 0 false 0) ∧ Off [D, sg, lg, S, T, R, K] w w' := by
  have d9 := h.dec.cell 9
  simp [decCells] at d9
  have HC := Lib.hid (step_end D sg 1 lg K S T R b n cap i l m w h hK)
  clear h hK
  go_enter Tryz.func85, Tryz.ntmps85
  go_wp2_with fail
  refine HC.out.mono ?_
  rintro e w1 ⟨rfl, h1, h2, h3⟩
  have d8 := h1.dec.cell 8
  simp [decCells] at d8
  have H1 := Lib.hid h1
  have H2 := Lib.hid h2
  have H3 := Lib.hid h3
  clear h1 h2 h3
  go_wp2_with fail
  go_ret2
  exact ⟨rfl, H1.out, H2.out, H3.out⟩

end Go.Proofs.YthmhnknkidkdlaaGreatDoor
namespace Go.Proofs.YthmhnknkidkdlaaGreatDoor
open Go.RowKit

theorem Tryz.infoInt : (Tryz.prog.info? 3).map (fun i => (i.zero, i.size, i.bytes)) = some (some (.int .i64 0), 1, 8) := by kernel_rfl
theorem Tryz.infoPhase : (Tryz.prog.info? 220).map (fun i => (i.zero, i.size, i.bytes)) = some (some (.int .u8 0), 1, 1) := by kernel_rfl
theorem info_parts8 {P : Program} {e : TypeId} {z : Value} {s b : Nat} (h : (P.info? e).map (fun i => (i.zero, i.size, i.bytes)) = some (some z, s, b)) : ∃ i, P.info? e = some i ∧ i.zero = some z ∧ i.size = s ∧ i.bytes = b := by
  obtain ⟨i, hi, he⟩ := Option.map_eq_some_iff.1 h
  simp at he
  exact ⟨i, hi, he.1, he.2.1, he.2.2⟩
theorem run_make10 {P : Program} {t e : TypeId} {i : TypeInfo} {k : IntKind} {sz : Nat} (ht : P.underlying t = some (.slice e)) (hi : P.info? e = some i) (hz : i.zero = some (.int k 0)) (hs : i.size = 1) (hb : i.bytes = sz) (hsz : sz ≤ 8) (w : World) :
    (Instr.makeSlice t (.int .i64 0) (.int .i64 10)).run P w = .ok (.slice (some ⟨w.heap.size, 0, none⟩) 0 10) (w.alloc (.cells (tenCells k 0) e)) := by
  have hr := run_make (P := P) w t e i (.int k 0) ht hi hz .i64 .i64 0 10 (by omega) (by omega) (by rw [hb]; omega) (by omega)
  rw [hr, hs]
  have e : madeCells (Value.int k 0).cells (Int.toNat 10 * 1) = tenCells k 0 := by
    rw [show Int.toNat 10 * 1 = 10 from rfl]
    apply Array.ext
    · simp [size_madeCells, tenCells]
    · intro j h1 h2
      have hj : j < 10 := by simpa [size_madeCells] using h1
      have e1 : (madeCells (Value.int k 0).cells 10)[j] = .int k 0 := by simp [madeCells, Value.cells, Nat.mod_one]
      rw [e1]
      match j, hj with
      | 0, _ => rfl
      | 1, _ => rfl
      | 2, _ => rfl
      | 3, _ => rfl
      | 4, _ => rfl
      | 5, _ => rfl
      | 6, _ => rfl
      | 7, _ => rfl
      | 8, _ => rfl
      | 9, _ => rfl
  rw [e]
  rfl

/-- The settings that the header's decoder has. -/
def cfg : Value := .agg #[.bool true, .bool false, .int .i64 0, .bool false, .bool false, .bool false, .bool false]

set_option maxRecDepth 100000 in
set_option maxHeartbeats 8000000 in
theorem newDecoder_ok (R : Nat) (w : World) :
    Calls Tryz.prog 84 #[cfg, .iface 55 (.pointer (some ⟨R, 0, none⟩))] w fun e w' => ∃ D S T sg lg, e = .returned (.pointer (some ⟨D, 0, none⟩)) ∧ Blk w' D 222 (decCells S sg 0 0 lg 0) ∧ SsC w' S T (zeroBytes 32) 0 ∧ TsC w' T R 0 0 0 ∧ Blk w' sg 220 (tenCells .u8 0) ∧ Blk w' lg 3 (tenCells .i64 0) ∧ Off [] w w' ∧ (w.heap.size ≤ D ∧ w.heap.size ≤ S ∧ w.heap.size ≤ T ∧ w.heap.size ≤ sg ∧ w.heap.size ≤ lg) ∧ (D ≠ sg ∧ D ≠ lg ∧ sg ≠ lg ∧ D ≠ S ∧ D ≠ T ∧ sg ≠ S ∧ sg ≠ T ∧ lg ≠ S ∧ lg ≠ T ∧ T ≠ S) := by
  obtain ⟨i1, hi1, hz1, hs1, hb1⟩ := info_parts8 Tryz.infoPhase
  obtain ⟨i2, hi2, hz2, hs2, hb2⟩ := info_parts8 Tryz.infoInt
  have hmk1 := fun W => run_make10 (P := Tryz.prog) Tryz.underlying218 hi1 hz1 hs1 hb1 (by omega) W
  have hmk2 := fun W => run_make10 (P := Tryz.prog) Tryz.underlying219 hi2 hz2 hs2 hb2 (by omega) W
  unfold cfg
  have b0 := Blk.new w 199 #[.bool true, .bool false, .int .i64 0, .bool false, .bool false, .bool false, .bool false]
  have B0 := Lib.hid b0
  clear b0
  go_enter Tryz.func84, Tryz.ntmps84
  go_wp2_with fail
  go_region_held3 (fun w' => Blk w' w.heap.size 199 #[.bool true, .bool false, .int .i64 0, .bool false, .bool false, .bool false, .bool false] ∧ w'.cell? ⟨w.heap.size, 0, none⟩ = some (.bool true) ∧ w'.cell? ⟨w.heap.size, 1, none⟩ = some (.bool false) ∧ w'.cell? ⟨w.heap.size, 2, none⟩ = some (.int .i64 0) ∧ w'.cell? ⟨w.heap.size, 3, none⟩ = some (.bool false) ∧ w'.cell? ⟨w.heap.size, 4, none⟩ = some (.bool false) ∧ w'.cell? ⟨w.heap.size, 5, none⟩ = some (.bool false) ∧ w'.cell? ⟨w.heap.size, 6, none⟩ = some (.bool false)) (first | (exact ⟨B0.out, (B0.out).cell 0, (B0.out).cell 1, (B0.out).cell 2, (B0.out).cell 3, (B0.out).cell 4, (B0.out).cell 5, (B0.out).cell 6⟩) | (exact ⟨B0.out.alloc _, (B0.out.alloc _).cell 0, (B0.out.alloc _).cell 1, (B0.out.alloc _).cell 2, (B0.out.alloc _).cell 3, (B0.out.alloc _).cell 4, (B0.out.alloc _).cell 5, (B0.out.alloc _).cell 6⟩) | (exact ⟨(B0.out.alloc _).alloc _, ((B0.out.alloc _).alloc _).cell 0, ((B0.out.alloc _).alloc _).cell 1, ((B0.out.alloc _).alloc _).cell 2, ((B0.out.alloc _).alloc _).cell 3, ((B0.out.alloc _).alloc _).cell 4, ((B0.out.alloc _).alloc _).cell 5, ((B0.out.alloc _).alloc _).cell 6⟩) | (exact ⟨K1.out, (K1.out).cell 0, (K1.out).cell 1, (K1.out).cell 2, (K1.out).cell 3, (K1.out).cell 4, (K1.out).cell 5, (K1.out).cell 6⟩) | (exact ⟨K1.out.alloc _, (K1.out.alloc _).cell 0, (K1.out.alloc _).cell 1, (K1.out.alloc _).cell 2, (K1.out.alloc _).cell 3, (K1.out.alloc _).cell 4, (K1.out.alloc _).cell 5, (K1.out.alloc _).cell 6⟩) | (exact ⟨(K1.out.alloc _).alloc _, ((K1.out.alloc _).alloc _).cell 0, ((K1.out.alloc _).alloc _).cell 1, ((K1.out.alloc _).alloc _).cell 2, ((K1.out.alloc _).alloc _).cell 3, ((K1.out.alloc _).alloc _).cell 4, ((K1.out.alloc _).alloc _).cell 5, ((K1.out.alloc _).alloc _).cell 6⟩) | (exact ⟨((K1.out.alloc _).alloc _).alloc _, (((K1.out.alloc _).alloc _).alloc _).cell 0, (((K1.out.alloc _).alloc _).alloc _).cell 1, (((K1.out.alloc _).alloc _).alloc _).cell 2, (((K1.out.alloc _).alloc _).alloc _).cell 3, (((K1.out.alloc _).alloc _).alloc _).cell 4, (((K1.out.alloc _).alloc _).alloc _).cell 5, (((K1.out.alloc _).alloc _).alloc _).cell 6⟩)) (first
    | (go_at_call 90; refine (newReader_ok R _).mono ?_; rintro e w1 ⟨rfl, hs, ht, ho, hz⟩; simp at hz; have bb : Blk w1 w.heap.size 199 #[.bool true, .bool false, .int .i64 0, .bool false, .bool false, .bool false, .bool false] := ho.blk (by first | exact B0.out | exact B0.out.alloc _ | exact (B0.out.alloc _).alloc _) (by simp); have K1 := Lib.hid bb; have HS := Lib.hid hs; have HT := Lib.hid ht; have HO := Lib.hid ho; clear hs ht ho bb))
  all_goals
    go_wp2_with fail
    go_ret
    apply Exists.intro
    apply Exists.intro
    apply Exists.intro
    apply Exists.intro
    apply Exists.intro
    refine ⟨rfl, ?c1, ?c2, ?c3, ?c4, ?c5, ?c6, ?c7, ?c8⟩
    case c1 =>
      apply Blk.eq
      · repeat' (first | (with_reducible refine Blk.new' _ _ _ ?_; first | omega | (simp; done) | (simp; omega) | (simp [World.drew]; omega)) | with_reducible apply Blk.drew)
      · exact rfl
    case c2 => have HS' := HS.out; unfold SsC at HS' ⊢; repeat' (first | with_reducible exact HS' | with_reducible exact Blk.at HS' (by first | (simp; done) | (simp; omega) | omega) | with_reducible apply Blk.drew | with_reducible apply Blk.alloc | with_reducible refine Blk.far ?_ (by first | (simp; done) | (simp; omega) | omega) _)
    case c3 => have HT' := HT.out; unfold TsC at HT' ⊢; repeat' (first | with_reducible exact HT' | with_reducible exact Blk.at HT' (by first | rfl | (simp; done) | (simp; omega) | omega) | with_reducible apply Blk.drew | with_reducible apply Blk.alloc | with_reducible refine Blk.far ?_ (by first | (simp; done) | (simp; omega) | omega) _)
    case c4 => repeat' (first | (with_reducible refine Blk.new' _ _ _ ?_; first | omega | (simp; done) | (simp; omega) | (simp [World.drew]; omega)) | with_reducible apply Blk.drew | with_reducible apply Blk.alloc | with_reducible refine Blk.far ?_ (by first | (simp; done) | (simp; omega) | omega) _ | with_reducible refine Off.blk HO.out ?_ (by simp))
    case c5 => repeat' (first | (with_reducible refine Blk.new' _ _ _ ?_; first | omega | (simp; done) | (simp; omega) | (simp [World.drew]; omega)) | with_reducible apply Blk.drew | with_reducible apply Blk.alloc | with_reducible refine Blk.far ?_ (by first | (simp; done) | (simp; omega) | omega) _ | with_reducible refine Off.blk HO.out ?_ (by simp))
    case c6 => repeat' (first | with_reducible exact Off.refl _ _ | with_reducible apply Off.drew | with_reducible apply Off.alloc | with_reducible refine Off.setCell ?_ (Or.inr (by first | (simp; done) | (simp; omega) | omega)) _ | with_reducible refine Off.then ?_ HO.out (by simp))
    case c7 => refine ⟨?_, ?_, ?_, ?_, ?_⟩ <;> (first | omega | (simp; done) | (simp; omega))
    case c8 => refine ⟨?_, ?_, ?_, ?_, ?_, ?_, ?_, ?_, ?_, ?_⟩ <;> (first | omega | (simp; done) | (simp; omega))
end Go.Proofs.YthmhnknkidkdlaaGreatDoor
