/- The CBOR decoder's steps over the ten bytes of the pragma's map. -/
import Derived.Test.YtioabgenlaikaaaGreatDoorCb
namespace Go.Proofs.YtioabgenlaikaaaGreatDoor
open Go.RowKit

set_option maxRecDepth 100000 in
set_option maxHeartbeats 1000000 in
theorem helper_str (D sg sn lg ln K : Nat) (ph : Int) (S T R b n cap i : Nat) (l : List UInt8) (m : Int) (w : World) (hD : Blk w D 93 (decCells S sg sn ph lg ln)) (h : Chain w S T R b n cap i l m) (hK : Blk w K 73 zeroTok) (hik : i + 7 ≤ n) (hm : 0 ≤ m) (hm2 : m < 4611686018427387904)
    (hKD : K ≠ D) (hKS : K ≠ S) (hKT : K ≠ T) (hKR : K ≠ R) (hKb : K ≠ b) (hKE : 3 ≠ K) :
    Calls Tryz.prog 56 #[.pointer (some ⟨D, 0, none⟩), .int .u8 103, .pointer (some ⟨K, 0, none⟩)] w fun e w' => e = .returned (.tuple #[.bool true, .nilIface]) ∧ Chain w' S T R b n cap (i + 7) l (m + 7) ∧ Blk w' K 73 (tokCells 115 0 (str ((l.drop i).take 7)) (.slice none 0 0) false 0 0 0 false 0) ∧ Off [S, T, R, K] w w' := by
  have k0 := hK.cell 0
  have kf0 := hK.frozen 0
  simp [zeroTok, tokCells] at k0
  have HC := Lib.hid (decodeString_ok D sg sn lg ln ph S T R b n cap i 103 7 l m (w.setCell ⟨K, 0, none⟩ (.int .u8 115)) (hD.far (p := ⟨K, 0, none⟩) (fun e => hKD e.symm) _) (h.off (X := [K]) ((Off.refl [K] w).setCell (p := ⟨K, 0, none⟩) (by simp) _) (by simp; exact ⟨fun e => hKS e.symm, fun e => hKT e.symm, fun e => hKR e.symm, fun e => hKb e.symm, hKE⟩)) (by decide +kernel) (by omega) (by omega) hik hm hm2)
  have HK := Lib.hid hK
  clear hD h hK
  go_enter Tryz.func56, Tryz.ntmps56
  go_wp2_with fail
  refine HC.out.mono ?_
  rintro e w1 ⟨rfl, hC1, hO1⟩
  have hK1 := hO1.blk (HK.out.set_ 0 (.int .u8 115)) (by simp; exact ⟨hKS, hKT, hKR⟩)
  have k2 := hK1.cell 2
  have kf2 := hK1.frozen 2
  simp [zeroTok, tokCells] at k2
  have hO2 := ((Off.refl [S, T, R, K] w).setCell (p := ⟨K, 0, none⟩) (by simp) (.int .u8 115)).then hO1 (fun x h => by simp at h; rcases h with h | h | h <;> simp [h])
  have HK1 := Lib.hid hK1
  have HC1 := Lib.hid hC1
  have HO2 := Lib.hid hO2
  clear hK1 hC1 hO2 hO1
  go_wp2_with fail
  go_ret2
  exact ⟨rfl, HC1.out.off (X := [K]) ((Off.refl [K] w1).setCell (p := ⟨K, 2, none⟩) (by simp) _) (by simp; exact ⟨fun e => hKS e.symm, fun e => hKT e.symm, fun e => hKR e.symm, fun e => hKb e.symm, hKE⟩), HK1.out.set_ 2 _, HO2.out.setCell (p := ⟨K, 2, none⟩) (by simp) _⟩

set_option maxRecDepth 100000 in
set_option maxHeartbeats 1000000 in
theorem helper_two (D K : Nat) (w : World) (hK : Blk w K 73 zeroTok) :
    Calls Tryz.prog 56 #[.pointer (some ⟨D, 0, none⟩), .int .u8 2, .pointer (some ⟨K, 0, none⟩)] w fun e w' => e = .returned (.tuple #[.bool true, .nilIface]) ∧ Blk w' K 73 (tokCells 117 0 noBytes (.slice none 0 0) false 0 2 0 false 0) ∧ Off [K] w w' := by
  have k0 := hK.cell 0
  have kf0 := hK.frozen 0
  have k6 := hK.cell 6
  have kf6 := hK.frozen 6
  simp [zeroTok, tokCells] at k0 k6
  have HK := Lib.hid hK
  clear hK
  go_enter Tryz.func56, Tryz.ntmps56
  go_wp2_with fail
  refine (decodeUint_small D 2 2 _ (by decide +kernel) (by omega)).mono ?_
  rintro e w' ⟨rfl, rfl⟩
  go_wp2_with fail
  go_ret2
  exact ⟨rfl, (HK.out.set_ 0 _).set_ 6 _, ((Off.refl [K] w).setCell (p := ⟨K, 0, none⟩) (by simp) _).setCell (p := ⟨K, 6, none⟩) (by simp) _⟩

/-- The decoder over its readers, and the token that it is to fill. -/
structure Dec (w : World) (D sg sn lg ln K : Nat) (ph l0 : Int) (S T R b n cap i : Nat) (l : List UInt8) (m : Int) : Prop where
  chain : Chain w S T R b n cap i l m
  dec : Blk w D 93 (decCells S sg sn ph lg ln)
  stk : ∃ v, Blk w sg 91 (tenCells .u8 v)
  left : Blk w lg 3 (tenCells .i64 l0)
  nd : D ≠ sg ∧ D ≠ lg ∧ sg ≠ lg ∧ D ≠ S ∧ D ≠ T ∧ D ≠ R ∧ D ≠ b ∧ sg ≠ S ∧ sg ≠ T ∧ sg ≠ R ∧ sg ≠ b ∧ lg ≠ S ∧ lg ≠ T ∧ lg ≠ R ∧ lg ≠ b
  nk : K ≠ D ∧ K ≠ sg ∧ K ≠ lg ∧ K ≠ S ∧ K ≠ T ∧ K ≠ R ∧ K ≠ b
  lo : 3 < D ∧ 3 < sg ∧ 3 < lg ∧ 3 < K

set_option maxRecDepth 100000 in
set_option maxHeartbeats 1000000 in
theorem step_value (D sg lg K : Nat) (l0 : Int) (S T R b n cap i : Nat) (l : List UInt8) (m : Int) (w : World) (h : Dec w D sg 0 lg 0 K 0 l0 S T R b n cap i l m) (hK : Blk w K 73 zeroTok) (hi : i < n) (hc : (l[i]'(h.chain.len ▸ hi)).toNat = 161) (hm : 0 ≤ m) (hm2 : m < 4611686018427387904) :
    Calls Tryz.prog 48 #[.pointer (some ⟨D, 0, none⟩), .pointer (some ⟨K, 0, none⟩)] w fun e w' => e = .returned (.tuple #[.bool false, .nilIface]) ∧ Dec w' D sg 1 lg 1 K 5 1 S T R b n cap (i + 1) l (m + 1) ∧ Blk w' K 73 (tokCells 123 1 noBytes (.slice none 0 0) false 0 0 0 false 0) ∧ Off [D, sg, lg, S, T, R, K] w w' := by
  have hh := h
  obtain ⟨hC, hD, ⟨v, hS⟩, hL, ⟨n1, n2, n3, n4, n5, n6, n7, n8, n9, n10, n11, n12, n13, n14, n15⟩, ⟨k1, k2, k3, k4, k5, k6, k7⟩, ⟨e1, e2, e3, e4⟩⟩ := h
  have d7 := hD.cell 7
  simp [decCells] at d7
  have hm1 := method_readn1
  have HC := Lib.hid (readn1 S T R b n cap i l m w hC hi hm hm2 161 (by rw [hc]; rfl))
  have HD := Lib.hid hD
  have HS := Lib.hid hS
  have HL := Lib.hid hL
  have HK := Lib.hid hK
  have HH := Lib.hid hh
  clear hc
  clear hh hC hD hS hL hK
  go_enter Tryz.func48, Tryz.ntmps48
  go_wp2_with fail
  refine HC.out.mono ?_
  rintro e w1 ⟨rfl, hC1, hO1⟩
  have hD1 := hO1.blk HD.out (by simp; exact ⟨n4, n5, n6⟩)
  have hS1 := hO1.blk HS.out (by simp; exact ⟨n8, n9, n10⟩)
  have hL1 := hO1.blk HL.out (by simp; exact ⟨n12, n13, n14⟩)
  have hK1 := hO1.blk HK.out (by simp; exact ⟨k4, k5, k6⟩)
  have q8 := hK1.cell 8
  have qf8 := hK1.frozen 8
  simp [zeroTok, tokCells] at q8
  have HM := Lib.hid (helper_map1 D S K sg lg v l0 (w1.setCell ⟨K, 8, none⟩ (.bool false)) (hD1.far (p := ⟨K, 8, none⟩) (fun e => k1 e.symm) _) (hS1.far (p := ⟨K, 8, none⟩) (fun e => k2 e.symm) _) (hL1.far (p := ⟨K, 8, none⟩) (fun e => k3 e.symm) _) (hK1.set_ 8 (.bool false)) n1 n2 (fun e => k1 e.symm) n3 (fun e => k2 e.symm) (fun e => k3 e.symm))
  have HC1 := Lib.hid hC1
  have HO1 := Lib.hid hO1
  clear hD1 hS1 hL1 hK1 hC1 hO1
  go_wp2_with fail
  refine HM.out.mono ?_
  rintro e w2 ⟨rfl, hD2, hS2, hL2, hK2, hO2⟩
  have hO3 : Off [D, sg, lg, S, T, R, K] w w2 := ((HO1.out.mono (S' := [D, sg, lg, S, T, R, K]) (fun x h => by simp at h; rcases h with h | h | h <;> simp [h])).setCell (p := ⟨K, 8, none⟩) (by simp) (.bool false)).then hO2 (fun x h => by simp at h; rcases h with h | h | h | h <;> simp [h])
  have hO4 : Off [D, sg, lg, K] w1 w2 := ((Off.refl [D, sg, lg, K] w1).setCell (p := ⟨K, 8, none⟩) (by simp) (.bool false)).then hO2 (fun x h => by simp at h; rcases h with h | h | h | h <;> simp [h])
  have hC2 := HC1.out.off hO4 ⟨ni4 n4.symm n8.symm n12.symm k4.symm, ni4 n5.symm n9.symm n13.symm k5.symm, ni4 n6.symm n10.symm n14.symm k6.symm, ni4 n7.symm n11.symm n15.symm k7.symm, ni4 (Nat.ne_of_lt e1) (Nat.ne_of_lt e2) (Nat.ne_of_lt e3) (Nat.ne_of_lt e4)⟩
  have HD2 := Lib.hid hD2
  have HS2 := Lib.hid hS2
  have HL2 := Lib.hid hL2
  have HK2 := Lib.hid hK2
  have HC2 := Lib.hid hC2
  have HO3 := Lib.hid hO3
  clear hD2 hS2 hL2 hK2 hO2 hO3 hO4 hC2
  go_wp2_with fail
  go_ret2
  exact ⟨rfl, ⟨HC2.out, HD2.out, ⟨_, HS2.out⟩, HL2.out, HH.out.nd, HH.out.nk, HH.out.lo⟩, HK2.out, HO3.out⟩
end Go.Proofs.YtioabgenlaikaaaGreatDoor
