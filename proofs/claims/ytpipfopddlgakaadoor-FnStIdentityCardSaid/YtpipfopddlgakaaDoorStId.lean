/- impl.StIdentity at tidy identifiers; an identity hash's own identifier. -/
import Derived.Test.YtpipfopddlgakaaDoorTidy
namespace Go.Proofs.YtpipfopddlgakaaDoor
open Go.RowKit

theorem str_toList (s : ByteArray) : str s.data.toList = s := by cases s; simp [str]

set_option maxRecDepth 100000 in
set_option maxHeartbeats 1000000 in
theorem stIdentity_of (ver codec code : Nat) (dg : ByteArray) (l : List UInt8) (w : World) (hci : ∀ W, Calls Tryd.prog 9 #[cidV ver codec code dg] W fun e w' => e = .returned (.tuple #[.agg #[.string (str l)], .bool true]) ∧ Below W.heap.size W w')
    (hl : IsCid l code dg.data.toList) (hp : 0 < dg.size) :
    Calls Tryd.prog 6 #[cidV ver codec code dg] w fun e w' => e = .returned (.tuple #[.string dg, .bool ((code : Int) == 0), .bool true]) ∧ Below w.heap.size w w' := by
  have HC := Lib.hid hci
  have HI := Lib.hid (fun W => isIdentity_any (str l) code dg.data.toList W (by simpa [str] using hl))
  clear hci hl
  go_enter Tryd.func6, Tryd.ntmps6
  go_wp2_with fail
  refine (HC.out _).mono ?_
  rintro e w1 ⟨rfl, hB1⟩
  have hz1 := hB1.size
  simp at hz1
  have HB1 := Lib.hid hB1
  clear hB1
  go_wp2_with fail
  refine (HI.out _).mono ?_
  rintro e w2 ⟨A, C, b, o, rfl, hdg, hseg, hB2⟩
  obtain rfl := hdg.2 (by simpa using hp)
  have HB2 := Lib.hid hB2
  have hcv := fun n => run_convert_seg (P := Tryd.prog) (src := 33) (e := 5) (dst := 9) Tryd.underlying33 Tryd.underlying5 Tryd.underlying9 C (hseg.drewN n)
  rw [str_toList, show dg.data.toList.length = dg.size from by simp] at hcv
  clear hdg hB2 hseg
  go_wp2_with fail
  go_quiet (fail)
  go_wp2_with fail
  go_ret3
  refine ⟨rfl, ?_⟩
  exact Below.trans (((Below.refl _ w).alloc (Nat.le_refl _) _).trans (((HB1.out.mono (by simp))).alloc (by omega) _)) ((HB2.out.mono (by simp; omega)).trans ((Drew.drewN w2 _).below _))

set_option maxRecDepth 100000 in
theorem sum_id (s : ByteArray) (w : World) :
    Calls Tryd.prog 11 #[.int .u64 0, .string s] w fun e w' => e = .returned (.tuple #[.string s, .bool true]) ∧ w = w' := by
  go_enter Tryd.func11, Tryd.ntmps11
  go_wp2_with fail
  go_ret2
  exact ⟨rfl, rfl⟩

set_option maxRecDepth 100000 in
theorem fitting_id (ver codec : Nat) (s : ByteArray) (w : World) :
    Calls Tryd.prog 7 #[.int .u64 ver, .int .u64 codec, .int .u64 0, .string s] w fun e w' => e = .returned (cidV ver codec 0 s) ∧ Below w.heap.size w w' := by
  go_enter Tryd.func7, Tryd.ntmps7
  go_wp2_with fail
  refine (sum_id s _).mono ?_
  rintro e w' ⟨rfl, rfl⟩
  go_wp2_with fail
  exact bodyPost_ret (results_row rfl _ (Blk.new _ _ _) rfl Tryd.underlying24 rfl (by kernel_rfl)) rfl ⟨rfl, (Below.refl _ w).alloc (Nat.le_refl _) _⟩

theorem isCid_one (codec code : Nat) (d : List UInt8) (h1 : codec < 9223372036854775808) (h2 : code < 9223372036854775808) (h3 : d.length ≤ 2147483647) : IsCid (cid1 codec (mhB code d)) code d := ⟨h2, h3, Or.inr ⟨codec, h1, rfl⟩⟩
theorem isCid_zero (d : List UInt8) (h3 : d.length = 32) : IsCid (mhB 18 d) 18 d := ⟨by omega, by omega, Or.inl ⟨rfl, rfl, h3⟩⟩

/-- What cidIn makes of a tidy identifier. -/
theorem cidIn_tidy (ver codec code : Nat) (dg : ByteArray) (hs : dg.size ≤ 2147483647) (ht : tidyB ver codec code dg.size = true) :
    ∃ l, IsCid l code dg.data.toList ∧ ∀ W, Calls Tryd.prog 9 #[cidV ver codec code dg] W fun e w' => e = .returned (.tuple #[.agg #[.string (str l)], .bool true]) ∧ Below W.heap.size W w' := by
  unfold tidyB at ht
  by_cases h0 : ver = 0
  · rw [if_pos h0] at ht
    simp at ht
    obtain ⟨⟨rfl, rfl⟩, h32⟩ := ht
    subst h0
    exact ⟨_, isCid_zero _ (by simpa using h32), fun W => cidIn_zero dg W (by simpa using h32)⟩
  · rw [if_neg h0] at ht
    simp at ht
    obtain ⟨⟨rfl, h1⟩, h2⟩ := ht
    exact ⟨_, isCid_one codec code dg.data.toList h1 h2 (by simpa using hs), fun W => cidIn_one codec code dg W (by omega) (by omega) hs⟩

theorem stIdentity_tidy (ver codec code : Nat) (dg : ByteArray) (w : World) (hs : dg.size ≤ 2147483647) (ht : tidyB ver codec code dg.size = true) (hp : 0 < dg.size) :
    Calls Tryd.prog 6 #[cidV ver codec code dg] w fun e w' => e = .returned (.tuple #[.string dg, .bool ((code : Int) == 0), .bool true]) ∧ Below w.heap.size w w' := by
  obtain ⟨l, h1, h2⟩ := cidIn_tidy ver codec code dg hs ht
  exact stIdentity_of ver codec code dg l w h2 h1 hp

/-- Is it one of which the statements about stores speak? -/
def stcB (ver codec code n : Nat) : Bool := tidyB ver codec code n && decide (0 < n) && decide (n ≤ 200)

set_option maxRecDepth 100000 in
set_option maxHeartbeats 1000000 in
theorem stCid_any (ver codec code : Nat) (dg : ByteArray) (w : World) :
    Calls Tryd.prog 5 #[cidV ver codec code dg] w fun e w' => e = .returned (.bool (stcB ver codec code dg.size)) ∧ Below w.heap.size w w' := by
  obtain ⟨B, hB⟩ : ∃ B, B = stcB ver codec code dg.size := ⟨_, rfl⟩
  rw [← hB]
  have HB := Lib.hid hB
  clear hB
  have HT := fun W => tidy_any ver codec code dg W
  cases ht : tidyB ver codec code dg.size with
  | false =>
    rw [ht] at HT
    have H := Lib.hid HT
    have HH := Lib.hid ht
    clear HT ht
    go_enter Tryd.func5, Tryd.ntmps5
    go_wp2_with fail
    refine (H.out _).mono ?_
    rintro e w1 ⟨rfl, hB1⟩
    have H1 := Lib.hid hB1
    clear hB1
    go_wp2_with fail
    go_ret
    refine ⟨?_, ((Below.refl _ w).alloc (Nat.le_refl _) _).trans (H1.out.mono (by simp))⟩
    rw [HB.out, stcB, HH.out]; rfl
  | true =>
    rw [ht] at HT
    have H := Lib.hid HT
    have HH := Lib.hid ht
    clear HT ht
    have cs : dg.size = 0 ∨ (0 < dg.size ∧ dg.size ≤ 200) ∨ 200 < dg.size := by omega
    rcases cs with h | ⟨h, h2⟩ | h
    · have a1 : ¬ ((0 : Int) < (dg.size : Int)) := by omega
      have HS := Lib.hid h
      clear h
      go_enter Tryd.func5, Tryd.ntmps5
      go_wp2_with fail
      refine (H.out _).mono ?_
      rintro e w1 ⟨rfl, hB1⟩
      have c3 := hB1.cell (p := ⟨w.heap.size, 3, none⟩) (by simp)
      simp [go_sem] at c3
      have H1 := Lib.hid hB1
      clear hB1
      go_wp2_with fail
      go_ret
      refine ⟨?_, ((Below.refl _ w).alloc (Nat.le_refl _) _).trans (H1.out.mono (by simp))⟩
      rw [HB.out, stcB, HH.out, HS.out]; rfl
    · have a1 : ((0 : Int) < (dg.size : Int)) := by omega
      have a2 : ((dg.size : Int) ≤ 200) := by omega
      have HS := Lib.hid (And.intro h h2)
      clear h h2
      go_enter Tryd.func5, Tryd.ntmps5
      go_wp2_with fail
      refine (H.out _).mono ?_
      rintro e w1 ⟨rfl, hB1⟩
      have c3 := hB1.cell (p := ⟨w.heap.size, 3, none⟩) (by simp)
      simp [go_sem] at c3
      have H1 := Lib.hid hB1
      clear hB1
      go_wp2_with fail
      go_ret
      refine ⟨?_, ((Below.refl _ w).alloc (Nat.le_refl _) _).trans (H1.out.mono (by simp))⟩
      have h := HS.out
      rw [HB.out, stcB, HH.out]; simp [h]
    · have a1 : ((0 : Int) < (dg.size : Int)) := by omega
      have a2 : ¬ ((dg.size : Int) ≤ 200) := by omega
      have HS := Lib.hid h
      clear h
      go_enter Tryd.func5, Tryd.ntmps5
      go_wp2_with fail
      refine (H.out _).mono ?_
      rintro e w1 ⟨rfl, hB1⟩
      have c3 := hB1.cell (p := ⟨w.heap.size, 3, none⟩) (by simp)
      simp [go_sem] at c3
      have H1 := Lib.hid hB1
      clear hB1
      go_wp2_with fail
      go_ret
      refine ⟨?_, ((Below.refl _ w).alloc (Nat.le_refl _) _).trans (H1.out.mono (by simp))⟩
      have h := HS.out
      rw [HB.out, stcB, HH.out, show decide (dg.size ≤ 200) = false from by simp; omega]; simp; omega


set_option maxRecDepth 100000 in
set_option maxHeartbeats 4000000 in
theorem law_true (ver codec code : Nat) (dg : ByteArray) (w : World) :
    Calls Tryd.prog 3 #[cidV ver codec code dg] w fun e w' => e = .returned (.bool true) ∧ Below w.heap.size w w' := by
  have HZ := fun W => zzFits1_any ver codec code dg W
  have HS := fun W => stCid_any ver codec code dg W
  by_cases hz : dg.size ≤ 2147483647
  · rw [show decide (dg.size ≤ 2147483647) = true from by simpa using hz] at HZ
    cases hs : stcB ver codec code dg.size with
    | false =>
      rw [hs] at HS
      have H1 := Lib.hid HZ
      have H2 := Lib.hid HS
      clear HZ HS hs hz
      go_enter Tryd.func3, Tryd.ntmps3
      go_wp2_with fail
      refine (H1.out _).mono ?_
      rintro e w1 ⟨rfl, hB1⟩
      have k1 := Blk.below (Blk.new w 24 #[.int .u64 ver, .int .u64 codec, .int .u64 code, .string dg]) hB1 (by simp)
      have c0 := k1.cell 0
      have c1 := k1.cell 1
      have c2 := k1.cell 2
      have c3 := k1.cell 3
      simp at c0 c1 c2 c3
      have B1 := Lib.hid (Below.trans ((Below.refl _ w).alloc (Nat.le_refl _) _) (hB1.mono (by simp)))
      clear hB1 k1
      go_wp2_with fail
      refine (H2.out _).mono ?_
      rintro e w2 ⟨rfl, hB2⟩
      have B2 := Lib.hid (B1.out.trans (hB2.mono (by have := B1.out.size; omega)))
      clear hB2
      go_wp2_with fail
      go_ret
      exact ⟨rfl, B2.out⟩
    | true =>
      rw [hs] at HS
      have hs' := hs
      simp [stcB] at hs'
      obtain ⟨⟨ht, hp⟩, h200⟩ := hs'
      have H1 := Lib.hid HZ
      have H2 := Lib.hid HS
      have H3 := Lib.hid (fun W => stIdentity_tidy ver codec code dg W hz ht hp)
      have H4 := Lib.hid (fun W => fitting_id 1 85 (str [97]) W)
      have H5 := Lib.hid (fun W => stIdentity_tidy 1 85 0 (str [97]) W (by decide) (by decide) (by decide))
      clear HZ HS hs hz ht hp h200
      have hb : ∀ (b : Bool), (b == b) = true := fun b => by cases b <;> rfl
      go_enter Tryd.func3, Tryd.ntmps3
      go_wp2_with fail
      refine (H1.out _).mono ?_
      rintro e w1 ⟨rfl, hB1⟩
      have k1 := Blk.below (Blk.new w 24 #[.int .u64 ver, .int .u64 codec, .int .u64 code, .string dg]) hB1 (by simp)
      have c0 := k1.cell 0
      have c1 := k1.cell 1
      have c2 := k1.cell 2
      have c3 := k1.cell 3
      simp at c0 c1 c2 c3
      have B1 := Lib.hid (Below.trans ((Below.refl _ w).alloc (Nat.le_refl _) _) (hB1.mono (by simp)))
      have K1 := Lib.hid k1
      clear hB1 k1
      go_wp2_with fail
      refine (H2.out _).mono ?_
      rintro e w2 ⟨rfl, hB2⟩
      have k2 := K1.out.below hB2 K1.out.lt
      have d0 := k2.cell 0
      have d1 := k2.cell 1
      have d2 := k2.cell 2
      have d3 := k2.cell 3
      simp at d0 d1 d2 d3
      have B2 := Lib.hid (B1.out.trans (hB2.mono (by have := B1.out.size; omega)))
      have K2 := Lib.hid k2
      clear hB2 k2 c0 c1 c2 c3
      go_wp2_with fail
      refine (H3.out _).mono ?_
      rintro e w3 ⟨rfl, hB3⟩
      have k3 := K2.out.below hB3 K2.out.lt
      have B3 := Lib.hid (B2.out.trans (hB3.mono (by have := B2.out.size; omega)))
      have K3 := Lib.hid k3
      clear hB3 k3 d0 d1 d2 d3
      go_wp2_with fail
      refine (H4.out _).mono ?_
      rintro e w4 ⟨rfl, hB4⟩
      have k4 := K3.out.below hB4 K3.out.lt
      have B4 := Lib.hid (B3.out.trans (hB4.mono (by have := B3.out.size; omega)))
      have K4 := Lib.hid k4
      clear hB4 k4
      go_wp2_with fail
      refine (H5.out _).mono ?_
      rintro e w5 ⟨rfl, hB5⟩
      have k5 := K4.out.below hB5 K4.out.lt
      have e2 := k5.cell 2
      have e3 := k5.cell 3
      simp at e2 e3
      have B5 := Lib.hid (B4.out.trans (hB5.mono (by have := B4.out.size; omega)))
      clear hB5 k5
      cases hc : ((code : Int) == 0)
      all_goals
        go_wp2_with fail
        go_ret
        refine ⟨?_, B5.out⟩
        first | rfl | simp
  · rw [show decide (dg.size ≤ 2147483647) = false from by simpa using hz] at HZ
    have H1 := Lib.hid HZ
    clear HZ HS hz
    go_enter Tryd.func3, Tryd.ntmps3
    go_wp2_with fail
    refine (H1.out _).mono ?_
    rintro e w1 ⟨rfl, hB1⟩
    have B1 := Lib.hid (Below.trans ((Below.refl _ w).alloc (Nat.le_refl _) _) (hB1.mono (by simp)))
    clear hB1
    go_wp2_with fail
    go_ret
    exact ⟨rfl, B1.out⟩
end Go.Proofs.YtpipfopddlgakaaDoor
