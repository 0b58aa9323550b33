/-
  The library's sort over a value with methods: the insertion that gives up.
  (No condition beyond those that each theorem states.)
-/
import Derived.Test.YtcgggcjmmphldaaGreatDoorHb1
import Derived.Sort.WalkA6
namespace Go.Proofs.YtcgggcjmmphldaaGreatDoor
open Go.RowKit Go.Sort Go.Lib
section
variable {α : Type} [Inhabited α] {T : TypeId} {rv : Value} {gl gs : Nat} {lt : α → α → Bool} {N B : Nat} {At : Array α → World → Prop}

set_option maxHeartbeats 16000000 in
set_option maxRecDepth 1000000 in
theorem partialInsertionSort_srt (S : Srt T rv gl gs lt N B At) (a b : Nat) (d : Array α) (w : World) (hA : At d w) (hab : a < b) (hb : b ≤ N) (hN : N < 4611686018427387904) :
    Calls Tryz.prog 248 #[.iface T rv, .int .i64 a, .int .i64 b] w fun e w' => e = .returned (.bool (partialInsertionSort lt d a b).2) ∧ At (partialInsertionSort lt d a b).1 w' := by
  have mL := S.mLess; have mS := S.mSwap; have eL := S.eLess; have eS := S.eSwap
  -- 'Less' and 'Swap' at (j, j - 1)
  have hlAt : ∀ (X : Array α) (W : World) (j : Nat) (v : Bool), At X W → 1 ≤ j → j < N → lt X[j]! X[j - 1]! = v → Calls Tryz.prog gl #[rv, .int .i64 (j : Int), .int .i64 ((j : Int) - 1)] W fun e w' => e = .returned (.bool v) ∧ At X w' := fun X W j v hX hj hjN hv =>
    (S.lessD hX j (j - 1) hjN (by omega) hv rfl (show ((j - 1 : Nat) : Int) = (j : Int) - 1 by omega) W (Drew.refl _)).mono fun e w' ⟨he, hD⟩ => ⟨he, S.drew hX hD⟩
  have hsAt : ∀ (X : Array α) (W : World) (j : Nat), At X W → 1 ≤ j → j < N → Calls Tryz.prog gs #[rv, .int .i64 (j : Int), .int .i64 ((j : Int) - 1)] W fun e w' => e = .returned (.tuple #[]) ∧ At (swp X j (j - 1)) w' := fun X W j hX hj hjN =>
    (S.swapD hX j (j - 1) hjN (by omega) rfl (show ((j - 1 : Nat) : Int) = (j : Int) - 1 by omega) W (Drew.refl _)).mono fun e w' ⟨he, h2, _⟩ => ⟨he, h2⟩
  have HL : Aside _ := hlAt
  have HS : Aside _ := hsAt
  clear hlAt hsAt
  go_enter Tryz.func248, Tryz.ntmps248
  go_wp2
  go_loopg [7, 8] 5 (fun g1 vi vs wr => ∃ (i s : Nat) (dk : Array α), vi = .int .i64 i ∧ vs = .int .i64 s ∧ s ≤ 5 ∧ 5 - s ≤ g1 ∧ a < i ∧ i ≤ b ∧ At dk wr ∧ Hid (partialIns lt a b (5 - s) i dk = partialIns lt a b 5 (a + 1) d))
  case atStart => exact ⟨a + 1, 0, d, by go_num, rfl, by omega, by omega, by omega, by omega, hA, rfl⟩
  case round =>
    clear hA
    obtain ⟨i, s, dk, rfl, rfl, hs5, hg1, hai, hib, hA, HO⟩ := hrel
    by_cases hs : s < 5
    · have hsz5 : (s : Int) < 5 := by omega
      go_wp2
      go_loopg [7] (b - i) (fun g2 vi wr2 => ∃ (kx : Nat), vi = .int .i64 kx ∧ i ≤ kx ∧ kx ≤ b ∧ b - kx ≤ g2 ∧ At dk wr2 ∧ Hid (scanSorted lt dk b kx = scanSorted lt dk b i))
      case atStart => exact ⟨i, rfl, Nat.le_refl _, hib, Nat.le_refl _, hA, rfl⟩
      case round =>
        clear hA
        obtain ⟨kx, rfl, hik, hkb, hg2, hA, HSc⟩ := hrel
        by_cases hkb' : kx < b
        · have hkz : (kx : Int) < (b : Int) := by omega
          cases hlv : lt dk[kx]! dk[kx - 1]! with
          | false =>
            have hl := HL.out dk _ kx false hA (by omega) (by omega) hlv
            clear hA
            go_wp2_with (first | (go_at_fn gl; refine hl.mono ?_; rintro e w' ⟨rfl, hA⟩))
            go_roundg (b - (kx + 1))
            case measure => omega
            case rel => exact ⟨kx + 1, by go_num, by omega, by omega, Nat.le_refl _, hA, (show Hid _ from by rw [← HSc.out, scanSorted_go lt dk b kx hkb' hlv]; exact rfl)⟩
          | true =>
            have hl := HL.out dk _ kx true hA (by omega) (by omega) hlv
            clear hA
            have HK : Hid (scanSorted lt dk b i = kx) := by show _ = _; rw [← HSc.out, scanSorted_stop lt dk b kx (Or.inr hlv)]
            have hkne : ((kx : Int) == (b : Int)) = false := beq_eq_false_iff_ne.2 (by omega)
            by_cases h50 : b - a < 50
            · have h50z : (b : Int) - (a : Int) < 50 := by omega
              go_wp2_with (first | (go_at_fn gl; refine hl.mono ?_; rintro e w' ⟨rfl, hA⟩))
              have hv : partialInsertionSort lt d a b = (dk, false) := by
                unfold partialInsertionSort
                rw [← HO.out, pi_short lt a b s i dk hs (by rw [HK.out]; omega) h50]
              rw [hv]
              go_ret
              exact ⟨rfl, hA⟩
            · have h50z : ¬ ((b : Int) - (a : Int) < 50) := by omega
              by_cases hka : kx - a ≥ 2
              · have hkaz : (2 : Int) ≤ (kx : Int) - (a : Int) := by omega
                go_wp2_with (first | (go_at_fn gl; refine hl.mono ?_; rintro e w' ⟨rfl, hA⟩) | (go_at_fn gs; refine (HS.out dk _ kx hA (by omega) (by omega)).mono ?_; clear hA; rintro e w' ⟨rfl, hA⟩))
                go_loopg [9] (kx - 1) (fun g3 vj wr3 => ∃ (j : Nat) (dj : Array α), vj = .int .i64 j ∧ j ≤ kx - 1 ∧ j ≤ g3 ∧ At dj wr3 ∧ Hid (shiftDown lt j dj = shiftDown lt (kx - 1) (swp dk kx (kx - 1))))
                case atStart => exact ⟨kx - 1, (swp dk kx (kx - 1)), by congr 1; omega, Nat.le_refl _, Nat.le_refl _, hA, rfl⟩
                case round =>
                  clear hA
                  obtain ⟨j, dj, rfl, hjk, hg3, hA, HDn⟩ := hrel
                  by_cases hj1 : 1 ≤ j
                  · have hj1z : (1 : Int) ≤ (j : Int) := by omega
                    cases hlv2 : lt dj[j]! dj[j - 1]! with
                    | true =>
                      have hl2 := HL.out dj _ j true hA hj1 (by omega) hlv2
                      clear hA
                      go_wp2_with (first | (go_at_fn gl; refine hl2.mono ?_; rintro e w' ⟨rfl, hA⟩) | (go_at_fn gs; refine (HS.out dj _ j hA hj1 (by omega)).mono ?_; clear hA; rintro e w' ⟨rfl, hA⟩))
                      go_roundg (j - 1)
                      case measure => omega
                      case rel => exact ⟨j - 1, swp dj j (j - 1), by congr 1; omega, by omega, Nat.le_refl _, hA, (show Hid _ from by rw [← HDn.out, shiftDown_go lt j dj hj1 hlv2]; exact rfl)⟩
                    | false =>
                      have hl2 := HL.out dj _ j false hA hj1 (by omega) hlv2
                      clear hA
                      have HD : Hid (fixDown lt a kx (swp dk kx (kx - 1)) = dj) := by show _ = _; unfold fixDown; rw [if_pos hka, ← HDn.out, shiftDown_stop lt j dj (Or.inr hlv2)]
                      by_cases hbk : b - kx ≥ 2
                      · have hbkz : (2 : Int) ≤ (b : Int) - (kx : Int) := by omega
                        go_wp2_with (first | (go_at_fn gl; refine hl2.mono ?_; rintro e w' ⟨rfl, hA⟩))
                        go_loopg [10] (b - (kx + 1)) (fun g4 vj wr4 => ∃ (ju : Nat) (du : Array α), vj = .int .i64 ju ∧ kx + 1 ≤ ju ∧ ju ≤ b ∧ b - ju ≤ g4 ∧ At du wr4 ∧ Hid (shiftUp lt b ju du = shiftUp lt b (kx + 1) dj))
                        case atStart => exact ⟨kx + 1, dj, by go_num, Nat.le_refl _, by omega, Nat.le_refl _, hA, rfl⟩
                        case round =>
                          clear hA
                          obtain ⟨ju, du, rfl, hkj, hjb, hg4, hA, HU⟩ := hrel
                          by_cases hjb' : ju < b
                          · have hjz : (ju : Int) < (b : Int) := by omega
                            cases hlv3 : lt du[ju]! du[ju - 1]! with
                            | true =>
                              have hl3 := HL.out du _ ju true hA (by omega) (by omega) hlv3
                              clear hA
                              go_wp2_with (first | (go_at_fn gl; refine hl3.mono ?_; rintro e w' ⟨rfl, hA⟩) | (go_at_fn gs; refine (HS.out du _ ju hA (by omega) (by omega)).mono ?_; clear hA; rintro e w' ⟨rfl, hA⟩))
                              go_roundg (b - (ju + 1))
                              case measure => omega
                              case rel => exact ⟨ju + 1, swp du ju (ju - 1), by go_num, by omega, by omega, Nat.le_refl _, hA, (show Hid _ from by rw [← HU.out, shiftUp_go lt b ju du hjb' hlv3]; exact rfl)⟩
                            | false =>
                              have hl3 := HL.out du _ ju false hA (by omega) (by omega) hlv3
                              clear hA
                              go_wp2_with (first | (go_at_fn gl; refine hl3.mono ?_; rintro e w' ⟨rfl, hA⟩))
                              go_roundg (5 - (s + 1))
                              case measure => omega
                              case rel => exact ⟨kx, s + 1, du, rfl, by go_num, by omega, Nat.le_refl _, by omega, by omega, hA, (show Hid _ from by rw [← HO.out, pi_go lt a b s i kx dk hs HK.out (by omega) h50, HD.out, show fixUp lt b kx dj = du from by unfold fixUp; rw [if_pos hbk, ← HU.out, shiftUp_stop lt b ju du (Or.inr hlv3)]]; exact rfl)⟩
                          · have hjz : ¬ (ju : Int) < (b : Int) := by omega
                            go_wp2
                            go_roundg (5 - (s + 1))
                            case measure => omega
                            case rel => exact ⟨kx, s + 1, du, rfl, by go_num, by omega, Nat.le_refl _, by omega, by omega, hA, (show Hid _ from by rw [← HO.out, pi_go lt a b s i kx dk hs HK.out (by omega) h50, HD.out, show fixUp lt b kx dj = du from by unfold fixUp; rw [if_pos hbk, ← HU.out, shiftUp_stop lt b ju du (Or.inl hjb')]]; exact rfl)⟩
                      · have hbkz : ¬ (2 : Int) ≤ (b : Int) - (kx : Int) := by omega
                        go_wp2_with (first | (go_at_fn gl; refine hl2.mono ?_; rintro e w' ⟨rfl, hA⟩))
                        go_roundg (5 - (s + 1))
                        case measure => omega
                        case rel => exact ⟨kx, s + 1, dj, rfl, by go_num, by omega, Nat.le_refl _, by omega, by omega, hA, (show Hid _ from by rw [← HO.out, pi_go lt a b s i kx dk hs HK.out (by omega) h50, HD.out, show fixUp lt b kx dj = dj from by unfold fixUp; rw [if_neg hbk]]; exact rfl)⟩
                  · have hj1z : ¬ (1 : Int) ≤ (j : Int) := by omega
                    have HD : Hid (fixDown lt a kx (swp dk kx (kx - 1)) = dj) := by show _ = _; unfold fixDown; rw [if_pos hka, ← HDn.out, shiftDown_stop lt j dj (Or.inl (by omega))]
                    by_cases hbk : b - kx ≥ 2
                    · have hbkz : (2 : Int) ≤ (b : Int) - (kx : Int) := by omega
                      go_wp2
                      go_loopg [10] (b - (kx + 1)) (fun g4 vj wr4 => ∃ (ju : Nat) (du : Array α), vj = .int .i64 ju ∧ kx + 1 ≤ ju ∧ ju ≤ b ∧ b - ju ≤ g4 ∧ At du wr4 ∧ Hid (shiftUp lt b ju du = shiftUp lt b (kx + 1) dj))
                      case atStart => exact ⟨kx + 1, dj, by go_num, Nat.le_refl _, by omega, Nat.le_refl _, hA, rfl⟩
                      case round =>
                        clear hA
                        obtain ⟨ju, du, rfl, hkj, hjb, hg4, hA, HU⟩ := hrel
                        by_cases hjb' : ju < b
                        · have hjz : (ju : Int) < (b : Int) := by omega
                          cases hlv3 : lt du[ju]! du[ju - 1]! with
                          | true =>
                            have hl3 := HL.out du _ ju true hA (by omega) (by omega) hlv3
                            clear hA
                            go_wp2_with (first | (go_at_fn gl; refine hl3.mono ?_; rintro e w' ⟨rfl, hA⟩) | (go_at_fn gs; refine (HS.out du _ ju hA (by omega) (by omega)).mono ?_; clear hA; rintro e w' ⟨rfl, hA⟩))
                            go_roundg (b - (ju + 1))
                            case measure => omega
                            case rel => exact ⟨ju + 1, swp du ju (ju - 1), by go_num, by omega, by omega, Nat.le_refl _, hA, (show Hid _ from by rw [← HU.out, shiftUp_go lt b ju du hjb' hlv3]; exact rfl)⟩
                          | false =>
                            have hl3 := HL.out du _ ju false hA (by omega) (by omega) hlv3
                            clear hA
                            go_wp2_with (first | (go_at_fn gl; refine hl3.mono ?_; rintro e w' ⟨rfl, hA⟩))
                            go_roundg (5 - (s + 1))
                            case measure => omega
                            case rel => exact ⟨kx, s + 1, du, rfl, by go_num, by omega, Nat.le_refl _, by omega, by omega, hA, (show Hid _ from by rw [← HO.out, pi_go lt a b s i kx dk hs HK.out (by omega) h50, HD.out, show fixUp lt b kx dj = du from by unfold fixUp; rw [if_pos hbk, ← HU.out, shiftUp_stop lt b ju du (Or.inr hlv3)]]; exact rfl)⟩
                        · have hjz : ¬ (ju : Int) < (b : Int) := by omega
                          go_wp2
                          go_roundg (5 - (s + 1))
                          case measure => omega
                          case rel => exact ⟨kx, s + 1, du, rfl, by go_num, by omega, Nat.le_refl _, by omega, by omega, hA, (show Hid _ from by rw [← HO.out, pi_go lt a b s i kx dk hs HK.out (by omega) h50, HD.out, show fixUp lt b kx dj = du from by unfold fixUp; rw [if_pos hbk, ← HU.out, shiftUp_stop lt b ju du (Or.inl hjb')]]; exact rfl)⟩
                    · have hbkz : ¬ (2 : Int) ≤ (b : Int) - (kx : Int) := by omega
                      go_wp2
                      go_roundg (5 - (s + 1))
                      case measure => omega
                      case rel => exact ⟨kx, s + 1, dj, rfl, by go_num, by omega, Nat.le_refl _, by omega, by omega, hA, (show Hid _ from by rw [← HO.out, pi_go lt a b s i kx dk hs HK.out (by omega) h50, HD.out, show fixUp lt b kx dj = dj from by unfold fixUp; rw [if_neg hbk]]; exact rfl)⟩
              · have hkaz : ¬ (2 : Int) ≤ (kx : Int) - (a : Int) := by omega
                have HD : Hid (fixDown lt a kx (swp dk kx (kx - 1)) = (swp dk kx (kx - 1))) := by show _ = _; unfold fixDown; rw [if_neg hka]
                by_cases hbk : b - kx ≥ 2
                · have hbkz : (2 : Int) ≤ (b : Int) - (kx : Int) := by omega
                  go_wp2_with (first | (go_at_fn gl; refine hl.mono ?_; rintro e w' ⟨rfl, hA⟩) | (go_at_fn gs; refine (HS.out dk _ kx hA (by omega) (by omega)).mono ?_; clear hA; rintro e w' ⟨rfl, hA⟩))
                  go_loopg [10] (b - (kx + 1)) (fun g4 vj wr4 => ∃ (ju : Nat) (du : Array α), vj = .int .i64 ju ∧ kx + 1 ≤ ju ∧ ju ≤ b ∧ b - ju ≤ g4 ∧ At du wr4 ∧ Hid (shiftUp lt b ju du = shiftUp lt b (kx + 1) (swp dk kx (kx - 1))))
                  case atStart => exact ⟨kx + 1, (swp dk kx (kx - 1)), by go_num, Nat.le_refl _, by omega, Nat.le_refl _, hA, rfl⟩
                  case round =>
                    clear hA
                    obtain ⟨ju, du, rfl, hkj, hjb, hg4, hA, HU⟩ := hrel
                    by_cases hjb' : ju < b
                    · have hjz : (ju : Int) < (b : Int) := by omega
                      cases hlv3 : lt du[ju]! du[ju - 1]! with
                      | true =>
                        have hl3 := HL.out du _ ju true hA (by omega) (by omega) hlv3
                        clear hA
                        go_wp2_with (first | (go_at_fn gl; refine hl3.mono ?_; rintro e w' ⟨rfl, hA⟩) | (go_at_fn gs; refine (HS.out du _ ju hA (by omega) (by omega)).mono ?_; clear hA; rintro e w' ⟨rfl, hA⟩))
                        go_roundg (b - (ju + 1))
                        case measure => omega
                        case rel => exact ⟨ju + 1, swp du ju (ju - 1), by go_num, by omega, by omega, Nat.le_refl _, hA, (show Hid _ from by rw [← HU.out, shiftUp_go lt b ju du hjb' hlv3]; exact rfl)⟩
                      | false =>
                        have hl3 := HL.out du _ ju false hA (by omega) (by omega) hlv3
                        clear hA
                        go_wp2_with (first | (go_at_fn gl; refine hl3.mono ?_; rintro e w' ⟨rfl, hA⟩))
                        go_roundg (5 - (s + 1))
                        case measure => omega
                        case rel => exact ⟨kx, s + 1, du, rfl, by go_num, by omega, Nat.le_refl _, by omega, by omega, hA, (show Hid _ from by rw [← HO.out, pi_go lt a b s i kx dk hs HK.out (by omega) h50, HD.out, show fixUp lt b kx (swp dk kx (kx - 1)) = du from by unfold fixUp; rw [if_pos hbk, ← HU.out, shiftUp_stop lt b ju du (Or.inr hlv3)]]; exact rfl)⟩
                    · have hjz : ¬ (ju : Int) < (b : Int) := by omega
                      go_wp2
                      go_roundg (5 - (s + 1))
                      case measure => omega
                      case rel => exact ⟨kx, s + 1, du, rfl, by go_num, by omega, Nat.le_refl _, by omega, by omega, hA, (show Hid _ from by rw [← HO.out, pi_go lt a b s i kx dk hs HK.out (by omega) h50, HD.out, show fixUp lt b kx (swp dk kx (kx - 1)) = du from by unfold fixUp; rw [if_pos hbk, ← HU.out, shiftUp_stop lt b ju du (Or.inl hjb')]]; exact rfl)⟩
                · exfalso; omega
        · obtain rfl : kx = b := by omega
          have hkz : ¬ (kx : Int) < (kx : Int) := by omega
          go_wp2
          have hv : partialInsertionSort lt d a kx = (dk, true) := by
            unfold partialInsertionSort
            rw [← HO.out, pi_true lt a kx s i dk hs (by rw [← HSc.out, scanSorted_stop lt dk kx kx (Or.inl (by omega))])]
          rw [hv]
          go_ret
          exact ⟨rfl, hA⟩
    · obtain rfl : s = 5 := by omega
      go_wp2
      have hv : partialInsertionSort lt d a b = (dk, false) := by
        unfold partialInsertionSort
        rw [← HO.out, pi_end]
      rw [hv]
      go_ret
      exact ⟨rfl, hA⟩
end
end Go.Proofs.YtcgggcjmmphldaaGreatDoor
