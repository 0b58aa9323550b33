/-
  The library's sort over a value with methods: the insertion that gives up.
  The library's sort over a value with methods: the pattern breaker.
  (No condition beyond those that each theorem states.)
-/
import Derived.Test.YthmhnknkidkdlaaGreatDoorB14
import Derived.Sort.WalkA6
import Derived.Test.YthmhnknkidkdlaaGreatDoorB01
import Derived.Sort.Walk7
import Derived.Sort.Walk7a
namespace Go.Proofs.YthmhnknkidkdlaaGreatDoor
open Go.RowKit Go.Sort Go.Lib
section
variable {α : Type} [Inhabited α] {T : TypeId} {rv : Value} {gl gs : Nat} {lt : α → α → Bool} {N B : Nat} {At : Array α → World → Prop}

set_option maxHeartbeats 16000000 in
set_option maxRecDepth 1000000 in
theorem partialInsertionSort_srt (S : Srt T rv gl gs lt N B At) (a b : Nat) (d : Array α) (w : World) (hA : At d w) (hab : a < b) (hb : b ≤ N) (hN : N < 4611686018427387904) :
    Calls Tryz.prog 197 #[.iface T rv, .int .i64 a, .int .i64 b] w fun e w' => e = .returned (.bool (partialInsertionSort lt d a b).2) ∧ At (partialInsertionSort lt d a b).1 w' := by
  have mL := S.mLess; have mS := S.mSwap; have eL := S.eLess; have eS := S.eSwap
  -- 'Less' and 'Swap' at (j, j - 1)
  have hlAt : ∀ (X : Array α) (W : World) (j : Nat) (v : Bool), At X W → 1 ≤ j → j < N → lt X[j]! X[j - 1]! = v → Calls Tryz.prog gl #[rv, .int .i64 (j : Int), .int .i64 ((j : Int) - 1)] W fun e w' => e = .returned (.bool v) ∧ At X w' := fun X W j v hX hj hjN hv =>
    (S.lessD hX j (j - 1) hjN (by omega) hv rfl (show ((j - 1 : Nat) : Int) = (j : Int) - 1 by omega) W (Drew.refl _)).mono fun e w' ⟨he, hD⟩ => ⟨he, S.drew hX hD⟩
  have hsAt : ∀ (X : Array α) (W : World) (j : Nat), At X W → 1 ≤ j → j < N → Calls Tryz.prog gs #[rv, .int .i64 (j : Int), .int .i64 ((j : Int) - 1)] W fun e w' => e = .returned (.tuple #[]) ∧ At (swp X j (j - 1)) w' := fun X W j hX hj hjN =>
    (S.swapD hX j (j - 1) hjN (by omega) rfl (show ((j - 1 : Nat) : Int) = (j : Int) - 1 by omega) W (Drew.refl _)).mono fun e w' ⟨he, h2, _⟩ => ⟨he, h2⟩
  have HL : Aside _ := hlAt
  have HS : Aside _ := hsAt
  clear hlAt hsAt
  go_enter Tryz.func197, Tryz.ntmps197
  go_wp2
  go_loopg [7, 8] 5 (fun g1 vi vs wr => ∃ (i s : Nat) (dk : Array α), vi = .int .i64 i ∧ vs = .int .i64 s ∧ s ≤ 5 ∧ 5 - s ≤ g1 ∧ a < i ∧ i ≤ b ∧ At dk wr ∧ Hid (partialIns lt a b (5 - s) i dk = partialIns lt a b 5 (a + 1) d))
  case atStart => exact ⟨a + 1, 0, d, by go_num, rfl, by omega, by omega, by omega, by omega, hA, rfl⟩
  case round =>
    clear hA
    obtain ⟨i, s, dk, rfl, rfl, hs5, hg1, hai, hib, hA, HO⟩ := hrel
    by_cases hs : s < 5
    · have hsz5 : (s : Int) < 5 := by omega
      go_wp2
      go_loopg [7] (b - i) (fun g2 vi wr2 => ∃ (kx : Nat), vi = .int .i64 kx ∧ i ≤ kx ∧ kx ≤ b ∧ b - kx ≤ g2 ∧ At dk wr2 ∧ Hid (scanSorted lt dk b kx = scanSorted lt dk b i))
      case atStart => exact ⟨i, rfl, Nat.le_refl _, hib, Nat.le_refl _, hA, rfl⟩
      case round =>
        clear hA
        obtain ⟨kx, rfl, hik, hkb, hg2, hA, HSc⟩ := hrel
        by_cases hkb' : kx < b
        · have hkz : (kx : Int) < (b : Int) := by omega
          cases hlv : lt dk[kx]! dk[kx - 1]! with
          | false =>
            have hl := HL.out dk _ kx false hA (by omega) (by omega) hlv
            clear hA
            go_wp2_with (first | (go_at_fn gl; refine hl.mono ?_; rintro e w' ⟨rfl, hA⟩))
            go_roundg (b - (kx + 1))
            case measure => omega
            case rel => exact ⟨kx + 1, by go_num, by omega, by omega, Nat.le_refl _, hA, (show Hid _ from by rw [← HSc.out, scanSorted_go lt dk b kx hkb' hlv]; exact rfl)⟩
          | true =>
            have hl := HL.out dk _ kx true hA (by omega) (by omega) hlv
            clear hA
            have HK : Hid (scanSorted lt dk b i = kx) := by show _ = _; rw [← HSc.out, scanSorted_stop lt dk b kx (Or.inr hlv)]
            have hkne : ((kx : Int) == (b : Int)) = false := beq_eq_false_iff_ne.2 (by omega)
            by_cases h50 : b - a < 50
            · have h50z : (b : Int) - (a : Int) < 50 := by omega
              go_wp2_with (first | (go_at_fn gl; refine hl.mono ?_; rintro e w' ⟨rfl, hA⟩))
              have hv : partialInsertionSort lt d a b = (dk, false) := by
                unfold partialInsertionSort
                rw [← HO.out, pi_short lt a b s i dk hs (by rw [HK.out]; omega) h50]
              rw [hv]
              go_ret
              exact ⟨rfl, hA⟩
            · have h50z : ¬ ((b : Int) - (a : Int) < 50) := by omega
              by_cases hka : kx - a ≥ 2
              · have hkaz : (2 : Int) ≤ (kx : Int) - (a : Int) := by omega
                go_wp2_with (first | (go_at_fn gl; refine hl.mono ?_; rintro e w' ⟨rfl, hA⟩) | (go_at_fn gs; refine (HS.out dk _ kx hA (by omega) (by omega)).mono ?_; clear hA; rintro e w' ⟨rfl, hA⟩))
                go_loopg [9] (kx - 1) (fun g3 vj wr3 => ∃ (j : Nat) (dj : Array α), vj = .int .i64 j ∧ j ≤ kx - 1 ∧ j ≤ g3 ∧ At dj wr3 ∧ Hid (shiftDown lt j dj = shiftDown lt (kx - 1) (swp dk kx (kx - 1))))
                case atStart => exact ⟨kx - 1, (swp dk kx (kx - 1)), by congr 1; omega, Nat.le_refl _, Nat.le_refl _, hA, rfl⟩
                case round =>
                  clear hA
                  obtain ⟨j, dj, rfl, hjk, hg3, hA, HDn⟩ := hrel
                  by_cases hj1 : 1 ≤ j
                  · have hj1z : (1 : Int) ≤ (j : Int) := by omega
                    cases hlv2 : lt dj[j]! dj[j - 1]! with
                    | true =>
                      have hl2 := HL.out dj _ j true hA hj1 (by omega) hlv2
                      clear hA
                      go_wp2_with (first | (go_at_fn gl; refine hl2.mono ?_; rintro e w' ⟨rfl, hA⟩) | (go_at_fn gs; refine (HS.out dj _ j hA hj1 (by omega)).mono ?_; clear hA; rintro e w' ⟨rfl, hA⟩))
                      go_roundg (j - 1)
                      case measure => omega
                      case rel => exact ⟨j - 1, swp dj j (j - 1), by congr 1; omega, by omega, Nat.le_refl _, hA, (show Hid _ from by rw [← HDn.out, shiftDown_go lt j dj hj1 hlv2]; exact rfl)⟩
                    | false =>
                      have hl2 := HL.out dj _ j false hA hj1 (by omega) hlv2
                      clear hA
                      have HD : Hid (fixDown lt a kx (swp dk kx (kx - 1)) = dj) := by show _ = _; unfold fixDown; rw [if_pos hka, ← HDn.out, shiftDown_stop lt j dj (Or.inr hlv2)]
                      by_cases hbk : b - kx ≥ 2
                      · have hbkz : (2 : Int) ≤ (b : Int) - (kx : Int) := by omega
                        go_wp2_with (first | (go_at_fn gl; refine hl2.mono ?_; rintro e w' ⟨rfl, hA⟩))
                        go_loopg [10] (b - (kx + 1)) (fun g4 vj wr4 => ∃ (ju : Nat) (du : Array α), vj = .int .i64 ju ∧ kx + 1 ≤ ju ∧ ju ≤ b ∧ b - ju ≤ g4 ∧ At du wr4 ∧ Hid (shiftUp lt b ju du = shiftUp lt b (kx + 1) dj))
                        case atStart => exact ⟨kx + 1, dj, by go_num, Nat.le_refl _, by omega, Nat.le_refl _, hA, rfl⟩
                        case round =>
                          clear hA
                          obtain ⟨ju, du, rfl, hkj, hjb, hg4, hA, HU⟩ := hrel
                          by_cases hjb' : ju < b
                          · have hjz : (ju : Int) < (b : Int) := by omega
                            cases hlv3 : lt du[ju]! du[ju - 1]! with
                            | true =>
                              have hl3 := HL.out du _ ju true hA (by omega) (by omega) hlv3
                              clear hA
                              go_wp2_with (first | (go_at_fn gl; refine hl3.mono ?_; rintro e w' ⟨rfl, hA⟩) | (go_at_fn gs; refine (HS.out du _ ju hA (by omega) (by omega)).mono ?_; clear hA; rintro e w' ⟨rfl, hA⟩))
                              go_roundg (b - (ju + 1))
                              case measure => omega
                              case rel => exact ⟨ju + 1, swp du ju (ju - 1), by go_num, by omega, by omega, Nat.le_refl _, hA, (show Hid _ from by rw [← HU.out, shiftUp_go lt b ju du hjb' hlv3]; exact rfl)⟩
                            | false =>
                              have hl3 := HL.out du _ ju false hA (by omega) (by omega) hlv3
                              clear hA
                              go_wp2_with (first | (go_at_fn gl; refine hl3.mono ?_; rintro e w' ⟨rfl, hA⟩))
                              go_roundg (5 - (s + 1))
                              case measure => omega
                              case rel => exact ⟨kx, s + 1, du, rfl, by go_num, by omega, Nat.le_refl _, by omega, by omega, hA, (show Hid _ from by rw [← HO.out, pi_go lt a b s i kx dk hs HK.out (by omega) h50, HD.out, show fixUp lt b kx dj = du from by unfold fixUp; rw [if_pos hbk, ← HU.out, shiftUp_stop lt b ju du (Or.inr hlv3)]]; exact rfl)⟩
                          · have hjz : ¬ (ju : Int) < (b : Int) := by omega
                            go_wp2
                            go_roundg (5 - (s + 1))
                            case measure => omega
                            case rel => exact ⟨kx, s + 1, du, rfl, by go_num, by omega, Nat.le_refl _, by omega, by omega, hA, (show Hid _ from by rw [← HO.out, pi_go lt a b s i kx dk hs HK.out (by omega) h50, HD.out, show fixUp lt b kx dj = du from by unfold fixUp; rw [if_pos hbk, ← HU.out, shiftUp_stop lt b ju du (Or.inl hjb')]]; exact rfl)⟩
                      · have hbkz : ¬ (2 : Int) ≤ (b : Int) - (kx : Int) := by omega
                        go_wp2_with (first | (go_at_fn gl; refine hl2.mono ?_; rintro e w' ⟨rfl, hA⟩))
                        go_roundg (5 - (s + 1))
                        case measure => omega
                        case rel => exact ⟨kx, s + 1, dj, rfl, by go_num, by omega, Nat.le_refl _, by omega, by omega, hA, (show Hid _ from by rw [← HO.out, pi_go lt a b s i kx dk hs HK.out (by omega) h50, HD.out, show fixUp lt b kx dj = dj from by unfold fixUp; rw [if_neg hbk]]; exact rfl)⟩
                  · have hj1z : ¬ (1 : Int) ≤ (j : Int) := by omega
                    have HD : Hid (fixDown lt a kx (swp dk kx (kx - 1)) = dj) := by show _ = _; unfold fixDown; rw [if_pos hka, ← HDn.out, shiftDown_stop lt j dj (Or.inl (by omega))]
                    by_cases hbk : b - kx ≥ 2
                    · have hbkz : (2 : Int) ≤ (b : Int) - (kx : Int) := by omega
                      go_wp2
                      go_loopg [10] (b - (kx + 1)) (fun g4 vj wr4 => ∃ (ju : Nat) (du : Array α), vj = .int .i64 ju ∧ kx + 1 ≤ ju ∧ ju ≤ b ∧ b - ju ≤ g4 ∧ At du wr4 ∧ Hid (shiftUp lt b ju du = shiftUp lt b (kx + 1) dj))
                      case atStart => exact ⟨kx + 1, dj, by go_num, Nat.le_refl _, by omega, Nat.le_refl _, hA, rfl⟩
                      case round =>
                        clear hA
                        obtain ⟨ju, du, rfl, hkj, hjb, hg4, hA, HU⟩ := hrel
                        by_cases hjb' : ju < b
                        · have hjz : (ju : Int) < (b : Int) := by omega
                          cases hlv3 : lt du[ju]! du[ju - 1]! with
                          | true =>
                            have hl3 := HL.out du _ ju true hA (by omega) (by omega) hlv3
                            clear hA
                            go_wp2_with (first | (go_at_fn gl; refine hl3.mono ?_; rintro e w' ⟨rfl, hA⟩) | (go_at_fn gs; refine (HS.out du _ ju hA (by omega) (by omega)).mono ?_; clear hA; rintro e w' ⟨rfl, hA⟩))
                            go_roundg (b - (ju + 1))
                            case measure => omega
                            case rel => exact ⟨ju + 1, swp du ju (ju - 1), by go_num, by omega, by omega, Nat.le_refl _, hA, (show Hid _ from by rw [← HU.out, shiftUp_go lt b ju du hjb' hlv3]; exact rfl)⟩
                          | false =>
                            have hl3 := HL.out du _ ju false hA (by omega) (by omega) hlv3
                            clear hA
                            go_wp2_with (first | (go_at_fn gl; refine hl3.mono ?_; rintro e w' ⟨rfl, hA⟩))
                            go_roundg (5 - (s + 1))
                            case measure => omega
                            case rel => exact ⟨kx, s + 1, du, rfl, by go_num, by omega, Nat.le_refl _, by omega, by omega, hA, (show Hid _ from by rw [← HO.out, pi_go lt a b s i kx dk hs HK.out (by omega) h50, HD.out, show fixUp lt b kx dj = du from by unfold fixUp; rw [if_pos hbk, ← HU.out, shiftUp_stop lt b ju du (Or.inr hlv3)]]; exact rfl)⟩
                        · have hjz : ¬ (ju : Int) < (b : Int) := by omega
                          go_wp2
                          go_roundg (5 - (s + 1))
                          case measure => omega
                          case rel => exact ⟨kx, s + 1, du, rfl, by go_num, by omega, Nat.le_refl _, by omega, by omega, hA, (show Hid _ from by rw [← HO.out, pi_go lt a b s i kx dk hs HK.out (by omega) h50, HD.out, show fixUp lt b kx dj = du from by unfold fixUp; rw [if_pos hbk, ← HU.out, shiftUp_stop lt b ju du (Or.inl hjb')]]; exact rfl)⟩
                    · have hbkz : ¬ (2 : Int) ≤ (b : Int) - (kx : Int) := by omega
                      go_wp2
                      go_roundg (5 - (s + 1))
                      case measure => omega
                      case rel => exact ⟨kx, s + 1, dj, rfl, by go_num, by omega, Nat.le_refl _, by omega, by omega, hA, (show Hid _ from by rw [← HO.out, pi_go lt a b s i kx dk hs HK.out (by omega) h50, HD.out, show fixUp lt b kx dj = dj from by unfold fixUp; rw [if_neg hbk]]; exact rfl)⟩
              · have hkaz : ¬ (2 : Int) ≤ (kx : Int) - (a : Int) := by omega
                have HD : Hid (fixDown lt a kx (swp dk kx (kx - 1)) = (swp dk kx (kx - 1))) := by show _ = _; unfold fixDown; rw [if_neg hka]
                by_cases hbk : b - kx ≥ 2
                · have hbkz : (2 : Int) ≤ (b : Int) - (kx : Int) := by omega
                  go_wp2_with (first | (go_at_fn gl; refine hl.mono ?_; rintro e w' ⟨rfl, hA⟩) | (go_at_fn gs; refine (HS.out dk _ kx hA (by omega) (by omega)).mono ?_; clear hA; rintro e w' ⟨rfl, hA⟩))
                  go_loopg [10] (b - (kx + 1)) (fun g4 vj wr4 => ∃ (ju : Nat) (du : Array α), vj = .int .i64 ju ∧ kx + 1 ≤ ju ∧ ju ≤ b ∧ b - ju ≤ g4 ∧ At du wr4 ∧ Hid (shiftUp lt b ju du = shiftUp lt b (kx + 1) (swp dk kx (kx - 1))))
                  case atStart => exact ⟨kx + 1, (swp dk kx (kx - 1)), by go_num, Nat.le_refl _, by omega, Nat.le_refl _, hA, rfl⟩
                  case round =>
                    clear hA
                    obtain ⟨ju, du, rfl, hkj, hjb, hg4, hA, HU⟩ := hrel
                    by_cases hjb' : ju < b
                    · have hjz : (ju : Int) < (b : Int) := by omega
                      cases hlv3 : lt du[ju]! du[ju - 1]! with
                      | true =>
                        have hl3 := HL.out du _ ju true hA (by omega) (by omega) hlv3
                        clear hA
                        go_wp2_with (first | (go_at_fn gl; refine hl3.mono ?_; rintro e w' ⟨rfl, hA⟩) | (go_at_fn gs; refine (HS.out du _ ju hA (by omega) (by omega)).mono ?_; clear hA; rintro e w' ⟨rfl, hA⟩))
                        go_roundg (b - (ju + 1))
                        case measure => omega
                        case rel => exact ⟨ju + 1, swp du ju (ju - 1), by go_num, by omega, by omega, Nat.le_refl _, hA, (show Hid _ from by rw [← HU.out, shiftUp_go lt b ju du hjb' hlv3]; exact rfl)⟩
                      | false =>
                        have hl3 := HL.out du _ ju false hA (by omega) (by omega) hlv3
                        clear hA
                        go_wp2_with (first | (go_at_fn gl; refine hl3.mono ?_; rintro e w' ⟨rfl, hA⟩))
                        go_roundg (5 - (s + 1))
                        case measure => omega
                        case rel => exact ⟨kx, s + 1, du, rfl, by go_num, by omega, Nat.le_refl _, by omega, by omega, hA, (show Hid _ from by rw [← HO.out, pi_go lt a b s i kx dk hs HK.out (by omega) h50, HD.out, show fixUp lt b kx (swp dk kx (kx - 1)) = du from by unfold fixUp; rw [if_pos hbk, ← HU.out, shiftUp_stop lt b ju du (Or.inr hlv3)]]; exact rfl)⟩
                    · have hjz : ¬ (ju : Int) < (b : Int) := by omega
                      go_wp2
                      go_roundg (5 - (s + 1))
                      case measure => omega
                      case rel => exact ⟨kx, s + 1, du, rfl, by go_num, by omega, Nat.le_refl _, by omega, by omega, hA, (show Hid _ from by rw [← HO.out, pi_go lt a b s i kx dk hs HK.out (by omega) h50, HD.out, show fixUp lt b kx (swp dk kx (kx - 1)) = du from by unfold fixUp; rw [if_pos hbk, ← HU.out, shiftUp_stop lt b ju du (Or.inl hjb')]]; exact rfl)⟩
                · exfalso; omega
        · obtain rfl : kx = b := by omega
          have hkz : ¬ (kx : Int) < (kx : Int) := by omega
          go_wp2
          have hv : partialInsertionSort lt d a kx = (dk, true) := by
            unfold partialInsertionSort
            rw [← HO.out, pi_true lt a kx s i dk hs (by rw [← HSc.out, scanSorted_stop lt dk kx kx (Or.inl (by omega))])]
          rw [hv]
          go_ret
          exact ⟨rfl, hA⟩
    · obtain rfl : s = 5 := by omega
      go_wp2
      have hv : partialInsertionSort lt d a b = (dk, false) := by
        unfold partialInsertionSort
        rw [← HO.out, pi_end]
      rw [hv]
      go_ret
      exact ⟨rfl, hA⟩
end
end Go.Proofs.YthmhnknkidkdlaaGreatDoor
namespace Go.Proofs.YthmhnknkidkdlaaGreatDoor
open Go.RowKit Go.Sort Go.Lib
section
variable {α : Type} [Inhabited α] {T : TypeId} {rv : Value} {gl gs : Nat} {lt : α → α → Bool} {N B : Nat} {At : Array α → World → Prop}

set_option maxHeartbeats 2000000 in
set_option maxRecDepth 1000000 in
theorem xorshift_next (g X : Nat) (t : TypeId) (hX : X < 18446744073709551616) (w : World) (hb : Blk w g t #[.int .u64 X]) :
    Calls Tryz.prog 212 #[.pointer (some ⟨g, 0, none⟩)] w fun e w' => e = .returned (.int .u64 (xorNextN X : Nat)) ∧ w' = (w.setCell ⟨g, 0, none⟩ (.int .u64 (xorNextN X : Nat))).drewN 3 := by
  have hc : w.cell? ⟨g, 0, none⟩ = some (.int .u64 X) := by rw [hb.cell]; rfl
  have hf := hb.frozen 0
  clear hb
  obtain ⟨A1, hA⟩ : ∃ A : Nat, A = X ^^^ (X * 8192 % 18446744073709551616) := ⟨_, rfl⟩
  obtain ⟨B1, hB⟩ : ∃ B : Nat, B = A1 ^^^ (A1 / 128) := ⟨_, rfl⟩
  obtain ⟨C1, hC⟩ : ∃ C : Nat, C = B1 ^^^ (B1 * 131072 % 18446744073709551616) := ⟨_, rfl⟩
  have lA : A1 < 18446744073709551616 := by rw [hA]; exact Nat.xor_lt_two_pow (n := 64) (by omega) (by omega)
  have lB : B1 < 18446744073709551616 := by rw [hB]; exact Nat.xor_lt_two_pow (n := 64) (by omega) (by omega)
  have e1 : bits .xor .u64 (X : Int) (IntKind.u64.wrap ((X : Int) * 8192)) = (A1 : Int) := by
    rw [IntKind.wrap_u64, show ((X : Int) * 8192 % 18446744073709551616) = ((X * 8192 % 18446744073709551616 : Nat) : Int) by omega, bits_xor_u64_nat _ _ hX (by omega), hA]
  have e2 : bits .xor .u64 (A1 : Int) ((A1 : Int) / 128) = (B1 : Int) := by
    rw [show ((A1 : Int) / 128) = ((A1 / 128 : Nat) : Int) by omega, bits_xor_u64_nat _ _ lA (by omega), hB]
  have e3 : bits .xor .u64 (B1 : Int) (IntKind.u64.wrap ((B1 : Int) * 131072)) = (C1 : Int) := by
    rw [IntKind.wrap_u64, show ((B1 : Int) * 131072 % 18446744073709551616) = ((B1 * 131072 % 18446744073709551616 : Nat) : Int) by omega, bits_xor_u64_nat _ _ lB (by omega), hC]
  have hv : xorNextN X = C1 := by unfold xorNextN; simp only []; rw [← hA, ← hB, ← hC]
  rw [hv]
  clear hA hB hC hv
  have hss : ∀ v v', (w.setCell ⟨g, 0, none⟩ v).setCell ⟨g, 0, none⟩ v' = w.setCell ⟨g, 0, none⟩ v' := setCell_setCell w g 0
  go_enter Tryz.func212, Tryz.ntmps212
  go_wp2
  go_region
  all_goals go_wp2
  all_goals go_region
  all_goals go_wp2
  all_goals go_region
  all_goals go_wp2
  all_goals go_ret
  all_goals exact ⟨rfl, rfl⟩

set_option maxRecDepth 100000 in
set_option maxHeartbeats 1000000 in
theorem nextPowerOfTwo_any (n : Nat) (hn : n < 4611686018427387904) (w : World) :
    Calls Tryz.prog 211 #[.int .i64 n] w fun e w' => e = .returned (.int .u64 ((1 <<< bitsLen n : Nat) : Int)) ∧ w' = w := by
  have hLen : ∀ w, Calls Tryz.prog 185 #[.int .u64 (n : Int)] w fun e w' => e = .returned (.int .i64 (bitsLen n : Nat)) ∧ w' = w := fun w => by
    have h := Tryz.bits_Len (n : Int) w (by omega) (by omega)
    rwa [Int.toNat_natCast, bitLen_eq _ (by omega)] at h
  have hk : bitsLen n ≤ 62 := (bitsLen_le_iff n 62).2 (by omega)
  have hp := wrap_two_pow (bitsLen n) hk
  have wr : IntKind.u64.wrap (n : Int) = n := by simp [IntKind.wrap, IntKind.bits, IntKind.signed]; omega
  go_enter Tryz.func211, Tryz.ntmps211
  go_wp2_with (first | (go_at_call 185; refine (hLen _).mono ?_; rintro e w' ⟨rfl, rfl⟩))
  go_ret
  exact ⟨rfl, rfl⟩

set_option maxHeartbeats 4000000 in
set_option maxRecDepth 1000000 in
theorem breakPatterns_go (S : Srt T rv gl gs lt N B At) (a L : Nat) (d : Array α) (w : World) (hA : At d w) (hb : a + L ≤ N) (hN : N < 4611686018427387904) (h8 : 8 ≤ L) :
    Calls Tryz.prog 194 #[.iface T rv, .int .i64 a, .int .i64 ((a + L : Nat) : Int)] w fun e w' => e = .returned (.tuple #[]) ∧ At (breakPatterns d a (a + L)) w' := by
  have mS := S.mSwap; have eS := S.eSwap
  rw [breakPatterns_eq d a L h8]
  obtain ⟨M, hM⟩ : ∃ M : Nat, M = 1 <<< bitsLen L := ⟨_, rfl⟩
  have hM1 : 1 ≤ M := by rw [hM, Nat.one_shiftLeft]; exact Nat.two_pow_pos _
  have hM2 : M ≤ 2 * L := by rw [hM, Nat.one_shiftLeft]; exact two_pow_bitsLen_le (by omega)
  have hNP : ∀ w, Calls Tryz.prog 211 #[.int .i64 (L : Int)] w fun e w' => e = .returned (.int .u64 (M : Int)) ∧ w' = w := by rw [hM]; exact fun w => nextPowerOfTwo_any L (by omega) w
  rw [← hM]
  clear hM
  have hLz : ((a : Int) + (L : Int) - (a : Int)) = (L : Int) := by omega
  have h8z : (8 : Int) ≤ (L : Int) := by omega
  have hroom := S.room hA
  have hA0 : At d (w.alloc (.cells #[.int .u64 (L : Int)] 350)) := S.fresh hA (Off.alloc (Off.refl [] w) _) (fun x hx => by simp at hx)
  have hR0 : Blk (w.alloc (.cells #[.int .u64 (L : Int)] 350)) w.heap.size 350 #[.int .u64 (L : Int)] := Blk.new' _ _ _ rfl
  have HA0 := Lib.hid hA0
  have HR0 := Lib.hid hR0
  clear hA0 hR0
  go_enter Tryz.func194, Tryz.ntmps194
  go_wp2_with (first | (go_at_call 211; refine (hNP _).mono ?_; rintro e w' ⟨rfl, rfl⟩))
  go_loopg [9] 3 (fun g1 vi wr => ∃ (t : Nat) (r : UInt64) (dk : Array α), vi = .int .i64 ((a : Int) + (L : Int) / 4 * 2 - 1 + (t : Int)) ∧ t ≤ 3 ∧ 3 - t ≤ g1 ∧ At dk wr ∧
      Hid (Blk wr w.heap.size 350 #[.int .u64 (r.toNat : Int)]) ∧ Hid (bpRest a L M (a + L / 4 * 2 - 1) (3 - t) t (r, dk) = bpRest a L M (a + L / 4 * 2 - 1) 3 0 (UInt64.ofNat L, d)))
  case atStart =>
    refine ⟨0, UInt64.ofNat L, d, by simp, by omega, by omega, HA0.out, ?_, rfl⟩
    rw [show (UInt64.ofNat L).toNat = L from by simp; omega]
    exact HR0
  case round =>
    clear hA HA0 HR0
    obtain ⟨t, r, dk, rfl, ht, hg1, hA, HBR, HR⟩ := hrel
    by_cases ht3 : t < 3
    · have hle : (a : Int) + (L : Int) / 4 * 2 - 1 + (t : Int) ≤ (a : Int) + (L : Int) / 4 * 2 + 1 := by omega
      obtain ⟨R, hRr⟩ : ∃ R : Nat, R = r.toNat := ⟨_, rfl⟩
      have lR : R < 18446744073709551616 := by rw [hRr]; exact r.toNat_lt
      obtain ⟨R', hR'⟩ : ∃ R' : Nat, R' = xorNextN R := ⟨_, rfl⟩
      have lR' : R' < 18446744073709551616 := by rw [hR']; exact xorNextN_lt R lR
      obtain ⟨O, hO⟩ : ∃ O : Nat, O = R' &&& (M - 1) := ⟨_, rfl⟩
      have lO : O ≤ M - 1 := by rw [hO]; exact Nat.and_le_right
      have eAnd : bits .and .u64 (R' : Int) ((M : Int) - 1) = (O : Int) := by
        rw [show ((M : Int) - 1) = ((M - 1 : Nat) : Int) by omega, bits_and_u64_nat _ _ lR' (by omega), hO]
      have HN2 : Hid (R' = (xorNext r).toNat ∧ O = (xorNext r).toNat &&& (M - 1)) := by
        have e : R' = (xorNext r).toNat := by rw [hR', hRr, xorNext_toNat]
        exact ⟨e, by rw [hO, e]⟩
      have hBR := HBR.out
      rw [← hRr] at hBR
      have hNext0 := xorshift_next w.heap.size R 350 lR wr hBR
      rw [← hR'] at hNext0
      have hNext : Calls Tryz.prog 212 #[.pointer (some ⟨w.heap.size, 0, none⟩)] wr fun e w' => e = .returned (.int .u64 (R' : Int)) ∧ At dk w' ∧ Hid (Blk w' w.heap.size 350 #[.int .u64 (R' : Int)]) :=
        hNext0.mono fun e w' ⟨he, hw⟩ => ⟨he, by
          rw [hw]
          exact S.fresh hA (((Off.refl [w.heap.size] wr).setCell (p := ⟨w.heap.size, 0, none⟩) (Or.inl (List.mem_singleton.2 rfl)) _).drewN 3) (fun x hx => by simp at hx; omega), by
          rw [hw]
          exact (hBR.fill1).drewN 3⟩
      clear hRr hR' hO hNext0 hBR HBR hA
      by_cases hLO : L ≤ O
      · have hLOz : (L : Int) ≤ (O : Int) := by omega
        have hs : ∀ W, At dk W → Calls Tryz.prog gs #[rv, .int .i64 ((a : Int) + (L : Int) / 4 * 2 - 1 + (t : Int)), .int .i64 ((a : Int) + ((O : Int) - (L : Int)))] W fun e w2 => e = .returned (.tuple #[]) ∧ At (swp dk (a + L / 4 * 2 - 1 + t) (a + (O - L))) w2 ∧ Keep B W w2 := fun W hW =>
          S.swapD hW (a + L / 4 * 2 - 1 + t) (a + (O - L)) (by omega) (by omega) (by omega) (by omega) W (Drew.refl _)
        have HS := Lib.hid hs
        clear hs
        go_wp2_with (first | (go_at_call 212; refine hNext.mono ?_; rintro e w1 ⟨rfl, hA1, HB1⟩) | (go_at_fn gs; refine (HS.out _ hA1).mono ?_; rintro e w2 ⟨rfl, hA2, hK⟩))
        go_roundg (3 - (t + 1))
        case measure => omega
        case rel => exact ⟨t + 1, xorNext r, swp dk (a + L / 4 * 2 - 1 + t) (a + (O - L)), by congr 1; push_cast; omega, by omega, Nat.le_refl _, hA2, by show Blk _ _ _ _; rw [← HN2.out.1]; exact hK.blk HB1.out hroom,
          (show Hid _ from by rw [← HR.out, bp_step a L M _ t r dk (O - L) ht3 (by rw [← HN2.out.2, if_pos (by omega)])]; exact rfl)⟩
      · have hLOz : ¬ (L : Int) ≤ (O : Int) := by omega
        have hs : ∀ W, At dk W → Calls Tryz.prog gs #[rv, .int .i64 ((a : Int) + (L : Int) / 4 * 2 - 1 + (t : Int)), .int .i64 ((a : Int) + (O : Int))] W fun e w2 => e = .returned (.tuple #[]) ∧ At (swp dk (a + L / 4 * 2 - 1 + t) (a + O)) w2 ∧ Keep B W w2 := fun W hW =>
          S.swapD hW (a + L / 4 * 2 - 1 + t) (a + O) (by omega) (by omega) (by omega) (by omega) W (Drew.refl _)
        have HS := Lib.hid hs
        clear hs
        go_wp2_with (first | (go_at_call 212; refine hNext.mono ?_; rintro e w1 ⟨rfl, hA1, HB1⟩) | (go_at_fn gs; refine (HS.out _ hA1).mono ?_; rintro e w2 ⟨rfl, hA2, hK⟩))
        go_roundg (3 - (t + 1))
        case measure => omega
        case rel => exact ⟨t + 1, xorNext r, swp dk (a + L / 4 * 2 - 1 + t) (a + O), by congr 1; push_cast; omega, by omega, Nat.le_refl _, hA2, by show Blk _ _ _ _; rw [← HN2.out.1]; exact hK.blk HB1.out hroom,
          (show Hid _ from by rw [← HR.out, bp_step a L M _ t r dk O ht3 (by rw [← HN2.out.2, if_neg (by omega)])]; exact rfl)⟩
    · obtain rfl : t = 3 := by omega
      have hle : ¬ ((a : Int) + (L : Int) / 4 * 2 - 1 + ((3 : Nat) : Int) ≤ (a : Int) + (L : Int) / 4 * 2 + 1) := by omega
      go_wp2
      go_end0
      refine ⟨rfl, ?_⟩
      rw [← HR.out]
      exact hA

set_option maxHeartbeats 1000000 in
set_option maxRecDepth 1000000 in
theorem breakPatterns_srt (S : Srt T rv gl gs lt N B At) (a b : Nat) (d : Array α) (w : World) (hA : At d w) (hab : a ≤ b) (hb : b ≤ N) (hN : N < 4611686018427387904) :
    Calls Tryz.prog 194 #[.iface T rv, .int .i64 a, .int .i64 b] w fun e w' => e = .returned (.tuple #[]) ∧ At (breakPatterns d a b) w' := by
  obtain ⟨L, rfl⟩ : ∃ L, b = a + L := ⟨b - a, by omega⟩
  by_cases h8 : 8 ≤ L
  · exact breakPatterns_go S a L d w hA hb hN h8
  · have hv : breakPatterns d a (a + L) = d := by unfold breakPatterns; simp only [Nat.add_sub_cancel_left]; rw [if_neg h8]
    rw [hv]
    have hLz : ((a : Int) + (L : Int) - (a : Int)) = (L : Int) := by omega
    have h8z : ¬ (8 : Int) ≤ (L : Int) := by omega
    go_enter Tryz.func194, Tryz.ntmps194
    go_wp2
    go_end0
    exact ⟨rfl, hA⟩
end
end Go.Proofs.YthmhnknkidkdlaaGreatDoor
