/-
  slices.Sort at uint32: the insertion that gives up.
  (No condition beyond those that each theorem states.)
-/
import Derived.Test.YthmhnknkidkdlaaGreatDoorB16
import Derived.Sort.WalkA6
import Derived.Deep.LoopGhost
namespace Go.Proofs.YthmhnknkidkdlaaGreatDoor.Ord32
open Go.RowKit Go.Sort Go.Lib
variable {g o N : Nat} {ty : TypeId} {w0 : World}

set_option maxHeartbeats 16000000 in
set_option maxRecDepth 1000000 in
theorem partialInsertionSort_ord (cap a b : Nat) (d : Array Int) (w : World) (hA : (OrdAt g o ty w0 N) d w) (hab : a < b) (hb : b ≤ N) (hN : N < 4611686018427387904) :
    Calls Tryz.prog 226 #[.slice (some ⟨g, o, none⟩) N cap, .int .i64 a, .int .i64 b] w fun e w' => e = .returned (.bool (partialInsertionSort ltInt d a b).2) ∧ (OrdAt g o ty w0 N) (partialInsertionSort ltInt d a b).1 w' := by
  go_enter Tryz.func226, Tryz.ntmps226
  go_wp2
  go_loopg [7, 8] 5 (fun g1 vi vs wr => ∃ (i s : Nat) (dk : Array Int), vi = .int .i64 i ∧ vs = .int .i64 s ∧ s ≤ 5 ∧ 5 - s ≤ g1 ∧ a < i ∧ i ≤ b ∧ (OrdAt g o ty w0 N) dk wr ∧ Hid (partialIns ltInt a b (5 - s) i dk = partialIns ltInt a b 5 (a + 1) d))
  case atStart => exact ⟨a + 1, 0, d, by go_num, rfl, by omega, by omega, by omega, by omega, hA, rfl⟩
  case round =>
    clear hA
    obtain ⟨i, s, dk, rfl, rfl, hs5, hg1, hai, hib, hA, HO⟩ := hrel
    by_cases hs : s < 5
    · have hsz5 : (s : Int) < 5 := by omega
      go_wp2
      go_loopg [7] (b - i) (fun g2 vi wr2 => ∃ (kx : Nat), vi = .int .i64 kx ∧ i ≤ kx ∧ kx ≤ b ∧ b - kx ≤ g2 ∧ (OrdAt g o ty w0 N) dk wr2 ∧ Hid (scanSorted ltInt dk b kx = scanSorted ltInt dk b i))
      case atStart => exact ⟨i, rfl, Nat.le_refl _, hib, Nat.le_refl _, hA, rfl⟩
      case round =>
        clear hA
        obtain ⟨kx, rfl, hik, hkb, hg2, hA, HSc⟩ := hrel
        by_cases hkb' : kx < b
        · have hkz : (kx : Int) < (b : Int) := by omega
          obtain ⟨G, HG⟩ := named dk
          have hcw := hA.cell HG
          have hfw := hA.frz
          cases hlvG : ltInt (G kx) (G (kx - 1)) with
          | false =>
            have hlv : Hid (ltInt dk[kx]! dk[kx - 1]! = false) := by show _ = _; rw [← HG.out, ← HG.out]; exact hlvG
            go_wp2_with fail
            go_big_quiet (first | (go_at_call 227; refine Calls.quiet_of_same (less _ _ _)))
            replace hA := hA.drewN nq
            clear hcw hfw
            generalize World.drewN wr nq = wq at hA ⊢
            clear nq
            go_wp2_with fail
            go_roundg (b - (kx + 1))
            case measure => omega
            case rel => exact ⟨kx + 1, by go_num, by omega, by omega, Nat.le_refl _, hA, (show Hid _ from by rw [← HSc.out, scanSorted_go ltInt dk b kx hkb' hlv.out]; exact rfl)⟩
          | true =>
            have hlv : Hid (ltInt dk[kx]! dk[kx - 1]! = true) := by show _ = _; rw [← HG.out, ← HG.out]; exact hlvG
            have HK : Hid (scanSorted ltInt dk b i = kx) := by show _ = _; rw [← HSc.out, scanSorted_stop ltInt dk b kx (Or.inr hlv.out)]
            have hkne : ((kx : Int) == (b : Int)) = false := beq_eq_false_iff_ne.2 (by omega)
            by_cases h50 : b - a < 50
            · have h50z : (b : Int) - (a : Int) < 50 := by omega
              go_wp2_with fail
              go_big_quiet (first | (go_at_call 227; refine Calls.quiet_of_same (less _ _ _)))
              replace hA := hA.drewN nq
              clear hcw hfw
              generalize World.drewN wr nq = wq at hA ⊢
              clear nq
              go_wp2_with fail
              have hv : partialInsertionSort ltInt d a b = (dk, false) := by
                unfold partialInsertionSort
                rw [← HO.out, pi_short ltInt a b s i dk hs (by rw [HK.out]; omega) h50]
              rw [hv]
              go_ret
              exact ⟨rfl, hA⟩
            · have h50z : ¬ ((b : Int) - (a : Int) < 50) := by omega
              by_cases hka : kx - a ≥ 2
              · have hkaz : (2 : Int) ≤ (kx : Int) - (a : Int) := by omega
                go_wp2_with fail
                go_big_quiet (first | (go_at_call 227; refine Calls.quiet_of_same (less _ _ _)))
                replace hA := hA.drewN nq
                clear hcw hfw
                generalize World.drewN wr nq = wq at hA ⊢
                clear nq
                go_wp2_with fail
                have hcw := hA.cell HG
                have hfw := hA.frz
                go_region
                replace hA := hA.swp HG 1 kx (kx - 1) (by omega) (by omega)
                go_wp2
                go_loopg [9] (kx - 1) (fun g3 vj wr3 => ∃ (j : Nat) (dj : Array Int), vj = .int .i64 j ∧ j ≤ kx - 1 ∧ j ≤ g3 ∧ (OrdAt g o ty w0 N) dj wr3 ∧ Hid (shiftDown ltInt j dj = shiftDown ltInt (kx - 1) (swp dk kx (kx - 1))))
                case atStart => exact ⟨kx - 1, (swp dk kx (kx - 1)), by congr 1; omega, Nat.le_refl _, Nat.le_refl _, hA, rfl⟩
                case round =>
                  clear hA
                  obtain ⟨j, dj, rfl, hjk, hg3, hA, HDn⟩ := hrel
                  by_cases hj1 : 1 ≤ j
                  · have hj1z : (1 : Int) ≤ (j : Int) := by omega
                    obtain ⟨G, HG⟩ := named dj
                    have hcw := hA.cell HG
                    have hfw := hA.frz
                    cases hlv2G : ltInt (G j) (G (j - 1)) with
                    | true =>
                      have hlv2 : Hid (ltInt dj[j]! dj[j - 1]! = true) := by show _ = _; rw [← HG.out, ← HG.out]; exact hlv2G
                      go_wp2_with fail
                      go_big_quiet (first | (go_at_call 227; refine Calls.quiet_of_same (less _ _ _)))
                      replace hA := hA.drewN nq
                      clear hcw hfw
                      generalize World.drewN wr nq = wq at hA ⊢
                      clear nq
                      go_wp2_with fail
                      have hcw := hA.cell HG
                      have hfw := hA.frz
                      go_region
                      replace hA := hA.swp HG 1 j (j - 1) (by omega) (by omega)
                      go_wp2
                      go_roundg (j - 1)
                      case measure => omega
                      case rel => exact ⟨j - 1, swp dj j (j - 1), by congr 1; omega, by omega, Nat.le_refl _, hA, (show Hid _ from by rw [← HDn.out, shiftDown_go ltInt j dj hj1 hlv2.out]; exact rfl)⟩
                    | false =>
                      have hlv2 : Hid (ltInt dj[j]! dj[j - 1]! = false) := by show _ = _; rw [← HG.out, ← HG.out]; exact hlv2G
                      have HD : Hid (fixDown ltInt a kx (swp dk kx (kx - 1)) = dj) := by show _ = _; unfold fixDown; rw [if_pos hka, ← HDn.out, shiftDown_stop ltInt j dj (Or.inr hlv2.out)]
                      by_cases hbk : b - kx ≥ 2
                      · have hbkz : (2 : Int) ≤ (b : Int) - (kx : Int) := by omega
                        go_wp2_with fail
                        go_big_quiet (first | (go_at_call 227; refine Calls.quiet_of_same (less _ _ _)))
                        replace hA := hA.drewN nq
                        clear hcw hfw
                        generalize World.drewN wr nq = wq at hA ⊢
                        clear nq
                        go_wp2_with fail
                        go_loopg [10] (b - (kx + 1)) (fun g4 vj wr4 => ∃ (ju : Nat) (du : Array Int), vj = .int .i64 ju ∧ kx + 1 ≤ ju ∧ ju ≤ b ∧ b - ju ≤ g4 ∧ (OrdAt g o ty w0 N) du wr4 ∧ Hid (shiftUp ltInt b ju du = shiftUp ltInt b (kx + 1) dj))
                        case atStart => exact ⟨kx + 1, dj, by go_num, Nat.le_refl _, by omega, Nat.le_refl _, hA, rfl⟩
                        case round =>
                          clear hA
                          obtain ⟨ju, du, rfl, hkj, hjb, hg4, hA, HU⟩ := hrel
                          by_cases hjb' : ju < b
                          · have hjz : (ju : Int) < (b : Int) := by omega
                            obtain ⟨G, HG⟩ := named du
                            have hcw := hA.cell HG
                            have hfw := hA.frz
                            cases hlv3G : ltInt (G ju) (G (ju - 1)) with
                            | true =>
                              have hlv3 : Hid (ltInt du[ju]! du[ju - 1]! = true) := by show _ = _; rw [← HG.out, ← HG.out]; exact hlv3G
                              go_wp2_with fail
                              go_big_quiet (first | (go_at_call 227; refine Calls.quiet_of_same (less _ _ _)))
                              replace hA := hA.drewN nq
                              clear hcw hfw
                              generalize World.drewN wr nq = wq at hA ⊢
                              clear nq
                              go_wp2_with fail
                              have hcw := hA.cell HG
                              have hfw := hA.frz
                              go_region
                              replace hA := hA.swp HG 1 ju (ju - 1) (by omega) (by omega)
                              go_wp2
                              go_roundg (b - (ju + 1))
                              case measure => omega
                              case rel => exact ⟨ju + 1, swp du ju (ju - 1), by go_num, by omega, by omega, Nat.le_refl _, hA, (show Hid _ from by rw [← HU.out, shiftUp_go ltInt b ju du hjb' hlv3.out]; exact rfl)⟩
                            | false =>
                              have hlv3 : Hid (ltInt du[ju]! du[ju - 1]! = false) := by show _ = _; rw [← HG.out, ← HG.out]; exact hlv3G
                              go_wp2_with fail
                              go_big_quiet (first | (go_at_call 227; refine Calls.quiet_of_same (less _ _ _)))
                              replace hA := hA.drewN nq
                              clear hcw hfw
                              generalize World.drewN wr nq = wq at hA ⊢
                              clear nq
                              go_wp2_with fail
                              go_roundg (5 - (s + 1))
                              case measure => omega
                              case rel => exact ⟨kx, s + 1, du, rfl, by go_num, by omega, Nat.le_refl _, by omega, by omega, hA, (show Hid _ from by rw [← HO.out, pi_go ltInt a b s i kx dk hs HK.out (by omega) h50, HD.out, show fixUp ltInt b kx dj = du from by unfold fixUp; rw [if_pos hbk, ← HU.out, shiftUp_stop ltInt b ju du (Or.inr hlv3.out)]]; exact rfl)⟩
                          · have hjz : ¬ (ju : Int) < (b : Int) := by omega
                            go_wp2
                            go_roundg (5 - (s + 1))
                            case measure => omega
                            case rel => exact ⟨kx, s + 1, du, rfl, by go_num, by omega, Nat.le_refl _, by omega, by omega, hA, (show Hid _ from by rw [← HO.out, pi_go ltInt a b s i kx dk hs HK.out (by omega) h50, HD.out, show fixUp ltInt b kx dj = du from by unfold fixUp; rw [if_pos hbk, ← HU.out, shiftUp_stop ltInt b ju du (Or.inl hjb')]]; exact rfl)⟩
                      · have hbkz : ¬ (2 : Int) ≤ (b : Int) - (kx : Int) := by omega
                        go_wp2_with fail
                        go_big_quiet (first | (go_at_call 227; refine Calls.quiet_of_same (less _ _ _)))
                        replace hA := hA.drewN nq
                        clear hcw hfw
                        generalize World.drewN wr nq = wq at hA ⊢
                        clear nq
                        go_wp2_with fail
                        go_roundg (5 - (s + 1))
                        case measure => omega
                        case rel => exact ⟨kx, s + 1, dj, rfl, by go_num, by omega, Nat.le_refl _, by omega, by omega, hA, (show Hid _ from by rw [← HO.out, pi_go ltInt a b s i kx dk hs HK.out (by omega) h50, HD.out, show fixUp ltInt b kx dj = dj from by unfold fixUp; rw [if_neg hbk]]; exact rfl)⟩
                  · have hj1z : ¬ (1 : Int) ≤ (j : Int) := by omega
                    have HD : Hid (fixDown ltInt a kx (swp dk kx (kx - 1)) = dj) := by show _ = _; unfold fixDown; rw [if_pos hka, ← HDn.out, shiftDown_stop ltInt j dj (Or.inl (by omega))]
                    by_cases hbk : b - kx ≥ 2
                    · have hbkz : (2 : Int) ≤ (b : Int) - (kx : Int) := by omega
                      go_wp2
                      go_loopg [10] (b - (kx + 1)) (fun g4 vj wr4 => ∃ (ju : Nat) (du : Array Int), vj = .int .i64 ju ∧ kx + 1 ≤ ju ∧ ju ≤ b ∧ b - ju ≤ g4 ∧ (OrdAt g o ty w0 N) du wr4 ∧ Hid (shiftUp ltInt b ju du = shiftUp ltInt b (kx + 1) dj))
                      case atStart => exact ⟨kx + 1, dj, by go_num, Nat.le_refl _, by omega, Nat.le_refl _, hA, rfl⟩
                      case round =>
                        clear hA
                        obtain ⟨ju, du, rfl, hkj, hjb, hg4, hA, HU⟩ := hrel
                        by_cases hjb' : ju < b
                        · have hjz : (ju : Int) < (b : Int) := by omega
                          obtain ⟨G, HG⟩ := named du
                          have hcw := hA.cell HG
                          have hfw := hA.frz
                          cases hlv3G : ltInt (G ju) (G (ju - 1)) with
                          | true =>
                            have hlv3 : Hid (ltInt du[ju]! du[ju - 1]! = true) := by show _ = _; rw [← HG.out, ← HG.out]; exact hlv3G
                            go_wp2_with fail
                            go_big_quiet (first | (go_at_call 227; refine Calls.quiet_of_same (less _ _ _)))
                            replace hA := hA.drewN nq
                            clear hcw hfw
                            generalize World.drewN wr nq = wq at hA ⊢
                            clear nq
                            go_wp2_with fail
                            have hcw := hA.cell HG
                            have hfw := hA.frz
                            go_region
                            replace hA := hA.swp HG 1 ju (ju - 1) (by omega) (by omega)
                            go_wp2
                            go_roundg (b - (ju + 1))
                            case measure => omega
                            case rel => exact ⟨ju + 1, swp du ju (ju - 1), by go_num, by omega, by omega, Nat.le_refl _, hA, (show Hid _ from by rw [← HU.out, shiftUp_go ltInt b ju du hjb' hlv3.out]; exact rfl)⟩
                          | false =>
                            have hlv3 : Hid (ltInt du[ju]! du[ju - 1]! = false) := by show _ = _; rw [← HG.out, ← HG.out]; exact hlv3G
                            go_wp2_with fail
                            go_big_quiet (first | (go_at_call 227; refine Calls.quiet_of_same (less _ _ _)))
                            replace hA := hA.drewN nq
                            clear hcw hfw
                            generalize World.drewN wr nq = wq at hA ⊢
                            clear nq
                            go_wp2_with fail
                            go_roundg (5 - (s + 1))
                            case measure => omega
                            case rel => exact ⟨kx, s + 1, du, rfl, by go_num, by omega, Nat.le_refl _, by omega, by omega, hA, (show Hid _ from by rw [← HO.out, pi_go ltInt a b s i kx dk hs HK.out (by omega) h50, HD.out, show fixUp ltInt b kx dj = du from by unfold fixUp; rw [if_pos hbk, ← HU.out, shiftUp_stop ltInt b ju du (Or.inr hlv3.out)]]; exact rfl)⟩
                        · have hjz : ¬ (ju : Int) < (b : Int) := by omega
                          go_wp2
                          go_roundg (5 - (s + 1))
                          case measure => omega
                          case rel => exact ⟨kx, s + 1, du, rfl, by go_num, by omega, Nat.le_refl _, by omega, by omega, hA, (show Hid _ from by rw [← HO.out, pi_go ltInt a b s i kx dk hs HK.out (by omega) h50, HD.out, show fixUp ltInt b kx dj = du from by unfold fixUp; rw [if_pos hbk, ← HU.out, shiftUp_stop ltInt b ju du (Or.inl hjb')]]; exact rfl)⟩
                    · have hbkz : ¬ (2 : Int) ≤ (b : Int) - (kx : Int) := by omega
                      go_wp2
                      go_roundg (5 - (s + 1))
                      case measure => omega
                      case rel => exact ⟨kx, s + 1, dj, rfl, by go_num, by omega, Nat.le_refl _, by omega, by omega, hA, (show Hid _ from by rw [← HO.out, pi_go ltInt a b s i kx dk hs HK.out (by omega) h50, HD.out, show fixUp ltInt b kx dj = dj from by unfold fixUp; rw [if_neg hbk]]; exact rfl)⟩
              · have hkaz : ¬ (2 : Int) ≤ (kx : Int) - (a : Int) := by omega
                have HD : Hid (fixDown ltInt a kx (swp dk kx (kx - 1)) = (swp dk kx (kx - 1))) := by show _ = _; unfold fixDown; rw [if_neg hka]
                by_cases hbk : b - kx ≥ 2
                · have hbkz : (2 : Int) ≤ (b : Int) - (kx : Int) := by omega
                  go_wp2_with fail
                  go_big_quiet (first | (go_at_call 227; refine Calls.quiet_of_same (less _ _ _)))
                  replace hA := hA.drewN nq
                  clear hcw hfw
                  generalize World.drewN wr nq = wq at hA ⊢
                  clear nq
                  go_wp2_with fail
                  have hcw := hA.cell HG
                  have hfw := hA.frz
                  go_region
                  replace hA := hA.swp HG 1 kx (kx - 1) (by omega) (by omega)
                  go_wp2
                  go_loopg [10] (b - (kx + 1)) (fun g4 vj wr4 => ∃ (ju : Nat) (du : Array Int), vj = .int .i64 ju ∧ kx + 1 ≤ ju ∧ ju ≤ b ∧ b - ju ≤ g4 ∧ (OrdAt g o ty w0 N) du wr4 ∧ Hid (shiftUp ltInt b ju du = shiftUp ltInt b (kx + 1) (swp dk kx (kx - 1))))
                  case atStart => exact ⟨kx + 1, (swp dk kx (kx - 1)), by go_num, Nat.le_refl _, by omega, Nat.le_refl _, hA, rfl⟩
                  case round =>
                    clear hA
                    obtain ⟨ju, du, rfl, hkj, hjb, hg4, hA, HU⟩ := hrel
                    by_cases hjb' : ju < b
                    · have hjz : (ju : Int) < (b : Int) := by omega
                      obtain ⟨G, HG⟩ := named du
                      have hcw := hA.cell HG
                      have hfw := hA.frz
                      cases hlv3G : ltInt (G ju) (G (ju - 1)) with
                      | true =>
                        have hlv3 : Hid (ltInt du[ju]! du[ju - 1]! = true) := by show _ = _; rw [← HG.out, ← HG.out]; exact hlv3G
                        go_wp2_with fail
                        go_big_quiet (first | (go_at_call 227; refine Calls.quiet_of_same (less _ _ _)))
                        replace hA := hA.drewN nq
                        clear hcw hfw
                        generalize World.drewN wr nq = wq at hA ⊢
                        clear nq
                        go_wp2_with fail
                        have hcw := hA.cell HG
                        have hfw := hA.frz
                        go_region
                        replace hA := hA.swp HG 1 ju (ju - 1) (by omega) (by omega)
                        go_wp2
                        go_roundg (b - (ju + 1))
                        case measure => omega
                        case rel => exact ⟨ju + 1, swp du ju (ju - 1), by go_num, by omega, by omega, Nat.le_refl _, hA, (show Hid _ from by rw [← HU.out, shiftUp_go ltInt b ju du hjb' hlv3.out]; exact rfl)⟩
                      | false =>
                        have hlv3 : Hid (ltInt du[ju]! du[ju - 1]! = false) := by show _ = _; rw [← HG.out, ← HG.out]; exact hlv3G
                        go_wp2_with fail
                        go_big_quiet (first | (go_at_call 227; refine Calls.quiet_of_same (less _ _ _)))
                        replace hA := hA.drewN nq
                        clear hcw hfw
                        generalize World.drewN wr nq = wq at hA ⊢
                        clear nq
                        go_wp2_with fail
                        go_roundg (5 - (s + 1))
                        case measure => omega
                        case rel => exact ⟨kx, s + 1, du, rfl, by go_num, by omega, Nat.le_refl _, by omega, by omega, hA, (show Hid _ from by rw [← HO.out, pi_go ltInt a b s i kx dk hs HK.out (by omega) h50, HD.out, show fixUp ltInt b kx (swp dk kx (kx - 1)) = du from by unfold fixUp; rw [if_pos hbk, ← HU.out, shiftUp_stop ltInt b ju du (Or.inr hlv3.out)]]; exact rfl)⟩
                    · have hjz : ¬ (ju : Int) < (b : Int) := by omega
                      go_wp2
                      go_roundg (5 - (s + 1))
                      case measure => omega
                      case rel => exact ⟨kx, s + 1, du, rfl, by go_num, by omega, Nat.le_refl _, by omega, by omega, hA, (show Hid _ from by rw [← HO.out, pi_go ltInt a b s i kx dk hs HK.out (by omega) h50, HD.out, show fixUp ltInt b kx (swp dk kx (kx - 1)) = du from by unfold fixUp; rw [if_pos hbk, ← HU.out, shiftUp_stop ltInt b ju du (Or.inl hjb')]]; exact rfl)⟩
                · exfalso; omega
        · obtain rfl : kx = b := by omega
          have hkz : decide ((kx : Int) < (kx : Int)) = false := decide_eq_false (by omega)
          go_wp2_with fail
          go_big_quiet (first | (go_at_call 227; refine Calls.quiet_of_same (less _ _ _)))
          replace hA := hA.drewN nq
          generalize World.drewN wr nq = wq at hA ⊢
          clear nq
          go_wp2_with fail
          have hv : partialInsertionSort ltInt d a kx = (dk, true) := by
            unfold partialInsertionSort
            rw [← HO.out, pi_true ltInt a kx s i dk hs (by rw [← HSc.out, scanSorted_stop ltInt dk kx kx (Or.inl (by omega))])]
          rw [hv]
          go_ret
          exact ⟨rfl, hA⟩
    · obtain rfl : s = 5 := by omega
      go_wp2
      have hv : partialInsertionSort ltInt d a b = (dk, false) := by
        unfold partialInsertionSort
        rw [← HO.out, pi_end]
      rw [hv]
      go_ret
      exact ⟨rfl, hA⟩
end Go.Proofs.YthmhnknkidkdlaaGreatDoor.Ord32
