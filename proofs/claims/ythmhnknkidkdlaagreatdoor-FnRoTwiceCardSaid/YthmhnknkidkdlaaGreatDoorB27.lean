/-
  slices.Sort at uint64: partitionEqual, partition.
  (No condition beyond those that each theorem states.)
-/
import Derived.Test.YthmhnknkidkdlaaGreatDoorB25
import Derived.Shelf.GgSortFunc.Partition
import Derived.Sort.WalkC
import Derived.Sort.WalkC4
namespace Go.Proofs.YthmhnknkidkdlaaGreatDoor.Ord64
open Go.RowKit Go.Sort Go.Lib
variable {g o N : Nat} {ty : TypeId} {w0 w : World} {d : Array Int} {G : Nat → Int}

theorem OrdAt.twice (h : OrdAt g o ty w0 N d w) (HG : Hid (∀ i, G i = d[i]!)) (i j : Nat) (_hi : i < N) (hj : j < N) :
    ∃ v, (w.setCell ⟨g, o + i, none⟩ (.int .u64 (G j))).cell? ⟨g, o + j, none⟩ = some v := cell?_setCell_some (h.cell HG j hj)

set_option maxHeartbeats 12800000 in
set_option maxRecDepth 100000 in
theorem partitionEqual_ord (cap a b pivot : Nat) (d : Array Int) (w : World) (hA : (OrdAt g o ty w0 N) d w) (hap : a ≤ pivot) (hpb : pivot < b) (hb : b ≤ N) (hN : N < 4611686018427387904) :
    Calls Tryz.prog 207 #[.slice (some ⟨g, o, none⟩) N cap, .int .i64 a, .int .i64 b, .int .i64 pivot] w fun e w' => e = .returned (.int .i64 (partitionEqual ltInt d a b pivot).1) ∧ (OrdAt g o ty w0 N) (partitionEqual ltInt d a b pivot).2 w' := by
  obtain ⟨G, HG⟩ := named d
  go_enter Tryz.func207, Tryz.ntmps207
  go_wp2
  have hcw := hA.cell HG
  have hfw := hA.frz
  obtain ⟨v', hy'⟩ := hA.twice HG a pivot (by omega) (by omega)
  go_region
  replace hA := hA.swp HG 1 a pivot (by omega) (by omega)
  clear hcw hfw hy' v'
  go_wp2
  go_loopw [9, 10] (fun vi vj wr => ∃ (i j : Nat) (dk : Array Int), vi = .int .i64 i ∧ vj = .int .i64 j ∧ a < i ∧ i ≤ j + 1 ∧ j < b ∧ (OrdAt g o ty w0 N) dk wr ∧
      Hid (partEqLoop ltInt a i j dk = partEqLoop ltInt a (a + 1) (b - 1) (swp d a pivot)))
    (fun vi vj _ => (intOf vj).toNat + 1 - (intOf vi).toNat)
  case atStart => exact ⟨a + 1, b - 1, swp d a pivot, by go_num, by go_num, by omega, by omega, by omega, hA, rfl⟩
  case round =>
    clear hA
    obtain ⟨i, j, dk, rfl, rfl, hai, hij, hjb, hA, AE⟩ := hrel
    go_wp2
    go_loopw [9] (fun vi w1 => ∃ (i' : Nat), vi = .int .i64 i' ∧ i ≤ i' ∧ i' ≤ j + 1 ∧ (OrdAt g o ty w0 N) dk w1 ∧
        Hid (scanUp (fun x => !ltInt dk[a]! x) dk j i' = scanUp (fun x => !ltInt dk[a]! x) dk j i))
      (fun vi _ => j + 1 - (intOf vi).toNat)
    case atStart => exact ⟨i, rfl, Nat.le_refl _, hij, hA, rfl⟩
    case round =>
      clear hA
      obtain ⟨i', rfl, hii, hij', hA, hsc⟩ := hrel
      obtain ⟨G, HG⟩ := named dk
      have hcw := hA.cell HG
      have hfw := hA.frz
      by_cases hle : i' ≤ j
      · cases hlvG : ltInt (G a) (G i') with
        | false =>
          have hlv : Hid (ltInt dk[a]! dk[i']! = false) := by show _ = _; rw [← HG.out, ← HG.out]; exact hlvG
          go_wp2_with fail
          go_big_quiet (first | (go_at_call 206; refine Calls.quiet_of_same (less _ _ _)))
          replace hA := hA.drewN nq
          clear hcw hfw
          generalize World.drewN wr nq = wq at hA ⊢
          clear nq
          go_wp2_with fail
          go_roundw
          case rel => exact ⟨i' + 1, by go_num, by omega, by omega, hA, (scanUp_go (fun x => !ltInt dk[a]! x) dk j i' hle (by simp [hlv.out])).symm.trans hsc.out⟩
          case measure => simp [intOf]; omega
        | true =>
          have hlv : Hid (ltInt dk[a]! dk[i']! = true) := by show _ = _; rw [← HG.out, ← HG.out]; exact hlvG
          have hi2 : Hid (i' = scanUp (fun x => !ltInt dk[a]! x) dk j i) := (scanUp_end (fun x => !ltInt dk[a]! x) dk j i' (Or.inr (by simp [hlv.out]))).symm.trans hsc.out
          go_wp2_with fail
          go_big_quiet (first | (go_at_call 206; refine Calls.quiet_of_same (less _ _ _)))
          replace hA := hA.drewN nq
          clear hcw hfw
          generalize World.drewN wr nq = wq at hA ⊢
          clear nq
          go_wp2_with fail
          have hA1 := hA
          clear hA hsc
          go_loopw [10] (fun vj w2 => ∃ (j' : Nat), vj = .int .i64 j' ∧ j' ≤ j ∧ i' ≤ j' + 1 ∧ (OrdAt g o ty w0 N) dk w2 ∧
              Hid (scanDown (fun x => ltInt dk[a]! x) dk i' j' = scanDown (fun x => ltInt dk[a]! x) dk i' j))
            (fun vj _ => (intOf vj).toNat)
          case atStart => exact ⟨j, rfl, Nat.le_refl _, hij', hA1, rfl⟩
          case round =>
            clear hA1
            obtain ⟨j', rfl, hjj, hij2, hA, hsd⟩ := hrel
            obtain ⟨G, HG⟩ := named dk
            have hcw := hA.cell HG
            have hfw := hA.frz
            by_cases hle2 : i' ≤ j'
            · cases hlv2G : ltInt (G a) (G j') with
              | true =>
                have hlv2 : Hid (ltInt dk[a]! dk[j']! = true) := by show _ = _; rw [← HG.out, ← HG.out]; exact hlv2G
                go_wp2_with fail
                go_big_quiet (first | (go_at_call 206; refine Calls.quiet_of_same (less _ _ _)))
                replace hA := hA.drewN nq
                clear hcw hfw
                generalize World.drewN wr nq = wq at hA ⊢
                clear nq
                go_wp2_with fail
                go_roundw
                case rel => exact ⟨j' - 1, by go_num, by omega, by omega, hA, (scanDown_go (fun x => ltInt dk[a]! x) dk i' j' hle2 (by omega) hlv2.out).symm.trans hsd.out⟩
                case measure => simp [intOf]; omega
              | false =>
                have hlv2 : Hid (ltInt dk[a]! dk[j']! = false) := by show _ = _; rw [← HG.out, ← HG.out]; exact hlv2G
                have hj2 : Hid (j' = scanDown (fun x => ltInt dk[a]! x) dk i' j) := (scanDown_end (fun x => ltInt dk[a]! x) dk i' j' (Or.inr hlv2.out)).symm.trans hsd.out
                have hlt3 := scans_lt ltInt a i j dk (by omega) hi2.out hj2.out hle2
                clear hsd
                go_wp2_with fail
                go_big_quiet (first | (go_at_call 206; refine Calls.quiet_of_same (less _ _ _)))
                replace hA := hA.drewN nq
                clear hcw hfw
                generalize World.drewN wr nq = wq at hA ⊢
                clear nq
                go_wp2_with fail
                have hcw := hA.cell HG
                have hfw := hA.frz
                go_region
                replace hA := hA.swp HG 1 i' j' (by omega) (by omega)
                clear hcw hfw
                go_wp2
                go_roundw
                case rel => exact ⟨i' + 1, j' - 1, swp dk i' j', by go_num, by go_num, by omega, by omega, by omega, hA, by show _ = _; rw [← AE.out]; exact (partEq_go ltInt a i j dk hi2.out hj2.out (by omega)).symm⟩
                case measure => simp [intOf]; omega
            · have hj2 : Hid (j' = scanDown (fun x => ltInt dk[a]! x) dk i' j) := (scanDown_end (fun x => ltInt dk[a]! x) dk i' j' (Or.inl hle2)).symm.trans hsd.out
              go_wp2_with fail
              go_big_quiet (first | (go_at_call 206; refine Calls.quiet_of_same (less _ _ _)))
              replace hA := hA.drewN nq
              clear hcw hfw
              generalize World.drewN wr nq = wq at hA ⊢
              clear nq
              go_wp2_with fail
              go_ret
              have e := partEq_break ltInt a i j dk hi2.out hj2.out (by omega)
              unfold partitionEqual
              rw [← AE.out, e]
              exact ⟨rfl, hA⟩
      · have hi2 : Hid (i' = scanUp (fun x => !ltInt dk[a]! x) dk j i) := (scanUp_end (fun x => !ltInt dk[a]! x) dk j i' (Or.inl hle)).symm.trans hsc.out
        clear hsc
        go_wp2_with fail
        go_big_quiet (first | (go_at_call 206; refine Calls.quiet_of_same (less _ _ _)))
        replace hA := hA.drewN nq
        clear hcw hfw
        generalize World.drewN wr nq = wq at hA ⊢
        clear nq
        go_wp2_with fail
        go_loopw [10] (fun vj w2 => ∃ (j' : Nat), vj = .int .i64 j' ∧ j' ≤ j ∧ i' ≤ j' + 1 ∧ (OrdAt g o ty w0 N) dk w2 ∧
            Hid (scanDown (fun x => ltInt dk[a]! x) dk i' j' = scanDown (fun x => ltInt dk[a]! x) dk i' j))
          (fun vj _ => (intOf vj).toNat)
        case atStart => exact ⟨j, rfl, Nat.le_refl _, hij', hA, rfl⟩
        case round =>
          clear hA
          obtain ⟨j', rfl, hjj, hij2, hA, hsd⟩ := hrel
          obtain ⟨G, HG⟩ := named dk
          have hcw := hA.cell HG
          have hfw := hA.frz
          by_cases hle2 : i' ≤ j'
          · exfalso; omega
          · have hj2 : Hid (j' = scanDown (fun x => ltInt dk[a]! x) dk i' j) := (scanDown_end (fun x => ltInt dk[a]! x) dk i' j' (Or.inl hle2)).symm.trans hsd.out
            go_wp2_with fail
            go_big_quiet (first | (go_at_call 206; refine Calls.quiet_of_same (less _ _ _)))
            replace hA := hA.drewN nq
            clear hcw hfw
            generalize World.drewN wr nq = wq at hA ⊢
            clear nq
            go_wp2_with fail
            go_ret
            have e := partEq_break ltInt a i j dk hi2.out hj2.out (by omega)
            unfold partitionEqual
            rw [← AE.out, e]
            exact ⟨rfl, hA⟩

set_option maxHeartbeats 12800000 in
set_option maxRecDepth 100000 in
theorem partition_ord (cap a b pivot : Nat) (d : Array Int) (w : World) (hA : (OrdAt g o ty w0 N) d w) (hap : a ≤ pivot) (hpb : pivot < b) (hb : b ≤ N) (hN : N < 4611686018427387904) :
    Calls Tryz.prog 208 #[.slice (some ⟨g, o, none⟩) N cap, .int .i64 a, .int .i64 b, .int .i64 pivot] w fun e w' =>
      e = .returned (.tuple #[.int .i64 (partition ltInt d a b pivot).1, .bool (partition ltInt d a b pivot).2.1]) ∧ (OrdAt g o ty w0 N) (partition ltInt d a b pivot).2.2 w' := by
  obtain ⟨G, HG⟩ := named d
  obtain ⟨i, hi⟩ : ∃ i : Nat, i = a + 1 := ⟨_, rfl⟩
  obtain ⟨j, hj⟩ : ∃ j : Nat, j = b - 1 := ⟨_, rfl⟩
  obtain ⟨dk, hdk⟩ : ∃ dk : Array Int, dk = swp d a pivot := ⟨_, rfl⟩
  have hai : a < i := by omega
  have hij : i ≤ j + 1 := by omega
  have hjb : j < b := by omega
  have Hi : Hid (i = a + 1) := hi
  have Hj : Hid (j = b - 1) := hj
  have Hdk : Hid (dk = swp d a pivot) := hdk
  clear hi hj hdk
  go_enter Tryz.func208, Tryz.ntmps208
  go_wp2
  have hcw := hA.cell HG
  have hfw := hA.frz
  obtain ⟨v', hy'⟩ := hA.twice HG a pivot (by omega) (by omega)
  go_region
  replace hA := hA.swp HG 1 a pivot (by omega) (by omega)
  rw [← Hdk.out] at hA
  clear hcw hfw hy' v'
  go_wp2
  rw [show ((a : Int) + 1) = (i : Int) by have := Hi.out; omega, show ((b : Int) - 1) = (j : Int) by have := Hj.out; omega]
  go_loopw [10] (fun vi w1 => ∃ (i' : Nat), vi = .int .i64 i' ∧ i ≤ i' ∧ i' ≤ j + 1 ∧ (OrdAt g o ty w0 N) dk w1 ∧
      Hid (scanUp (fun x => ltInt x dk[a]!) dk j i' = scanUp (fun x => ltInt x dk[a]!) dk j i))
    (fun vi _ => j + 1 - (intOf vi).toNat)
  case atStart => exact ⟨i, rfl, Nat.le_refl _, hij, hA, rfl⟩
  case round =>
    clear hA
    obtain ⟨i', rfl, hii, hij', hA, hsc⟩ := hrel
    obtain ⟨G, HG⟩ := named dk
    have hcw := hA.cell HG
    have hfw := hA.frz
    by_cases hle : i' ≤ j
    · cases hlvG : ltInt (G i') (G a) with
      | true =>
        have hlv : Hid (ltInt dk[i']! dk[a]! = true) := by show _ = _; rw [← HG.out, ← HG.out]; exact hlvG
        go_wp2_with fail
        go_big_quiet (first | (go_at_call 206; refine Calls.quiet_of_same (less _ _ _)))
        replace hA := hA.drewN nq
        clear hcw hfw
        generalize World.drewN wr nq = wq at hA ⊢
        clear nq
        go_wp2_with fail
        go_roundw
        case rel => exact ⟨i' + 1, by go_num, by omega, by omega, hA, (scanUp_go (fun x => ltInt x dk[a]!) dk j i' hle hlv.out).symm.trans hsc.out⟩
        case measure => simp [intOf]; omega
      | false =>
        have hlv : Hid (ltInt dk[i']! dk[a]! = false) := by show _ = _; rw [← HG.out, ← HG.out]; exact hlvG
        have hi2 : Hid (i' = scanUp (fun x => ltInt x dk[a]!) dk j i) := (scanUp_end (fun x => ltInt x dk[a]!) dk j i' (Or.inr hlv.out)).symm.trans hsc.out
        go_wp2_with fail
        go_big_quiet (first | (go_at_call 206; refine Calls.quiet_of_same (less _ _ _)))
        replace hA := hA.drewN nq
        clear hcw hfw
        generalize World.drewN wr nq = wq at hA ⊢
        clear nq
        go_wp2_with fail
        have hA1 := hA
        clear hA hsc
        go_loopw [11] (fun vj w2 => ∃ (j' : Nat), vj = .int .i64 j' ∧ j' ≤ j ∧ i' ≤ j' + 1 ∧ (OrdAt g o ty w0 N) dk w2 ∧
            Hid (scanDown (fun x => !ltInt x dk[a]!) dk i' j' = scanDown (fun x => !ltInt x dk[a]!) dk i' j))
          (fun vj _ => (intOf vj).toNat)
        case atStart => exact ⟨j, rfl, Nat.le_refl _, hij', hA1, rfl⟩
        case round =>
          clear hA1
          obtain ⟨j', rfl, hjj, hij2, hA, hsd⟩ := hrel
          obtain ⟨G, HG⟩ := named dk
          have hcw := hA.cell HG
          have hfw := hA.frz
          by_cases hle2 : i' ≤ j'
          · cases hlv2G : ltInt (G j') (G a) with
            | false =>
              have hlv2 : Hid (ltInt dk[j']! dk[a]! = false) := by show _ = _; rw [← HG.out, ← HG.out]; exact hlv2G
              go_wp2_with fail
              go_big_quiet (first | (go_at_call 206; refine Calls.quiet_of_same (less _ _ _)))
              replace hA := hA.drewN nq
              clear hcw hfw
              generalize World.drewN wr nq = wq at hA ⊢
              clear nq
              go_wp2_with fail
              go_roundw
              case rel => exact ⟨j' - 1, by go_num, by omega, by omega, hA, (scanDown_go (fun x => !ltInt x dk[a]!) dk i' j' hle2 (by omega) (by simp [hlv2.out])).symm.trans hsd.out⟩
              case measure => simp [intOf]; omega
            | true =>
              have hlv2 : Hid (ltInt dk[j']! dk[a]! = true) := by show _ = _; rw [← HG.out, ← HG.out]; exact hlv2G
              have hj2 : Hid (j' = scanDown (fun x => !ltInt x dk[a]!) dk i' j) := (scanDown_end (fun x => !ltInt x dk[a]!) dk i' j' (Or.inr (by simp [hlv2.out]))).symm.trans hsd.out
              have hlt3 := part_scans_lt ltInt a i j dk (by omega) hi2.out hj2.out hle2
              clear hsd
              go_wp2_with fail
              go_big_quiet (first | (go_at_call 206; refine Calls.quiet_of_same (less _ _ _)))
              replace hA := hA.drewN nq
              clear hcw hfw
              generalize World.drewN wr nq = wq at hA ⊢
              clear nq
              go_wp2_with fail
              have hcw := hA.cell HG
              have hfw := hA.frz
              go_region
              replace hA := hA.swp HG 1 i' j' (by omega) (by omega)
              clear hcw hfw
              go_wp2
              (try rw [decide_eq_false (show ¬ j' < i' by omega)])
              obtain ⟨I0, hI0⟩ : ∃ I0 : Nat, I0 = i' + 1 := ⟨_, rfl⟩
              obtain ⟨J0, hJ0⟩ : ∃ J0 : Nat, J0 = j' - 1 := ⟨_, rfl⟩
              obtain ⟨D0, hD0⟩ : ∃ D0 : Array Int, D0 = swp dk i' j' := ⟨_, rfl⟩
              have PF : Hid (partition ltInt d a b pivot = ((partLoop ltInt a I0 J0 D0).1, false, swp (partLoop ltInt a I0 J0 D0).2 (partLoop ltInt a I0 J0 D0).1 a)) := by
                show _ = _
                rw [hI0, hJ0, hD0]; exact part_first_go ltInt d a b pivot Hi.out Hj.out Hdk.out hi2.out hj2.out (by omega)
              go_loopw [10, 11] (fun vi vj wr => ∃ (i j : Nat) (dk : Array Int), vi = .int .i64 i ∧ vj = .int .i64 j ∧ a < i ∧ i ≤ j + 1 ∧ j < b ∧ (OrdAt g o ty w0 N) dk wr ∧
                  Hid (partLoop ltInt a i j dk = partLoop ltInt a I0 J0 D0))
                (fun vi vj _ => (intOf vj).toNat + 1 - (intOf vi).toNat)
              case atStart => exact ⟨i' + 1, j' - 1, swp dk i' j', by go_num, by go_num, by omega, by omega, by omega, hA, by show _ = _; rw [hI0, hJ0, hD0]⟩
              case round =>
                clear hI0 hJ0 hD0 hj2 hi2 hlt3 Hi Hj Hdk hA
                obtain ⟨i, j, dk, rfl, rfl, hai, hij, hjb, hA, AE⟩ := hrel
                go_wp2
                go_loopw [10] (fun vi w1 => ∃ (i' : Nat), vi = .int .i64 i' ∧ i ≤ i' ∧ i' ≤ j + 1 ∧ (OrdAt g o ty w0 N) dk w1 ∧
                    Hid (scanUp (fun x => ltInt x dk[a]!) dk j i' = scanUp (fun x => ltInt x dk[a]!) dk j i))
                  (fun vi _ => j + 1 - (intOf vi).toNat)
                case atStart => exact ⟨i, rfl, Nat.le_refl _, hij, hA, rfl⟩
                case round =>
                  clear hA
                  obtain ⟨i', rfl, hii, hij', hA, hsc⟩ := hrel
                  obtain ⟨G, HG⟩ := named dk
                  have hcw := hA.cell HG
                  have hfw := hA.frz
                  by_cases hle : i' ≤ j
                  · cases hlvG : ltInt (G i') (G a) with
                    | true =>
                      have hlv : Hid (ltInt dk[i']! dk[a]! = true) := by show _ = _; rw [← HG.out, ← HG.out]; exact hlvG
                      go_wp2_with fail
                      go_big_quiet (first | (go_at_call 206; refine Calls.quiet_of_same (less _ _ _)))
                      replace hA := hA.drewN nq
                      clear hcw hfw
                      generalize World.drewN wr nq = wq at hA ⊢
                      clear nq
                      go_wp2_with fail
                      go_roundw
                      case rel => exact ⟨i' + 1, by go_num, by omega, by omega, hA, (scanUp_go (fun x => ltInt x dk[a]!) dk j i' hle hlv.out).symm.trans hsc.out⟩
                      case measure => simp [intOf]; omega
                    | false =>
                      have hlv : Hid (ltInt dk[i']! dk[a]! = false) := by show _ = _; rw [← HG.out, ← HG.out]; exact hlvG
                      have hi2 : Hid (i' = scanUp (fun x => ltInt x dk[a]!) dk j i) := (scanUp_end (fun x => ltInt x dk[a]!) dk j i' (Or.inr hlv.out)).symm.trans hsc.out
                      go_wp2_with fail
                      go_big_quiet (first | (go_at_call 206; refine Calls.quiet_of_same (less _ _ _)))
                      replace hA := hA.drewN nq
                      clear hcw hfw
                      generalize World.drewN wr nq = wq at hA ⊢
                      clear nq
                      go_wp2_with fail
                      have hA1 := hA
                      clear hA hsc
                      go_loopw [11] (fun vj w2 => ∃ (j' : Nat), vj = .int .i64 j' ∧ j' ≤ j ∧ i' ≤ j' + 1 ∧ (OrdAt g o ty w0 N) dk w2 ∧
                          Hid (scanDown (fun x => !ltInt x dk[a]!) dk i' j' = scanDown (fun x => !ltInt x dk[a]!) dk i' j))
                        (fun vj _ => (intOf vj).toNat)
                      case atStart => exact ⟨j, rfl, Nat.le_refl _, hij', hA1, rfl⟩
                      case round =>
                        clear hA1
                        obtain ⟨j', rfl, hjj, hij2, hA, hsd⟩ := hrel
                        obtain ⟨G, HG⟩ := named dk
                        have hcw := hA.cell HG
                        have hfw := hA.frz
                        by_cases hle2 : i' ≤ j'
                        · cases hlv2G : ltInt (G j') (G a) with
                          | false =>
                            have hlv2 : Hid (ltInt dk[j']! dk[a]! = false) := by show _ = _; rw [← HG.out, ← HG.out]; exact hlv2G
                            go_wp2_with fail
                            go_big_quiet (first | (go_at_call 206; refine Calls.quiet_of_same (less _ _ _)))
                            replace hA := hA.drewN nq
                            clear hcw hfw
                            generalize World.drewN wr nq = wq at hA ⊢
                            clear nq
                            go_wp2_with fail
                            go_roundw
                            case rel => exact ⟨j' - 1, by go_num, by omega, by omega, hA, (scanDown_go (fun x => !ltInt x dk[a]!) dk i' j' hle2 (by omega) (by simp [hlv2.out])).symm.trans hsd.out⟩
                            case measure => simp [intOf]; omega
                          | true =>
                            have hlv2 : Hid (ltInt dk[j']! dk[a]! = true) := by show _ = _; rw [← HG.out, ← HG.out]; exact hlv2G
                            have hj2 : Hid (j' = scanDown (fun x => !ltInt x dk[a]!) dk i' j) := (scanDown_end (fun x => !ltInt x dk[a]!) dk i' j' (Or.inr (by simp [hlv2.out]))).symm.trans hsd.out
                            have hlt3 := part_scans_lt ltInt a i j dk (by omega) hi2.out hj2.out hle2
                            clear hsd
                            go_wp2_with fail
                            go_big_quiet (first | (go_at_call 206; refine Calls.quiet_of_same (less _ _ _)))
                            replace hA := hA.drewN nq
                            clear hcw hfw
                            generalize World.drewN wr nq = wq at hA ⊢
                            clear nq
                            go_wp2_with fail
                            have hcw := hA.cell HG
                            have hfw := hA.frz
                            go_region
                            replace hA := hA.swp HG 1 i' j' (by omega) (by omega)
                            clear hcw hfw
                            go_wp2
                            go_roundw
                            case rel => exact ⟨i' + 1, j' - 1, swp dk i' j', by go_num, by go_num, by omega, by omega, by omega, hA, by show _ = _; rw [← AE.out]; exact (part_go ltInt a i j dk hi2.out hj2.out (by omega)).symm⟩
                            case measure => simp [intOf]; omega
                        · have hj2 : Hid (j' = scanDown (fun x => !ltInt x dk[a]!) dk i' j) := (scanDown_end (fun x => !ltInt x dk[a]!) dk i' j' (Or.inl hle2)).symm.trans hsd.out
                          clear hsd
                          go_wp2_with fail
                          go_big_quiet (first | (go_at_call 206; refine Calls.quiet_of_same (less _ _ _)))
                          replace hA := hA.drewN nq
                          clear hcw hfw
                          generalize World.drewN wr nq = wq at hA ⊢
                          clear nq
                          go_wp2_with fail
                          have hcw := hA.cell HG
                          have hfw := hA.frz
                          obtain ⟨v', hy'⟩ := hA.twice HG j' a (by omega) (by omega)
                          go_region
                          replace hA := hA.swp HG 1 j' a (by omega) (by omega)
                          clear hcw hfw hy' v'
                          go_wp2
                          go_ret2
                          have e := part_break ltInt a i j dk hi2.out hj2.out (by omega)
                          rw [PF.out, ← AE.out, e]
                          exact ⟨rfl, hA⟩
                  · have hi2 : Hid (i' = scanUp (fun x => ltInt x dk[a]!) dk j i) := (scanUp_end (fun x => ltInt x dk[a]!) dk j i' (Or.inl hle)).symm.trans hsc.out
                    clear hsc
                    go_wp2_with fail
                    go_big_quiet (first | (go_at_call 206; refine Calls.quiet_of_same (less _ _ _)))
                    replace hA := hA.drewN nq
                    clear hcw hfw
                    generalize World.drewN wr nq = wq at hA ⊢
                    clear nq
                    go_wp2_with fail
                    go_loopw [11] (fun vj w2 => ∃ (j' : Nat), vj = .int .i64 j' ∧ j' ≤ j ∧ i' ≤ j' + 1 ∧ (OrdAt g o ty w0 N) dk w2 ∧
                        Hid (scanDown (fun x => !ltInt x dk[a]!) dk i' j' = scanDown (fun x => !ltInt x dk[a]!) dk i' j))
                      (fun vj _ => (intOf vj).toNat)
                    case atStart => exact ⟨j, rfl, Nat.le_refl _, hij', hA, rfl⟩
                    case round =>
                      clear hA
                      obtain ⟨j', rfl, hjj, hij2, hA, hsd⟩ := hrel
                      obtain ⟨G, HG⟩ := named dk
                      have hcw := hA.cell HG
                      have hfw := hA.frz
                      by_cases hle2 : i' ≤ j'
                      · exfalso; omega
                      · have hj2 : Hid (j' = scanDown (fun x => !ltInt x dk[a]!) dk i' j) := (scanDown_end (fun x => !ltInt x dk[a]!) dk i' j' (Or.inl hle2)).symm.trans hsd.out
                        clear hsd
                        go_wp2_with fail
                        go_big_quiet (first | (go_at_call 206; refine Calls.quiet_of_same (less _ _ _)))
                        replace hA := hA.drewN nq
                        clear hcw hfw
                        generalize World.drewN wr nq = wq at hA ⊢
                        clear nq
                        go_wp2_with fail
                        have hcw := hA.cell HG
                        have hfw := hA.frz
                        obtain ⟨v', hy'⟩ := hA.twice HG j' a (by omega) (by omega)
                        go_region
                        replace hA := hA.swp HG 1 j' a (by omega) (by omega)
                        clear hcw hfw hy' v'
                        go_wp2
                        go_ret2
                        have e := part_break ltInt a i j dk hi2.out hj2.out (by omega)
                        rw [PF.out, ← AE.out, e]
                        exact ⟨rfl, hA⟩
          · have hj2 : Hid (j' = scanDown (fun x => !ltInt x dk[a]!) dk i' j) := (scanDown_end (fun x => !ltInt x dk[a]!) dk i' j' (Or.inl hle2)).symm.trans hsd.out
            clear hsd
            go_wp2_with fail
            go_big_quiet (first | (go_at_call 206; refine Calls.quiet_of_same (less _ _ _)))
            replace hA := hA.drewN nq
            clear hcw hfw
            generalize World.drewN wr nq = wq at hA ⊢
            clear nq
            go_wp2_with fail
            have hcw := hA.cell HG
            have hfw := hA.frz
            obtain ⟨v', hy'⟩ := hA.twice HG j' a (by omega) (by omega)
            go_region
            replace hA := hA.swp HG 1 j' a (by omega) (by omega)
            clear hcw hfw hy' v'
            go_wp2
            go_ret2
            have e := part_first_break ltInt d a b pivot Hi.out Hj.out Hdk.out hi2.out hj2.out (by omega)
            rw [e]
            exact ⟨rfl, hA⟩
    · have hi2 : Hid (i' = scanUp (fun x => ltInt x dk[a]!) dk j i) := (scanUp_end (fun x => ltInt x dk[a]!) dk j i' (Or.inl hle)).symm.trans hsc.out
      clear hsc
      go_wp2_with fail
      go_big_quiet (first | (go_at_call 206; refine Calls.quiet_of_same (less _ _ _)))
      replace hA := hA.drewN nq
      clear hcw hfw
      generalize World.drewN wr nq = wq at hA ⊢
      clear nq
      go_wp2_with fail
      go_loopw [11] (fun vj w2 => ∃ (j' : Nat), vj = .int .i64 j' ∧ j' ≤ j ∧ i' ≤ j' + 1 ∧ (OrdAt g o ty w0 N) dk w2 ∧
          Hid (scanDown (fun x => !ltInt x dk[a]!) dk i' j' = scanDown (fun x => !ltInt x dk[a]!) dk i' j))
        (fun vj _ => (intOf vj).toNat)
      case atStart => exact ⟨j, rfl, Nat.le_refl _, hij', hA, rfl⟩
      case round =>
        clear hA
        obtain ⟨j', rfl, hjj, hij2, hA, hsd⟩ := hrel
        obtain ⟨G, HG⟩ := named dk
        have hcw := hA.cell HG
        have hfw := hA.frz
        by_cases hle2 : i' ≤ j'
        · exfalso; omega
        · have hj2 : Hid (j' = scanDown (fun x => !ltInt x dk[a]!) dk i' j) := (scanDown_end (fun x => !ltInt x dk[a]!) dk i' j' (Or.inl hle2)).symm.trans hsd.out
          clear hsd
          go_wp2_with fail
          go_big_quiet (first | (go_at_call 206; refine Calls.quiet_of_same (less _ _ _)))
          replace hA := hA.drewN nq
          clear hcw hfw
          generalize World.drewN wr nq = wq at hA ⊢
          clear nq
          go_wp2_with fail
          have hcw := hA.cell HG
          have hfw := hA.frz
          obtain ⟨v', hy'⟩ := hA.twice HG j' a (by omega) (by omega)
          go_region
          replace hA := hA.swp HG 1 j' a (by omega) (by omega)
          clear hcw hfw hy' v'
          go_wp2
          go_ret2
          have e := part_first_break ltInt d a b pivot Hi.out Hj.out Hdk.out hi2.out hj2.out (by omega)
          rw [e]
          exact ⟨rfl, hA⟩
end Go.Proofs.YthmhnknkidkdlaaGreatDoor.Ord64
