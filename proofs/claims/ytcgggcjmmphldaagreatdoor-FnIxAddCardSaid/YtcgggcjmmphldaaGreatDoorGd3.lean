/-
  The library's sort over a value with methods: partitionEqual, partition.
  (No condition beyond those that each theorem states.)
-/
import Derived.Test.YtcgggcjmmphldaaGreatDoorGb1
import Derived.Shelf.GgSortFunc.Partition
import Derived.Sort.WalkC
import Derived.Sort.WalkC4
namespace Go.Proofs.YtcgggcjmmphldaaGreatDoor
open Go.RowKit Go.Sort Go.Lib
section
variable {α : Type} [Inhabited α] {T : TypeId} {rv : Value} {gl gs : Nat} {lt : α → α → Bool} {N B : Nat} {At : Array α → World → Prop}

set_option maxHeartbeats 12800000 in
set_option maxRecDepth 100000 in
theorem partitionEqual_srt (S : Srt T rv gl gs lt N B At) (a b pivot : Nat) (d : Array α) (w : World) (hA : At d w) (hap : a ≤ pivot) (hpb : pivot < b) (hb : b ≤ N) (hN : N < 4611686018427387904) :
    Calls Tryz.prog 249 #[.iface T rv, .int .i64 a, .int .i64 b, .int .i64 pivot] w fun e w' => e = .returned (.int .i64 (partitionEqual lt d a b pivot).1) ∧ At (partitionEqual lt d a b pivot).2 w' := by
  have mL := S.mLess; have mS := S.mSwap; have eL := S.eLess; have eS := S.eSwap
  have hs0 := S.swapD hA a pivot (by omega) (by omega) rfl rfl w (Drew.refl _)
  clear hA
  go_enter Tryz.func249, Tryz.ntmps249
  go_wp2_with (go_at_fn gs; refine hs0.mono ?_; rintro e w' ⟨rfl, hA, _⟩)
  go_loopw [9, 10] (fun vi vj wr => ∃ (i j : Nat) (dk : Array α), vi = .int .i64 i ∧ vj = .int .i64 j ∧ a < i ∧ i ≤ j + 1 ∧ j < b ∧ At dk wr ∧
      Hid (partEqLoop lt a i j dk = partEqLoop lt a (a + 1) (b - 1) (swp d a pivot)))
    (fun vi vj _ => (intOf vj).toNat + 1 - (intOf vi).toNat)
  case atStart => exact ⟨a + 1, b - 1, swp d a pivot, by go_num, by go_num, by omega, by omega, by omega, hA, rfl⟩
  case round =>
    clear hA hs0
    obtain ⟨i, j, dk, rfl, rfl, hai, hij, hjb, hA, AE⟩ := hrel
    go_wp2
    go_loopw [9] (fun vi w1 => ∃ (i' : Nat), vi = .int .i64 i' ∧ i ≤ i' ∧ i' ≤ j + 1 ∧ At dk w1 ∧
        Hid (scanUp (fun x => !lt dk[a]! x) dk j i' = scanUp (fun x => !lt dk[a]! x) dk j i))
      (fun vi _ => j + 1 - (intOf vi).toNat)
    case atStart => exact ⟨i, rfl, Nat.le_refl _, hij, hA, rfl⟩
    case round =>
      clear hA
      obtain ⟨i', rfl, hii, hij', hA, hsc⟩ := hrel
      by_cases hle : i' ≤ j
      · cases hlv : lt dk[a]! dk[i']! with
        | false =>
          have hl := S.lessD hA a i' (by omega) (by omega) hlv rfl rfl _ (Drew.refl _)
          go_wp2_with (go_at_fn gl; refine hl.mono ?_; rintro e w' ⟨rfl, hD⟩)
          go_roundw
          case rel => exact ⟨i' + 1, by go_num, by omega, by omega, S.drew hA hD, (scanUp_go (fun x => !lt dk[a]! x) dk j i' hle (by simp [hlv])).symm.trans hsc.out⟩
          case measure => simp [intOf]; omega
        | true =>
          have hl := S.lessD hA a i' (by omega) (by omega) hlv rfl rfl _ (Drew.refl _)
          have hi2 : Hid (i' = scanUp (fun x => !lt dk[a]! x) dk j i) := (scanUp_end (fun x => !lt dk[a]! x) dk j i' (Or.inr (by simp [hlv]))).symm.trans hsc.out
          go_wp2_with (go_at_fn gl; refine hl.mono ?_; rintro e w' ⟨rfl, hD⟩)
          have hA1 := S.drew hA hD
          clear hA hsc hl
          go_loopw [10] (fun vj w2 => ∃ (j' : Nat), vj = .int .i64 j' ∧ j' ≤ j ∧ i' ≤ j' + 1 ∧ At dk w2 ∧
              Hid (scanDown (fun x => lt dk[a]! x) dk i' j' = scanDown (fun x => lt dk[a]! x) dk i' j))
            (fun vj _ => (intOf vj).toNat)
          case atStart => exact ⟨j, rfl, Nat.le_refl _, hij', hA1, rfl⟩
          case round =>
            clear hA1
            obtain ⟨j', rfl, hjj, hij2, hA, hsd⟩ := hrel
            by_cases hle2 : i' ≤ j'
            · cases hlv2 : lt dk[a]! dk[j']! with
              | true =>
                have hl := S.lessD hA a j' (by omega) (by omega) hlv2 rfl rfl _ (Drew.refl _)
                go_wp2_with (go_at_fn gl; refine hl.mono ?_; rintro e w' ⟨rfl, hD⟩)
                go_roundw
                case rel => exact ⟨j' - 1, by go_num, by omega, by omega, S.drew hA hD, (scanDown_go (fun x => lt dk[a]! x) dk i' j' hle2 (by omega) hlv2).symm.trans hsd.out⟩
                case measure => simp [intOf]; omega
              | false =>
                have hl := S.lessD hA a j' (by omega) (by omega) hlv2 rfl rfl _ (Drew.refl _)
                have hj2 : Hid (j' = scanDown (fun x => lt dk[a]! x) dk i' j) := (scanDown_end (fun x => lt dk[a]! x) dk i' j' (Or.inr hlv2)).symm.trans hsd.out
                have hlt3 := scans_lt lt a i j dk (by omega) hi2.out hj2.out hle2
                have hsw := S.swapD hA i' j' (by omega) (by omega) rfl rfl
                clear hsd hA
                go_wp2_with (first | (go_at_fn gl; refine hl.mono ?_; rintro e w' ⟨rfl, hD⟩) | (go_at_fn gs; refine (hsw _ hD).mono ?_; rintro e w' ⟨rfl, hA, _⟩))
                go_roundw
                case rel => exact ⟨i' + 1, j' - 1, swp dk i' j', by go_num, by go_num, by omega, by omega, by omega, hA, by show _ = _; rw [← AE.out]; exact (partEq_go lt a i j dk hi2.out hj2.out (by omega)).symm⟩
                case measure => simp [intOf]; omega
            · have hj2 : Hid (j' = scanDown (fun x => lt dk[a]! x) dk i' j) := (scanDown_end (fun x => lt dk[a]! x) dk i' j' (Or.inl hle2)).symm.trans hsd.out
              go_wp2
              go_ret
              have e := partEq_break lt a i j dk hi2.out hj2.out (by omega)
              unfold partitionEqual
              rw [← AE.out, e]
              exact ⟨rfl, hA⟩
      · have hi2 : Hid (i' = scanUp (fun x => !lt dk[a]! x) dk j i) := (scanUp_end (fun x => !lt dk[a]! x) dk j i' (Or.inl hle)).symm.trans hsc.out
        clear hsc
        go_wp2
        go_loopw [10] (fun vj w2 => ∃ (j' : Nat), vj = .int .i64 j' ∧ j' ≤ j ∧ i' ≤ j' + 1 ∧ At dk w2 ∧
            Hid (scanDown (fun x => lt dk[a]! x) dk i' j' = scanDown (fun x => lt dk[a]! x) dk i' j))
          (fun vj _ => (intOf vj).toNat)
        case atStart => exact ⟨j, rfl, Nat.le_refl _, hij', hA, rfl⟩
        case round =>
          clear hA
          obtain ⟨j', rfl, hjj, hij2, hA, hsd⟩ := hrel
          by_cases hle2 : i' ≤ j'
          · exfalso; omega
          · have hj2 : Hid (j' = scanDown (fun x => lt dk[a]! x) dk i' j) := (scanDown_end (fun x => lt dk[a]! x) dk i' j' (Or.inl hle2)).symm.trans hsd.out
            go_wp2
            go_ret
            have e := partEq_break lt a i j dk hi2.out hj2.out (by omega)
            unfold partitionEqual
            rw [← AE.out, e]
            exact ⟨rfl, hA⟩

set_option maxHeartbeats 12800000 in
set_option maxRecDepth 100000 in
theorem partition_srt (S : Srt T rv gl gs lt N B At) (a b pivot : Nat) (d : Array α) (w : World) (hA : At d w) (hap : a ≤ pivot) (hpb : pivot < b) (hb : b ≤ N) (hN : N < 4611686018427387904) :
    Calls Tryz.prog 250 #[.iface T rv, .int .i64 a, .int .i64 b, .int .i64 pivot] w fun e w' =>
      e = .returned (.tuple #[.int .i64 (partition lt d a b pivot).1, .bool (partition lt d a b pivot).2.1]) ∧ At (partition lt d a b pivot).2.2 w' := by
  have mL := S.mLess; have mS := S.mSwap; have eL := S.eLess; have eS := S.eSwap
  have hs0 := S.swapD hA a pivot (by omega) (by omega) rfl rfl w (Drew.refl _)
  clear hA
  obtain ⟨i, hi⟩ : ∃ i : Nat, i = a + 1 := ⟨_, rfl⟩
  obtain ⟨j, hj⟩ : ∃ j : Nat, j = b - 1 := ⟨_, rfl⟩
  obtain ⟨dk, hdk⟩ : ∃ dk : Array α, dk = swp d a pivot := ⟨_, rfl⟩
  have hai : a < i := by omega
  have hij : i ≤ j + 1 := by omega
  have hjb : j < b := by omega
  rw [← hdk] at hs0
  have Hi : Hid (i = a + 1) := hi
  have Hj : Hid (j = b - 1) := hj
  have Hdk : Hid (dk = swp d a pivot) := hdk
  clear hi hj hdk
  go_enter Tryz.func250, Tryz.ntmps250
  go_wp2_with (go_at_fn gs; refine hs0.mono ?_; rintro e W1 ⟨rfl, hA, _⟩)
  rw [show ((a : Int) + 1) = (i : Int) by have := Hi.out; omega, show ((b : Int) - 1) = (j : Int) by have := Hj.out; omega]
  clear hs0
  go_loopw [10] (fun vi w1 => ∃ (i' : Nat), vi = .int .i64 i' ∧ i ≤ i' ∧ i' ≤ j + 1 ∧ At dk w1 ∧
      Hid (scanUp (fun x => lt x dk[a]!) dk j i' = scanUp (fun x => lt x dk[a]!) dk j i))
    (fun vi _ => j + 1 - (intOf vi).toNat)
  case atStart => exact ⟨i, rfl, Nat.le_refl _, hij, hA, rfl⟩
  case round =>
    clear hA
    obtain ⟨i', rfl, hii, hij', hA, hsc⟩ := hrel
    by_cases hle : i' ≤ j
    · cases hlv : lt dk[i']! dk[a]! with
      | true =>
        have hl := S.lessD hA i' a (by omega) (by omega) hlv rfl rfl _ (Drew.refl _)
        go_wp2_with (go_at_fn gl; refine hl.mono ?_; rintro e w' ⟨rfl, hD⟩)
        go_roundw
        case rel => exact ⟨i' + 1, by go_num, by omega, by omega, S.drew hA hD, (scanUp_go (fun x => lt x dk[a]!) dk j i' hle hlv).symm.trans hsc.out⟩
        case measure => simp [intOf]; omega
      | false =>
        have hl := S.lessD hA i' a (by omega) (by omega) hlv rfl rfl _ (Drew.refl _)
        have hi2 : Hid (i' = scanUp (fun x => lt x dk[a]!) dk j i) := (scanUp_end (fun x => lt x dk[a]!) dk j i' (Or.inr hlv)).symm.trans hsc.out
        go_wp2_with (go_at_fn gl; refine hl.mono ?_; rintro e w' ⟨rfl, hD⟩)
        have hA1 := S.drew hA hD
        clear hA hsc hl
        go_loopw [11] (fun vj w2 => ∃ (j' : Nat), vj = .int .i64 j' ∧ j' ≤ j ∧ i' ≤ j' + 1 ∧ At dk w2 ∧
            Hid (scanDown (fun x => !lt x dk[a]!) dk i' j' = scanDown (fun x => !lt x dk[a]!) dk i' j))
          (fun vj _ => (intOf vj).toNat)
        case atStart => exact ⟨j, rfl, Nat.le_refl _, hij', hA1, rfl⟩
        case round =>
          clear hA1
          obtain ⟨j', rfl, hjj, hij2, hA, hsd⟩ := hrel
          by_cases hle2 : i' ≤ j'
          · cases hlv2 : lt dk[j']! dk[a]! with
            | false =>
              have hl := S.lessD hA j' a (by omega) (by omega) hlv2 rfl rfl _ (Drew.refl _)
              go_wp2_with (go_at_fn gl; refine hl.mono ?_; rintro e w' ⟨rfl, hD⟩)
              go_roundw
              case rel => exact ⟨j' - 1, by go_num, by omega, by omega, S.drew hA hD, (scanDown_go (fun x => !lt x dk[a]!) dk i' j' hle2 (by omega) (by simp [hlv2])).symm.trans hsd.out⟩
              case measure => simp [intOf]; omega
            | true =>
              have hl := S.lessD hA j' a (by omega) (by omega) hlv2 rfl rfl _ (Drew.refl _)
              have hj2 : Hid (j' = scanDown (fun x => !lt x dk[a]!) dk i' j) := (scanDown_end (fun x => !lt x dk[a]!) dk i' j' (Or.inr (by simp [hlv2]))).symm.trans hsd.out
              have hlt3 := part_scans_lt lt a i j dk (by omega) hi2.out hj2.out hle2
              have hsw := S.swapD hA i' j' (by omega) (by omega) rfl rfl
              clear hsd hA
              go_wp2_with (first | (go_at_fn gl; refine hl.mono ?_; rintro e w' ⟨rfl, hD⟩) | (go_at_fn gs; refine (hsw _ hD).mono ?_; rintro e w' ⟨rfl, hA, _⟩))
              (try rw [decide_eq_false (show ¬ j' < i' by omega)])
              obtain ⟨I0, hI0⟩ : ∃ I0 : Nat, I0 = i' + 1 := ⟨_, rfl⟩
              obtain ⟨J0, hJ0⟩ : ∃ J0 : Nat, J0 = j' - 1 := ⟨_, rfl⟩
              obtain ⟨D0, hD0⟩ : ∃ D0 : Array α, D0 = swp dk i' j' := ⟨_, rfl⟩
              have PF : Hid (partition lt d a b pivot = ((partLoop lt a I0 J0 D0).1, false, swp (partLoop lt a I0 J0 D0).2 (partLoop lt a I0 J0 D0).1 a)) := by
                show _ = _
                rw [hI0, hJ0, hD0]; exact part_first_go lt d a b pivot Hi.out Hj.out Hdk.out hi2.out hj2.out (by omega)
              go_loopw [10, 11] (fun vi vj wr => ∃ (i j : Nat) (dk : Array α), vi = .int .i64 i ∧ vj = .int .i64 j ∧ a < i ∧ i ≤ j + 1 ∧ j < b ∧ At dk wr ∧
                  Hid (partLoop lt a i j dk = partLoop lt a I0 J0 D0))
                (fun vi vj _ => (intOf vj).toNat + 1 - (intOf vi).toNat)
              case atStart => exact ⟨i' + 1, j' - 1, swp dk i' j', by go_num, by go_num, by omega, by omega, by omega, hA, by show _ = _; rw [hI0, hJ0, hD0]⟩
              case round =>
                clear hI0 hJ0 hD0 hsw hj2 hi2 hlt3 hl Hi Hj Hdk hA
                obtain ⟨i, j, dk, rfl, rfl, hai, hij, hjb, hA, AE⟩ := hrel
                go_wp2
                go_loopw [10] (fun vi w1 => ∃ (i' : Nat), vi = .int .i64 i' ∧ i ≤ i' ∧ i' ≤ j + 1 ∧ At dk w1 ∧
                    Hid (scanUp (fun x => lt x dk[a]!) dk j i' = scanUp (fun x => lt x dk[a]!) dk j i))
                  (fun vi _ => j + 1 - (intOf vi).toNat)
                case atStart => exact ⟨i, rfl, Nat.le_refl _, hij, hA, rfl⟩
                case round =>
                  clear hA
                  obtain ⟨i', rfl, hii, hij', hA, hsc⟩ := hrel
                  by_cases hle : i' ≤ j
                  · cases hlv : lt dk[i']! dk[a]! with
                    | true =>
                      have hl := S.lessD hA i' a (by omega) (by omega) hlv rfl rfl _ (Drew.refl _)
                      go_wp2_with (go_at_fn gl; refine hl.mono ?_; rintro e w' ⟨rfl, hD⟩)
                      go_roundw
                      case rel => exact ⟨i' + 1, by go_num, by omega, by omega, S.drew hA hD, (scanUp_go (fun x => lt x dk[a]!) dk j i' hle hlv).symm.trans hsc.out⟩
                      case measure => simp [intOf]; omega
                    | false =>
                      have hl := S.lessD hA i' a (by omega) (by omega) hlv rfl rfl _ (Drew.refl _)
                      have hi2 : Hid (i' = scanUp (fun x => lt x dk[a]!) dk j i) := (scanUp_end (fun x => lt x dk[a]!) dk j i' (Or.inr hlv)).symm.trans hsc.out
                      go_wp2_with (go_at_fn gl; refine hl.mono ?_; rintro e w' ⟨rfl, hD⟩)
                      have hA1 := S.drew hA hD
                      clear hA hsc hl
                      go_loopw [11] (fun vj w2 => ∃ (j' : Nat), vj = .int .i64 j' ∧ j' ≤ j ∧ i' ≤ j' + 1 ∧ At dk w2 ∧
                          Hid (scanDown (fun x => !lt x dk[a]!) dk i' j' = scanDown (fun x => !lt x dk[a]!) dk i' j))
                        (fun vj _ => (intOf vj).toNat)
                      case atStart => exact ⟨j, rfl, Nat.le_refl _, hij', hA1, rfl⟩
                      case round =>
                        clear hA1
                        obtain ⟨j', rfl, hjj, hij2, hA, hsd⟩ := hrel
                        by_cases hle2 : i' ≤ j'
                        · cases hlv2 : lt dk[j']! dk[a]! with
                          | false =>
                            have hl := S.lessD hA j' a (by omega) (by omega) hlv2 rfl rfl _ (Drew.refl _)
                            go_wp2_with (go_at_fn gl; refine hl.mono ?_; rintro e w' ⟨rfl, hD⟩)
                            go_roundw
                            case rel => exact ⟨j' - 1, by go_num, by omega, by omega, S.drew hA hD, (scanDown_go (fun x => !lt x dk[a]!) dk i' j' hle2 (by omega) (by simp [hlv2])).symm.trans hsd.out⟩
                            case measure => simp [intOf]; omega
                          | true =>
                            have hl := S.lessD hA j' a (by omega) (by omega) hlv2 rfl rfl _ (Drew.refl _)
                            have hj2 : Hid (j' = scanDown (fun x => !lt x dk[a]!) dk i' j) := (scanDown_end (fun x => !lt x dk[a]!) dk i' j' (Or.inr (by simp [hlv2]))).symm.trans hsd.out
                            have hlt3 := part_scans_lt lt a i j dk (by omega) hi2.out hj2.out hle2
                            have hsw := S.swapD hA i' j' (by omega) (by omega) rfl rfl
                            clear hsd hA
                            go_wp2_with (first | (go_at_fn gl; refine hl.mono ?_; rintro e w' ⟨rfl, hD⟩) | (go_at_fn gs; refine (hsw _ hD).mono ?_; rintro e w' ⟨rfl, hA, _⟩))
                            go_roundw
                            case rel => exact ⟨i' + 1, j' - 1, swp dk i' j', by go_num, by go_num, by omega, by omega, by omega, hA, by show _ = _; rw [← AE.out]; exact (part_go lt a i j dk hi2.out hj2.out (by omega)).symm⟩
                            case measure => simp [intOf]; omega
                        · have hj2 : Hid (j' = scanDown (fun x => !lt x dk[a]!) dk i' j) := (scanDown_end (fun x => !lt x dk[a]!) dk i' j' (Or.inl hle2)).symm.trans hsd.out
                          have hsw := S.swapD hA j' a (by omega) (by omega) rfl rfl _ (Drew.refl _)
                          clear hsd hA
                          go_wp2_with (go_at_fn gs; refine hsw.mono ?_; rintro e w' ⟨rfl, hA, _⟩)
                          go_ret2
                          have e := part_break lt a i j dk hi2.out hj2.out (by omega)
                          rw [PF.out, ← AE.out, e]
                          exact ⟨rfl, hA⟩
                  · have hi2 : Hid (i' = scanUp (fun x => lt x dk[a]!) dk j i) := (scanUp_end (fun x => lt x dk[a]!) dk j i' (Or.inl hle)).symm.trans hsc.out
                    clear hsc
                    go_wp2
                    go_loopw [11] (fun vj w2 => ∃ (j' : Nat), vj = .int .i64 j' ∧ j' ≤ j ∧ i' ≤ j' + 1 ∧ At dk w2 ∧
                        Hid (scanDown (fun x => !lt x dk[a]!) dk i' j' = scanDown (fun x => !lt x dk[a]!) dk i' j))
                      (fun vj _ => (intOf vj).toNat)
                    case atStart => exact ⟨j, rfl, Nat.le_refl _, hij', hA, rfl⟩
                    case round =>
                      clear hA
                      obtain ⟨j', rfl, hjj, hij2, hA, hsd⟩ := hrel
                      by_cases hle2 : i' ≤ j'
                      · exfalso; omega
                      · have hj2 : Hid (j' = scanDown (fun x => !lt x dk[a]!) dk i' j) := (scanDown_end (fun x => !lt x dk[a]!) dk i' j' (Or.inl hle2)).symm.trans hsd.out
                        have hsw := S.swapD hA j' a (by omega) (by omega) rfl rfl _ (Drew.refl _)
                        clear hsd hA
                        go_wp2_with (go_at_fn gs; refine hsw.mono ?_; rintro e w' ⟨rfl, hA, _⟩)
                        go_ret2
                        have e := part_break lt a i j dk hi2.out hj2.out (by omega)
                        rw [PF.out, ← AE.out, e]
                        exact ⟨rfl, hA⟩
          · have hj2 : Hid (j' = scanDown (fun x => !lt x dk[a]!) dk i' j) := (scanDown_end (fun x => !lt x dk[a]!) dk i' j' (Or.inl hle2)).symm.trans hsd.out
            have hsw := S.swapD hA j' a (by omega) (by omega) rfl rfl _ (Drew.refl _)
            clear hsd hA
            go_wp2_with (go_at_fn gs; refine hsw.mono ?_; rintro e w' ⟨rfl, hA, _⟩)
            go_ret2
            have e := part_first_break lt d a b pivot Hi.out Hj.out Hdk.out hi2.out hj2.out (by omega)
            rw [e]
            exact ⟨rfl, hA⟩
    · have hi2 : Hid (i' = scanUp (fun x => lt x dk[a]!) dk j i) := (scanUp_end (fun x => lt x dk[a]!) dk j i' (Or.inl hle)).symm.trans hsc.out
      clear hsc
      go_wp2
      go_loopw [11] (fun vj w2 => ∃ (j' : Nat), vj = .int .i64 j' ∧ j' ≤ j ∧ i' ≤ j' + 1 ∧ At dk w2 ∧
          Hid (scanDown (fun x => !lt x dk[a]!) dk i' j' = scanDown (fun x => !lt x dk[a]!) dk i' j))
        (fun vj _ => (intOf vj).toNat)
      case atStart => exact ⟨j, rfl, Nat.le_refl _, hij', hA, rfl⟩
      case round =>
        clear hA
        obtain ⟨j', rfl, hjj, hij2, hA, hsd⟩ := hrel
        by_cases hle2 : i' ≤ j'
        · exfalso; omega
        · have hj2 : Hid (j' = scanDown (fun x => !lt x dk[a]!) dk i' j) := (scanDown_end (fun x => !lt x dk[a]!) dk i' j' (Or.inl hle2)).symm.trans hsd.out
          have hsw := S.swapD hA j' a (by omega) (by omega) rfl rfl _ (Drew.refl _)
          clear hsd hA
          go_wp2_with (go_at_fn gs; refine hsw.mono ?_; rintro e w' ⟨rfl, hA, _⟩)
          go_ret2
          have e := part_first_break lt d a b pivot Hi.out Hj.out Hdk.out hi2.out hj2.out (by omega)
          rw [e]
          exact ⟨rfl, hA⟩
end
end Go.Proofs.YtcgggcjmmphldaaGreatDoor
