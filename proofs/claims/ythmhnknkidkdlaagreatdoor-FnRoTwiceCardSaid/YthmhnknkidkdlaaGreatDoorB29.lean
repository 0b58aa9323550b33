/-
  slices.Sort at uint64, whole.
  slices.Sort at uint64: a list of numbers ends sorted.
  What MultihashIndexSorted.Load gathers: of each hash function a row of records of its own.
  What MultihashIndexSorted.Load lays down: of each hash function a multiWidthCodedIndex.
  (No condition beyond those that each theorem states.)
-/
import Derived.Test.YthmhnknkidkdlaaGreatDoorB26
import Derived.Test.YthmhnknkidkdlaaGreatDoorB27
import Derived.Test.YthmhnknkidkdlaaGreatDoorB28
import Derived.Sort.Walk13
import Derived.Deep.Cut
import Derived.Test.YthmhnknkidkdlaaGreatDoorB15
import Derived.Test.YthmhnknkidkdlaaGreatDoorB16
namespace Go.Proofs.YthmhnknkidkdlaaGreatDoor.Ord64
open Go.RowKit Go.Sort Go.Lib
variable {g o N : Nat} {ty : TypeId} {w0 : World}

set_option maxHeartbeats 12800000 in
set_option maxRecDepth 1000000 in
theorem pdqsort_ord (cap : Nat) (hN : N < 4611686018427387904) :
    ∀ (M a b limit : Nat) (d : Array Int) (w : World), b - a < M → (OrdAt g o ty w0 N) d w → a ≤ b → b ≤ N → limit < 4611686018427387904 → Sort.Below ltInt a b d →
    Calls Tryz.prog 187 #[.slice (some ⟨g, o, none⟩) N cap, .int .i64 a, .int .i64 b, .int .i64 limit] w fun e w' => e = .returned (.tuple #[]) ∧ (OrdAt g o ty w0 N) (pdq ltInt d a b limit true true) w' := by
  have hO := swo_ltInt
  intro M
  induction M with
  | zero => intro _ _ _ _ _ h; exact absurd h (Nat.not_lt_zero _)
  | succ M ih =>
    intro a b limit d w hM hA hab hb hlimit hBel0
    have hd0 := hA.size
    have IH := Lib.hid ih
    clear ih
    go_enter Tryz.func187, Tryz.ntmps187
    go_wp2
    go_loopg [1, 2, 3, 8, 9] (b - a) (fun k s1 s2 s3 s8 s9 wr => ∃ (a' b' lim : Nat) (wb wp : Bool) (dk : Array Int), s1 = .int .i64 a' ∧ s2 = .int .i64 b' ∧ s3 = .int .i64 lim ∧ s8 = .bool wb ∧ s9 = .bool wp ∧
      a' ≤ b' ∧ b' ≤ N ∧ b' - a' ≤ k ∧ k ≤ b - a ∧ lim ≤ limit ∧ dk.size = N ∧ Sort.Below ltInt a' b' dk ∧ (OrdAt g o ty w0 N) dk wr ∧ Hid (pdq ltInt dk a' b' lim wb wp = pdq ltInt d a b limit true true))
    case atStart => exact ⟨a, b, limit, true, true, d, rfl, rfl, rfl, rfl, rfl, hab, hb, Nat.le_refl _, Nat.le_refl _, Nat.le_refl _, hd0, hBel0, hA, rfl⟩
    case round =>
      clear hA
      obtain ⟨a', b', lim, wb, wp, dk, rfl, rfl, rfl, rfl, rfl, hab', hb', hk, hkN, hlim, hds, hBel, hA, AE⟩ := hrel
      by_cases h12 : b' - a' ≤ 12
      · have h12z : (b' : Int) - (a' : Int) ≤ 12 := by omega
        have hc := insertionSort_ord cap a' b' dk wr hA hab' hb' hN
        go_wp2_with (go_at_call 200; refine hc.mono ?_; rintro e w1 ⟨rfl, hA1⟩)
        (try simp only [Exit.inBlock, Exit.then]); refine bodyPost_ret (results_none rfl _ _ _) rfl ?_
        refine ⟨rfl, ?_⟩
        rw [← AE.out, pdq_small h12]
        exact hA1
      · have h12z : ¬ ((b' : Int) - (a' : Int) ≤ 12) := by omega
        by_cases hl0 : lim = 0
        · subst hl0
          have hc := heapSort_ord cap a' b' dk wr hA hab' hb' hN
          go_wp2_with (go_at_call 201; refine hc.mono ?_; rintro e w1 ⟨rfl, hA1⟩)
          (try simp only [Exit.inBlock, Exit.then]); refine bodyPost_ret (results_none rfl _ _ _) rfl ?_
          refine ⟨rfl, ?_⟩
          rw [← AE.out, pdq_heap h12 rfl]
          exact hA1
        · have hl0z : ¬ ((lim : Int) = 0) := by omega
          obtain ⟨s1, B1, hc1, s2, B2, hpv, s3, B3⟩ := rd_facts (lt := ltInt) (limit := lim) (wb := wb) (wp := wp) hO partialInsertionSort_holds reverseRange_holds (show a' < b' by omega) (show b' ≤ dk.size by omega) hBel
          -- 'if !wasBalanced': the ways meet
          go_upto_if 35 with fail
          go_cut [3] from 19 (fun s3 wc => s3 = .int .i64 (rd ltInt dk a' b' lim wb wp).lim ∧ (OrdAt g o ty w0 N) (rd ltInt dk a' b' lim wb wp).d1 wc)
          case first =>
            cases wb
            · have hc := breakPatterns_ord cap a' b' dk wr hA hab' hb' hN
              go_wp2_with (go_at_call 202; refine hc.mono ?_; rintro e w1 ⟨rfl, hA1⟩)
              go_meet
              case rel =>
                refine ⟨?_, hA1⟩
                show Value.int .i64 ((lim : Int) - 1) = Value.int .i64 ((lim - 1 : Nat) : Int)
                congr 1
                omega
            · go_wp2_with fail
              go_meet
              case rel => exact ⟨rfl, hA⟩
          case rest =>
            clear hA
            obtain ⟨rfl, hA1⟩ := hcut
            have hc17 : Calls Tryz.prog 203 #[.slice (some ⟨g, o, none⟩) N cap, .int .i64 a', .int .i64 b'] wc fun e w' => e = .returned (.tuple #[.int .i64 (rd ltInt dk a' b' lim wb wp).c.1, .int .i64 (hintCode (rd ltInt dk a' b' lim wb wp).c.2)]) ∧ (OrdAt g o ty w0 N) (rd ltInt dk a' b' lim wb wp).d1 w' :=
              choosePivot_ord cap a' b' (rd ltInt dk a' b' lim wb wp).d1 wc hA1 (by omega) hb' hN
            go_upto_if 50 with (go_at_call 203; refine hc17.mono ?_; rintro e w2 ⟨rfl, hA2⟩)
            -- 'if hint == decreasingHint': the ways meet
            go_cut [11, 12] from 19 (fun s11 s12 wc => s11 = .int .i64 (rd ltInt dk a' b' lim wb wp).pivot ∧ s12 = .int .i64 (hintCode (rd ltInt dk a' b' lim wb wp).hint) ∧ (OrdAt g o ty w0 N) (rd ltInt dk a' b' lim wb wp).d2 wc)
            case first =>
              by_cases hh : (rd ltInt dk a' b' lim wb wp).c.2 = .decreasing
              · have hcode : hintCode (rd ltInt dk a' b' lim wb wp).c.2 = 2 := by rw [hh]; rfl
                obtain ⟨e2, epv, eht⟩ := rd_dec hh
                have hc18 := reverseRange_ord cap a' b' (rd ltInt dk a' b' lim wb wp).d1 w2 hA2 hab' hb' hN
                go_wp2_with (go_at_call 204; refine hc18.mono ?_; rintro e w3 ⟨rfl, hA3⟩)
                go_meet
                case rel =>
                  refine ⟨?_, by rw [eht]; rfl, by rw [e2]; exact hA3⟩
                  rw [epv]
                  congr 1
                  omega
              · have hcode : ¬ (hintCode (rd ltInt dk a' b' lim wb wp).c.2 = 2) := fun h => hh (hintCode_two h)
                obtain ⟨e2, epv, eht⟩ := rd_not hh
                go_wp2_with fail
                go_meet
                case rel => exact ⟨by rw [epv], by rw [eht], by rw [e2]; exact hA2⟩
            case rest =>
              clear hA1 hA2 hc17
              obtain ⟨rfl, rfl, hA3⟩ := hcut
              go_upto_region 15 with fail
              go_cut [12, 68] from 19 (fun s12 s68 wx => s12 = .int .i64 (hintCode (rd ltInt dk a' b' lim wb wp).hint) ∧ s68 = .bool (wb && wp && decide ((rd ltInt dk a' b' lim wb wp).hint = .increasing)) ∧ (OrdAt g o ty w0 N) (rd ltInt dk a' b' lim wb wp).d2 wx)
              case first =>
                cases wb <;> cases wp <;> cases hh3 : (rd ltInt dk a' b' lim _ _).hint <;>
                  (have hcode3 := congrArg hintCode hh3
                   simp only [hintCode] at hcode3
                   go_wp2_with fail
                   go_meet
                   exact ⟨by simp [hh3, hintCode], by simp [hh3, hintCode], hA3⟩)
              case rest =>
                clear hA3
                obtain ⟨rfl, rfl, hA3⟩ := hcut
                go_upto_if 68 with fail
                go_cut [] from 19 (fun wx => (rd ltInt dk a' b' lim wb wp).pi.2 = false ∧ (OrdAt g o ty w0 N) (rd ltInt dk a' b' lim wb wp).pi.1 wx)
                case first =>
                  cases h68 : (wb && wp && decide ((rd ltInt dk a' b' lim wb wp).hint = .increasing))
                  · have epi := rd_pi_no h68
                    go_wp2_with fail
                    go_meet
                    case rel => exact ⟨by rw [epi], by rw [epi]; exact hA3⟩
                  · have epi := rd_pi_yes h68
                    have hc19 := partialInsertionSort_ord cap a' b' (rd ltInt dk a' b' lim wb wp).d2 _ hA3 (by omega) hb' hN
                    rw [← epi] at hc19
                    go_wp2_with (go_at_call 205; refine hc19.mono ?_; rintro e w4 ⟨rfl, hA4⟩)
                    all_goals first
                      | (have hp2 : (rd ltInt dk a' b' lim wb wp).pi.2 = false := by rw [epi]; assumption
                         go_meet
                         exact ⟨hp2, hA4⟩)
                      | (have hp2 : (rd ltInt dk a' b' lim wb wp).pi.2 = true := by rw [epi]; assumption
                         (try simp only [Exit.inBlock, Exit.then]); refine bodyPost_ret (results_none rfl _ _ _) rfl ?_
                         refine ⟨rfl, ?_⟩
                         rw [← AE.out, pdq_done h12 hl0 hp2]
                         exact hA4)
                case rest =>
                  clear hA3
                  obtain ⟨hp2, hA5⟩ := hcut
                  go_upto_region 17 with fail
                  go_cut [87] from 19 (fun s87 wx => s87 = .bool (decide (a' > 0) && !ltInt (rd ltInt dk a' b' lim wb wp).pi.1[a' - 1]! (rd ltInt dk a' b' lim wb wp).pi.1[(rd ltInt dk a' b' lim wb wp).pivot]!) ∧ (OrdAt g o ty w0 N) (rd ltInt dk a' b' lim wb wp).pi.1 wx)
                  case first =>
                    rcases Nat.eq_zero_or_pos a' with ha0 | ha0
                    · have ha0z : decide ((a' : Int) > 0) = false := decide_eq_false (by omega)
                      go_wp2_with fail
                      go_big_quiet (first | (go_at_call 206; refine Calls.quiet_of_same (less _ _ _)))
                      go_wp2_with fail
                      go_meet
                      case rel => exact ⟨by simp [ha0], hA5.drewN nq⟩
                    · have ha0z : (a' : Int) > 0 := by omega
                      obtain ⟨PV, hPV⟩ : ∃ PV : Nat, PV = (rd ltInt dk a' b' lim wb wp).pivot := ⟨_, rfl⟩
                      obtain ⟨D5, hD5⟩ : ∃ D5 : Array Int, D5 = (rd ltInt dk a' b' lim wb wp).pi.1 := ⟨_, rfl⟩
                      have hPN : PV < N := by omega
                      rw [← hD5] at hA5
                      rw [← hPV]
                      have HPV := Lib.hid hPV
                      have HD5 := Lib.hid hD5
                      clear hPV hD5
                      obtain ⟨G, HG⟩ := named D5
                      have hcw := hA5.cell HG
                      have hfw := hA5.frz
                      go_wp2_with fail
                      go_big_quiet (first | (go_at_call 206; refine Calls.quiet_of_same (less _ _ _)))
                      go_wp2_with fail
                      have hPV := HPV.out
                      have hD5 := HD5.out
                      clear HPV HD5 hcw hfw
                      subst hPV
                      subst hD5
                      go_meet
                      case rel => exact ⟨by rw [← HG.out, ← HG.out]; simp [ha0], hA5.drewN nq⟩
                  case rest =>
                    clear hA5
                    obtain ⟨rfl, hA6⟩ := hcut
                    cases h87 : (decide (a' > 0) && !ltInt (rd ltInt dk a' b' lim wb wp).pi.1[a' - 1]! (rd ltInt dk a' b' lim wb wp).pi.1[(rd ltInt dk a' b' lim wb wp).pivot]!)
                    · obtain ⟨mid, ap, d4, hx⟩ : ∃ mid ap d4, partition ltInt (rd ltInt dk a' b' lim wb wp).pi.1 a' b' (rd ltInt dk a' b' lim wb wp).pivot = (mid, ap, d4) := ⟨_, _, _, rfl⟩
                      obtain ⟨r1, r2, r3, r4, r5, r6, r7⟩ := round_part hO (partition_holds ltInt) hpv.1 hpv.2 (show b' ≤ (rd ltInt dk a' b' lim wb wp).pi.1.size by omega) B3 hx
                      have hc22 := partition_ord cap a' b' (rd ltInt dk a' b' lim wb wp).pivot (rd ltInt dk a' b' lim wb wp).pi.1 _ hA6 hpv.1 hpv.2 hb' hN
                      rw [hx] at hc22
                      have X : Hid (partition ltInt (rd ltInt dk a' b' lim wb wp).pi.1 a' b' (rd ltInt dk a' b' lim wb wp).pivot = (mid, ap, d4)) := hx
                      have R6 := Lib.hid r6; have R7 := Lib.hid r7
                      clear hx r6 r7
                      go_upto_if 113 with (go_at_call 208; refine hc22.mono ?_; rintro e w7 ⟨rfl, hA7⟩)
                      have hx := X.out
                      have hs4 : d4.size = N := r3.trans (s3.trans hds)
                      by_cases h4 : mid - a' < b' - mid
                      · have h4z : (mid : Int) - (a' : Int) < (b' : Int) - (mid : Int) := by omega
                        have hih := IH.out a' mid (rd ltInt dk a' b' lim wb wp).lim d4 w7 (by omega) hA7 (by omega) (by omega) (Nat.lt_of_le_of_lt (Nat.le_trans rd_lim_le hlim) hlimit) r4
                        obtain ⟨pL, sL⟩ := pdq_sorts ltInt hO d4 a' mid (rd ltInt dk a' b' lim wb wp).lim true true (by omega) (by omega) r4
                        go_wp2_with (go_at_call 187; refine hih.mono ?_; rintro e w8 ⟨rfl, hA8⟩)
                        go_roundg (b' - (mid + 1))
                        case measure => omega
                        case rel =>
                          refine ⟨mid + 1, b', (rd ltInt dk a' b' lim wb wp).lim, decide (mid - a' ≥ (b' - a') / 8), ap, pdq ltInt d4 a' mid (rd ltInt dk a' b' lim wb wp).lim true true, by simp, rfl, rfl, ?_, rfl, by omega, by omega, Nat.le_refl _, by omega, Nat.le_trans rd_lim_le hlim, by rw [pL.1, hs4], (R6.out _ pL sL).1, hA8, ?_⟩
                          · exact congrArg Value.bool (eighth (by omega) (by omega))
                          · show _ = _
                            rw [← AE.out, pdq_left h12 hl0 hp2 h87 (by rw [hx]; exact ⟨r1, r2⟩) (by rw [hx]; exact h4), hx]
                      · have h4z : ¬ ((mid : Int) - (a' : Int) < (b' : Int) - (mid : Int)) := by omega
                        have hih := IH.out (mid + 1) b' (rd ltInt dk a' b' lim wb wp).lim d4 w7 (by omega) hA7 (by omega) (by omega) (Nat.lt_of_le_of_lt (Nat.le_trans rd_lim_le hlim) hlimit) r5
                        rw [show ((mid + 1 : Nat) : Int) = (mid : Int) + 1 by omega] at hih
                        obtain ⟨pL, sL⟩ := pdq_sorts ltInt hO d4 (mid + 1) b' (rd ltInt dk a' b' lim wb wp).lim true true (by omega) (by omega) r5
                        go_wp2_with (go_at_call 187; refine hih.mono ?_; rintro e w8 ⟨rfl, hA8⟩)
                        go_roundg (mid - a')
                        case measure => omega
                        case rel =>
                          refine ⟨a', mid, (rd ltInt dk a' b' lim wb wp).lim, decide (b' - mid ≥ (b' - a') / 8), ap, pdq ltInt d4 (mid + 1) b' (rd ltInt dk a' b' lim wb wp).lim true true, rfl, rfl, rfl, ?_, rfl, by omega, by omega, Nat.le_refl _, by omega, Nat.le_trans rd_lim_le hlim, by rw [pL.1, hs4], (R7.out _ pL sL).1, hA8, ?_⟩
                          · exact congrArg Value.bool (eighth (by omega) (by omega))
                          · show _ = _
                            rw [← AE.out, pdq_right h12 hl0 hp2 h87 (by rw [hx]; exact ⟨r1, r2⟩) (by rw [hx]; exact h4), hx]
                    · have h87' := h87
                      simp only [Bool.and_eq_true, decide_eq_true_eq, Bool.not_eq_true'] at h87'
                      obtain ⟨mid, d4, hx⟩ : ∃ mid d4, partitionEqual ltInt (rd ltInt dk a' b' lim wb wp).pi.1 a' b' (rd ltInt dk a' b' lim wb wp).pivot = (mid, d4) := ⟨_, _, rfl⟩
                      obtain ⟨r1, r2, r3, r4, _⟩ := round_eq hO (partitionEqual_holds ltInt) h87'.1 hpv.1 hpv.2 (show b' ≤ (rd ltInt dk a' b' lim wb wp).pi.1.size by omega) B3 h87'.2 hx
                      have hc21 := partitionEqual_ord cap a' b' (rd ltInt dk a' b' lim wb wp).pivot (rd ltInt dk a' b' lim wb wp).pi.1 _ hA6 hpv.1 hpv.2 hb' hN
                      rw [hx] at hc21
                      have X : Hid (partitionEqual ltInt (rd ltInt dk a' b' lim wb wp).pi.1 a' b' (rd ltInt dk a' b' lim wb wp).pivot = (mid, d4)) := hx
                      clear hx
                      go_wp2_with (go_at_call 207; refine hc21.mono ?_; rintro e w7 ⟨rfl, hA7⟩)
                      go_roundg (b' - mid)
                      case measure => omega
                      case rel =>
                        have hx := X.out
                        exact ⟨mid, b', (rd ltInt dk a' b' lim wb wp).lim, wb, wp, d4, rfl, rfl, rfl, rfl, rfl, r2, hb', Nat.le_refl _, by omega, Nat.le_trans rd_lim_le hlim, by rw [r3, s3, hds], r4, hA7, by show _ = _; rw [← AE.out, pdq_eq h12 hl0 hp2 h87 (by rw [hx]; exact ⟨r1, r2⟩), hx]⟩

set_option maxHeartbeats 1000000 in
set_option maxRecDepth 100000 in
/-- slices.Sort at uint64. -/
theorem sort_ord (cap : Nat) (hN : N < 4611686018427387904) (d : Array Int) (w : World) (hA : (OrdAt g o ty w0 N) d w) :
    Calls Tryz.prog 181 #[.slice (some ⟨g, o, none⟩) N cap] w fun e w' => e = .returned (.tuple #[]) ∧ ∃ d', PermIn 0 N d d' ∧ SortedIn ltInt 0 N d' ∧ (OrdAt g o ty w0 N) d' w' := by
  have hd := hA.size
  have hb := Tryz.bits_Len (N : Int) w (by omega) (by omega)
  have wr : IntKind.u64.wrap (N : Int) = N := by simp [IntKind.wrap, IntKind.bits, IntKind.signed]; omega
  have hlim : Lib.bitLen N < 4611686018427387904 := Nat.lt_of_le_of_lt (Lib.bitLen_le N 62 (by omega) (by omega)) (by omega)
  have hp := pdqsort_ord cap hN (N + 1) 0 N (Lib.bitLen N) d w (by omega) hA (Nat.zero_le _) (Nat.le_refl _) hlim (Or.inl rfl)
  have hs := pdq_sorts ltInt swo_ltInt d 0 N (Lib.bitLen N) true true (Nat.zero_le _) (by omega) (Or.inl rfl)
  go_enter Tryz.func181, Tryz.ntmps181
  go_wp2_with (first
    | (go_at_call 185; refine hb.mono ?_; rintro e w' ⟨rfl, rfl⟩)
    | (go_at_call 187; refine hp.mono ?_; rintro e w' ⟨rfl, hA2⟩))
  go_end0
  exact ⟨rfl, _, hs.1, hs.2, hA2⟩
end Go.Proofs.YthmhnknkidkdlaaGreatDoor.Ord64
namespace Go.Proofs.YthmhnknkidkdlaaGreatDoor.Ord64
open Go.RowKit Go.Sort Go.Lib

theorem get_ints (d : Array Int) (i : Nat) (h : i < d.toList.length) : d[i]! = d.toList[i] := by
  have : i < d.size := by simpa using h
  simp [this]

/-- .. over a row that begins with the numbers xs: they stand sorted there. -/
theorem sort_list (g cap : Nat) (ty : TypeId) (xs : List Int) (sp : List Value) (w : World) (hb : Blk w g ty (xs.map (Value.int .u64) ++ sp).toArray) (hN : xs.length < 4611686018427387904) :
    Calls Tryz.prog 181 #[.slice (some ⟨g, 0, none⟩) xs.length cap] w fun e w' => e = .returned (.tuple #[]) ∧ ∃ (ys : List Int) (sp' : List Value), ys.Perm xs ∧ ys.Pairwise (· ≤ ·) ∧ Blk w' g ty (ys.map (Value.int .u64) ++ sp').toArray ∧ Off [g] w w' := by
  have hA : OrdAt g 0 ty w xs.length xs.toArray w := ⟨rfl, by simp, Off.refl _ _, ⟨sp, by simpa using hb⟩, hb.lt⟩
  refine (sort_ord cap hN xs.toArray w hA).mono ?_
  rintro e w' ⟨he, d', hp, hs, hA'⟩
  obtain ⟨sp', hb'⟩ := hA'.blk
  refine ⟨he, d'.toList, sp', ?_, ?_, hb', hA'.off⟩
  · obtain ⟨h1, _, h3⟩ := hp
    have e1 : xs.toArray.extract 0 xs.length = xs.toArray := by simp
    have e2 : d'.extract 0 xs.length = d' := by
      have : d'.size = xs.length := hA'.size
      rw [← this]; simp
    rw [e1, e2] at h3
    simpa using h3
  · refine List.pairwise_iff_getElem.2 fun i k hi hk hik => ?_
    have hsz : d'.size = xs.length := hA'.size
    have := hs i k (Nat.zero_le _) hik (by rw [← hsz]; simpa using hk)
    rw [get_ints d' i hi, get_ints d' k hk] at this
    have h3 := of_decide_eq_false (show decide (d'.toList[k] < d'.toList[i]) = false from this)
    omega
end Go.Proofs.YthmhnknkidkdlaaGreatDoor.Ord64
namespace Go.Proofs.YthmhnknkidkdlaaGreatDoor
open Go.RowKit Go.Maps

def It.cells (it : It) : List Value := [.string it.s, .int .u64 (it.off : Int)]
def flatI (l : List It) : List Value := l.flatMap It.cells
theorem flatI_length (l : List It) : (flatI l).length = l.length * 2 := by
  induction l with
  | nil => rfl
  | cons a l ih => simp only [flatI, List.flatMap_cons, List.length_append, List.length_cons] at ih ⊢; rw [ih]; simp [It.cells]; omega
theorem flatI_append (a b : List It) : flatI (a ++ b) = flatI a ++ flatI b := by simp [flatI]
theorem flatI_get (l : List It) (i : Nat) (h : i < l.length) : (flatI l)[i * 2]? = some (.string l[i].s) ∧ (flatI l)[i * 2 + 1]? = some (.int .u64 (l[i].off : Int)) := by
  have hs : l = l.take i ++ (l[i] :: l.drop (i + 1)) := by rw [← List.drop_eq_getElem_cons h, List.take_append_drop]
  have hp : (flatI (l.take i)).length = i * 2 := by rw [flatI_length, List.length_take]; omega
  have e : flatI l = flatI (l.take i) ++ (.string l[i].s :: .int .u64 (l[i].off : Int) :: flatI (l.drop (i + 1))) := by
    conv => lhs; rw [hs, flatI_append]
    rfl
  rw [e]
  constructor
  · rw [List.getElem?_append_right (by omega), hp]; simp
  · rw [List.getElem?_append_right (by omega), hp]; simp
theorem itemsAt_blk {w : World} {g : Nat} {t : TypeId} {its : List It} {sp : List Value} (h : Blk w g t (flatI its ++ sp).toArray) : ItemsAt w (some ⟨g, 0, none⟩) g 0 its := by
  refine ⟨fun _ => ⟨rfl, h.lt⟩, fun i hi => ?_⟩
  have hl := flatI_length its
  obtain ⟨h1, h2⟩ := flatI_get its i hi
  rw [Nat.zero_add]
  refine ⟨?_, ?_⟩
  · rw [h.cell, List.getElem?_toArray, List.getElem?_append_left (by omega)]; exact h1
  · rw [h.cell, List.getElem?_toArray, List.getElem?_append_left (by omega)]; exact h2

structure GathC (w wr : World) (mb : Nat) (its : List It) (K : List Nat) (V : Nat → Value) (G : Nat → Nat) (R : Nat → List It) : Prop where
  off : Off [] w wr
  hmb : w.heap.size = mb
  mp : MpN Tryz.prog 30 .u64 wr mb (2 * its.length) K V
  mem : ∀ n, n ∈ K ↔ ∃ it, it ∈ its ∧ it.code = n
  row : ∀ n, n ∈ K → ∃ cap sp, V n = .slice (some ⟨G n, 0, none⟩) (R n).length cap ∧ (R n).length ≤ cap ∧ cap ≤ maxLen ∧ sp.length + (R n).length * 2 = cap * 2 ∧ Blk wr (G n) 143 (flatI (R n) ++ sp).toArray ∧ w.heap.size < G n
  inj : ∀ m, m ∈ K → ∀ n, n ∈ K → G m = G n → m = n
  rows : ∀ n, n ∈ K → R n = its.filter fun it => it.code == n

theorem GathC.step {w wr w6 : World} {mb : Nat} {its : List It} {K : List Nat} {V : Nat → Value} {G : Nat → Nat} {R : Nat → List It} (h : GathC w wr mb its K V G R) (it : It)
    (g' cap' : Nat) (sp' : List Value) (hoff : Off (if it.code ∈ K then [mb, G it.code] else [mb]) wr w6)
    (hmp : MpN Tryz.prog 30 .u64 w6 mb (2 * (its ++ [it]).length) (if it.code ∈ K then K else K ++ [it.code]) (fun j => if j = it.code then .slice (some ⟨g', 0, none⟩) ((if it.code ∈ K then R it.code else []) ++ [it]).length cap' else V j))
    (hblk : Blk w6 g' 143 (flatI ((if it.code ∈ K then R it.code else []) ++ [it]) ++ sp').toArray) (hcap : ((if it.code ∈ K then R it.code else []) ++ [it]).length ≤ cap') (hcm : cap' ≤ maxLen) (hsp : sp'.length + ((if it.code ∈ K then R it.code else []) ++ [it]).length * 2 = cap' * 2)
    (hg' : (it.code ∈ K ∧ g' = G it.code) ∨ wr.heap.size ≤ g') (hmbw : mb < wr.heap.size) :
    GathC w w6 mb (its ++ [it]) (if it.code ∈ K then K else K ++ [it.code]) (fun j => if j = it.code then .slice (some ⟨g', 0, none⟩) ((if it.code ∈ K then R it.code else []) ++ [it]).length cap' else V j)
      (fun j => if j = it.code then g' else G j) (fun j => if j = it.code then (if it.code ∈ K then R it.code else []) ++ [it] else R j) := by
  have hmb := h.hmb
  have hws := h.off.size
  have hG : ∀ n, n ∈ K → G n < wr.heap.size := fun n hn => by obtain ⟨_, _, _, _, _, _, hb, _⟩ := h.row n hn; exact hb.lt
  have hGw : ∀ n, n ∈ K → w.heap.size < G n := fun n hn => by obtain ⟨_, _, _, _, _, _, _, hb⟩ := h.row n hn; exact hb
  have hK' : ∀ n, n ∈ (if it.code ∈ K then K else K ++ [it.code]) ↔ n ∈ K ∨ n = it.code := fun n => by
    by_cases hm : it.code ∈ K
    · rw [if_pos hm]
      exact ⟨Or.inl, fun hx => by rcases hx with hx | rfl; exact hx; exact hm⟩
    · rw [if_neg hm]; simp
  have hfar : ∀ k, k < wr.heap.size → k ≠ mb → (it.code ∈ K → k ≠ G it.code) → k ∉ (if it.code ∈ K then [mb, G it.code] else [mb]) := fun k _ h1 h2 => by
    by_cases hm : it.code ∈ K
    · rw [if_pos hm]; simp; exact ⟨h1, h2 hm⟩
    · rw [if_neg hm]; simp; exact h1
  refine ⟨?_, hmb, hmp, ?_, ?_, ?_, ?_⟩
  · refine h.off.then hoff (fun x hx => Or.inr ?_)
    by_cases hm : it.code ∈ K
    · rw [if_pos hm] at hx
      simp at hx
      rcases hx with rfl | rfl
      · omega
      · have := hGw _ hm; omega
    · rw [if_neg hm] at hx
      simp at hx; omega
  · intro n
    rw [hK', h.mem]
    constructor
    · rintro (⟨x, hx, rfl⟩ | rfl)
      · exact ⟨x, List.mem_append.2 (Or.inl hx), rfl⟩
      · exact ⟨it, by simp, rfl⟩
    · rintro ⟨x, hx, rfl⟩
      rcases List.mem_append.1 hx with hx | hx
      · exact Or.inl ⟨x, hx, rfl⟩
      · simp at hx; subst hx; exact Or.inr rfl
  · intro n hn
    by_cases he : n = it.code
    · subst he
      simp only [if_true]
      exact ⟨cap', sp', rfl, hcap, hcm, hsp, hblk, by rcases hg' with ⟨hm, e⟩ | hg; have := hGw _ hm; omega; omega⟩
    · simp only [if_neg he]
      have hn' : n ∈ K := by rcases (hK' n).1 hn with hx | hx; exact hx; exact absurd hx he
      obtain ⟨cap, sp, e1, e2, e3, e4, hb, e6⟩ := h.row n hn'
      exact ⟨cap, sp, e1, e2, e3, e4, hb.off hoff (hfar _ (hG n hn') (by omega) (fun hm e => he (h.inj _ hn' _ hm e))), e6⟩
  · intro m hm n hn hmn
    by_cases h1 : m = it.code
    · by_cases h2 : n = it.code
      · rw [h1, h2]
      · have hn' : n ∈ K := by rcases (hK' n).1 hn with hx | hx; exact hx; exact absurd hx h2
        simp only [if_pos h1, if_neg h2] at hmn
        rcases hg' with ⟨hk, e⟩ | hg
        · exact absurd (h.inj _ hn' _ hk (by rw [← e, hmn])) h2
        · have := hG n hn'; omega
    · have hm' : m ∈ K := by rcases (hK' m).1 hm with hx | hx; exact hx; exact absurd hx h1
      by_cases h2 : n = it.code
      · simp only [if_neg h1, if_pos h2] at hmn
        rcases hg' with ⟨hk, e⟩ | hg
        · exact absurd (h.inj _ hm' _ hk (by rw [hmn, e])) h1
        · have := hG m hm'; omega
      · simp only [if_neg h1, if_neg h2] at hmn
        have hn' : n ∈ K := by rcases (hK' n).1 hn with hx | hx; exact hx; exact absurd hx h2
        exact h.inj _ hm' _ hn' hmn
  · intro n hn
    by_cases he : n = it.code
    · subst he
      simp only [if_true, List.filter_append]
      by_cases hm : it.code ∈ K
      · rw [if_pos hm, h.rows _ hm]
        simp
      · rw [if_neg hm]
        have h0 : (its.filter fun x => x.code == it.code) = [] := List.filter_eq_nil_iff.2 fun x hx e => hm ((h.mem _).2 ⟨x, hx, by simpa using e⟩)
        rw [h0]
        simp
    · simp only [if_neg he]
      have hn' : n ∈ K := by rcases (hK' n).1 hn with hx | hx; exact hx; exact absurd hx he
      rw [h.rows n hn', List.filter_append]
      have : (it.code == n) = false := beq_eq_false_iff_ne.2 (fun e => he e.symm)
      simp [this]
end Go.Proofs.YthmhnknkidkdlaaGreatDoor
namespace Go.Proofs.YthmhnknkidkdlaaGreatDoor
open Go.RowKit Go.Maps

theorem MwAt.mono {B B' : Nat} {w : World} {mm : Nat} {D : List Nat} {S : Nat → List Rw} (h : MwAt B w mm D S) (hB : B' ≤ B) : MwAt B' w mm D S := by
  obtain ⟨V, C, h1, h2⟩ := h.ex
  exact ⟨V, C, h1, fun n hn => by obtain ⟨a1, a2, a3, a4, a5⟩ := h2 n hn; exact ⟨a1, a2, by omega, a4, a5⟩⟩

/-- Block mm is a MultihashIndexSorted: the hash functions Cs, of each a multiWidthCodedIndex; all in blocks from B on. -/
structure MisAt (B : Nat) (w : World) (mm : Nat) (Cs : List Nat) (D : Nat → List Nat) (S : Nat → Nat → List Rw) : Prop where
  ex : ∃ (V : Nat → Value) (q m : Nat → Nat), MpN Tryz.prog 30 .u64 w mm Cs.length Cs V ∧ ∀ c, c ∈ Cs → V c = .pointer (some ⟨q c, 0, none⟩) ∧ Blk w (q c) 304 #[.map (some (m c)), .int .u64 (c : Int)] ∧ MwAt B w (m c) (D c) (S c) ∧ B ≤ q c ∧ B ≤ m c
theorem MisAt.off {B : Nat} {w w' : World} {mm : Nat} {Cs : List Nat} {D : Nat → List Nat} {S : Nat → Nat → List Rw} {T : List Nat} (h : MisAt B w mm Cs D S) (ho : Off T w w') (hm : mm ∉ T) (hT : ∀ x, x ∈ T → x < B ∨ w.heap.size ≤ x) : MisAt B w' mm Cs D S := by
  obtain ⟨V, q, m, hmp, hrow⟩ := h.ex
  refine ⟨V, q, m, hmp.off ho hm, fun c hc => ?_⟩
  obtain ⟨h1, h2, h3, h4, h5⟩ := hrow c hc
  have hq := h2.lt
  have hml := h3.lt
  exact ⟨h1, h2.off ho (fun hx => by have := hT _ hx; omega), h3.off ho (fun hx => by have := hT _ hx; omega) hT, h4, h5⟩
theorem MisAt.lt {B : Nat} {w : World} {mm : Nat} {Cs : List Nat} {D : Nat → List Nat} {S : Nat → Nat → List Rw} (h : MisAt B w mm Cs D S) : mm < w.heap.size := by obtain ⟨V, q, m, hmp, _⟩ := h.ex; exact hmp.lt
theorem MisAt.nodup {B : Nat} {w : World} {mm : Nat} {Cs : List Nat} {D : Nat → List Nat} {S : Nat → Nat → List Rw} (h : MisAt B w mm Cs D S) : Cs.Nodup := by obtain ⟨V, q, m, hmp, _⟩ := h.ex; exact hmp.nodup

structure PackC (w wr : World) (mb mm rb n : Nat) (K : List Nat) (V : Nat → Value) (G : Nat → Nat) (R : Nat → List It) (L : List Int) (Cs : List Nat) (D : Nat → List Nat) (S : Nat → Nat → List Rw) : Prop where
  off : Off [mm] w wr
  rg : Rg Tryz.prog 30 .u64 wr mb rb (2 * n) (ints K) (fun x => V x.toNat) L
  mis : MisAt (rb + 1) wr mm Cs D S
  dmem : ∀ j, j ∈ Cs ↔ j ∈ K ∧ (j : Int) ∉ L
  res : ∀ j, j ∈ Cs → (∀ n, n ∈ D j ↔ ∃ it, it ∈ R j ∧ it.d.length = n) ∧ ∀ n, n ∈ D j → (S j n).Perm (((R j).filter fun it => it.d.length == n).map It.rw) ∧ Srtd (S j n)
  row : ∀ j, j ∈ K → (j : Int) ∈ L → ∃ cap sp, V j = .slice (some ⟨G j, 0, none⟩) (R j).length cap ∧ Blk wr (G j) 143 (flatI (R j) ++ sp).toArray
  gb : ∀ j, j ∈ K → w.heap.size < G j ∧ G j < rb
  hmb : mb = w.heap.size
  hmm : mm < w.heap.size
  hrb : w.heap.size < rb ∧ rb < wr.heap.size

theorem PackC.step {w wr w' : World} {mb mm rb n : Nat} {K : List Nat} {V : Nat → Value} {G : Nat → Nat} {R : Nat → List It} {L : List Int} {Cs : List Nat} {D : Nat → List Nat} {S : Nat → Nat → List Rw} (h : PackC w wr mb mm rb n K V G R L Cs D S) (j : Nat) (hj : j ∈ K) (hjL : (j : Int) ∈ L)
    (hoff : Off [rb, mm] wr w') (hrg : Rg Tryz.prog 30 .u64 w' mb rb (2 * n) (ints K) (fun x => V x.toNat) (L.erase (j : Int))) (V2 : Nat → Value) (q m : Nat → Nat) (q' m' : Nat) (D' : List Nat) (S' : Nat → List Rw)
    (hold : ∀ c, c ∈ Cs → V2 c = .pointer (some ⟨q c, 0, none⟩) ∧ Blk wr (q c) 304 #[.map (some (m c)), .int .u64 (c : Int)] ∧ MwAt (rb + 1) wr (m c) (D c) (S c) ∧ rb + 1 ≤ q c ∧ rb + 1 ≤ m c)
    (hmp : MpN Tryz.prog 30 .u64 w' mm (Cs.length + 1) (if j ∈ Cs then Cs else Cs ++ [j]) (fun k => if k = j then .pointer (some ⟨q', 0, none⟩) else V2 k))
    (hq : wr.heap.size ≤ q') (hm : wr.heap.size ≤ m') (hblk : Blk w' q' 304 #[.map (some m'), .int .u64 (j : Int)]) (hmw : MwAt (rb + 1) w' m' D' S')
    (hres : (∀ n, n ∈ D' ↔ ∃ it, it ∈ R j ∧ it.d.length = n) ∧ ∀ n, n ∈ D' → (S' n).Perm (((R j).filter fun it => it.d.length == n).map It.rw) ∧ Srtd (S' n)) :
    PackC w w' mb mm rb n K V G R (L.erase (j : Int)) (Cs ++ [j]) (fun k => if k = j then D' else D k) (fun k => if k = j then S' else S k) := by
  have hjD : j ∉ Cs := fun hx => ((h.dmem j).1 hx).2 hjL
  rw [if_neg hjD] at hmp
  have hLn := h.rg.nodup
  have hmm := h.hmm
  have hrb := h.hrb
  have hgj := h.gb j hj
  have hws := h.off.size
  refine ⟨?_, hrg, ?_, ?_, ?_, ?_, h.gb, h.hmb, hmm, ⟨hrb.1, Nat.lt_of_lt_of_le hrb.2 hoff.size⟩⟩
  · refine h.off.then hoff (fun x hx => ?_)
    simp at hx
    rcases hx with rfl | rfl
    · right; omega
    · left; simp
  · refine ⟨fun k => if k = j then .pointer (some ⟨q', 0, none⟩) else V2 k, fun k => if k = j then q' else q k, fun k => if k = j then m' else m k, by simpa using hmp, fun k hk => ?_⟩
    rcases List.mem_append.1 hk with hk | hk
    · have hne : k ≠ j := fun e => hjD (by rw [← e]; exact hk)
      obtain ⟨h1, h2, h3, h4, h5⟩ := hold k hk
      simp only [if_neg hne]
      have hT : ∀ x, x ∈ [rb, mm] → x < rb + 1 ∨ wr.heap.size ≤ x := fun x hx => by
        simp at hx
        rcases hx with rfl | rfl <;> omega
      exact ⟨h1, h2.off hoff (by simp; omega), h3.off hoff (by simp; omega) hT, h4, h5⟩
    · simp at hk
      subst hk
      simp only [if_true]
      exact ⟨trivial, hblk, hmw, by omega, by omega⟩
  · intro k
    rw [List.mem_append, h.dmem]
    constructor
    · rintro (⟨h1, h2⟩ | h1)
      · exact ⟨h1, fun hx => h2 (List.mem_of_mem_erase hx)⟩
      · simp at h1
        subst h1
        exact ⟨hj, hLn.not_mem_erase⟩
    · rintro ⟨h1, h2⟩
      by_cases he : k = j
      · right; simp [he]
      · left
        exact ⟨h1, fun hx => h2 ((List.mem_erase_of_ne (by omega)).2 hx)⟩
  · intro k hk
    by_cases he : k = j
    · subst he; simp only [if_true]; exact hres
    · simp only [if_neg he]
      rcases List.mem_append.1 hk with hk | hk
      · exact h.res k hk
      · simp at hk; exact absurd hk he
  · intro k hk hkL
    obtain ⟨cap, sp, e1, hb⟩ := h.row k hk (List.mem_of_mem_erase hkL)
    have hgk := h.gb k hk
    exact ⟨cap, sp, e1, hb.off hoff (by simp; omega)⟩
end Go.Proofs.YthmhnknkidkdlaaGreatDoor
