/-
  slices.Sort at uint32, whole.
  slices.Sort at uint32: a list of numbers ends sorted.
  digestRecord.write: a digest and its offset laid into a stretch of bytes.
  (No condition beyond those that each theorem states.)
-/
import Derived.Test.YthmhnknkidkdlaaGreatDoorB17
import Derived.Test.YthmhnknkidkdlaaGreatDoorB18
import Derived.Test.YthmhnknkidkdlaaGreatDoorB19
import Derived.Sort.Walk13
import Derived.Deep.Cut
import Derived.Test.YthmhnknkidkdlaaGreatDoorB15
import Derived.Test.YthmhnknkidkdlaaGreatDoorB05
import Derived.Test.YthmhnknkidkdlaaGreatDoorB14
import Derived.Laws.IdiomCopy
namespace Go.Proofs.YthmhnknkidkdlaaGreatDoor.Ord32
open Go.RowKit Go.Sort Go.Lib
variable {g o N : Nat} {ty : TypeId} {w0 : World}

set_option maxHeartbeats 12800000 in
set_option maxRecDepth 1000000 in
theorem pdqsort_ord (cap : Nat) (hN : N < 4611686018427387904) :
    ∀ (M a b limit : Nat) (d : Array Int) (w : World), b - a < M → (OrdAt g o ty w0 N) d w → a ≤ b → b ≤ N → limit < 4611686018427387904 → Sort.Below ltInt a b d →
    Calls Tryz.prog 209 #[.slice (some ⟨g, o, none⟩) N cap, .int .i64 a, .int .i64 b, .int .i64 limit] w fun e w' => e = .returned (.tuple #[]) ∧ (OrdAt g o ty w0 N) (pdq ltInt d a b limit true true) w' := by
  have hO := swo_ltInt
  intro M
  induction M with
  | zero => intro _ _ _ _ _ h; exact absurd h (Nat.not_lt_zero _)
  | succ M ih =>
    intro a b limit d w hM hA hab hb hlimit hBel0
    have hd0 := hA.size
    have IH := Lib.hid ih
    clear ih
    go_enter Tryz.func209, Tryz.ntmps209
    go_wp2
    go_loopg [1, 2, 3, 8, 9] (b - a) (fun k s1 s2 s3 s8 s9 wr => ∃ (a' b' lim : Nat) (wb wp : Bool) (dk : Array Int), s1 = .int .i64 a' ∧ s2 = .int .i64 b' ∧ s3 = .int .i64 lim ∧ s8 = .bool wb ∧ s9 = .bool wp ∧
      a' ≤ b' ∧ b' ≤ N ∧ b' - a' ≤ k ∧ k ≤ b - a ∧ lim ≤ limit ∧ dk.size = N ∧ Sort.Below ltInt a' b' dk ∧ (OrdAt g o ty w0 N) dk wr ∧ Hid (pdq ltInt dk a' b' lim wb wp = pdq ltInt d a b limit true true))
    case atStart => exact ⟨a, b, limit, true, true, d, rfl, rfl, rfl, rfl, rfl, hab, hb, Nat.le_refl _, Nat.le_refl _, Nat.le_refl _, hd0, hBel0, hA, rfl⟩
    case round =>
      clear hA
      obtain ⟨a', b', lim, wb, wp, dk, rfl, rfl, rfl, rfl, rfl, hab', hb', hk, hkN, hlim, hds, hBel, hA, AE⟩ := hrel
      by_cases h12 : b' - a' ≤ 12
      · have h12z : (b' : Int) - (a' : Int) ≤ 12 := by omega
        have hc := insertionSort_ord cap a' b' dk wr hA hab' hb' hN
        go_wp2_with (go_at_call 221; refine hc.mono ?_; rintro e w1 ⟨rfl, hA1⟩)
        (try simp only [Exit.inBlock, Exit.then]); refine bodyPost_ret (results_none rfl _ _ _) rfl ?_
        refine ⟨rfl, ?_⟩
        rw [← AE.out, pdq_small h12]
        exact hA1
      · have h12z : ¬ ((b' : Int) - (a' : Int) ≤ 12) := by omega
        by_cases hl0 : lim = 0
        · subst hl0
          have hc := heapSort_ord cap a' b' dk wr hA hab' hb' hN
          go_wp2_with (go_at_call 222; refine hc.mono ?_; rintro e w1 ⟨rfl, hA1⟩)
          (try simp only [Exit.inBlock, Exit.then]); refine bodyPost_ret (results_none rfl _ _ _) rfl ?_
          refine ⟨rfl, ?_⟩
          rw [← AE.out, pdq_heap h12 rfl]
          exact hA1
        · have hl0z : ¬ ((lim : Int) = 0) := by omega
          obtain ⟨s1, B1, hc1, s2, B2, hpv, s3, B3⟩ := rd_facts (lt := ltInt) (limit := lim) (wb := wb) (wp := wp) hO partialInsertionSort_holds reverseRange_holds (show a' < b' by omega) (show b' ≤ dk.size by omega) hBel
          -- 'if !wasBalanced': the ways meet
          go_upto_if 35 with fail
          go_cut [3] from 19 (fun s3 wc => s3 = .int .i64 (rd ltInt dk a' b' lim wb wp).lim ∧ (OrdAt g o ty w0 N) (rd ltInt dk a' b' lim wb wp).d1 wc)
          case first =>
            cases wb
            · have hc := breakPatterns_ord cap a' b' dk wr hA hab' hb' hN
              go_wp2_with (go_at_call 223; refine hc.mono ?_; rintro e w1 ⟨rfl, hA1⟩)
              go_meet
              case rel =>
                refine ⟨?_, hA1⟩
                show Value.int .i64 ((lim : Int) - 1) = Value.int .i64 ((lim - 1 : Nat) : Int)
                congr 1
                omega
            · go_wp2_with fail
              go_meet
              case rel => exact ⟨rfl, hA⟩
          case rest =>
            clear hA
            obtain ⟨rfl, hA1⟩ := hcut
            have hc17 : Calls Tryz.prog 224 #[.slice (some ⟨g, o, none⟩) N cap, .int .i64 a', .int .i64 b'] wc fun e w' => e = .returned (.tuple #[.int .i64 (rd ltInt dk a' b' lim wb wp).c.1, .int .i64 (hintCode (rd ltInt dk a' b' lim wb wp).c.2)]) ∧ (OrdAt g o ty w0 N) (rd ltInt dk a' b' lim wb wp).d1 w' :=
              choosePivot_ord cap a' b' (rd ltInt dk a' b' lim wb wp).d1 wc hA1 (by omega) hb' hN
            go_upto_if 50 with (go_at_call 224; refine hc17.mono ?_; rintro e w2 ⟨rfl, hA2⟩)
            -- 'if hint == decreasingHint': the ways meet
            go_cut [11, 12] from 19 (fun s11 s12 wc => s11 = .int .i64 (rd ltInt dk a' b' lim wb wp).pivot ∧ s12 = .int .i64 (hintCode (rd ltInt dk a' b' lim wb wp).hint) ∧ (OrdAt g o ty w0 N) (rd ltInt dk a' b' lim wb wp).d2 wc)
            case first =>
              by_cases hh : (rd ltInt dk a' b' lim wb wp).c.2 = .decreasing
              · have hcode : hintCode (rd ltInt dk a' b' lim wb wp).c.2 = 2 := by rw [hh]; rfl
                obtain ⟨e2, epv, eht⟩ := rd_dec hh
                have hc18 := reverseRange_ord cap a' b' (rd ltInt dk a' b' lim wb wp).d1 w2 hA2 hab' hb' hN
                go_wp2_with (go_at_call 225; refine hc18.mono ?_; rintro e w3 ⟨rfl, hA3⟩)
                go_meet
                case rel =>
                  refine ⟨?_, by rw [eht]; rfl, by rw [e2]; exact hA3⟩
                  rw [epv]
                  congr 1
                  omega
              · have hcode : ¬ (hintCode (rd ltInt dk a' b' lim wb wp).c.2 = 2) := fun h => hh (hintCode_two h)
                obtain ⟨e2, epv, eht⟩ := rd_not hh
                go_wp2_with fail
                go_meet
                case rel => exact ⟨by rw [epv], by rw [eht], by rw [e2]; exact hA2⟩
            case rest =>
              clear hA1 hA2 hc17
              obtain ⟨rfl, rfl, hA3⟩ := hcut
              go_upto_region 15 with fail
              go_cut [12, 68] from 19 (fun s12 s68 wx => s12 = .int .i64 (hintCode (rd ltInt dk a' b' lim wb wp).hint) ∧ s68 = .bool (wb && wp && decide ((rd ltInt dk a' b' lim wb wp).hint = .increasing)) ∧ (OrdAt g o ty w0 N) (rd ltInt dk a' b' lim wb wp).d2 wx)
              case first =>
                cases wb <;> cases wp <;> cases hh3 : (rd ltInt dk a' b' lim _ _).hint <;>
                  (have hcode3 := congrArg hintCode hh3
                   simp only [hintCode] at hcode3
                   go_wp2_with fail
                   go_meet
                   exact ⟨by simp [hh3, hintCode], by simp [hh3, hintCode], hA3⟩)
              case rest =>
                clear hA3
                obtain ⟨rfl, rfl, hA3⟩ := hcut
                go_upto_if 68 with fail
                go_cut [] from 19 (fun wx => (rd ltInt dk a' b' lim wb wp).pi.2 = false ∧ (OrdAt g o ty w0 N) (rd ltInt dk a' b' lim wb wp).pi.1 wx)
                case first =>
                  cases h68 : (wb && wp && decide ((rd ltInt dk a' b' lim wb wp).hint = .increasing))
                  · have epi := rd_pi_no h68
                    go_wp2_with fail
                    go_meet
                    case rel => exact ⟨by rw [epi], by rw [epi]; exact hA3⟩
                  · have epi := rd_pi_yes h68
                    have hc19 := partialInsertionSort_ord cap a' b' (rd ltInt dk a' b' lim wb wp).d2 _ hA3 (by omega) hb' hN
                    rw [← epi] at hc19
                    go_wp2_with (go_at_call 226; refine hc19.mono ?_; rintro e w4 ⟨rfl, hA4⟩)
                    all_goals first
                      | (have hp2 : (rd ltInt dk a' b' lim wb wp).pi.2 = false := by rw [epi]; assumption
                         go_meet
                         exact ⟨hp2, hA4⟩)
                      | (have hp2 : (rd ltInt dk a' b' lim wb wp).pi.2 = true := by rw [epi]; assumption
                         (try simp only [Exit.inBlock, Exit.then]); refine bodyPost_ret (results_none rfl _ _ _) rfl ?_
                         refine ⟨rfl, ?_⟩
                         rw [← AE.out, pdq_done h12 hl0 hp2]
                         exact hA4)
                case rest =>
                  clear hA3
                  obtain ⟨hp2, hA5⟩ := hcut
                  go_upto_region 17 with fail
                  go_cut [87] from 19 (fun s87 wx => s87 = .bool (decide (a' > 0) && !ltInt (rd ltInt dk a' b' lim wb wp).pi.1[a' - 1]! (rd ltInt dk a' b' lim wb wp).pi.1[(rd ltInt dk a' b' lim wb wp).pivot]!) ∧ (OrdAt g o ty w0 N) (rd ltInt dk a' b' lim wb wp).pi.1 wx)
                  case first =>
                    rcases Nat.eq_zero_or_pos a' with ha0 | ha0
                    · have ha0z : decide ((a' : Int) > 0) = false := decide_eq_false (by omega)
                      go_wp2_with fail
                      go_big_quiet (first | (go_at_call 227; refine Calls.quiet_of_same (less _ _ _)))
                      go_wp2_with fail
                      go_meet
                      case rel => exact ⟨by simp [ha0], hA5.drewN nq⟩
                    · have ha0z : (a' : Int) > 0 := by omega
                      obtain ⟨PV, hPV⟩ : ∃ PV : Nat, PV = (rd ltInt dk a' b' lim wb wp).pivot := ⟨_, rfl⟩
                      obtain ⟨D5, hD5⟩ : ∃ D5 : Array Int, D5 = (rd ltInt dk a' b' lim wb wp).pi.1 := ⟨_, rfl⟩
                      have hPN : PV < N := by omega
                      rw [← hD5] at hA5
                      rw [← hPV]
                      have HPV := Lib.hid hPV
                      have HD5 := Lib.hid hD5
                      clear hPV hD5
                      obtain ⟨G, HG⟩ := named D5
                      have hcw := hA5.cell HG
                      have hfw := hA5.frz
                      go_wp2_with fail
                      go_big_quiet (first | (go_at_call 227; refine Calls.quiet_of_same (less _ _ _)))
                      go_wp2_with fail
                      have hPV := HPV.out
                      have hD5 := HD5.out
                      clear HPV HD5 hcw hfw
                      subst hPV
                      subst hD5
                      go_meet
                      case rel => exact ⟨by rw [← HG.out, ← HG.out]; simp [ha0], hA5.drewN nq⟩
                  case rest =>
                    clear hA5
                    obtain ⟨rfl, hA6⟩ := hcut
                    cases h87 : (decide (a' > 0) && !ltInt (rd ltInt dk a' b' lim wb wp).pi.1[a' - 1]! (rd ltInt dk a' b' lim wb wp).pi.1[(rd ltInt dk a' b' lim wb wp).pivot]!)
                    · obtain ⟨mid, ap, d4, hx⟩ : ∃ mid ap d4, partition ltInt (rd ltInt dk a' b' lim wb wp).pi.1 a' b' (rd ltInt dk a' b' lim wb wp).pivot = (mid, ap, d4) := ⟨_, _, _, rfl⟩
                      obtain ⟨r1, r2, r3, r4, r5, r6, r7⟩ := round_part hO (partition_holds ltInt) hpv.1 hpv.2 (show b' ≤ (rd ltInt dk a' b' lim wb wp).pi.1.size by omega) B3 hx
                      have hc22 := partition_ord cap a' b' (rd ltInt dk a' b' lim wb wp).pivot (rd ltInt dk a' b' lim wb wp).pi.1 _ hA6 hpv.1 hpv.2 hb' hN
                      rw [hx] at hc22
                      have X : Hid (partition ltInt (rd ltInt dk a' b' lim wb wp).pi.1 a' b' (rd ltInt dk a' b' lim wb wp).pivot = (mid, ap, d4)) := hx
                      have R6 := Lib.hid r6; have R7 := Lib.hid r7
                      clear hx r6 r7
                      go_upto_if 113 with (go_at_call 229; refine hc22.mono ?_; rintro e w7 ⟨rfl, hA7⟩)
                      have hx := X.out
                      have hs4 : d4.size = N := r3.trans (s3.trans hds)
                      by_cases h4 : mid - a' < b' - mid
                      · have h4z : (mid : Int) - (a' : Int) < (b' : Int) - (mid : Int) := by omega
                        have hih := IH.out a' mid (rd ltInt dk a' b' lim wb wp).lim d4 w7 (by omega) hA7 (by omega) (by omega) (Nat.lt_of_le_of_lt (Nat.le_trans rd_lim_le hlim) hlimit) r4
                        obtain ⟨pL, sL⟩ := pdq_sorts ltInt hO d4 a' mid (rd ltInt dk a' b' lim wb wp).lim true true (by omega) (by omega) r4
                        go_wp2_with (go_at_call 209; refine hih.mono ?_; rintro e w8 ⟨rfl, hA8⟩)
                        go_roundg (b' - (mid + 1))
                        case measure => omega
                        case rel =>
                          refine ⟨mid + 1, b', (rd ltInt dk a' b' lim wb wp).lim, decide (mid - a' ≥ (b' - a') / 8), ap, pdq ltInt d4 a' mid (rd ltInt dk a' b' lim wb wp).lim true true, by simp, rfl, rfl, ?_, rfl, by omega, by omega, Nat.le_refl _, by omega, Nat.le_trans rd_lim_le hlim, by rw [pL.1, hs4], (R6.out _ pL sL).1, hA8, ?_⟩
                          · exact congrArg Value.bool (eighth (by omega) (by omega))
                          · show _ = _
                            rw [← AE.out, pdq_left h12 hl0 hp2 h87 (by rw [hx]; exact ⟨r1, r2⟩) (by rw [hx]; exact h4), hx]
                      · have h4z : ¬ ((mid : Int) - (a' : Int) < (b' : Int) - (mid : Int)) := by omega
                        have hih := IH.out (mid + 1) b' (rd ltInt dk a' b' lim wb wp).lim d4 w7 (by omega) hA7 (by omega) (by omega) (Nat.lt_of_le_of_lt (Nat.le_trans rd_lim_le hlim) hlimit) r5
                        rw [show ((mid + 1 : Nat) : Int) = (mid : Int) + 1 by omega] at hih
                        obtain ⟨pL, sL⟩ := pdq_sorts ltInt hO d4 (mid + 1) b' (rd ltInt dk a' b' lim wb wp).lim true true (by omega) (by omega) r5
                        go_wp2_with (go_at_call 209; refine hih.mono ?_; rintro e w8 ⟨rfl, hA8⟩)
                        go_roundg (mid - a')
                        case measure => omega
                        case rel =>
                          refine ⟨a', mid, (rd ltInt dk a' b' lim wb wp).lim, decide (b' - mid ≥ (b' - a') / 8), ap, pdq ltInt d4 (mid + 1) b' (rd ltInt dk a' b' lim wb wp).lim true true, rfl, rfl, rfl, ?_, rfl, by omega, by omega, Nat.le_refl _, by omega, Nat.le_trans rd_lim_le hlim, by rw [pL.1, hs4], (R7.out _ pL sL).1, hA8, ?_⟩
                          · exact congrArg Value.bool (eighth (by omega) (by omega))
                          · show _ = _
                            rw [← AE.out, pdq_right h12 hl0 hp2 h87 (by rw [hx]; exact ⟨r1, r2⟩) (by rw [hx]; exact h4), hx]
                    · have h87' := h87
                      simp only [Bool.and_eq_true, decide_eq_true_eq, Bool.not_eq_true'] at h87'
                      obtain ⟨mid, d4, hx⟩ : ∃ mid d4, partitionEqual ltInt (rd ltInt dk a' b' lim wb wp).pi.1 a' b' (rd ltInt dk a' b' lim wb wp).pivot = (mid, d4) := ⟨_, _, rfl⟩
                      obtain ⟨r1, r2, r3, r4, _⟩ := round_eq hO (partitionEqual_holds ltInt) h87'.1 hpv.1 hpv.2 (show b' ≤ (rd ltInt dk a' b' lim wb wp).pi.1.size by omega) B3 h87'.2 hx
                      have hc21 := partitionEqual_ord cap a' b' (rd ltInt dk a' b' lim wb wp).pivot (rd ltInt dk a' b' lim wb wp).pi.1 _ hA6 hpv.1 hpv.2 hb' hN
                      rw [hx] at hc21
                      have X : Hid (partitionEqual ltInt (rd ltInt dk a' b' lim wb wp).pi.1 a' b' (rd ltInt dk a' b' lim wb wp).pivot = (mid, d4)) := hx
                      clear hx
                      go_wp2_with (go_at_call 228; refine hc21.mono ?_; rintro e w7 ⟨rfl, hA7⟩)
                      go_roundg (b' - mid)
                      case measure => omega
                      case rel =>
                        have hx := X.out
                        exact ⟨mid, b', (rd ltInt dk a' b' lim wb wp).lim, wb, wp, d4, rfl, rfl, rfl, rfl, rfl, r2, hb', Nat.le_refl _, by omega, Nat.le_trans rd_lim_le hlim, by rw [r3, s3, hds], r4, hA7, by show _ = _; rw [← AE.out, pdq_eq h12 hl0 hp2 h87 (by rw [hx]; exact ⟨r1, r2⟩), hx]⟩

set_option maxHeartbeats 1000000 in
set_option maxRecDepth 100000 in
/-- slices.Sort at uint32. -/
theorem sort_ord (cap : Nat) (hN : N < 4611686018427387904) (d : Array Int) (w : World) (hA : (OrdAt g o ty w0 N) d w) :
    Calls Tryz.prog 188 #[.slice (some ⟨g, o, none⟩) N cap] w fun e w' => e = .returned (.tuple #[]) ∧ ∃ d', PermIn 0 N d d' ∧ SortedIn ltInt 0 N d' ∧ (OrdAt g o ty w0 N) d' w' := by
  have hd := hA.size
  have hb := Tryz.bits_Len (N : Int) w (by omega) (by omega)
  have wr : IntKind.u64.wrap (N : Int) = N := by simp [IntKind.wrap, IntKind.bits, IntKind.signed]; omega
  have hlim : Lib.bitLen N < 4611686018427387904 := Nat.lt_of_le_of_lt (Lib.bitLen_le N 62 (by omega) (by omega)) (by omega)
  have hp := pdqsort_ord cap hN (N + 1) 0 N (Lib.bitLen N) d w (by omega) hA (Nat.zero_le _) (Nat.le_refl _) hlim (Or.inl rfl)
  have hs := pdq_sorts ltInt swo_ltInt d 0 N (Lib.bitLen N) true true (Nat.zero_le _) (by omega) (Or.inl rfl)
  go_enter Tryz.func188, Tryz.ntmps188
  go_wp2_with (first
    | (go_at_call 185; refine hb.mono ?_; rintro e w' ⟨rfl, rfl⟩)
    | (go_at_call 209; refine hp.mono ?_; rintro e w' ⟨rfl, hA2⟩))
  go_end0
  exact ⟨rfl, _, hs.1, hs.2, hA2⟩
end Go.Proofs.YthmhnknkidkdlaaGreatDoor.Ord32
namespace Go.Proofs.YthmhnknkidkdlaaGreatDoor.Ord32
open Go.RowKit Go.Sort Go.Lib

theorem get_ints (d : Array Int) (i : Nat) (h : i < d.toList.length) : d[i]! = d.toList[i] := by
  have : i < d.size := by simpa using h
  simp [this]

/-- .. over a row that begins with the numbers xs: they stand sorted there. -/
theorem sort_list (g cap : Nat) (ty : TypeId) (xs : List Int) (sp : List Value) (w : World) (hb : Blk w g ty (xs.map (Value.int .u32) ++ sp).toArray) (hN : xs.length < 4611686018427387904) :
    Calls Tryz.prog 188 #[.slice (some ⟨g, 0, none⟩) xs.length cap] w fun e w' => e = .returned (.tuple #[]) ∧ ∃ (ys : List Int) (sp' : List Value), ys.Perm xs ∧ ys.Pairwise (· ≤ ·) ∧ Blk w' g ty (ys.map (Value.int .u32) ++ sp').toArray ∧ Off [g] w w' := by
  have hA : OrdAt g 0 ty w xs.length xs.toArray w := ⟨rfl, by simp, Off.refl _ _, ⟨sp, by simpa using hb⟩, hb.lt⟩
  refine (sort_ord cap hN xs.toArray w hA).mono ?_
  rintro e w' ⟨he, d', hp, hs, hA'⟩
  obtain ⟨sp', hb'⟩ := hA'.blk
  refine ⟨he, d'.toList, sp', ?_, ?_, hb', hA'.off⟩
  · obtain ⟨h1, _, h3⟩ := hp
    have e1 : xs.toArray.extract 0 xs.length = xs.toArray := by simp
    have e2 : d'.extract 0 xs.length = d' := by
      have : d'.size = xs.length := hA'.size
      rw [← this]; simp
    rw [e1, e2] at h3
    simpa using h3
  · refine List.pairwise_iff_getElem.2 fun i k hi hk hik => ?_
    have hsz : d'.size = xs.length := hA'.size
    have := hs i k (Nat.zero_le _) hik (by rw [← hsz]; simpa using hk)
    rw [get_ints d' i hi, get_ints d' k hk] at this
    have h3 := of_decide_eq_false (show decide (d'.toList[k] < d'.toList[i]) = false from this)
    omega
end Go.Proofs.YthmhnknkidkdlaaGreatDoor.Ord32
namespace Go.Proofs.YthmhnknkidkdlaaGreatDoor
open Go.RowKit

/-- 'copy' of bytes that a slice reads as, into a row that is known whole: a step of a region that draws. The source may be empty, its pointer nil. -/
theorem step_copyD {P : Program} {ops : Array Oper} {o : Oper} {A : Act} {w : World} {K : Act → World → Prop} {Q : Exit → Act → World → Prop} {E : Prop} (hgd : o.guard = none) (d s : Operand) (dT sT : TypeId)
    (ho : o.op = .call { callee := .builtin .copy, args := #[d, s], argTypes := #[dT, sT] }) (elem : TypeId) (hu : P.underlying dT = some (.slice elem)) (hsz : (P.info? elem).map (·.size) = some 1)
    (g off : Nat) (t : TypeId) (pre mid post : List Value) (hg : Blk w g t (pre ++ (mid ++ post)).toArray) (hp : pre.length = off) (l : List UInt8) (hm : mid.length = l.length) (v : Value) (hv : DgIn w v l) (dLen dCap : Nat) (hfit : l.length ≤ dLen)
    (hd : A.eval d = .slice (some ⟨g, off, none⟩) dLen dCap) (hs : A.eval s = v) (N : Nat) (hN : N = l.length)
    (h : ∀ w', Hid (Blk w' g t (pre ++ (Lib.byteCells l ++ post)).toArray) → Hid (Off [g] w w') → K (A.put o.dst (.int .i64 (N : Int))) w') :
    if Region.wanted o (yielded ops A.tmps) = true then Oper.wp P o A w K Q else E := by
  subst hN
  obtain ⟨B, C, b, ob, rfl, hB, hseg⟩ := hv
  rcases Nat.eq_zero_or_pos l.length with h0 | h0
  · obtain rfl : l = [] := List.eq_nil_of_length_eq_zero h0
    obtain rfl : mid = [] := List.eq_nil_of_length_eq_zero (by rw [hm]; rfl)
    have hw : Region.wanted o (yielded ops A.tmps) = true := by simp [Region.wanted, hgd]
    rw [if_pos hw]
    have hrun := run_copy_none (P := P) w dT sT o.type elem (some ⟨g, off, none⟩) B dLen dCap 0 C hu hsz (by simp)
    unfold Oper.wp
    simp [execOp, ho, resolve, invoke, builtin, hd, hs, hrun, Result.andThen]
    exact h _ (Lib.hid hg) (Lib.hid (Off.refl [g] w))
  · rw [hB h0] at hs
    have hl : (pre ++ (mid ++ post)).length = off + l.length + post.length := by simp [hp, hm]; omega
    refine step_copyO hgd d s dT sT ho elem hu hsz g off (pre ++ (mid ++ post)) t hg (Lib.byteCells l) (by rw [Lib.byteCells_length, hl]; omega) (byteCells_one _) dLen dCap l.length C ⟨b, ob, none⟩ hd hs
      (by rw [Lib.byteCells_length]; exact (Nat.min_eq_left hfit).symm) hseg.cells l.length (by rw [Lib.byteCells_length]) ?_
    intro w' hw1 hw2
    refine h w' (Lib.hid ?_) hw2
    have := hw1.out
    rwa [show splice (pre ++ (mid ++ post)) off (Lib.byteCells l) = pre ++ (Lib.byteCells l ++ post) by
      unfold splice
      rw [List.take_left' hp, Lib.byteCells_length, ← hp, ← hm, ← List.append_assoc pre mid post, ← List.length_append, List.drop_left]] at this

set_option maxRecDepth 100000 in
set_option maxHeartbeats 400000 in
theorem drWrite_any (r : DR) (gb ob c n : Nat) (t : TypeId) (pre mid post : List Value) (w : World) (hv : DgIn w r.v r.d) (hoff : r.off < 18446744073709551616) (hn : n = r.d.length + 8) (hmid : mid.length = n) (hp : pre.length = ob) (hnc : n ≤ c) (hbig : n < 4611686018427387904)
    (_hvb : ∀ A l C, r.v = .slice A l C → True) (hb : Blk w gb t (pre ++ (mid ++ post)).toArray) :
    Calls Tryz.prog 179 #[.agg #[r.v, .int .u64 (r.off : Int)], .slice (some ⟨gb, ob, none⟩) n c] w fun e w' =>
      e = .returned (.tuple #[]) ∧ Blk w' gb t (pre ++ (Lib.byteCells (rowB ⟨r.d, r.off⟩) ++ post)).toArray ∧ Off [gb] w w' := by
  obtain ⟨A, C, b, o, hrv, hA, hseg⟩ := id hv
  have hX : Blk (w.alloc (.cells #[r.v, .int .u64 (r.off : Int)] 313)) w.heap.size 313 #[r.v, .int .u64 (r.off : Int)] := Blk.new' _ _ _ rfl
  have hlt := hb.lt
  have hne : w.heap.size ≠ gb := by omega
  have hdg1 : DgIn (w.alloc (.cells #[r.v, .int .u64 (r.off : Int)] 313)) r.v r.d := by
    refine ⟨A, C, b, o, hrv, hA, ?_⟩
    by_cases h0 : 0 < r.d.length
    · exact hseg.alloc (hseg.lt h0) _
    · obtain h1 : r.d = [] := List.eq_nil_of_length_eq_zero (by omega)
      rw [h1]; exact Seg.nil
  have hb1 := hb.alloc (.cells #[r.v, .int .u64 (r.off : Int)] 313)
  obtain ⟨m1, m2, hm12, hm1, hm2⟩ : ∃ m1 m2, mid = m1 ++ m2 ∧ m1.length = r.d.length ∧ m2.length = 8 := ⟨mid.take r.d.length, mid.drop r.d.length, (List.take_append_drop _ _).symm, by simp; omega, by simp; omega⟩
  rw [hm12, List.append_assoc m1 m2 post] at hb1
  have HB1 := Lib.hid hb1
  have HDG := Lib.hid hdg1
  have HX := Lib.hid hX
  have HO0 := Lib.hid (Off.alloc (Off.refl [gb] w) (.cells #[r.v, .int .u64 (r.off : Int)] 313))
  have hP64 : Hid (∀ W, Blk W gb t (pre ++ (Lib.byteCells r.d ++ (m2 ++ post))).toArray → Calls Tryz.prog 57 #[.agg #[], .slice (some ⟨gb, ob + r.d.length, none⟩) (n - r.d.length) (c - r.d.length), .int .u64 (r.off : Int)] W fun e w' =>
      e = .returned (.tuple #[]) ∧ Blk w' gb t (pre ++ (Lib.byteCells (rowB ⟨r.d, r.off⟩) ++ post)).toArray ∧ Off [gb] W w') := fun W hW => by
    have := putLE64_blk gb (ob + r.d.length) (n - r.d.length) (c - r.d.length) r.off t (pre ++ Lib.byteCells r.d) m2 post hoff W (by omega) (by simp [hp, Lib.byteCells_length]) hm2 (by rw [List.append_assoc]; exact hW)
    refine this.mono fun e w' ⟨he, hw1, hw2⟩ => ⟨he, ?_, hw2⟩
    rw [rowB, Lib.byteCells_append, List.append_assoc]
    rw [List.append_assoc] at hw1
    exact hw1
  have hln : ((r.d.length : Nat) : Int) ≤ (n : Int) := by omega
  have hl0 : (0 : Int) ≤ ((r.d.length : Nat) : Int) := by omega
  have hck : ¬ c = r.d.length := by omega
  have HN := Lib.hid hn
  rw [hrv]
  rw [hrv] at HX HB1 HDG HO0
  have HRV := Lib.hid hrv
  clear hv hX hdg1 hb1 hb hseg hA hn hrv _hvb
  go_enter Tryz.func179, Tryz.ntmps179
  go_wp2_with fail
  go_region_law (refine step_copyD rfl (.tmp 6) (.tmp 8) 47 47 rfl 5 Tryz.underlying47 Tryz.sizeByte gb ob t pre m1 (m2 ++ post) HB1.out hp r.d hm1 (.slice A r.d.length C) HDG.out n c (by have := HN.out; omega) (by simp [Act.eval]) (by simp [Act.eval]) r.d.length rfl ?_; intro w4 HW4 HO4)
  all_goals
    have hX4 := HO4.out.blk HX.out (by simp; exact hne)
    have hc1 : w4.cell? ⟨w.heap.size, 1, none⟩ = some (.int .u64 (r.off : Int)) := hX4.cell 1
    have hc0 : w4.cell? ⟨w.heap.size, 0, none⟩ = some (.slice A r.d.length C) := hX4.cell 0
    have HC : Hid (∀ W, Drew w4 W → _) := fun W hW => hP64.out W (hW.blk HW4.out)
    have HO5 : Hid (Off [gb] w w4) := HO0.out.next HO4.out ⟨rfl, rfl, rfl, rfl⟩ (fun x hx => Or.inl hx)
    have HX4 := Lib.hid hX4
    clear hX4
    go_wp2_with fail
    go_region_held3 (fun w' => w'.cell? ⟨w.heap.size, 1, none⟩ = some (.int .u64 (r.off : Int)))
      (first | exact hc1 | exact hc5) (first | (go_at_call 57; refine (HC.out _ (by repeat' (first | exact Drew.refl _ | exact Drew.one _ | refine Drew.more ?_ 1))).mono ?_; rintro e w5 ⟨rfl, hB5, hO5⟩; have hc5 : w5.cell? ⟨w.heap.size, 1, none⟩ = some (.int .u64 (r.off : Int)) := (hO5.blk HX4.out (by simp; exact hne)).cell 1; have HB5 := Lib.hid hB5; have HO6 := Lib.hid hO5; clear hB5 hO5))
  all_goals go_wp2_with fail
  all_goals go_end0
  all_goals exact ⟨rfl, HB5.out, HO5.out.next HO6.out ⟨rfl, rfl, rfl, rfl⟩ (fun x hx => Or.inl hx)⟩
end Go.Proofs.YthmhnknkidkdlaaGreatDoor
