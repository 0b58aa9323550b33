/-
  symMerge_func over a row of the caller's: both runs have two elements or more.
  (No condition beyond those that each theorem states.)
-/
import Derived.Test.YtkdbjocchponfaaGreatDoorM31
import Derived.Deep.DeepCutAuto
namespace Go.Proofs.YtkdbjocchponfaaGreatDoor
open Go.RowKit Go.Sort Go.Lib

section
variable {α : Type} [Inhabited α] {g gs : Nat} {lb sb : Array Value} {lt : α → α → Bool} {N B : Nat} {At : Array α → World → Prop}
/-- What symMerge_func promises of parts of at most L places. -/
def SymLaw (g gs : Nat) (lb sb : Array Value) (lt : α → α → Bool) (N B : Nat) (At : Array α → World → Prop) (L : Nat) : Prop := ∀ (a m b : Nat) (d : Array α) (w : World), b - a ≤ L → At d w → a < m → m < b → b ≤ N → SortedIn lt a m d → SortedIn lt m b d →
    Calls Tryz.prog 136 #[.agg #[.func (.func g) #[] lb, .func (.func gs) #[] sb], .int .i64 a, .int .i64 m, .int .i64 b] w fun e w' => e = .returned (.tuple #[]) ∧ ∃ d', At d' w' ∧ PermIn a b d d' ∧ SortedIn lt a b d' ∧ KeepG B w w'
theorem SymLaw.use {L : Nat} (h : SymLaw g gs lb sb lt N B At L) (_S : SrtF g lb gs sb lt N B At) {w wr : World} (hB : B ≤ w.heap.size) (a m b : Nat) (d : Array α) (hL : b - a ≤ L) (hA : HasF g gs lb sb B At w d wr) (ham : a < m) (hmb : m < b) (hb : b ≤ N) (h1 : SortedIn lt a m d) (h2 : SortedIn lt m b d) :
    Calls Tryz.prog 136 #[.agg #[.func (.func g) #[] lb, .func (.func gs) #[] sb], .int .i64 a, .int .i64 m, .int .i64 b] wr fun e w' => e = .returned (.tuple #[]) ∧ Hid (∃ d', HasF g gs lb sb B At w d' w' ∧ PermIn a b d d' ∧ SortedIn lt a b d') :=
  (h a m b d wr hL hA.1 ham hmb hb h1 h2).mono (by
    rintro e w' ⟨rfl, d', h1, h2, h3, h4⟩
    exact ⟨rfl, Lib.hid ⟨d', ⟨h1, h4.blk hA.2.1 hB, hA.2.2.trans h4⟩, h2, h3⟩⟩)

set_option maxHeartbeats 4000000 in
set_option maxRecDepth 100000 in
theorem symC (S : SrtF g lb gs sb lt N B At) (hS : SWO lt) (hN : N < 1152921504606846976) (L : Nat) (IH : SymLaw g gs lb sb lt N B At L) (a m b : Nat) (d : Array α) (w : World) (hL : b - a ≤ L + 1) (hA : At d w) (ham : a + 1 < m) (hmb : m + 1 < b) (hb : b ≤ N) (h1 : SortedIn lt a m d) (h2 : SortedIn lt m b d) :
    Calls Tryz.prog 136 #[.agg #[.func (.func g) #[] lb, .func (.func gs) #[] sb], .int .i64 a, .int .i64 m, .int .i64 b] w fun e w' => e = .returned (.tuple #[]) ∧ ∃ d', At d' w' ∧ PermIn a b d d' ∧ SortedIn lt a b d' ∧ KeepG B w w' := by
  have HIH := Lib.hid IH
  have HBw := Lib.hid (S.room hA)
  have HDS := Lib.hid (S.size hA)
  have HF0 := Lib.hid (HasF.start S hA)
  have hm1 : ((m : Int) - (a : Int) == 1) = false := beq_eq_false_iff_ne.2 (by omega)
  have hm2 : ((b : Int) - (m : Int) == 1) = false := beq_eq_false_iff_ne.2 (by omega)
  have H1 := Lib.hid h1
  have H2 := Lib.hid h2
  clear hA h1 h2 IH
  obtain ⟨mid, hm3, hm4, hmz⟩ : ∃ mid : Nat, 2 * mid ≤ a + b ∧ a + b ≤ 2 * mid + 1 ∧ ((a : Int) + (b : Int)) / 2 = (mid : Int) := ⟨(a + b) / 2, by omega, by omega, by omega⟩
  go_enter Tryz.func136, Tryz.ntmps136
  obtain ⟨w0, hw0⟩ : ∃ w0, w0 = w.alloc (.cells #[.func (.func g) #[] lb, .func (.func gs) #[] sb] 206) := ⟨_, rfl⟩
  have HW0 := Lib.hid hw0
  clear hw0
  go_upto_if 106 with fail
  go_cut [18, 19] from 107 to 112 (fun s18 s19 wx => ∃ lo hi : Nat, s18 = .int .i64 (lo : Int) ∧ s19 = .int .i64 (hi : Int) ∧ a ≤ lo ∧ lo ≤ hi ∧ hi ≤ m ∧ hi ≤ mid ∧ Hid ((lo = a ∨ lo + b = mid + m) ∧ mid + m ≤ lo + b ∧ (hi = m ∨ hi = mid) ∧ wx = w0))
  case first =>
    by_cases hmm : mid < m
    · go_wp2_with fail
      go_meet
      exact ⟨mid + m - b, mid, by go_num, rfl, by omega, by omega, by omega, by omega, Lib.hid ⟨by omega, by omega, by omega, HW0.out.symm⟩⟩
    · go_wp2_with fail
      go_meet
      exact ⟨a, m, rfl, rfl, by omega, by omega, by omega, by omega, Lib.hid ⟨by omega, by omega, by omega, HW0.out.symm⟩⟩
  case rest =>
    obtain ⟨lo, hi, rfl, rfl, g1, g2, g3, g4, hlo⟩ := hcut
    have HST : Hid (HasF g gs lb sb B At w d wc) := Lib.hid (by rw [hlo.out.2.2.2, HW0.out]; exact HF0.out)
    clear HF0
    go_wp2_with fail
    go_loopg [18, 19] (hi - lo) (fun kx s18 s19 wr => ∃ s r : Nat, s18 = .int .i64 (s : Int) ∧ s19 = .int .i64 (r : Int) ∧ lo ≤ s ∧ s ≤ r ∧ r ≤ hi ∧ r - s ≤ kx ∧ Hid (HasF g gs lb sb B At w d wr) ∧ Hid ((s = lo ∨ lt d[mid + m - s]! d[s - 1]! = false) ∧ (r = hi ∨ lt d[mid + m - 1 - r]! d[r]! = true)))
    case atStart => exact ⟨lo, hi, rfl, rfl, by omega, by omega, by omega, by omega, HST, Lib.hid ⟨Or.inl rfl, Or.inl rfl⟩⟩
    case round =>
      rename World => wr
      obtain ⟨s, r, rfl, rfl, hls, hsr, hrh, hkx, hst, hinv⟩ := hrel
      by_cases hlt : s < r
      · obtain ⟨c, hc1, hc2, hcz⟩ : ∃ c : Nat, s ≤ c ∧ c < r ∧ ((s : Int) + (r : Int)) / 2 = (c : Int) := ⟨(s + r) / 2, by omega, by omega, by omega⟩
        have c0 := hst.out.c0
        have eL := S.eLess
        cases hlv : lt d[mid + m - 1 - c]! d[c]! with
        | true =>
          have hl := S.lessV hst.out.1 (mid + m - 1 - c) c (by have := hlo.out; omega) (by omega) hlv (show ((mid + m - 1 - c : Nat) : Int) = (mid : Int) + (m : Int) - 1 - (c : Int) by omega) rfl
          have HLV := Lib.hid hlv
          clear hlv
          go_wp2_with (go_at_fn g; refine hl.mono ?_; rintro e w' ⟨rfl, ho⟩; have HO' := Lib.hid ho; clear ho)
          go_roundg (c - s)
          case measure => omega
          case rel => exact ⟨s, c, rfl, rfl, hls, hc1, by omega, by omega, Lib.hid (hst.out.drew S HO'.out), Lib.hid ⟨hinv.out.1, Or.inr HLV.out⟩⟩
        | false =>
          have hl := S.lessV hst.out.1 (mid + m - 1 - c) c (by have := hlo.out; omega) (by omega) hlv (show ((mid + m - 1 - c : Nat) : Int) = (mid : Int) + (m : Int) - 1 - (c : Int) by omega) rfl
          have HLV := Lib.hid hlv
          clear hlv
          go_wp2_with (go_at_fn g; refine hl.mono ?_; rintro e w' ⟨rfl, ho⟩; have HO' := Lib.hid ho; clear ho)
          go_roundg (r - (c + 1))
          case measure => omega
          case rel => exact ⟨c + 1, r, by go_num, rfl, by omega, by omega, hrh, by omega, Lib.hid (hst.out.drew S HO'.out), Lib.hid ⟨Or.inr (by rw [show mid + m - (c + 1) = mid + m - 1 - c by omega, show c + 1 - 1 = c by omega]; exact HLV.out), hinv.out.2⟩⟩
      · obtain rfl : s = r := by omega
        obtain ⟨e, he1, he2⟩ : ∃ e : Nat, e = mid + m - s ∧ (e : Int) = (mid : Int) + (m : Int) - (s : Int) := ⟨mid + m - s, rfl, by have := hlo.out; omega⟩
        have hee : m ≤ e ∧ mid ≤ e ∧ e ≤ b ∧ s ≤ m ∧ s ≤ mid ∧ a ≤ s ∧ e + s = mid + m := by have := hlo.out; omega
        have HE := Lib.hid (And.intro he1 (And.intro he2 hee))
        have HSTEP : Hid (∀ d1 : Array α, (∀ k, d1[k]! = if s ≤ k ∧ k < mid then d[k + (m - s)]! else if mid ≤ k ∧ k < e then d[k - (e - m)]! else d[k]!) → SortedIn lt a s d1 ∧ SortedIn lt s mid d1 ∧ SortedIn lt mid e d1 ∧ SortedIn lt e b d1 ∧ ∀ x y, a ≤ x → x < mid → mid ≤ y → y < b → lt d1[y]! d1[x]! = false) := Lib.hid (fun d1 hd1 => by
          have hlo' := hlo.out
          have hinv' := hinv.out
          refine merge_step hS a m b s e mid d d1 hee.2.2.2.2.2.1 hee.2.2.2.1 hee.1 hee.2.2.1 hee.2.2.2.2.1 hee.2.1 hee.2.2.2.2.2.2 H1.out H2.out ?_ ?_ hd1
          · rcases hinv'.1 with h | h
            · omega
            · rw [← he1] at h; exact Or.inr (Or.inr h)
          · rcases hinv'.2 with h | h
            · omega
            · rw [show mid + m - 1 - s = e - 1 by omega] at h; exact Or.inr (Or.inr h))
        clear he1 he2 hee hlt hkx hinv hlo g1 g2 g3 g4 hls hsr hrh
        have heI := HE.out.2.1
        go_upto_region 39 with fail
        go_cut [22] from 135 to 137 (fun s22 wx => s22 = .int .i64 (e : Int) ∧ wr = wx)
        case first =>
          go_wp2_with fail
          go_meet
          exact ⟨by rw [heI], rfl⟩
        case rest =>
          obtain ⟨rfl, rfl⟩ := hcut
          clear heI
          go_upto_region 40 with fail
          go_cut [145] from 138 to 145 (fun s145 wx => ∃ bv : Bool, s145 = .bool bv ∧ Hid (bv = decide (s < m ∧ m < e)) ∧ wr = wx)
          case first =>
            by_cases q1 : s < m
            · by_cases q2 : m < e
              · go_wp2_with fail
                go_meet
                exact ⟨true, rfl, Lib.hid (decide_eq_true (p := s < m ∧ m < e) ⟨q1, q2⟩).symm, rfl⟩
              · go_wp2_with fail
                go_meet
                exact ⟨false, rfl, Lib.hid (decide_eq_false (p := s < m ∧ m < e) (fun h => q2 h.2)).symm, rfl⟩
            · go_wp2_with fail
              go_meet
              exact ⟨false, rfl, Lib.hid (decide_eq_false (p := s < m ∧ m < e) (fun h => q1 h.1)).symm, rfl⟩
          case rest =>
            obtain ⟨bv, rfl, hbv, rfl⟩ := hcut
            go_upto_if 145 with fail
            go_cut [] from 146 to 150 (fun wx => Hid (∃ d1, HasF g gs lb sb B At w d1 wx ∧ PermIn a b d d1 ∧ ∀ k, d1[k]! = if s ≤ k ∧ k < mid then d[k + (m - s)]! else if mid ≤ k ∧ k < e then d[k - (e - m)]! else d[k]!))
            case first =>
              cases bv with
              | true =>
                have q0 : s < m ∧ m < e := of_decide_eq_true hbv.out.symm
                have c0 := hst.out.c0
                have c1 := hst.out.c1
                have hrr := rotateF S s m e d wr hst.out.1 q0.1 q0.2 (by have := HE.out; omega) (by omega)
                have HR := Lib.hid hrr
                clear hrr q0
                go_wp2_with (go_at_call 154; refine HR.out.mono ?_; rintro r w5 ⟨rfl, hA5, hK5⟩; have HA5 := Lib.hid hA5; have HK5 := Lib.hid hK5; clear hA5 hK5)
                go_meet
                have q0 : s < m ∧ m < e := of_decide_eq_true hbv.out.symm
                have hee := HE.out
                refine Lib.hid ⟨_, ⟨HA5.out, HK5.out.blk hst.out.2.1 HBw.out, hst.out.2.2.trans HK5.out⟩, rotG_perm a b m _ _ _ d (by omega) (by omega) (by rw [HDS.out]; omega), fun k => ?_⟩
                rw [rotG_get m (e - s) (m - s) (e - m) d (by omega) (by omega) (by omega) (by omega) (by rw [HDS.out]; omega) k]
                repeat' split
                all_goals first | (exfalso; omega) | rfl | (congr 1; omega)
              | false =>
                go_wp2_with fail
                go_meet
                have hn : ¬ (s < m ∧ m < e) := of_decide_eq_false hbv.out.symm
                have hee := HE.out
                refine Lib.hid ⟨d, hst.out, permIn_refl _ _ _, fun k => ?_⟩
                repeat' split
                all_goals first | (exfalso; omega) | rfl | (congr 1; omega)
            case rest =>
              obtain ⟨d1, hf1, hp1, hd1⟩ := hcut.out
              rename World => w1
              obtain ⟨r1, r2, r3, r4, hx⟩ := HSTEP.out d1 hd1
              have HF1 := Lib.hid hf1
              have HP1 := Lib.hid hp1
              have HR := Lib.hid (And.intro r1 (And.intro r2 (And.intro r3 (And.intro r4 hx))))
              clear hcut hf1 hp1 hd1 r1 r2 r3 r4 hx HSTEP hst HST hbv
              go_upto_region 42 with fail
              go_cut [158] from 151 to 158 (fun s158 wx => ∃ bv : Bool, s158 = .bool bv ∧ Hid (bv = decide (a < s ∧ s < mid)) ∧ w1 = wx)
              case first =>
                by_cases q1 : a < s
                · by_cases q2 : s < mid
                  · go_wp2_with fail
                    go_meet
                    exact ⟨true, rfl, Lib.hid (decide_eq_true (p := a < s ∧ s < mid) ⟨q1, q2⟩).symm, rfl⟩
                  · go_wp2_with fail
                    go_meet
                    exact ⟨false, rfl, Lib.hid (decide_eq_false (p := a < s ∧ s < mid) (fun h => q2 h.2)).symm, rfl⟩
                · go_wp2_with fail
                  go_meet
                  exact ⟨false, rfl, Lib.hid (decide_eq_false (p := a < s ∧ s < mid) (fun h => q1 h.1)).symm, rfl⟩
              case rest =>
                obtain ⟨bv2, rfl, hbv2, rfl⟩ := hcut
                go_upto_if 158 with fail
                go_cut [] from 159 to 163 (fun wx => Hid (∃ d2, HasF g gs lb sb B At w d2 wx ∧ PermIn a mid d1 d2 ∧ SortedIn lt a mid d2))
                case first =>
                  cases bv2 with
                  | true =>
                    have c0 := HF1.out.c0
                    have c1 := HF1.out.c1
                    have q0 : a < s ∧ s < mid := of_decide_eq_true hbv2.out.symm
                    have hrr := HIH.out.use S HBw.out a s mid d1 (by have := HE.out; omega) HF1.out q0.1 q0.2 (by omega) HR.out.1 HR.out.2.1
                    have HRR := Lib.hid hrr
                    clear hrr q0
                    go_wp2_with (go_at_call 136; refine HRR.out.mono ?_; rintro r w5 ⟨rfl, hh5⟩)
                    go_meet
                    exact hh5
                  | false =>
                    go_wp2_with fail
                    go_meet
                    have hn : ¬ (a < s ∧ s < mid) := of_decide_eq_false hbv2.out.symm
                    have hee := HE.out
                    refine Lib.hid ⟨d1, HF1.out, permIn_refl _ _ _, ?_⟩
                    by_cases hs : s = a
                    · have := HR.out.2.1; rw [hs] at this; exact this
                    · have := HR.out.1; rw [show s = mid by omega] at this; exact this
                case rest =>
                  obtain ⟨d2, hf2, hp2, hs2⟩ := hcut.out
                  rename World => w2
                  have HF2 := Lib.hid hf2
                  have HP2 := Lib.hid hp2
                  have HS2 := Lib.hid hs2
                  clear hcut hf2 hp2 hs2 hbv2 HF1
                  go_upto_region 44 with fail
                  go_cut [171] from 164 to 171 (fun s171 wx => ∃ bv : Bool, s171 = .bool bv ∧ Hid (bv = decide (mid < e ∧ e < b)) ∧ w2 = wx)
                  case first =>
                    by_cases q1 : mid < e
                    · by_cases q2 : e < b
                      · go_wp2_with fail
                        go_meet
                        exact ⟨true, rfl, Lib.hid (decide_eq_true (p := mid < e ∧ e < b) ⟨q1, q2⟩).symm, rfl⟩
                      · go_wp2_with fail
                        go_meet
                        exact ⟨false, rfl, Lib.hid (decide_eq_false (p := mid < e ∧ e < b) (fun h => q2 h.2)).symm, rfl⟩
                    · go_wp2_with fail
                      go_meet
                      exact ⟨false, rfl, Lib.hid (decide_eq_false (p := mid < e ∧ e < b) (fun h => q1 h.1)).symm, rfl⟩
                  case rest =>
                    obtain ⟨bv3, rfl, hbv3, rfl⟩ := hcut
                    have HEND : Hid (∀ d3, PermIn mid b d2 d3 → SortedIn lt mid b d3 → PermIn a b d d3 ∧ SortedIn lt a b d3) := Lib.hid (fun d3 hp3 hs3 => by
                      have hz : d1.size = N := by rw [HP1.out.1]; exact HDS.out
                      obtain ⟨h1, h2⟩ := merge_join a mid b d1 d2 d3 (by omega) (by omega) (by omega) HR.out.2.2.2.2 HP2.out HS2.out hp3 hs3
                      exact ⟨permIn_trans _ _ _ _ _ HP1.out h2, h1⟩)
                    have HRB : Hid (SortedIn lt mid e d2 ∧ SortedIn lt e b d2) := Lib.hid ⟨sorted_out HP2.out HR.out.2.2.1 (Or.inr (Nat.le_refl _)), sorted_out HP2.out HR.out.2.2.2.1 (Or.inr (by have := HE.out; omega))⟩
                    cases bv3 with
                    | true =>
                      have c0 := HF2.out.c0
                      have c1 := HF2.out.c1
                      have q0 : mid < e ∧ e < b := of_decide_eq_true hbv3.out.symm
                      have hrr := HIH.out.use S HBw.out mid e b d2 (by omega) HF2.out q0.1 q0.2 (by omega) HRB.out.1 HRB.out.2
                      have HRR := Lib.hid hrr
                      clear hrr q0
                      go_wp2_with (go_at_call 136; refine HRR.out.mono ?_; rintro r w5 ⟨rfl, hh5⟩)
                      go_end0
                      obtain ⟨d3, hf3, hp3, hs3⟩ := hh5.out
                      obtain ⟨h1, h2⟩ := HEND.out d3 hp3 hs3
                      exact ⟨rfl, d3, hf3.1, h1, h2, hf3.2.2⟩
                    | false =>
                      go_wp2_with fail
                      go_end0
                      have hn : ¬ (mid < e ∧ e < b) := of_decide_eq_false hbv3.out.symm
                      have hee := HE.out
                      obtain ⟨h1, h2⟩ := HEND.out d2 (permIn_refl _ _ _) (by
                        by_cases hs : e = b
                        · have := HRB.out.1; rw [hs] at this; exact this
                        · have := HRB.out.2; rw [show e = mid by omega] at this; exact this)
                      exact ⟨rfl, d2, HF2.out.1, h1, h2, HF2.out.2.2⟩

/-- symMerge_func, whole. -/
theorem symMerge_all (S : SrtF g lb gs sb lt N B At) (hS : SWO lt) (hN : N < 1152921504606846976) : ∀ L, SymLaw g gs lb sb lt N B At L
  | 0 => fun a m b d w hL hA ham hmb hb h1 h2 => by omega
  | L + 1 => fun a m b d w hL hA ham hmb hb h1 h2 => by
    by_cases hma : m = a + 1
    · exact symA S hS hN a m b d w hA hma hmb hb h2
    · by_cases hbm : b = m + 1
      · exact symB S hS hN a m b d w hA (by omega) hbm hb h1
      · exact symC S hS hN L (symMerge_all S hS hN L) a m b d w hL hA (by omega) (by omega) hb h1 h2
end
end Go.Proofs.YtkdbjocchponfaaGreatDoor
