/-
  symMerge_func over a row of the caller's: where the first run has one element.
  symMerge_func over a row of the caller's: where the second run has one element.
  The stable sort's rounds, in plain words: runs of k places are sorted, then of 2 * k. No program is named here.
  (No condition beyond those that each theorem states.)
-/
import Derived.Test.YtkdbjocchponfaaGreatDoorM30
import Derived.Sort.LotD2
namespace Go.Proofs.YtkdbjocchponfaaGreatDoor
open Go.RowKit Go.Sort Go.Lib

section
variable {α : Type} [Inhabited α] {g gs : Nat} {lb sb : Array Value} {lt : α → α → Bool} {N B : Nat} {At : Array α → World → Prop}
/-- The row and the pair's box, as they are carried along. -/
def HasF (g gs : Nat) (lb sb : Array Value) (B : Nat) (At : Array α → World → Prop) (w : World) (d : Array α) (wr : World) : Prop := At d wr ∧ Blk wr w.heap.size 206 #[.func (.func g) #[] lb, .func (.func gs) #[] sb] ∧ KeepG B w wr
omit [Inhabited α] in
theorem HasF.c0 {w wr : World} {d : Array α} (h : HasF g gs lb sb B At w d wr) : wr.cell? ⟨w.heap.size, 0, none⟩ = some (.func (.func g) #[] lb) := h.2.1.cell 0
omit [Inhabited α] in
theorem HasF.c1 {w wr : World} {d : Array α} (h : HasF g gs lb sb B At w d wr) : wr.cell? ⟨w.heap.size, 1, none⟩ = some (.func (.func gs) #[] sb) := h.2.1.cell 1
theorem HasF.drew (S : SrtF g lb gs sb lt N B At) {w wr w' : World} {d : Array α} (h : HasF g gs lb sb B At w d wr) (ho : Off [] wr w') : HasF g gs lb sb B At w d w' := ⟨S.drew h.1 ho, h.2.1.off ho (by simp), h.2.2.trans (KeepG.ofOff ho)⟩
theorem HasF.start (S : SrtF g lb gs sb lt N B At) {w : World} {d : Array α} (h : At d w) : HasF g gs lb sb B At w d (w.alloc (.cells #[.func (.func g) #[] lb, .func (.func gs) #[] sb] 206)) :=
  ⟨S.drew h (Off.alloc (Off.refl [] w) _), Blk.new w _ _, KeepG.ofOff (Off.alloc (Off.refl [] w) _)⟩
theorem HasF.swapV (S : SrtF g lb gs sb lt N B At) {w wr : World} {d : Array α} (h : HasF g gs lb sb B At w d wr) (hB : B ≤ w.heap.size) (i j : Nat) (hi : i < N) (hj : j < N) {x y : Int} (hx : (i : Int) = x) (hy : (j : Int) = y) :
    ∃ w', (callFunc gs (#[.int .i64 x, .int .i64 y] ++ sb)).run Tryz.prog wr = .ok (.value (.tuple #[])) w' ∧ HasF g gs lb sb B At w (swp d i j) w' := by
  subst hx hy
  obtain ⟨w5, hs5, hA5, hK5⟩ := S.swap i j h.1 hi hj
  exact ⟨w5, hs5, hA5, hK5.blk h.2.1 hB, h.2.2.trans (KeepG.ofKeep hK5)⟩

set_option maxHeartbeats 4000000 in
set_option maxRecDepth 100000 in
theorem symA (S : SrtF g lb gs sb lt N B At) (hS : SWO lt) (hN : N < 1152921504606846976) (a m b : Nat) (d : Array α) (w : World) (hA : At d w) (hma : m = a + 1) (hmb : m < b) (hb : b ≤ N) (h2 : SortedIn lt m b d) :
    Calls Tryz.prog 136 #[.agg #[.func (.func g) #[] lb, .func (.func gs) #[] sb], .int .i64 a, .int .i64 m, .int .i64 b] w fun e w' => e = .returned (.tuple #[]) ∧ ∃ d', At d' w' ∧ PermIn a b d d' ∧ SortedIn lt a b d' ∧ KeepG B w w' := by
  have eL := S.eLess
  have HBw := Lib.hid (S.room hA)
  have HDS := Lib.hid (S.size hA)
  have HF0 := Lib.hid (HasF.start S hA)
  have hm1 : (m : Int) - (a : Int) = 1 := by omega
  have HM := Lib.hid hma
  have H2 := Lib.hid h2
  clear hA hma h2
  go_enter Tryz.func136, Tryz.ntmps136
  go_wp2_with fail
  go_loopg [8, 9] (b - m) (fun kx s8 s9 wr => ∃ i j : Nat, s8 = .int .i64 (i : Int) ∧ s9 = .int .i64 (j : Int) ∧ m ≤ i ∧ i ≤ j ∧ j ≤ b ∧ j - i ≤ kx ∧ Hid (HasF g gs lb sb B At w d wr) ∧ Hid ((i = a + 1 ∨ lt d[i - 1]! d[a]! = true) ∧ (j = b ∨ lt d[j]! d[a]! = false)))
  case atStart => exact ⟨m, b, rfl, rfl, Nat.le_refl _, by omega, Nat.le_refl _, Nat.le_refl _, HF0, Lib.hid ⟨Or.inl HM.out, Or.inl rfl⟩⟩
  case round =>
    rename World => wr
    obtain ⟨i, j, rfl, rfl, hmi, hij, hjb, hkx, hst, hinv⟩ := hrel
    by_cases hlt : i < j
    · obtain ⟨h, hh1, hh2, hhz⟩ : ∃ h : Nat, i ≤ h ∧ h < j ∧ ((i : Int) + (j : Int)) / 2 = (h : Int) := ⟨(i + j) / 2, by omega, by omega, by omega⟩
      have c0 := hst.out.c0
      cases hlv : lt d[h]! d[a]! with
      | true =>
        have hl := S.lessV hst.out.1 h a (by omega) (by have := HM.out; omega) hlv rfl rfl
        have HLV := Lib.hid hlv
        clear hlv
        go_wp2_with (go_at_fn g; refine hl.mono ?_; rintro e w' ⟨rfl, ho⟩; have HO' := Lib.hid ho; clear ho)
        go_roundg (j - (h + 1))
        case measure => omega
        case rel => exact ⟨h + 1, j, by go_num, rfl, by omega, by omega, hjb, by omega, Lib.hid (hst.out.drew S HO'.out), Lib.hid ⟨Or.inr HLV.out, hinv.out.2⟩⟩
      | false =>
        have hl := S.lessV hst.out.1 h a (by omega) (by have := HM.out; omega) hlv rfl rfl
        have HLV := Lib.hid hlv
        clear hlv
        go_wp2_with (go_at_fn g; refine hl.mono ?_; rintro e w' ⟨rfl, ho⟩; have HO' := Lib.hid ho; clear ho)
        go_roundg (h - i)
        case measure => omega
        case rel => exact ⟨i, h, rfl, rfl, hmi, hh1, by omega, by omega, Lib.hid (hst.out.drew S HO'.out), Lib.hid ⟨hinv.out.1, Or.inr HLV.out⟩⟩
    · obtain rfl : i = j := by omega
      clear hlt hkx hij eL
      go_wp2_with fail
      go_loopg [11] (i - 1 - a) (fun kx s11 wq => ∃ k : Nat, s11 = .int .i64 (k : Int) ∧ a ≤ k ∧ k ≤ i - 1 ∧ i - 1 - k ≤ kx ∧ Hid (∃ dk, HasF g gs lb sb B At w dk wq ∧ PermIn a b d dk ∧ ∀ x, dk[x]! = if a ≤ x ∧ x < k then d[x + 1]! else if x = k then d[a]! else d[x]!))
      case atStart =>
        refine ⟨a, rfl, Nat.le_refl _, by have := HM.out; omega, Nat.le_refl _, Lib.hid ⟨d, hst.out, permIn_refl _ _ _, fun x => ?_⟩⟩
        rw [if_neg (by omega)]
        split
        · next h => rw [h]
        · rfl
      case round =>
        rename World => wq
        obtain ⟨k, rfl, hak, hki, hkx, hh⟩ := hrel
        obtain ⟨dk, hf, hp, hd⟩ := hh.out
        by_cases hlt : k < i - 1
        · have c1 := hf.c1
          have hz : (k : Int) < (i : Int) - 1 := by omega
          obtain ⟨w5, hs5, hf5⟩ := hf.swapV S HBw.out k (k + 1) (by omega) (by omega) rfl (show ((k + 1 : Nat) : Int) = (k : Int) + 1 by omega)
          have HF5 := Lib.hid hf5
          have HP := Lib.hid hp
          have HD := Lib.hid hd
          clear hf hp hd hf5 hh
          go_wp2_with fail
          go_roundg (i - 1 - (k + 1))
          case measure => omega
          case rel =>
            have hsz : dk.size = N := by rw [HP.out.1]; exact HDS.out
            refine ⟨k + 1, by go_num, by omega, by omega, by omega, Lib.hid ⟨_, HF5.out, permIn_trans _ _ _ _ _ HP.out (swp_permIn dk a b k (k + 1) (by omega) (by omega) (by omega) (by omega) (by omega)), fun x => ?_⟩⟩
            rw [swp_get dk (by omega) (by omega), HD.out, HD.out, HD.out]
            repeat' split
            all_goals first | (exfalso; omega) | rfl | (congr 1; omega)
        · have HK := Lib.hid (show k = i - 1 by omega)
          have hz : ¬ ((k : Int) < (i : Int) - 1) := by omega
          clear hlt hki hkx
          have HF := Lib.hid hf
          have HP := Lib.hid hp
          have HD := Lib.hid hd
          clear hf hp hd hh
          go_wp2_with fail
          refine bodyPost_ret (results_none rfl _ _ _) rfl ?_
          refine ⟨rfl, dk, HF.out.1, HP.out, ?_, HF.out.2.2⟩
          exact ins_up hS a b i d dk (by have := HM.out; omega) hjb (by rw [← HM.out]; exact H2.out) hinv.out.1 hinv.out.2 (by rw [← HK.out]; exact HD.out)
end
end Go.Proofs.YtkdbjocchponfaaGreatDoor
namespace Go.Proofs.YtkdbjocchponfaaGreatDoor
open Go.RowKit Go.Sort Go.Lib

section
variable {α : Type} [Inhabited α] {g gs : Nat} {lb sb : Array Value} {lt : α → α → Bool} {N B : Nat} {At : Array α → World → Prop}
set_option maxHeartbeats 4000000 in
set_option maxRecDepth 100000 in
theorem symB (S : SrtF g lb gs sb lt N B At) (hS : SWO lt) (hN : N < 1152921504606846976) (a m b : Nat) (d : Array α) (w : World) (hA : At d w) (ham : a + 1 < m) (hmb : b = m + 1) (hb : b ≤ N) (h1 : SortedIn lt a m d) :
    Calls Tryz.prog 136 #[.agg #[.func (.func g) #[] lb, .func (.func gs) #[] sb], .int .i64 a, .int .i64 m, .int .i64 b] w fun e w' => e = .returned (.tuple #[]) ∧ ∃ d', At d' w' ∧ PermIn a b d d' ∧ SortedIn lt a b d' ∧ KeepG B w w' := by
  have eL := S.eLess
  have HBw := Lib.hid (S.room hA)
  have HDS := Lib.hid (S.size hA)
  have HF0 := Lib.hid (HasF.start S hA)
  have hm1 : ((m : Int) - (a : Int) == 1) = false := beq_eq_false_iff_ne.2 (by omega)
  have hm2 : (b : Int) - (m : Int) = 1 := by omega
  have HM := Lib.hid hmb
  have H1 := Lib.hid h1
  clear hA hmb h1
  go_enter Tryz.func136, Tryz.ntmps136
  go_wp2_with fail
  go_loopg [12, 13] (m - a) (fun kx s12 s13 wr => ∃ i j : Nat, s12 = .int .i64 (i : Int) ∧ s13 = .int .i64 (j : Int) ∧ a ≤ i ∧ i ≤ j ∧ j ≤ m ∧ j - i ≤ kx ∧ Hid (HasF g gs lb sb B At w d wr) ∧ Hid ((i = a ∨ lt d[m]! d[i - 1]! = false) ∧ (j = m ∨ lt d[m]! d[j]! = true)))
  case atStart => exact ⟨a, m, rfl, rfl, Nat.le_refl _, by omega, Nat.le_refl _, Nat.le_refl _, HF0, Lib.hid ⟨Or.inl rfl, Or.inl rfl⟩⟩
  case round =>
    rename World => wr
    obtain ⟨i, j, rfl, rfl, hmi, hij, hjb, hkx, hst, hinv⟩ := hrel
    by_cases hlt : i < j
    · obtain ⟨h, hh1, hh2, hhz⟩ : ∃ h : Nat, i ≤ h ∧ h < j ∧ ((i : Int) + (j : Int)) / 2 = (h : Int) := ⟨(i + j) / 2, by omega, by omega, by omega⟩
      have c0 := hst.out.c0
      cases hlv : lt d[m]! d[h]! with
      | false =>
        have hl := S.lessV hst.out.1 m h (by have := HM.out; omega) (by omega) hlv rfl rfl
        have HLV := Lib.hid hlv
        clear hlv
        go_wp2_with (go_at_fn g; refine hl.mono ?_; rintro e w' ⟨rfl, ho⟩; have HO' := Lib.hid ho; clear ho)
        go_roundg (j - (h + 1))
        case measure => omega
        case rel => exact ⟨h + 1, j, by go_num, rfl, by omega, by omega, hjb, by omega, Lib.hid (hst.out.drew S HO'.out), Lib.hid ⟨Or.inr HLV.out, hinv.out.2⟩⟩
      | true =>
        have hl := S.lessV hst.out.1 m h (by have := HM.out; omega) (by omega) hlv rfl rfl
        have HLV := Lib.hid hlv
        clear hlv
        go_wp2_with (go_at_fn g; refine hl.mono ?_; rintro e w' ⟨rfl, ho⟩; have HO' := Lib.hid ho; clear ho)
        go_roundg (h - i)
        case measure => omega
        case rel => exact ⟨i, h, rfl, rfl, hmi, hh1, by omega, by omega, Lib.hid (hst.out.drew S HO'.out), Lib.hid ⟨hinv.out.1, Or.inr HLV.out⟩⟩
    · obtain rfl : i = j := by omega
      clear hlt hkx hij eL
      go_wp2_with fail
      go_loopg [15] (m - i) (fun kx s15 wq => ∃ k : Nat, s15 = .int .i64 (k : Int) ∧ i ≤ k ∧ k ≤ m ∧ k - i ≤ kx ∧ Hid (∃ dk, HasF g gs lb sb B At w dk wq ∧ PermIn a b d dk ∧ ∀ x, dk[x]! = if k < x ∧ x ≤ m then d[x - 1]! else if x = k then d[m]! else d[x]!))
      case atStart =>
        refine ⟨m, rfl, hjb, Nat.le_refl _, Nat.le_refl _, Lib.hid ⟨d, hst.out, permIn_refl _ _ _, fun x => ?_⟩⟩
        rw [if_neg (by omega)]
        split
        · next h => rw [h]
        · rfl
      case round =>
        rename World => wq
        obtain ⟨k, rfl, hik, hkm, hkx, hh⟩ := hrel
        obtain ⟨dk, hf, hp, hd⟩ := hh.out
        by_cases hlt : i < k
        · have c1 := hf.c1
          have hz : (k : Int) > (i : Int) := by omega
          obtain ⟨w5, hs5, hf5⟩ := hf.swapV S HBw.out k (k - 1) (by have := HM.out; omega) (by have := HM.out; omega) rfl (show ((k - 1 : Nat) : Int) = (k : Int) - 1 by omega)
          have HF5 := Lib.hid hf5
          have HP := Lib.hid hp
          have HD := Lib.hid hd
          clear hf hp hd hf5 hh
          go_wp2_with fail
          go_roundg (k - 1 - i)
          case measure => omega
          case rel =>
            have hsz : dk.size = N := by rw [HP.out.1]; exact HDS.out
            have hbm := HM.out
            refine ⟨k - 1, by congr 1; omega, by omega, by omega, by omega, Lib.hid ⟨_, HF5.out, permIn_trans _ _ _ _ _ HP.out (swp_permIn dk a b k (k - 1) (by omega) (by omega) (by omega) (by omega) (by omega)), fun x => ?_⟩⟩
            rw [swp_get dk (by omega) (by omega), HD.out, HD.out, HD.out]
            repeat' split
            all_goals first | (exfalso; omega) | rfl | (congr 1; omega)
        · have HK := Lib.hid (show k = i by omega)
          have hz : ¬ ((k : Int) > (i : Int)) := by omega
          have HF := Lib.hid hf
          have HP := Lib.hid hp
          have HD := Lib.hid hd
          clear hf hp hd hh hlt hik hkx
          go_wp2_with fail
          refine bodyPost_ret (results_none rfl _ _ _) rfl ?_
          refine ⟨rfl, dk, HF.out.1, HP.out, ?_, HF.out.2.2⟩
          rw [HM.out]
          exact ins_down hS a m i d dk hmi hjb H1.out hinv.out.1 hinv.out.2 (by rw [← HK.out]; exact HD.out)
end
end Go.Proofs.YtkdbjocchponfaaGreatDoor
namespace Go.Proofs.YtkdbjocchponfaaGreatDoor
open Go.Sort

variable {α : Type} [Inhabited α] {lt : α → α → Bool}
theorem sorted_out {a b lo hi : Nat} {d d' : Array α} (p : PermIn a b d d') (h : SortedIn lt lo hi d) (hd : hi ≤ a ∨ b ≤ lo) : SortedIn lt lo hi d' :=
  h.congr fun i h1 h2 => p.2.1 i (by omega)
theorem dvd_gap {k x y : Nat} (hx : k ∣ x) (hy : k ∣ y) (h : x < y) : x + k ≤ y := by
  obtain ⟨i, rfl⟩ := hx
  obtain ⟨j, rfl⟩ := hy
  have hij : i < j := Nat.lt_of_mul_lt_mul_left h
  have := Nat.mul_le_mul_left k hij
  rw [Nat.mul_succ] at this
  exact this

/-- Every run of k places that begins at lo or behind it, and ahead of 'to', is sorted. -/
def Runs (lt : α → α → Bool) (k n lo to : Nat) (d : Array α) : Prop := ∀ x, k ∣ x → lo ≤ x → x < to → SortedIn lt x (min (x + k) n) d

theorem runs_none (k n lo : Nat) (d : Array α) : Runs lt k n lo lo d := fun x _ h1 h2 => by omega
theorem runs_ins {k n a b : Nat} {d d' : Array α} (hk : k ∣ a) (hb : b = min (a + k) n) (h : Runs lt k n 0 a d) (p : PermIn a b d d') (s : SortedIn lt a b d') : Runs lt k n 0 (a + k) d' := fun x hx _ h2 => by
  by_cases hxa : x < a
  · have := dvd_gap hx hk hxa
    exact sorted_out p (h x hx (Nat.zero_le _) hxa) (Or.inl (by omega))
  · have hxe : x = a := by
      rcases Nat.lt_or_ge a x with h' | h'
      · have := dvd_gap hk hx h'
        omega
      · omega
    subst hxe
    rw [← hb]
    exact s
theorem runs_to {k n lo a b : Nat} {d : Array α} (h : Runs lt k n lo a d) (hb : b ≤ a) : Runs lt k n lo b d := fun x hx h1 h2 => h x hx h1 (by omega)
theorem runs_merge {k n a b : Nat} {d d' : Array α} (hk : 2 * k ∣ a) (hb : b = min (a + 2 * k) n) (h : Runs lt (2 * k) n 0 a d) (h' : Runs lt k n a n d) (p : PermIn a b d d') (s : SortedIn lt a b d') :
    Runs lt (2 * k) n 0 (a + 2 * k) d' ∧ Runs lt k n (a + 2 * k) n d' :=
  ⟨runs_ins hk hb h p s, fun x hx h1 h2 => sorted_out p (h' x hx (by omega) h2) (Or.inr (by omega))⟩
theorem runs_halves {k n a : Nat} {d : Array α} (hk : 2 * k ∣ a) (h' : Runs lt k n a n d) (ha : a + k < n) : SortedIn lt a (a + k) d ∧ SortedIn lt (a + k) (min (a + 2 * k) n) d := by
  have hka : k ∣ a := Nat.dvd_trans ⟨2, by omega⟩ hk
  have h1 := h' a hka (Nat.le_refl _) (by omega)
  have h2 := h' (a + k) (Nat.dvd_add hka (Nat.dvd_refl k)) (by omega) ha
  rw [Nat.min_eq_left (by omega)] at h1
  rw [show a + k + k = a + 2 * k by omega] at h2
  exact ⟨h1, h2⟩
theorem runs_rest {k n a : Nat} {d : Array α} (_hk : 2 * k ∣ a) (h : Runs lt (2 * k) n 0 a d) (h' : Runs lt k n a n d) (ha : n ≤ a + k) : Runs lt (2 * k) n 0 n d := fun x hx _ h2 => by
  by_cases hxa : x < a
  · exact h x hx (Nat.zero_le _) hxa
  · have hkx : k ∣ x := Nat.dvd_trans ⟨2, by omega⟩ hx
    have h1 := h' x hkx (by omega) h2
    rw [show min (x + 2 * k) n = min (x + k) n by omega]
    exact h1
theorem runs_all {k n : Nat} {d : Array α} (h : Runs lt k n 0 n d) (hn : n ≤ k) : SortedIn lt 0 n d := by
  rcases Nat.eq_zero_or_pos n with rfl | hp
  · intro i j _ _ hj; omega
  · have h1 := h 0 (Nat.dvd_zero k) (Nat.le_refl _) hp
    rw [show min (0 + k) n = n by omega] at h1
    exact h1
end Go.Proofs.YtkdbjocchponfaaGreatDoor
