/-
  The library's sort over a value with methods: the functions that only compare: order2, median, medianAdjacent, choosePivot.
  The library's sort over a value with methods: partitionEqual, partition.
  (No condition beyond those that each theorem states.)
-/
import Derived.Test.YthmhnknkidkdlaaGreatDoorB14
import Derived.Shelf.GgSortFunc.LotD
import Derived.Sort.Walk11
import Derived.Sort.LotD4
import Derived.Sort.LotD1
import Derived.Deep.RegionWith
import Derived.Shelf.GgSortFunc.Partition
import Derived.Sort.WalkC
import Derived.Sort.WalkC4
namespace Go.Proofs.YthmhnknkidkdlaaGreatDoor
open Go.RowKit Go.Sort Go.Lib
section
variable {α : Type} [Inhabited α] {T : TypeId} {rv : Value} {gl gs : Nat} {lt : α → α → Bool} {N B : Nat} {At : Array α → World → Prop}

/-- A counter of comparisons that went against the order: block cb holds s. -/
def Cnt (cb s : Nat) (w : World) : Prop := Blk w cb 3 #[.int .i64 s]
theorem Cnt.one {cb s : Nat} {w : World} (h : Cnt cb s w) (q : Nat) : (w.drewN q).cell? ⟨cb, 0, none⟩ = some (.int .i64 s) ∧ (w.drewN q).frozen? ⟨cb, 0, none⟩ = false :=
  ⟨by rw [World.cell?_drewN]; exact (Blk.cell h 0), by rw [World.frozen?_drewN]; exact Blk.frozen h 0⟩

set_option maxHeartbeats 1000000 in
set_option maxRecDepth 100000 in
theorem order2_srt (S : Srt T rv gl gs lt N B At) (a b cb s : Nat) (d : Array α) (w : World) (hA : At d w) (hC : Cnt cb s w) (hcb : B ≤ cb) (ha : a < N) (hb : b < N) (hs : s < 4611686018427387904) :
    Calls Tryz.prog 230 #[.iface T rv, .int .i64 a, .int .i64 b, .pointer (some ⟨cb, 0, none⟩)] w fun e w' =>
      e = .returned (.tuple #[.int .i64 (order2 lt d a b s).1, .int .i64 (order2 lt d a b s).2.1]) ∧ At d w' ∧ Cnt cb (order2 lt d a b s).2.2 w' := by
  have mL := S.mLess; have eL := S.eLess
  have HC := Lib.hid (fun q => hC.one q)
  have HD : Hid (∀ q, At d (w.drewN q) ∧ At d ((w.drewN q).setCell ⟨cb, 0, none⟩ (.int .i64 ((s : Int) + 1)))) := fun q =>
    ⟨S.fresh hA ((Off.refl [] w).drewN q) (fun x hx => by simp at hx), S.fresh hA (((Off.refl [cb] w).drewN q).setCell (p := ⟨cb, 0, none⟩) (Or.inl (List.mem_singleton.2 rfl)) _) (fun x hx => by simp at hx; omega)⟩
  have HB : Hid (∀ q, Cnt cb s (w.drewN q) ∧ Cnt cb (s + 1) ((w.drewN q).setCell ⟨cb, 0, none⟩ (.int .i64 ((s : Int) + 1)))) := fun q =>
    ⟨Blk.drewN hC q, Blk.eq ((Blk.drewN hC q).fill1) (by rw [show ((s + 1 : Nat) : Int) = (s : Int) + 1 by omega])⟩
  have hl := S.less b a hA hb ha
  have c0 := (hC.one 0).1; have f0 := (hC.one 0).2
  rw [World.drewN_zero] at c0 f0
  clear hC hA
  go_enter Tryz.func230, Tryz.ntmps230
  cases hlv : lt d[b]! d[a]! with
  | true =>
    rw [hlv] at hl
    have e2 : order2 lt d a b s = (b, a, s + 1) := by simp [order2, hlv]
    go_wp2_with (go_at_fn gl; refine hl.mono ?_; rintro e w' ⟨rfl, q, rfl⟩)
    go_ret2
    rw [e2]
    exact ⟨rfl, (HD.out _).2, (HB.out _).2⟩
  | false =>
    rw [hlv] at hl
    have e2 : order2 lt d a b s = (a, b, s) := by simp [order2, hlv]
    go_wp2_with (go_at_fn gl; refine hl.mono ?_; rintro e w' ⟨rfl, q, rfl⟩)
    go_ret2
    rw [e2]
    exact ⟨rfl, (HD.out _).1, (HB.out _).1⟩

set_option maxHeartbeats 1000000 in
set_option maxRecDepth 100000 in
theorem median_srt (S : Srt T rv gl gs lt N B At) (a b c cb s : Nat) (d : Array α) (w : World) (hA : At d w) (hC : Cnt cb s w) (hcb : B ≤ cb) (ha : a < N) (hb : b < N) (hc : c < N) (hs : s + 3 < 4611686018427387904) :
    Calls Tryz.prog 214 #[.iface T rv, .int .i64 a, .int .i64 b, .int .i64 c, .pointer (some ⟨cb, 0, none⟩)] w fun e w' =>
      e = .returned (.int .i64 (median lt d a b c s).1) ∧ At d w' ∧ Cnt cb (median lt d a b c s).2 w' := by
  have l1 := order2_lt' lt d s ha hb
  have s1 := order2_swaps' lt d a b s
  have l2 := order2_lt' lt d (order2 lt d a b s).2.2 l1.2 hc
  have s2 := order2_swaps' lt d (order2 lt d a b s).2.1 c (order2 lt d a b s).2.2
  have step0 := order2_srt S a b cb s d w hA hC hcb ha hb (by omega)
  have STEP : Hid (∀ (W : World) (t a' b' : Nat), At d W → Cnt cb t W → a' < N → b' < N → t < 4611686018427387904 → _) := Lib.hid fun W t a' b' h1 h2 h3 h4 h5 => order2_srt S a' b' cb t d W h1 h2 hcb h3 h4 h5
  clear hA hC
  go_enter Tryz.func214, Tryz.ntmps214
  go_wp2_with (go_at_call_of 230 (Value.int .i64 (b : Int)); refine step0.mono ?_; rintro e w1 ⟨rfl, hA1, hC1⟩)
  have step1 := STEP.out w1 _ _ c hA1 hC1 l1.2 hc (by omega)
  go_wp2_with (go_at_call_of 230 (Value.int .i64 (c : Int)); refine step1.mono ?_; rintro e w2 ⟨rfl, hA2, hC2⟩)
  have step2 := STEP.out w2 _ _ _ hA2 hC2 l1.1 l2.1 (by omega)
  go_wp2_with (go_at_call_of 230 (Value.int .i64 ((order2 lt d a b s).1 : Int)); refine step2.mono ?_; rintro e w3 ⟨rfl, hA3, hC3⟩)
  go_ret
  exact ⟨rfl, hA3, hC3⟩

set_option maxHeartbeats 1000000 in
set_option maxRecDepth 100000 in
theorem medianAdjacent_srt (S : Srt T rv gl gs lt N B At) (a cb s : Nat) (d : Array α) (w : World) (hA : At d w) (hC : Cnt cb s w) (hcb : B ≤ cb) (ha1 : 1 ≤ a) (ha2 : a + 1 < N) (hN : N < 4611686018427387904) (hs : s + 3 < 4611686018427387904) :
    Calls Tryz.prog 213 #[.iface T rv, .int .i64 a, .pointer (some ⟨cb, 0, none⟩)] w fun e w' =>
      e = .returned (.int .i64 (medianAdjacent lt d a s).1) ∧ At d w' ∧ Cnt cb (medianAdjacent lt d a s).2 w' := by
  have hm := median_srt S (a - 1) a (a + 1) cb s d w hA hC hcb (by omega) (by omega) ha2 hs
  rw [show ((a - 1 : Nat) : Int) = (a : Int) - 1 by omega, show ((a + 1 : Nat) : Int) = (a : Int) + 1 by omega] at hm
  clear hA hC
  go_enter Tryz.func213, Tryz.ntmps213
  go_wp2_with (go_at_call 214; refine hm.mono ?_; rintro e w1 ⟨rfl, hA1, hC1⟩)
  go_ret
  exact ⟨rfl, hA1, hC1⟩

set_option maxHeartbeats 2000000 in
set_option maxRecDepth 100000 in
theorem choosePivot_srt (S : Srt T rv gl gs lt N B At) (a b : Nat) (d : Array α) (w : World) (hA : At d w) (hab : a < b) (hb : b ≤ N) (hN : N < 4611686018427387904) :
    Calls Tryz.prog 195 #[.iface T rv, .int .i64 a, .int .i64 b] w fun e w' =>
      e = .returned (.tuple #[.int .i64 (choosePivot lt d a b).1, .int .i64 (hintCode (choosePivot lt d a b).2)]) ∧ At d w' := by
  have hroom := S.room hA
  have hA0 : At d (w.alloc (.cells #[.int .i64 0] 3)) := S.fresh hA (Off.alloc (Off.refl [] w) _) (fun x hx => by simp at hx)
  have hC0 : Cnt w.heap.size 0 (w.alloc (.cells #[.int .i64 0] 3)) := Blk.new' _ _ _ rfl
  have MA : ∀ (W : World) (x s : Nat), At d W → Cnt w.heap.size s W → 1 ≤ x → x + 1 < N → s + 3 < 4611686018427387904 → Calls Tryz.prog 213 #[.iface T rv, .int .i64 x, .pointer (some ⟨w.heap.size, 0, none⟩)] W fun e w' => e = .returned (.int .i64 (medianAdjacent lt d x s).1) ∧ At d w' ∧ Cnt w.heap.size (medianAdjacent lt d x s).2 w' :=
    fun W x s h1 h2 h3 h4 h5 => medianAdjacent_srt S x w.heap.size s d W h1 h2 hroom h3 h4 hN h5
  have MD : ∀ (W : World) (x y z s : Nat), At d W → Cnt w.heap.size s W → x < N → y < N → z < N → s + 3 < 4611686018427387904 → Calls Tryz.prog 214 #[.iface T rv, .int .i64 x, .int .i64 y, .int .i64 z, .pointer (some ⟨w.heap.size, 0, none⟩)] W fun e w' => e = .returned (.int .i64 (median lt d x y z s).1) ∧ At d w' ∧ Cnt w.heap.size (median lt d x y z s).2 w' :=
    fun W x y z s h1 h2 h3 h4 h5 h6 => median_srt S x y z w.heap.size s d W h1 h2 hroom h3 h4 h5 h6
  have HA0 := Lib.hid hA0
  have HC0 := Lib.hid hC0
  clear hA0 hC0 hA
  rw [choosePivot_eq]
  obtain ⟨I, hI⟩ : ∃ I : Nat, I = a + (b - a) / 4 * 1 := ⟨_, rfl⟩
  obtain ⟨J, hJ⟩ : ∃ J : Nat, J = a + (b - a) / 4 * 2 := ⟨_, rfl⟩
  obtain ⟨K, hK⟩ : ∃ K : Nat, K = a + (b - a) / 4 * 3 := ⟨_, rfl⟩
  have eI : ((a : Int) + ((b : Int) - (a : Int)) / 4) = (I : Int) := by omega
  have eJ : ((a : Int) + ((b : Int) - (a : Int)) / 4 * 2) = (J : Int) := by omega
  have eK : ((a : Int) + ((b : Int) - (a : Int)) / 4 * 3) = (K : Int) := by omega
  by_cases h8 : b - a ≥ 8
  · by_cases h50 : b - a ≥ 50
    · obtain ⟨i1, s1, h1⟩ : ∃ i1 s1, medianAdjacent lt d I 0 = (i1, s1) := ⟨_, _, rfl⟩
      obtain ⟨j1, s2, h2⟩ : ∃ j1 s2, medianAdjacent lt d J s1 = (j1, s2) := ⟨_, _, rfl⟩
      obtain ⟨k1, s3, h3⟩ : ∃ k1 s3, medianAdjacent lt d K s2 = (k1, s3) := ⟨_, _, rfl⟩
      obtain ⟨p, s, h4⟩ : ∃ p s, median lt d i1 j1 k1 s3 = (p, s) := ⟨_, _, rfl⟩
      have hraw : rawPivot lt d a b = (p, s) := by simp only [rawPivot, if_pos h8, if_pos h50, ← hI, ← hJ, ← hK, h1, h2, h3, h4]
      have m1 := medianAdjacent_mem lt d I 0; rw [h1] at m1
      have m2 := medianAdjacent_mem lt d J s1; rw [h2] at m2
      have m3 := medianAdjacent_mem lt d K s2; rw [h3] at m3
      have n1 := medianAdjacent_count lt d I 0; rw [h1] at n1
      have n2 := medianAdjacent_count lt d J s1; rw [h2] at n2
      have n3 := medianAdjacent_count lt d K s2; rw [h3] at n3
      simp only [] at m1 m2 m3 n1 n2 n3
      have c1 := MA _ I 0 HA0.out HC0.out (by omega) (by omega) (by omega)
      rw [h1] at c1
      have c2 : ∀ W, At d W → Cnt w.heap.size s1 W → Calls Tryz.prog 213 #[.iface T rv, .int .i64 (J : Int), .pointer (some ⟨w.heap.size, 0, none⟩)] W fun e w' => e = .returned (.int .i64 (j1 : Int)) ∧ At d w' ∧ Cnt w.heap.size s2 w' := fun W x1 x2 => by
        have h := MA W J s1 x1 x2 (by omega) (by omega) (by omega); rw [h2] at h; exact h
      have c3 : ∀ W, At d W → Cnt w.heap.size s2 W → Calls Tryz.prog 213 #[.iface T rv, .int .i64 (K : Int), .pointer (some ⟨w.heap.size, 0, none⟩)] W fun e w' => e = .returned (.int .i64 (k1 : Int)) ∧ At d w' ∧ Cnt w.heap.size s3 w' := fun W x1 x2 => by
        have h := MA W K s2 x1 x2 (by omega) (by omega) (by omega); rw [h3] at h; exact h
      have c4 : ∀ W, At d W → Cnt w.heap.size s3 W → Calls Tryz.prog 214 #[.iface T rv, .int .i64 (i1 : Int), .int .i64 (j1 : Int), .int .i64 (k1 : Int), .pointer (some ⟨w.heap.size, 0, none⟩)] W fun e w' => e = .returned (.int .i64 (p : Int)) ∧ At d w' ∧ Cnt w.heap.size s w' := fun W x1 x2 => by
        have h := MD W i1 j1 k1 s3 x1 x2 (by omega) (by omega) (by omega) (by omega); rw [h4] at h; exact h
      have H2 := Lib.hid c2; have H3 := Lib.hid c3; have H4 := Lib.hid c4
      clear c2 c3 c4
      rw [hraw]
      obtain ⟨Hc, hHc⟩ : ∃ Hc : Int, Hc = hintCode (hintOf s) := ⟨_, rfl⟩
      have hh0 : Hid (s = 0 → Hc = 1) := fun h => by rw [hHc, h]; rfl
      have hh12 : Hid (s = 12 → Hc = 2) := fun h => by rw [hHc, h]; rfl
      have hhx : Hid (s ≠ 0 → s ≠ 12 → Hc = 0) := fun h1 h2 => by rw [hHc]; unfold hintOf; rw [if_neg h1, if_neg h2]; rfl
      show Calls Tryz.prog 195 _ w fun e w' => e = .returned (.tuple #[.int .i64 (p : Int), .int .i64 (hintCode (hintOf s))]) ∧ At d w'
      rw [← hHc]
      clear hHc hraw
      clear h1 h2 h3 h4 MA MD hI hJ hK m1 m2 m3
      go_enter Tryz.func195, Tryz.ntmps195
      go_wp2_with (first
        | (go_at_call_of 213 (Value.int .i64 (I : Int)); refine c1.mono ?_; rintro e w1 ⟨rfl, hA1, hC1⟩)
        | (go_at_call_of 213 (Value.int .i64 (J : Int)); refine (H2.out _ hA1 hC1).mono ?_; rintro e w2 ⟨rfl, hA2, hC2⟩)
        | (go_at_call_of 213 (Value.int .i64 (K : Int)); refine (H3.out _ hA2 hC2).mono ?_; rintro e w3 ⟨rfl, hA3, hC3⟩)
        | (go_at_call 214; refine (H4.out _ hA3 hC3).mono ?_; rintro e w4 ⟨rfl, hA4, hC4⟩; have cS : w4.cell? ⟨w.heap.size, 0, none⟩ = some (.int .i64 s) := hC4.cell 0))
      all_goals
        go_ret2
        refine ⟨?_, hA4⟩
        first
          | (have e0 : (s : Int) = 0 := of_beq_int (by assumption)
             rw [hh0.out (by omega)]; rfl)
          | (have e1 : (s : Int) = 12 := of_beq_int (by assumption)
             rw [hh12.out (by omega)]; rfl)
          | (have e0 : (s : Int) ≠ 0 := of_bne_int (by assumption)
             have e1 : (s : Int) ≠ 12 := of_bne_int (by assumption)
             rw [hhx.out (by omega) (by omega)]; rfl)
          | (rw [hh0.out (by omega)]; rfl)
    · obtain ⟨p, s, h4⟩ : ∃ p s, median lt d I J K 0 = (p, s) := ⟨_, _, rfl⟩
      have hraw : rawPivot lt d a b = (p, s) := by simp only [rawPivot, if_pos h8, if_neg h50, ← hI, ← hJ, ← hK, h4]
      have c4 := MD _ I J K 0 HA0.out HC0.out (by omega) (by omega) (by omega) (by omega)
      rw [h4] at c4
      rw [hraw]
      obtain ⟨Hc, hHc⟩ : ∃ Hc : Int, Hc = hintCode (hintOf s) := ⟨_, rfl⟩
      have hh0 : Hid (s = 0 → Hc = 1) := fun h => by rw [hHc, h]; rfl
      have hh12 : Hid (s = 12 → Hc = 2) := fun h => by rw [hHc, h]; rfl
      have hhx : Hid (s ≠ 0 → s ≠ 12 → Hc = 0) := fun h1 h2 => by rw [hHc]; unfold hintOf; rw [if_neg h1, if_neg h2]; rfl
      show Calls Tryz.prog 195 _ w fun e w' => e = .returned (.tuple #[.int .i64 (p : Int), .int .i64 (hintCode (hintOf s))]) ∧ At d w'
      rw [← hHc]
      clear hHc hraw
      clear h4 MA MD hI hJ hK
      go_enter Tryz.func195, Tryz.ntmps195
      go_wp2_with (first | (go_at_call 214; refine c4.mono ?_; rintro e w4 ⟨rfl, hA4, hC4⟩; have cS : w4.cell? ⟨w.heap.size, 0, none⟩ = some (.int .i64 s) := hC4.cell 0))
      all_goals
        go_ret2
        refine ⟨?_, hA4⟩
        first
          | (have e0 : (s : Int) = 0 := of_beq_int (by assumption)
             rw [hh0.out (by omega)]; rfl)
          | (have e1 : (s : Int) = 12 := of_beq_int (by assumption)
             rw [hh12.out (by omega)]; rfl)
          | (have e0 : (s : Int) ≠ 0 := of_bne_int (by assumption)
             have e1 : (s : Int) ≠ 12 := of_bne_int (by assumption)
             rw [hhx.out (by omega) (by omega)]; rfl)
          | (rw [hh0.out (by omega)]; rfl)
  · have hraw : rawPivot lt d a b = (J, 0) := by simp only [rawPivot, if_neg h8, ← hJ]
    rw [hraw]
    clear hraw MA MD hI hJ hK
    go_enter Tryz.func195, Tryz.ntmps195
    go_wp2
    go_ret2
    exact ⟨rfl, HA0.out⟩
end
end Go.Proofs.YthmhnknkidkdlaaGreatDoor
namespace Go.Proofs.YthmhnknkidkdlaaGreatDoor
open Go.RowKit Go.Sort Go.Lib
section
variable {α : Type} [Inhabited α] {T : TypeId} {rv : Value} {gl gs : Nat} {lt : α → α → Bool} {N B : Nat} {At : Array α → World → Prop}

set_option maxHeartbeats 12800000 in
set_option maxRecDepth 100000 in
theorem partitionEqual_srt (S : Srt T rv gl gs lt N B At) (a b pivot : Nat) (d : Array α) (w : World) (hA : At d w) (hap : a ≤ pivot) (hpb : pivot < b) (hb : b ≤ N) (hN : N < 4611686018427387904) :
    Calls Tryz.prog 198 #[.iface T rv, .int .i64 a, .int .i64 b, .int .i64 pivot] w fun e w' => e = .returned (.int .i64 (partitionEqual lt d a b pivot).1) ∧ At (partitionEqual lt d a b pivot).2 w' := by
  have mL := S.mLess; have mS := S.mSwap; have eL := S.eLess; have eS := S.eSwap
  have hs0 := S.swapD hA a pivot (by omega) (by omega) rfl rfl w (Drew.refl _)
  clear hA
  go_enter Tryz.func198, Tryz.ntmps198
  go_wp2_with (go_at_fn gs; refine hs0.mono ?_; rintro e w' ⟨rfl, hA, _⟩)
  go_loopw [9, 10] (fun vi vj wr => ∃ (i j : Nat) (dk : Array α), vi = .int .i64 i ∧ vj = .int .i64 j ∧ a < i ∧ i ≤ j + 1 ∧ j < b ∧ At dk wr ∧
      Hid (partEqLoop lt a i j dk = partEqLoop lt a (a + 1) (b - 1) (swp d a pivot)))
    (fun vi vj _ => (intOf vj).toNat + 1 - (intOf vi).toNat)
  case atStart => exact ⟨a + 1, b - 1, swp d a pivot, by go_num, by go_num, by omega, by omega, by omega, hA, rfl⟩
  case round =>
    clear hA hs0
    obtain ⟨i, j, dk, rfl, rfl, hai, hij, hjb, hA, AE⟩ := hrel
    go_wp2
    go_loopw [9] (fun vi w1 => ∃ (i' : Nat), vi = .int .i64 i' ∧ i ≤ i' ∧ i' ≤ j + 1 ∧ At dk w1 ∧
        Hid (scanUp (fun x => !lt dk[a]! x) dk j i' = scanUp (fun x => !lt dk[a]! x) dk j i))
      (fun vi _ => j + 1 - (intOf vi).toNat)
    case atStart => exact ⟨i, rfl, Nat.le_refl _, hij, hA, rfl⟩
    case round =>
      clear hA
      obtain ⟨i', rfl, hii, hij', hA, hsc⟩ := hrel
      by_cases hle : i' ≤ j
      · cases hlv : lt dk[a]! dk[i']! with
        | false =>
          have hl := S.lessD hA a i' (by omega) (by omega) hlv rfl rfl _ (Drew.refl _)
          go_wp2_with (go_at_fn gl; refine hl.mono ?_; rintro e w' ⟨rfl, hD⟩)
          go_roundw
          case rel => exact ⟨i' + 1, by go_num, by omega, by omega, S.drew hA hD, (scanUp_go (fun x => !lt dk[a]! x) dk j i' hle (by simp [hlv])).symm.trans hsc.out⟩
          case measure => simp [intOf]; omega
        | true =>
          have hl := S.lessD hA a i' (by omega) (by omega) hlv rfl rfl _ (Drew.refl _)
          have hi2 : Hid (i' = scanUp (fun x => !lt dk[a]! x) dk j i) := (scanUp_end (fun x => !lt dk[a]! x) dk j i' (Or.inr (by simp [hlv]))).symm.trans hsc.out
          go_wp2_with (go_at_fn gl; refine hl.mono ?_; rintro e w' ⟨rfl, hD⟩)
          have hA1 := S.drew hA hD
          clear hA hsc hl
          go_loopw [10] (fun vj w2 => ∃ (j' : Nat), vj = .int .i64 j' ∧ j' ≤ j ∧ i' ≤ j' + 1 ∧ At dk w2 ∧
              Hid (scanDown (fun x => lt dk[a]! x) dk i' j' = scanDown (fun x => lt dk[a]! x) dk i' j))
            (fun vj _ => (intOf vj).toNat)
          case atStart => exact ⟨j, rfl, Nat.le_refl _, hij', hA1, rfl⟩
          case round =>
            clear hA1
            obtain ⟨j', rfl, hjj, hij2, hA, hsd⟩ := hrel
            by_cases hle2 : i' ≤ j'
            · cases hlv2 : lt dk[a]! dk[j']! with
              | true =>
                have hl := S.lessD hA a j' (by omega) (by omega) hlv2 rfl rfl _ (Drew.refl _)
                go_wp2_with (go_at_fn gl; refine hl.mono ?_; rintro e w' ⟨rfl, hD⟩)
                go_roundw
                case rel => exact ⟨j' - 1, by go_num, by omega, by omega, S.drew hA hD, (scanDown_go (fun x => lt dk[a]! x) dk i' j' hle2 (by omega) hlv2).symm.trans hsd.out⟩
                case measure => simp [intOf]; omega
              | false =>
                have hl := S.lessD hA a j' (by omega) (by omega) hlv2 rfl rfl _ (Drew.refl _)
                have hj2 : Hid (j' = scanDown (fun x => lt dk[a]! x) dk i' j) := (scanDown_end (fun x => lt dk[a]! x) dk i' j' (Or.inr hlv2)).symm.trans hsd.out
                have hlt3 := scans_lt lt a i j dk (by omega) hi2.out hj2.out hle2
                have hsw := S.swapD hA i' j' (by omega) (by omega) rfl rfl
                clear hsd hA
                go_wp2_with (first | (go_at_fn gl; refine hl.mono ?_; rintro e w' ⟨rfl, hD⟩) | (go_at_fn gs; refine (hsw _ hD).mono ?_; rintro e w' ⟨rfl, hA, _⟩))
                go_roundw
                case rel => exact ⟨i' + 1, j' - 1, swp dk i' j', by go_num, by go_num, by omega, by omega, by omega, hA, by show _ = _; rw [← AE.out]; exact (partEq_go lt a i j dk hi2.out hj2.out (by omega)).symm⟩
                case measure => simp [intOf]; omega
            · have hj2 : Hid (j' = scanDown (fun x => lt dk[a]! x) dk i' j) := (scanDown_end (fun x => lt dk[a]! x) dk i' j' (Or.inl hle2)).symm.trans hsd.out
              go_wp2
              go_ret
              have e := partEq_break lt a i j dk hi2.out hj2.out (by omega)
              unfold partitionEqual
              rw [← AE.out, e]
              exact ⟨rfl, hA⟩
      · have hi2 : Hid (i' = scanUp (fun x => !lt dk[a]! x) dk j i) := (scanUp_end (fun x => !lt dk[a]! x) dk j i' (Or.inl hle)).symm.trans hsc.out
        clear hsc
        go_wp2
        go_loopw [10] (fun vj w2 => ∃ (j' : Nat), vj = .int .i64 j' ∧ j' ≤ j ∧ i' ≤ j' + 1 ∧ At dk w2 ∧
            Hid (scanDown (fun x => lt dk[a]! x) dk i' j' = scanDown (fun x => lt dk[a]! x) dk i' j))
          (fun vj _ => (intOf vj).toNat)
        case atStart => exact ⟨j, rfl, Nat.le_refl _, hij', hA, rfl⟩
        case round =>
          clear hA
          obtain ⟨j', rfl, hjj, hij2, hA, hsd⟩ := hrel
          by_cases hle2 : i' ≤ j'
          · exfalso; omega
          · have hj2 : Hid (j' = scanDown (fun x => lt dk[a]! x) dk i' j) := (scanDown_end (fun x => lt dk[a]! x) dk i' j' (Or.inl hle2)).symm.trans hsd.out
            go_wp2
            go_ret
            have e := partEq_break lt a i j dk hi2.out hj2.out (by omega)
            unfold partitionEqual
            rw [← AE.out, e]
            exact ⟨rfl, hA⟩

set_option maxHeartbeats 12800000 in
set_option maxRecDepth 100000 in
theorem partition_srt (S : Srt T rv gl gs lt N B At) (a b pivot : Nat) (d : Array α) (w : World) (hA : At d w) (hap : a ≤ pivot) (hpb : pivot < b) (hb : b ≤ N) (hN : N < 4611686018427387904) :
    Calls Tryz.prog 199 #[.iface T rv, .int .i64 a, .int .i64 b, .int .i64 pivot] w fun e w' =>
      e = .returned (.tuple #[.int .i64 (partition lt d a b pivot).1, .bool (partition lt d a b pivot).2.1]) ∧ At (partition lt d a b pivot).2.2 w' := by
  have mL := S.mLess; have mS := S.mSwap; have eL := S.eLess; have eS := S.eSwap
  have hs0 := S.swapD hA a pivot (by omega) (by omega) rfl rfl w (Drew.refl _)
  clear hA
  obtain ⟨i, hi⟩ : ∃ i : Nat, i = a + 1 := ⟨_, rfl⟩
  obtain ⟨j, hj⟩ : ∃ j : Nat, j = b - 1 := ⟨_, rfl⟩
  obtain ⟨dk, hdk⟩ : ∃ dk : Array α, dk = swp d a pivot := ⟨_, rfl⟩
  have hai : a < i := by omega
  have hij : i ≤ j + 1 := by omega
  have hjb : j < b := by omega
  rw [← hdk] at hs0
  have Hi : Hid (i = a + 1) := hi
  have Hj : Hid (j = b - 1) := hj
  have Hdk : Hid (dk = swp d a pivot) := hdk
  clear hi hj hdk
  go_enter Tryz.func199, Tryz.ntmps199
  go_wp2_with (go_at_fn gs; refine hs0.mono ?_; rintro e W1 ⟨rfl, hA, _⟩)
  rw [show ((a : Int) + 1) = (i : Int) by have := Hi.out; omega, show ((b : Int) - 1) = (j : Int) by have := Hj.out; omega]
  clear hs0
  go_loopw [10] (fun vi w1 => ∃ (i' : Nat), vi = .int .i64 i' ∧ i ≤ i' ∧ i' ≤ j + 1 ∧ At dk w1 ∧
      Hid (scanUp (fun x => lt x dk[a]!) dk j i' = scanUp (fun x => lt x dk[a]!) dk j i))
    (fun vi _ => j + 1 - (intOf vi).toNat)
  case atStart => exact ⟨i, rfl, Nat.le_refl _, hij, hA, rfl⟩
  case round =>
    clear hA
    obtain ⟨i', rfl, hii, hij', hA, hsc⟩ := hrel
    by_cases hle : i' ≤ j
    · cases hlv : lt dk[i']! dk[a]! with
      | true =>
        have hl := S.lessD hA i' a (by omega) (by omega) hlv rfl rfl _ (Drew.refl _)
        go_wp2_with (go_at_fn gl; refine hl.mono ?_; rintro e w' ⟨rfl, hD⟩)
        go_roundw
        case rel => exact ⟨i' + 1, by go_num, by omega, by omega, S.drew hA hD, (scanUp_go (fun x => lt x dk[a]!) dk j i' hle hlv).symm.trans hsc.out⟩
        case measure => simp [intOf]; omega
      | false =>
        have hl := S.lessD hA i' a (by omega) (by omega) hlv rfl rfl _ (Drew.refl _)
        have hi2 : Hid (i' = scanUp (fun x => lt x dk[a]!) dk j i) := (scanUp_end (fun x => lt x dk[a]!) dk j i' (Or.inr hlv)).symm.trans hsc.out
        go_wp2_with (go_at_fn gl; refine hl.mono ?_; rintro e w' ⟨rfl, hD⟩)
        have hA1 := S.drew hA hD
        clear hA hsc hl
        go_loopw [11] (fun vj w2 => ∃ (j' : Nat), vj = .int .i64 j' ∧ j' ≤ j ∧ i' ≤ j' + 1 ∧ At dk w2 ∧
            Hid (scanDown (fun x => !lt x dk[a]!) dk i' j' = scanDown (fun x => !lt x dk[a]!) dk i' j))
          (fun vj _ => (intOf vj).toNat)
        case atStart => exact ⟨j, rfl, Nat.le_refl _, hij', hA1, rfl⟩
        case round =>
          clear hA1
          obtain ⟨j', rfl, hjj, hij2, hA, hsd⟩ := hrel
          by_cases hle2 : i' ≤ j'
          · cases hlv2 : lt dk[j']! dk[a]! with
            | false =>
              have hl := S.lessD hA j' a (by omega) (by omega) hlv2 rfl rfl _ (Drew.refl _)
              go_wp2_with (go_at_fn gl; refine hl.mono ?_; rintro e w' ⟨rfl, hD⟩)
              go_roundw
              case rel => exact ⟨j' - 1, by go_num, by omega, by omega, S.drew hA hD, (scanDown_go (fun x => !lt x dk[a]!) dk i' j' hle2 (by omega) (by simp [hlv2])).symm.trans hsd.out⟩
              case measure => simp [intOf]; omega
            | true =>
              have hl := S.lessD hA j' a (by omega) (by omega) hlv2 rfl rfl _ (Drew.refl _)
              have hj2 : Hid (j' = scanDown (fun x => !lt x dk[a]!) dk i' j) := (scanDown_end (fun x => !lt x dk[a]!) dk i' j' (Or.inr (by simp [hlv2]))).symm.trans hsd.out
              have hlt3 := part_scans_lt lt a i j dk (by omega) hi2.out hj2.out hle2
              have hsw := S.swapD hA i' j' (by omega) (by omega) rfl rfl
              clear hsd hA
              go_wp2_with (first | (go_at_fn gl; refine hl.mono ?_; rintro e w' ⟨rfl, hD⟩) | (go_at_fn gs; refine (hsw _ hD).mono ?_; rintro e w' ⟨rfl, hA, _⟩))
              (try rw [decide_eq_false (show ¬ j' < i' by omega)])
              obtain ⟨I0, hI0⟩ : ∃ I0 : Nat, I0 = i' + 1 := ⟨_, rfl⟩
              obtain ⟨J0, hJ0⟩ : ∃ J0 : Nat, J0 = j' - 1 := ⟨_, rfl⟩
              obtain ⟨D0, hD0⟩ : ∃ D0 : Array α, D0 = swp dk i' j' := ⟨_, rfl⟩
              have PF : Hid (partition lt d a b pivot = ((partLoop lt a I0 J0 D0).1, false, swp (partLoop lt a I0 J0 D0).2 (partLoop lt a I0 J0 D0).1 a)) := by
                show _ = _
                rw [hI0, hJ0, hD0]; exact part_first_go lt d a b pivot Hi.out Hj.out Hdk.out hi2.out hj2.out (by omega)
              go_loopw [10, 11] (fun vi vj wr => ∃ (i j : Nat) (dk : Array α), vi = .int .i64 i ∧ vj = .int .i64 j ∧ a < i ∧ i ≤ j + 1 ∧ j < b ∧ At dk wr ∧
                  Hid (partLoop lt a i j dk = partLoop lt a I0 J0 D0))
                (fun vi vj _ => (intOf vj).toNat + 1 - (intOf vi).toNat)
              case atStart => exact ⟨i' + 1, j' - 1, swp dk i' j', by go_num, by go_num, by omega, by omega, by omega, hA, by show _ = _; rw [hI0, hJ0, hD0]⟩
              case round =>
                clear hI0 hJ0 hD0 hsw hj2 hi2 hlt3 hl Hi Hj Hdk hA
                obtain ⟨i, j, dk, rfl, rfl, hai, hij, hjb, hA, AE⟩ := hrel
                go_wp2
                go_loopw [10] (fun vi w1 => ∃ (i' : Nat), vi = .int .i64 i' ∧ i ≤ i' ∧ i' ≤ j + 1 ∧ At dk w1 ∧
                    Hid (scanUp (fun x => lt x dk[a]!) dk j i' = scanUp (fun x => lt x dk[a]!) dk j i))
                  (fun vi _ => j + 1 - (intOf vi).toNat)
                case atStart => exact ⟨i, rfl, Nat.le_refl _, hij, hA, rfl⟩
                case round =>
                  clear hA
                  obtain ⟨i', rfl, hii, hij', hA, hsc⟩ := hrel
                  by_cases hle : i' ≤ j
                  · cases hlv : lt dk[i']! dk[a]! with
                    | true =>
                      have hl := S.lessD hA i' a (by omega) (by omega) hlv rfl rfl _ (Drew.refl _)
                      go_wp2_with (go_at_fn gl; refine hl.mono ?_; rintro e w' ⟨rfl, hD⟩)
                      go_roundw
                      case rel => exact ⟨i' + 1, by go_num, by omega, by omega, S.drew hA hD, (scanUp_go (fun x => lt x dk[a]!) dk j i' hle hlv).symm.trans hsc.out⟩
                      case measure => simp [intOf]; omega
                    | false =>
                      have hl := S.lessD hA i' a (by omega) (by omega) hlv rfl rfl _ (Drew.refl _)
                      have hi2 : Hid (i' = scanUp (fun x => lt x dk[a]!) dk j i) := (scanUp_end (fun x => lt x dk[a]!) dk j i' (Or.inr hlv)).symm.trans hsc.out
                      go_wp2_with (go_at_fn gl; refine hl.mono ?_; rintro e w' ⟨rfl, hD⟩)
                      have hA1 := S.drew hA hD
                      clear hA hsc hl
                      go_loopw [11] (fun vj w2 => ∃ (j' : Nat), vj = .int .i64 j' ∧ j' ≤ j ∧ i' ≤ j' + 1 ∧ At dk w2 ∧
                          Hid (scanDown (fun x => !lt x dk[a]!) dk i' j' = scanDown (fun x => !lt x dk[a]!) dk i' j))
                        (fun vj _ => (intOf vj).toNat)
                      case atStart => exact ⟨j, rfl, Nat.le_refl _, hij', hA1, rfl⟩
                      case round =>
                        clear hA1
                        obtain ⟨j', rfl, hjj, hij2, hA, hsd⟩ := hrel
                        by_cases hle2 : i' ≤ j'
                        · cases hlv2 : lt dk[j']! dk[a]! with
                          | false =>
                            have hl := S.lessD hA j' a (by omega) (by omega) hlv2 rfl rfl _ (Drew.refl _)
                            go_wp2_with (go_at_fn gl; refine hl.mono ?_; rintro e w' ⟨rfl, hD⟩)
                            go_roundw
                            case rel => exact ⟨j' - 1, by go_num, by omega, by omega, S.drew hA hD, (scanDown_go (fun x => !lt x dk[a]!) dk i' j' hle2 (by omega) (by simp [hlv2])).symm.trans hsd.out⟩
                            case measure => simp [intOf]; omega
                          | true =>
                            have hl := S.lessD hA j' a (by omega) (by omega) hlv2 rfl rfl _ (Drew.refl _)
                            have hj2 : Hid (j' = scanDown (fun x => !lt x dk[a]!) dk i' j) := (scanDown_end (fun x => !lt x dk[a]!) dk i' j' (Or.inr (by simp [hlv2]))).symm.trans hsd.out
                            have hlt3 := part_scans_lt lt a i j dk (by omega) hi2.out hj2.out hle2
                            have hsw := S.swapD hA i' j' (by omega) (by omega) rfl rfl
                            clear hsd hA
                            go_wp2_with (first | (go_at_fn gl; refine hl.mono ?_; rintro e w' ⟨rfl, hD⟩) | (go_at_fn gs; refine (hsw _ hD).mono ?_; rintro e w' ⟨rfl, hA, _⟩))
                            go_roundw
                            case rel => exact ⟨i' + 1, j' - 1, swp dk i' j', by go_num, by go_num, by omega, by omega, by omega, hA, by show _ = _; rw [← AE.out]; exact (part_go lt a i j dk hi2.out hj2.out (by omega)).symm⟩
                            case measure => simp [intOf]; omega
                        · have hj2 : Hid (j' = scanDown (fun x => !lt x dk[a]!) dk i' j) := (scanDown_end (fun x => !lt x dk[a]!) dk i' j' (Or.inl hle2)).symm.trans hsd.out
                          have hsw := S.swapD hA j' a (by omega) (by omega) rfl rfl _ (Drew.refl _)
                          clear hsd hA
                          go_wp2_with (go_at_fn gs; refine hsw.mono ?_; rintro e w' ⟨rfl, hA, _⟩)
                          go_ret2
                          have e := part_break lt a i j dk hi2.out hj2.out (by omega)
                          rw [PF.out, ← AE.out, e]
                          exact ⟨rfl, hA⟩
                  · have hi2 : Hid (i' = scanUp (fun x => lt x dk[a]!) dk j i) := (scanUp_end (fun x => lt x dk[a]!) dk j i' (Or.inl hle)).symm.trans hsc.out
                    clear hsc
                    go_wp2
                    go_loopw [11] (fun vj w2 => ∃ (j' : Nat), vj = .int .i64 j' ∧ j' ≤ j ∧ i' ≤ j' + 1 ∧ At dk w2 ∧
                        Hid (scanDown (fun x => !lt x dk[a]!) dk i' j' = scanDown (fun x => !lt x dk[a]!) dk i' j))
                      (fun vj _ => (intOf vj).toNat)
                    case atStart => exact ⟨j, rfl, Nat.le_refl _, hij', hA, rfl⟩
                    case round =>
                      clear hA
                      obtain ⟨j', rfl, hjj, hij2, hA, hsd⟩ := hrel
                      by_cases hle2 : i' ≤ j'
                      · exfalso; omega
                      · have hj2 : Hid (j' = scanDown (fun x => !lt x dk[a]!) dk i' j) := (scanDown_end (fun x => !lt x dk[a]!) dk i' j' (Or.inl hle2)).symm.trans hsd.out
                        have hsw := S.swapD hA j' a (by omega) (by omega) rfl rfl _ (Drew.refl _)
                        clear hsd hA
                        go_wp2_with (go_at_fn gs; refine hsw.mono ?_; rintro e w' ⟨rfl, hA, _⟩)
                        go_ret2
                        have e := part_break lt a i j dk hi2.out hj2.out (by omega)
                        rw [PF.out, ← AE.out, e]
                        exact ⟨rfl, hA⟩
          · have hj2 : Hid (j' = scanDown (fun x => !lt x dk[a]!) dk i' j) := (scanDown_end (fun x => !lt x dk[a]!) dk i' j' (Or.inl hle2)).symm.trans hsd.out
            have hsw := S.swapD hA j' a (by omega) (by omega) rfl rfl _ (Drew.refl _)
            clear hsd hA
            go_wp2_with (go_at_fn gs; refine hsw.mono ?_; rintro e w' ⟨rfl, hA, _⟩)
            go_ret2
            have e := part_first_break lt d a b pivot Hi.out Hj.out Hdk.out hi2.out hj2.out (by omega)
            rw [e]
            exact ⟨rfl, hA⟩
    · have hi2 : Hid (i' = scanUp (fun x => lt x dk[a]!) dk j i) := (scanUp_end (fun x => lt x dk[a]!) dk j i' (Or.inl hle)).symm.trans hsc.out
      clear hsc
      go_wp2
      go_loopw [11] (fun vj w2 => ∃ (j' : Nat), vj = .int .i64 j' ∧ j' ≤ j ∧ i' ≤ j' + 1 ∧ At dk w2 ∧
          Hid (scanDown (fun x => !lt x dk[a]!) dk i' j' = scanDown (fun x => !lt x dk[a]!) dk i' j))
        (fun vj _ => (intOf vj).toNat)
      case atStart => exact ⟨j, rfl, Nat.le_refl _, hij', hA, rfl⟩
      case round =>
        clear hA
        obtain ⟨j', rfl, hjj, hij2, hA, hsd⟩ := hrel
        by_cases hle2 : i' ≤ j'
        · exfalso; omega
        · have hj2 : Hid (j' = scanDown (fun x => !lt x dk[a]!) dk i' j) := (scanDown_end (fun x => !lt x dk[a]!) dk i' j' (Or.inl hle2)).symm.trans hsd.out
          have hsw := S.swapD hA j' a (by omega) (by omega) rfl rfl _ (Drew.refl _)
          clear hsd hA
          go_wp2_with (go_at_fn gs; refine hsw.mono ?_; rintro e w' ⟨rfl, hA, _⟩)
          go_ret2
          have e := part_first_break lt d a b pivot Hi.out Hj.out Hdk.out hi2.out hj2.out (by omega)
          rw [e]
          exact ⟨rfl, hA⟩
end
end Go.Proofs.YthmhnknkidkdlaaGreatDoor
