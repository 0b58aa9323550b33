/-
  slices.Sort at uint32: order2, median, medianAdjacent, choosePivot.
  slices.Sort at uint32: the pattern breaker.
  slices.Sort at uint32, whole.
  slices.Sort at uint32: a list of numbers ends sorted.
  (No condition beyond those that each theorem states.)
-/
import Derived.Test.YtcgggcjmmphldaaGreatDoorHc1
import Derived.Shelf.GgSortFunc.LotD
import Derived.Sort.Walk11
import Derived.Sort.LotD4
import Derived.Sort.LotD1
import Derived.Deep.RegionWith
import Derived.Test.YtcgggcjmmphldaaGreatDoorHa2
import Derived.Sort.Walk7
import Derived.Sort.Walk7a
import Derived.Test.YtcgggcjmmphldaaGreatDoorHc2
import Derived.Test.YtcgggcjmmphldaaGreatDoorHc3
import Derived.Sort.Walk13
import Derived.Deep.Cut
namespace Go.Proofs.YtcgggcjmmphldaaGreatDoor.Ord32
open Go.RowKit Go.Sort Go.Lib
variable {g o N : Nat} {ty : TypeId} {w0 : World}

/-- A counter of comparisons that went against the order: block cb holds s. -/
def Cnt (cb s : Nat) (w : World) : Prop := Blk w cb 3 #[.int .i64 s]
theorem Cnt.one {cb s : Nat} {w : World} (h : Cnt cb s w) (q : Nat) : (w.drewN q).cell? ⟨cb, 0, none⟩ = some (.int .i64 s) ∧ (w.drewN q).frozen? ⟨cb, 0, none⟩ = false :=
  ⟨by rw [World.cell?_drewN]; exact (Blk.cell h 0), by rw [World.frozen?_drewN]; exact Blk.frozen h 0⟩

set_option maxHeartbeats 1000000 in
set_option maxRecDepth 100000 in
theorem order2_ord (cap a b cb s : Nat) (d : Array Int) (w : World) (hA : (OrdAt g o ty w0 N) d w) (hC : Cnt cb s w) (hcb : w0.heap.size ≤ cb) (ha : a < N) (hb : b < N) (hs : s < 4611686018427387904) :
    Calls Tryz.prog 271 #[.slice (some ⟨g, o, none⟩) N cap, .int .i64 a, .int .i64 b, .pointer (some ⟨cb, 0, none⟩)] w fun e w' =>
      e = .returned (.tuple #[.int .i64 (order2 ltInt d a b s).1, .int .i64 (order2 ltInt d a b s).2.1]) ∧ (OrdAt g o ty w0 N) d w' ∧ Cnt cb (order2 ltInt d a b s).2.2 w' := by
  have HC := Lib.hid (fun q => hC.one q)
  have HD : Hid (∀ q, (OrdAt g o ty w0 N) d (w.drewN q) ∧ (OrdAt g o ty w0 N) d ((w.drewN q).setCell ⟨cb, 0, none⟩ (.int .i64 ((s : Int) + 1)))) := fun q =>
    ⟨hA.fresh ((Off.refl [] w).drewN q) (fun x hx => by simp at hx), hA.fresh (((Off.refl [cb] w).drewN q).setCell (p := ⟨cb, 0, none⟩) (Or.inl (List.mem_singleton.2 rfl)) _) (fun x hx => by simp at hx; omega)⟩
  have HB : Hid (∀ q, Cnt cb s (w.drewN q) ∧ Cnt cb (s + 1) ((w.drewN q).setCell ⟨cb, 0, none⟩ (.int .i64 ((s : Int) + 1)))) := fun q =>
    ⟨Blk.drewN hC q, Blk.eq ((Blk.drewN hC q).fill1) (by rw [show ((s + 1 : Nat) : Int) = (s : Int) + 1 by omega])⟩
  have c0 := (hC.one 0).1; have f0 := (hC.one 0).2
  rw [World.drewN_zero] at c0 f0
  obtain ⟨G, HG⟩ := named d
  have hcw := hA.cell HG
  have hfw := hA.frz
  clear hC hA
  go_enter Tryz.func271, Tryz.ntmps271
  go_wp2_with fail
  go_big_quiet (first | (go_at_call 259; refine Calls.quiet_of_same (less _ _ _)))
  go_wp2
  all_goals go_ret2
  · have hlG : ltInt (G b) (G a) = true := by assumption
    have hlv : ltInt d[b]! d[a]! = true := by rw [← HG.out, ← HG.out]; exact hlG
    have e2 : order2 ltInt d a b s = (b, a, s + 1) := by simp [order2, hlv]
    rw [e2]
    exact ⟨rfl, (HD.out _).2, (HB.out _).2⟩
  · have hlG : ltInt (G b) (G a) = false := by assumption
    have hlv : ltInt d[b]! d[a]! = false := by rw [← HG.out, ← HG.out]; exact hlG
    have e2 : order2 ltInt d a b s = (a, b, s) := by simp [order2, hlv]
    rw [e2]
    exact ⟨rfl, (HD.out _).1, (HB.out _).1⟩

set_option maxHeartbeats 1000000 in
set_option maxRecDepth 100000 in
theorem median_ord (cap a b c cb s : Nat) (d : Array Int) (w : World) (hA : (OrdAt g o ty w0 N) d w) (hC : Cnt cb s w) (hcb : w0.heap.size ≤ cb) (ha : a < N) (hb : b < N) (hc : c < N) (hs : s + 3 < 4611686018427387904) :
    Calls Tryz.prog 268 #[.slice (some ⟨g, o, none⟩) N cap, .int .i64 a, .int .i64 b, .int .i64 c, .pointer (some ⟨cb, 0, none⟩)] w fun e w' =>
      e = .returned (.int .i64 (median ltInt d a b c s).1) ∧ (OrdAt g o ty w0 N) d w' ∧ Cnt cb (median ltInt d a b c s).2 w' := by
  have l1 := order2_lt' ltInt d s ha hb
  have s1 := order2_swaps' ltInt d a b s
  have l2 := order2_lt' ltInt d (order2 ltInt d a b s).2.2 l1.2 hc
  have s2 := order2_swaps' ltInt d (order2 ltInt d a b s).2.1 c (order2 ltInt d a b s).2.2
  have step0 := order2_ord cap a b cb s d w hA hC hcb ha hb (by omega)
  have STEP : Hid (∀ (W : World) (t a' b' : Nat), (OrdAt g o ty w0 N) d W → Cnt cb t W → a' < N → b' < N → t < 4611686018427387904 → _) := Lib.hid fun W t a' b' h1 h2 h3 h4 h5 => order2_ord cap a' b' cb t d W h1 h2 hcb h3 h4 h5
  clear hA hC
  go_enter Tryz.func268, Tryz.ntmps268
  go_wp2_with (go_at_call_of 271 (Value.int .i64 (b : Int)); refine step0.mono ?_; rintro e w1 ⟨rfl, hA1, hC1⟩)
  have step1 := STEP.out w1 _ _ c hA1 hC1 l1.2 hc (by omega)
  go_wp2_with (go_at_call_of 271 (Value.int .i64 (c : Int)); refine step1.mono ?_; rintro e w2 ⟨rfl, hA2, hC2⟩)
  have step2 := STEP.out w2 _ _ _ hA2 hC2 l1.1 l2.1 (by omega)
  go_wp2_with (go_at_call_of 271 (Value.int .i64 ((order2 ltInt d a b s).1 : Int)); refine step2.mono ?_; rintro e w3 ⟨rfl, hA3, hC3⟩)
  go_ret
  exact ⟨rfl, hA3, hC3⟩

set_option maxHeartbeats 1000000 in
set_option maxRecDepth 100000 in
theorem medianAdjacent_ord (cap a cb s : Nat) (d : Array Int) (w : World) (hA : (OrdAt g o ty w0 N) d w) (hC : Cnt cb s w) (hcb : w0.heap.size ≤ cb) (ha1 : 1 ≤ a) (ha2 : a + 1 < N) (hN : N < 4611686018427387904) (hs : s + 3 < 4611686018427387904) :
    Calls Tryz.prog 267 #[.slice (some ⟨g, o, none⟩) N cap, .int .i64 a, .pointer (some ⟨cb, 0, none⟩)] w fun e w' =>
      e = .returned (.int .i64 (medianAdjacent ltInt d a s).1) ∧ (OrdAt g o ty w0 N) d w' ∧ Cnt cb (medianAdjacent ltInt d a s).2 w' := by
  have hm := median_ord cap (a - 1) a (a + 1) cb s d w hA hC hcb (by omega) (by omega) ha2 hs
  rw [show ((a - 1 : Nat) : Int) = (a : Int) - 1 by omega, show ((a + 1 : Nat) : Int) = (a : Int) + 1 by omega] at hm
  clear hA hC
  go_enter Tryz.func267, Tryz.ntmps267
  go_wp2_with (go_at_call 268; refine hm.mono ?_; rintro e w1 ⟨rfl, hA1, hC1⟩)
  go_ret
  exact ⟨rfl, hA1, hC1⟩

set_option maxHeartbeats 2000000 in
set_option maxRecDepth 100000 in
theorem choosePivot_ord (cap a b : Nat) (d : Array Int) (w : World) (hA : (OrdAt g o ty w0 N) d w) (hab : a < b) (hb : b ≤ N) (hN : N < 4611686018427387904) :
    Calls Tryz.prog 256 #[.slice (some ⟨g, o, none⟩) N cap, .int .i64 a, .int .i64 b] w fun e w' =>
      e = .returned (.tuple #[.int .i64 (choosePivot ltInt d a b).1, .int .i64 (hintCode (choosePivot ltInt d a b).2)]) ∧ (OrdAt g o ty w0 N) d w' := by
  have hroom := hA.off.size
  have hA0 : (OrdAt g o ty w0 N) d (w.alloc (.cells #[.int .i64 0] 3)) := hA.fresh (Off.alloc (Off.refl [] w) _) (fun x hx => by simp at hx)
  have hC0 : Cnt w.heap.size 0 (w.alloc (.cells #[.int .i64 0] 3)) := Blk.new' _ _ _ rfl
  have MA : ∀ (W : World) (x s : Nat), (OrdAt g o ty w0 N) d W → Cnt w.heap.size s W → 1 ≤ x → x + 1 < N → s + 3 < 4611686018427387904 → Calls Tryz.prog 267 #[.slice (some ⟨g, o, none⟩) N cap, .int .i64 x, .pointer (some ⟨w.heap.size, 0, none⟩)] W fun e w' => e = .returned (.int .i64 (medianAdjacent ltInt d x s).1) ∧ (OrdAt g o ty w0 N) d w' ∧ Cnt w.heap.size (medianAdjacent ltInt d x s).2 w' :=
    fun W x s h1 h2 h3 h4 h5 => medianAdjacent_ord cap x w.heap.size s d W h1 h2 hroom h3 h4 hN h5
  have MD : ∀ (W : World) (x y z s : Nat), (OrdAt g o ty w0 N) d W → Cnt w.heap.size s W → x < N → y < N → z < N → s + 3 < 4611686018427387904 → Calls Tryz.prog 268 #[.slice (some ⟨g, o, none⟩) N cap, .int .i64 x, .int .i64 y, .int .i64 z, .pointer (some ⟨w.heap.size, 0, none⟩)] W fun e w' => e = .returned (.int .i64 (median ltInt d x y z s).1) ∧ (OrdAt g o ty w0 N) d w' ∧ Cnt w.heap.size (median ltInt d x y z s).2 w' :=
    fun W x y z s h1 h2 h3 h4 h5 h6 => median_ord cap x y z w.heap.size s d W h1 h2 hroom h3 h4 h5 h6
  have HA0 := Lib.hid hA0
  have HC0 := Lib.hid hC0
  clear hA0 hC0 hA
  rw [choosePivot_eq]
  obtain ⟨I, hI⟩ : ∃ I : Nat, I = a + (b - a) / 4 * 1 := ⟨_, rfl⟩
  obtain ⟨J, hJ⟩ : ∃ J : Nat, J = a + (b - a) / 4 * 2 := ⟨_, rfl⟩
  obtain ⟨K, hK⟩ : ∃ K : Nat, K = a + (b - a) / 4 * 3 := ⟨_, rfl⟩
  have eI : ((a : Int) + ((b : Int) - (a : Int)) / 4) = (I : Int) := by omega
  have eJ : ((a : Int) + ((b : Int) - (a : Int)) / 4 * 2) = (J : Int) := by omega
  have eK : ((a : Int) + ((b : Int) - (a : Int)) / 4 * 3) = (K : Int) := by omega
  by_cases h8 : b - a ≥ 8
  · by_cases h50 : b - a ≥ 50
    · obtain ⟨i1, s1, h1⟩ : ∃ i1 s1, medianAdjacent ltInt d I 0 = (i1, s1) := ⟨_, _, rfl⟩
      obtain ⟨j1, s2, h2⟩ : ∃ j1 s2, medianAdjacent ltInt d J s1 = (j1, s2) := ⟨_, _, rfl⟩
      obtain ⟨k1, s3, h3⟩ : ∃ k1 s3, medianAdjacent ltInt d K s2 = (k1, s3) := ⟨_, _, rfl⟩
      obtain ⟨p, s, h4⟩ : ∃ p s, median ltInt d i1 j1 k1 s3 = (p, s) := ⟨_, _, rfl⟩
      have hraw : rawPivot ltInt d a b = (p, s) := by simp only [rawPivot, if_pos h8, if_pos h50, ← hI, ← hJ, ← hK, h1, h2, h3, h4]
      have m1 := medianAdjacent_mem ltInt d I 0; rw [h1] at m1
      have m2 := medianAdjacent_mem ltInt d J s1; rw [h2] at m2
      have m3 := medianAdjacent_mem ltInt d K s2; rw [h3] at m3
      have n1 := medianAdjacent_count ltInt d I 0; rw [h1] at n1
      have n2 := medianAdjacent_count ltInt d J s1; rw [h2] at n2
      have n3 := medianAdjacent_count ltInt d K s2; rw [h3] at n3
      simp only [] at m1 m2 m3 n1 n2 n3
      have c1 := MA _ I 0 HA0.out HC0.out (by omega) (by omega) (by omega)
      rw [h1] at c1
      have c2 : ∀ W, (OrdAt g o ty w0 N) d W → Cnt w.heap.size s1 W → Calls Tryz.prog 267 #[.slice (some ⟨g, o, none⟩) N cap, .int .i64 (J : Int), .pointer (some ⟨w.heap.size, 0, none⟩)] W fun e w' => e = .returned (.int .i64 (j1 : Int)) ∧ (OrdAt g o ty w0 N) d w' ∧ Cnt w.heap.size s2 w' := fun W x1 x2 => by
        have h := MA W J s1 x1 x2 (by omega) (by omega) (by omega); rw [h2] at h; exact h
      have c3 : ∀ W, (OrdAt g o ty w0 N) d W → Cnt w.heap.size s2 W → Calls Tryz.prog 267 #[.slice (some ⟨g, o, none⟩) N cap, .int .i64 (K : Int), .pointer (some ⟨w.heap.size, 0, none⟩)] W fun e w' => e = .returned (.int .i64 (k1 : Int)) ∧ (OrdAt g o ty w0 N) d w' ∧ Cnt w.heap.size s3 w' := fun W x1 x2 => by
        have h := MA W K s2 x1 x2 (by omega) (by omega) (by omega); rw [h3] at h; exact h
      have c4 : ∀ W, (OrdAt g o ty w0 N) d W → Cnt w.heap.size s3 W → Calls Tryz.prog 268 #[.slice (some ⟨g, o, none⟩) N cap, .int .i64 (i1 : Int), .int .i64 (j1 : Int), .int .i64 (k1 : Int), .pointer (some ⟨w.heap.size, 0, none⟩)] W fun e w' => e = .returned (.int .i64 (p : Int)) ∧ (OrdAt g o ty w0 N) d w' ∧ Cnt w.heap.size s w' := fun W x1 x2 => by
        have h := MD W i1 j1 k1 s3 x1 x2 (by omega) (by omega) (by omega) (by omega); rw [h4] at h; exact h
      have H2 := Lib.hid c2; have H3 := Lib.hid c3; have H4 := Lib.hid c4
      clear c2 c3 c4
      rw [hraw]
      obtain ⟨Hc, hHc⟩ : ∃ Hc : Int, Hc = hintCode (hintOf s) := ⟨_, rfl⟩
      have hh0 : Hid (s = 0 → Hc = 1) := fun h => by rw [hHc, h]; rfl
      have hh12 : Hid (s = 12 → Hc = 2) := fun h => by rw [hHc, h]; rfl
      have hhx : Hid (s ≠ 0 → s ≠ 12 → Hc = 0) := fun h1 h2 => by rw [hHc]; unfold hintOf; rw [if_neg h1, if_neg h2]; rfl
      show Calls Tryz.prog 256 _ w fun e w' => e = .returned (.tuple #[.int .i64 (p : Int), .int .i64 (hintCode (hintOf s))]) ∧ (OrdAt g o ty w0 N) d w'
      rw [← hHc]
      clear hHc hraw
      clear h1 h2 h3 h4 MA MD hI hJ hK m1 m2 m3
      go_enter Tryz.func256, Tryz.ntmps256
      go_wp2_with (first
        | (go_at_call_of 267 (Value.int .i64 (I : Int)); refine c1.mono ?_; rintro e w1 ⟨rfl, hA1, hC1⟩)
        | (go_at_call_of 267 (Value.int .i64 (J : Int)); refine (H2.out _ hA1 hC1).mono ?_; rintro e w2 ⟨rfl, hA2, hC2⟩)
        | (go_at_call_of 267 (Value.int .i64 (K : Int)); refine (H3.out _ hA2 hC2).mono ?_; rintro e w3 ⟨rfl, hA3, hC3⟩)
        | (go_at_call 268; refine (H4.out _ hA3 hC3).mono ?_; rintro e w4 ⟨rfl, hA4, hC4⟩; have cS : w4.cell? ⟨w.heap.size, 0, none⟩ = some (.int .i64 s) := hC4.cell 0))
      all_goals
        go_ret2
        refine ⟨?_, hA4⟩
        first
          | (have e0 : (s : Int) = 0 := of_beq_int (by assumption)
             rw [hh0.out (by omega)]; rfl)
          | (have e1 : (s : Int) = 12 := of_beq_int (by assumption)
             rw [hh12.out (by omega)]; rfl)
          | (have e0 : (s : Int) ≠ 0 := of_bne_int (by assumption)
             have e1 : (s : Int) ≠ 12 := of_bne_int (by assumption)
             rw [hhx.out (by omega) (by omega)]; rfl)
          | (rw [hh0.out (by omega)]; rfl)
    · obtain ⟨p, s, h4⟩ : ∃ p s, median ltInt d I J K 0 = (p, s) := ⟨_, _, rfl⟩
      have hraw : rawPivot ltInt d a b = (p, s) := by simp only [rawPivot, if_pos h8, if_neg h50, ← hI, ← hJ, ← hK, h4]
      have c4 := MD _ I J K 0 HA0.out HC0.out (by omega) (by omega) (by omega) (by omega)
      rw [h4] at c4
      rw [hraw]
      obtain ⟨Hc, hHc⟩ : ∃ Hc : Int, Hc = hintCode (hintOf s) := ⟨_, rfl⟩
      have hh0 : Hid (s = 0 → Hc = 1) := fun h => by rw [hHc, h]; rfl
      have hh12 : Hid (s = 12 → Hc = 2) := fun h => by rw [hHc, h]; rfl
      have hhx : Hid (s ≠ 0 → s ≠ 12 → Hc = 0) := fun h1 h2 => by rw [hHc]; unfold hintOf; rw [if_neg h1, if_neg h2]; rfl
      show Calls Tryz.prog 256 _ w fun e w' => e = .returned (.tuple #[.int .i64 (p : Int), .int .i64 (hintCode (hintOf s))]) ∧ (OrdAt g o ty w0 N) d w'
      rw [← hHc]
      clear hHc hraw
      clear h4 MA MD hI hJ hK
      go_enter Tryz.func256, Tryz.ntmps256
      go_wp2_with (first | (go_at_call 268; refine c4.mono ?_; rintro e w4 ⟨rfl, hA4, hC4⟩; have cS : w4.cell? ⟨w.heap.size, 0, none⟩ = some (.int .i64 s) := hC4.cell 0))
      all_goals
        go_ret2
        refine ⟨?_, hA4⟩
        first
          | (have e0 : (s : Int) = 0 := of_beq_int (by assumption)
             rw [hh0.out (by omega)]; rfl)
          | (have e1 : (s : Int) = 12 := of_beq_int (by assumption)
             rw [hh12.out (by omega)]; rfl)
          | (have e0 : (s : Int) ≠ 0 := of_bne_int (by assumption)
             have e1 : (s : Int) ≠ 12 := of_bne_int (by assumption)
             rw [hhx.out (by omega) (by omega)]; rfl)
          | (rw [hh0.out (by omega)]; rfl)
  · have hraw : rawPivot ltInt d a b = (J, 0) := by simp only [rawPivot, if_neg h8, ← hJ]
    rw [hraw]
    clear hraw MA MD hI hJ hK
    go_enter Tryz.func256, Tryz.ntmps256
    go_wp2
    go_ret2
    exact ⟨rfl, HA0.out⟩
end Go.Proofs.YtcgggcjmmphldaaGreatDoor.Ord32
namespace Go.Proofs.YtcgggcjmmphldaaGreatDoor.Ord32
open Go.RowKit Go.Sort Go.Lib
variable {g o N : Nat} {ty : TypeId} {w0 : World}

set_option maxHeartbeats 2000000 in
set_option maxRecDepth 1000000 in
theorem xorshift_next (g X : Nat) (t : TypeId) (hX : X < 18446744073709551616) (w : World) (hb : Blk w g t #[.int .u64 X]) :
    Calls Tryz.prog 148 #[.pointer (some ⟨g, 0, none⟩)] w fun e w' => e = .returned (.int .u64 (xorNextN X : Nat)) ∧ w' = (w.setCell ⟨g, 0, none⟩ (.int .u64 (xorNextN X : Nat))).drewN 3 := by
  have hc : w.cell? ⟨g, 0, none⟩ = some (.int .u64 X) := by rw [hb.cell]; rfl
  have hf := hb.frozen 0
  clear hb
  obtain ⟨A1, hA⟩ : ∃ A : Nat, A = X ^^^ (X * 8192 % 18446744073709551616) := ⟨_, rfl⟩
  obtain ⟨B1, hB⟩ : ∃ B : Nat, B = A1 ^^^ (A1 / 128) := ⟨_, rfl⟩
  obtain ⟨C1, hC⟩ : ∃ C : Nat, C = B1 ^^^ (B1 * 131072 % 18446744073709551616) := ⟨_, rfl⟩
  have lA : A1 < 18446744073709551616 := by rw [hA]; exact Nat.xor_lt_two_pow (n := 64) (by omega) (by omega)
  have lB : B1 < 18446744073709551616 := by rw [hB]; exact Nat.xor_lt_two_pow (n := 64) (by omega) (by omega)
  have e1 : bits .xor .u64 (X : Int) (IntKind.u64.wrap ((X : Int) * 8192)) = (A1 : Int) := by
    rw [IntKind.wrap_u64, show ((X : Int) * 8192 % 18446744073709551616) = ((X * 8192 % 18446744073709551616 : Nat) : Int) by omega, bits_xor_u64_nat _ _ hX (by omega), hA]
  have e2 : bits .xor .u64 (A1 : Int) ((A1 : Int) / 128) = (B1 : Int) := by
    rw [show ((A1 : Int) / 128) = ((A1 / 128 : Nat) : Int) by omega, bits_xor_u64_nat _ _ lA (by omega), hB]
  have e3 : bits .xor .u64 (B1 : Int) (IntKind.u64.wrap ((B1 : Int) * 131072)) = (C1 : Int) := by
    rw [IntKind.wrap_u64, show ((B1 : Int) * 131072 % 18446744073709551616) = ((B1 * 131072 % 18446744073709551616 : Nat) : Int) by omega, bits_xor_u64_nat _ _ lB (by omega), hC]
  have hv : xorNextN X = C1 := by unfold xorNextN; simp only []; rw [← hA, ← hB, ← hC]
  rw [hv]
  clear hA hB hC hv
  have hss : ∀ v v', (w.setCell ⟨g, 0, none⟩ v).setCell ⟨g, 0, none⟩ v' = w.setCell ⟨g, 0, none⟩ v' := setCell_setCell w g 0
  go_enter Tryz.func148, Tryz.ntmps148
  go_wp2
  go_region
  all_goals go_wp2
  all_goals go_region
  all_goals go_wp2
  all_goals go_region
  all_goals go_wp2
  all_goals go_ret
  all_goals exact ⟨rfl, rfl⟩

set_option maxRecDepth 100000 in
set_option maxHeartbeats 1000000 in
theorem nextPowerOfTwo_any (n : Nat) (hn : n < 4611686018427387904) (w : World) :
    Calls Tryz.prog 147 #[.int .i64 n] w fun e w' => e = .returned (.int .u64 ((1 <<< bitsLen n : Nat) : Int)) ∧ w' = w := by
  have hLen : ∀ w, Calls Tryz.prog 46 #[.int .u64 (n : Int)] w fun e w' => e = .returned (.int .i64 (bitsLen n : Nat)) ∧ w' = w := fun w => by
    have h := Tryz.bits_Len (n : Int) w (by omega) (by omega)
    rwa [Int.toNat_natCast, bitLen_eq _ (by omega)] at h
  have hk : bitsLen n ≤ 62 := (bitsLen_le_iff n 62).2 (by omega)
  have hp := wrap_two_pow (bitsLen n) hk
  have wr : IntKind.u64.wrap (n : Int) = n := by simp [IntKind.wrap, IntKind.bits, IntKind.signed]; omega
  go_enter Tryz.func147, Tryz.ntmps147
  go_wp2_with (first | (go_at_call 46; refine (hLen _).mono ?_; rintro e w' ⟨rfl, rfl⟩))
  go_ret
  exact ⟨rfl, rfl⟩

set_option maxHeartbeats 4000000 in
set_option maxRecDepth 1000000 in
theorem breakPatterns_go (cap a L : Nat) (d : Array Int) (w : World) (hA : (OrdAt g o ty w0 N) d w) (hb : a + L ≤ N) (hN : N < 4611686018427387904) (h8 : 8 ≤ L) :
    Calls Tryz.prog 255 #[.slice (some ⟨g, o, none⟩) N cap, .int .i64 a, .int .i64 ((a + L : Nat) : Int)] w fun e w' => e = .returned (.tuple #[]) ∧ (OrdAt g o ty w0 N) (breakPatterns d a (a + L)) w' := by
  rw [breakPatterns_eq d a L h8]
  obtain ⟨M, hM⟩ : ∃ M : Nat, M = 1 <<< bitsLen L := ⟨_, rfl⟩
  have hM1 : 1 ≤ M := by rw [hM, Nat.one_shiftLeft]; exact Nat.two_pow_pos _
  have hM2 : M ≤ 2 * L := by rw [hM, Nat.one_shiftLeft]; exact two_pow_bitsLen_le (by omega)
  have hNP : ∀ w, Calls Tryz.prog 147 #[.int .i64 (L : Int)] w fun e w' => e = .returned (.int .u64 (M : Int)) ∧ w' = w := by rw [hM]; exact fun w => nextPowerOfTwo_any L (by omega) w
  rw [← hM]
  clear hM
  have hLz : ((a : Int) + (L : Int) - (a : Int)) = (L : Int) := by omega
  have h8z : (8 : Int) ≤ (L : Int) := by omega
  have hroom := hA.off.size
  have hA0 : (OrdAt g o ty w0 N) d (w.alloc (.cells #[.int .u64 (L : Int)] 244)) := hA.fresh (Off.alloc (Off.refl [] w) _) (fun x hx => by simp at hx)
  have hR0 : Blk (w.alloc (.cells #[.int .u64 (L : Int)] 244)) w.heap.size 244 #[.int .u64 (L : Int)] := Blk.new' _ _ _ rfl
  have HA0 := Lib.hid hA0
  have HR0 := Lib.hid hR0
  clear hA0 hR0
  go_enter Tryz.func255, Tryz.ntmps255
  go_wp2_with (first | (go_at_call 147; refine (hNP _).mono ?_; rintro e w' ⟨rfl, rfl⟩))
  go_loopg [9] 3 (fun g1 vi wr => ∃ (t : Nat) (r : UInt64) (dk : Array Int), vi = .int .i64 ((a + L / 4 * 2 - 1 + t : Nat) : Int) ∧ t ≤ 3 ∧ 3 - t ≤ g1 ∧ (OrdAt g o ty w0 N) dk wr ∧
      Hid (Blk wr w.heap.size 244 #[.int .u64 (r.toNat : Int)]) ∧ Hid (bpRest a L M (a + L / 4 * 2 - 1) (3 - t) t (r, dk) = bpRest a L M (a + L / 4 * 2 - 1) 3 0 (UInt64.ofNat L, d)))
  case atStart =>
    refine ⟨0, UInt64.ofNat L, d, by congr 1; omega, by omega, by omega, HA0.out, ?_, rfl⟩
    rw [show (UInt64.ofNat L).toNat = L from by simp; omega]
    exact HR0
  case round =>
    clear hA HA0 HR0
    obtain ⟨t, r, dk, rfl, ht, hg1, hA, HBR, HR⟩ := hrel
    obtain ⟨I, hI⟩ : ∃ I : Nat, I = a + L / 4 * 2 - 1 + t := ⟨_, rfl⟩
    rw [← hI]
    by_cases ht3 : t < 3
    · have hle : (I : Int) ≤ (a : Int) + (L : Int) / 4 * 2 + 1 := by omega
      have hIN : I < N := by omega
      have HI := Lib.hid hI
      obtain ⟨G, HG⟩ := named dk
      obtain ⟨R, hRr⟩ : ∃ R : Nat, R = r.toNat := ⟨_, rfl⟩
      have lR : R < 18446744073709551616 := by rw [hRr]; exact r.toNat_lt
      obtain ⟨R', hR'⟩ : ∃ R' : Nat, R' = xorNextN R := ⟨_, rfl⟩
      have lR' : R' < 18446744073709551616 := by rw [hR']; exact xorNextN_lt R lR
      obtain ⟨O, hO⟩ : ∃ O : Nat, O = R' &&& (M - 1) := ⟨_, rfl⟩
      have lO : O ≤ M - 1 := by rw [hO]; exact Nat.and_le_right
      have eAnd : bits .and .u64 (R' : Int) ((M : Int) - 1) = (O : Int) := by
        rw [show ((M : Int) - 1) = ((M - 1 : Nat) : Int) by omega, bits_and_u64_nat _ _ lR' (by omega), hO]
      have HN2 : Hid (R' = (xorNext r).toNat ∧ O = (xorNext r).toNat &&& (M - 1)) := by
        have e : R' = (xorNext r).toNat := by rw [hR', hRr, xorNext_toNat]
        exact ⟨e, by rw [hO, e]⟩
      have hBR := HBR.out
      rw [← hRr] at hBR
      have hNext0 := xorshift_next w.heap.size R 244 lR wr hBR
      rw [← hR'] at hNext0
      have hNext : Calls Tryz.prog 148 #[.pointer (some ⟨w.heap.size, 0, none⟩)] wr fun e w' => e = .returned (.int .u64 (R' : Int)) ∧ (OrdAt g o ty w0 N) dk w' ∧ Hid (Blk w' w.heap.size 244 #[.int .u64 (R' : Int)]) :=
        hNext0.mono fun e w' ⟨he, hw⟩ => ⟨he, by
          rw [hw]
          exact hA.fresh (((Off.refl [w.heap.size] wr).setCell (p := ⟨w.heap.size, 0, none⟩) (Or.inl (List.mem_singleton.2 rfl)) _).drewN 3) (fun x hx => by simp at hx; omega), by
          rw [hw]
          exact (hBR.fill1).drewN 3⟩
      clear hRr hR' hO hNext0 hBR HBR hA
      by_cases hLO : L ≤ O
      · have hLOz : (L : Int) ≤ (O : Int) := by omega
        obtain ⟨K, hK⟩ : ∃ K : Nat, K = O - L := ⟨_, rfl⟩
        have eK : (O : Int) - (L : Int) = (K : Int) := by omega
        have hKN : a + K < N := by omega
        have HK := Lib.hid hK
        clear hK hI
        go_wp2_with (go_at_call 148; refine hNext.mono ?_; rintro e w1 ⟨rfl, hA1, HB1⟩)
        have hcw := hA1.cell HG
        have hfw := hA1.frz
        have hgx := hA1.room
        obtain ⟨v', hy'⟩ := cell?_setCell_some (w := w1) (p := ⟨g, o + I, none⟩) (x := .int .u32 (G (a + K))) (q := ⟨g, o + (a + K), none⟩) (hA1.cell HG (a + K) hKN)
        have hy2 := (((HB1.out.drewN 1).far (p := ⟨g, o + I, none⟩) (by show w.heap.size ≠ g; omega) (.int .u32 (G (a + K)))).far (p := ⟨g, o + (a + K), none⟩) (by show w.heap.size ≠ g; omega) (.int .u32 (G I)))
        have HY2 := Lib.hid hy2
        clear hy2
        go_region
        have hA2 := hA1.swp HG 1 I (a + K) hIN hKN
        clear hcw hfw hA1
        go_wp2
        go_roundg (3 - (t + 1))
        case measure => omega
        case rel => exact ⟨t + 1, xorNext r, swp dk (a + L / 4 * 2 - 1 + t) (a + K), by have := HI.out; congr 1; omega, by omega, Nat.le_refl _, by rw [← HI.out]; exact hA2, by show Blk _ _ _ _; rw [← HN2.out.1]; exact HY2.out,
          (show Hid _ from by rw [← HR.out, bp_step a L M _ t r dk K ht3 (by rw [← HN2.out.2, if_pos (by omega), HK.out])]; exact rfl)⟩
      · have hLOz : ¬ (L : Int) ≤ (O : Int) := by omega
        have hON : a + O < N := by omega
        clear hI
        go_wp2_with (go_at_call 148; refine hNext.mono ?_; rintro e w1 ⟨rfl, hA1, HB1⟩)
        have hcw := hA1.cell HG
        have hfw := hA1.frz
        have hgx := hA1.room
        obtain ⟨v', hy'⟩ := cell?_setCell_some (w := w1) (p := ⟨g, o + I, none⟩) (x := .int .u32 (G (a + O))) (q := ⟨g, o + (a + O), none⟩) (hA1.cell HG (a + O) hON)
        have hy2 := (((HB1.out.drewN 1).far (p := ⟨g, o + I, none⟩) (by show w.heap.size ≠ g; omega) (.int .u32 (G (a + O)))).far (p := ⟨g, o + (a + O), none⟩) (by show w.heap.size ≠ g; omega) (.int .u32 (G I)))
        have HY2 := Lib.hid hy2
        clear hy2
        go_region
        have hA2 := hA1.swp HG 1 I (a + O) hIN hON
        clear hcw hfw hA1
        go_wp2
        go_roundg (3 - (t + 1))
        case measure => omega
        case rel => exact ⟨t + 1, xorNext r, swp dk (a + L / 4 * 2 - 1 + t) (a + O), by have := HI.out; congr 1; omega, by omega, Nat.le_refl _, by rw [← HI.out]; exact hA2, by show Blk _ _ _ _; rw [← HN2.out.1]; exact HY2.out,
          (show Hid _ from by rw [← HR.out, bp_step a L M _ t r dk O ht3 (by rw [← HN2.out.2, if_neg (by omega)])]; exact rfl)⟩
    · obtain rfl : t = 3 := by omega
      have hle : ¬ ((I : Int) ≤ (a : Int) + (L : Int) / 4 * 2 + 1) := by omega
      go_wp2
      go_end0
      refine ⟨rfl, ?_⟩
      rw [← HR.out]
      exact hA

set_option maxHeartbeats 1000000 in
set_option maxRecDepth 1000000 in
theorem breakPatterns_ord (cap a b : Nat) (d : Array Int) (w : World) (hA : (OrdAt g o ty w0 N) d w) (hab : a ≤ b) (hb : b ≤ N) (hN : N < 4611686018427387904) :
    Calls Tryz.prog 255 #[.slice (some ⟨g, o, none⟩) N cap, .int .i64 a, .int .i64 b] w fun e w' => e = .returned (.tuple #[]) ∧ (OrdAt g o ty w0 N) (breakPatterns d a b) w' := by
  obtain ⟨L, rfl⟩ : ∃ L, b = a + L := ⟨b - a, by omega⟩
  by_cases h8 : 8 ≤ L
  · exact breakPatterns_go cap a L d w hA hb hN h8
  · have hv : breakPatterns d a (a + L) = d := by unfold breakPatterns; simp only [Nat.add_sub_cancel_left]; rw [if_neg h8]
    rw [hv]
    have hLz : ((a : Int) + (L : Int) - (a : Int)) = (L : Int) := by omega
    have h8z : ¬ (8 : Int) ≤ (L : Int) := by omega
    go_enter Tryz.func255, Tryz.ntmps255
    go_wp2
    go_end0
    exact ⟨rfl, hA⟩
end Go.Proofs.YtcgggcjmmphldaaGreatDoor.Ord32
namespace Go.Proofs.YtcgggcjmmphldaaGreatDoor.Ord32
open Go.RowKit Go.Sort Go.Lib
variable {g o N : Nat} {ty : TypeId} {w0 : World}

set_option maxHeartbeats 12800000 in
set_option maxRecDepth 1000000 in
theorem pdqsort_ord (cap : Nat) (hN : N < 4611686018427387904) :
    ∀ (M a b limit : Nat) (d : Array Int) (w : World), b - a < M → (OrdAt g o ty w0 N) d w → a ≤ b → b ≤ N → limit < 4611686018427387904 → Sort.Below ltInt a b d →
    Calls Tryz.prog 241 #[.slice (some ⟨g, o, none⟩) N cap, .int .i64 a, .int .i64 b, .int .i64 limit] w fun e w' => e = .returned (.tuple #[]) ∧ (OrdAt g o ty w0 N) (pdq ltInt d a b limit true true) w' := by
  have hO := swo_ltInt
  intro M
  induction M with
  | zero => intro _ _ _ _ _ h; exact absurd h (Nat.not_lt_zero _)
  | succ M ih =>
    intro a b limit d w hM hA hab hb hlimit hBel0
    have hd0 := hA.size
    have IH := Lib.hid ih
    clear ih
    go_enter Tryz.func241, Tryz.ntmps241
    go_wp2
    go_loopg [1, 2, 3, 8, 9] (b - a) (fun k s1 s2 s3 s8 s9 wr => ∃ (a' b' lim : Nat) (wb wp : Bool) (dk : Array Int), s1 = .int .i64 a' ∧ s2 = .int .i64 b' ∧ s3 = .int .i64 lim ∧ s8 = .bool wb ∧ s9 = .bool wp ∧
      a' ≤ b' ∧ b' ≤ N ∧ b' - a' ≤ k ∧ k ≤ b - a ∧ lim ≤ limit ∧ dk.size = N ∧ Sort.Below ltInt a' b' dk ∧ (OrdAt g o ty w0 N) dk wr ∧ Hid (pdq ltInt dk a' b' lim wb wp = pdq ltInt d a b limit true true))
    case atStart => exact ⟨a, b, limit, true, true, d, rfl, rfl, rfl, rfl, rfl, hab, hb, Nat.le_refl _, Nat.le_refl _, Nat.le_refl _, hd0, hBel0, hA, rfl⟩
    case round =>
      clear hA
      obtain ⟨a', b', lim, wb, wp, dk, rfl, rfl, rfl, rfl, rfl, hab', hb', hk, hkN, hlim, hds, hBel, hA, AE⟩ := hrel
      by_cases h12 : b' - a' ≤ 12
      · have h12z : (b' : Int) - (a' : Int) ≤ 12 := by omega
        have hc := insertionSort_ord cap a' b' dk wr hA hab' hb' hN
        go_wp2_with (go_at_call 253; refine hc.mono ?_; rintro e w1 ⟨rfl, hA1⟩)
        (try simp only [Exit.inBlock, Exit.then]); refine bodyPost_ret (results_none rfl _ _ _) rfl ?_
        refine ⟨rfl, ?_⟩
        rw [← AE.out, pdq_small h12]
        exact hA1
      · have h12z : ¬ ((b' : Int) - (a' : Int) ≤ 12) := by omega
        by_cases hl0 : lim = 0
        · subst hl0
          have hc := heapSort_ord cap a' b' dk wr hA hab' hb' hN
          go_wp2_with (go_at_call 254; refine hc.mono ?_; rintro e w1 ⟨rfl, hA1⟩)
          (try simp only [Exit.inBlock, Exit.then]); refine bodyPost_ret (results_none rfl _ _ _) rfl ?_
          refine ⟨rfl, ?_⟩
          rw [← AE.out, pdq_heap h12 rfl]
          exact hA1
        · have hl0z : ¬ ((lim : Int) = 0) := by omega
          obtain ⟨s1, B1, hc1, s2, B2, hpv, s3, B3⟩ := rd_facts (lt := ltInt) (limit := lim) (wb := wb) (wp := wp) hO partialInsertionSort_holds reverseRange_holds (show a' < b' by omega) (show b' ≤ dk.size by omega) hBel
          -- 'if !wasBalanced': the ways meet
          go_upto_if 35 with fail
          go_cut [3] from 19 (fun s3 wc => s3 = .int .i64 (rd ltInt dk a' b' lim wb wp).lim ∧ (OrdAt g o ty w0 N) (rd ltInt dk a' b' lim wb wp).d1 wc)
          case first =>
            cases wb
            · have hc := breakPatterns_ord cap a' b' dk wr hA hab' hb' hN
              go_wp2_with (go_at_call 255; refine hc.mono ?_; rintro e w1 ⟨rfl, hA1⟩)
              go_meet
              case rel =>
                refine ⟨?_, hA1⟩
                show Value.int .i64 ((lim : Int) - 1) = Value.int .i64 ((lim - 1 : Nat) : Int)
                congr 1
                omega
            · go_wp2_with fail
              go_meet
              case rel => exact ⟨rfl, hA⟩
          case rest =>
            clear hA
            obtain ⟨rfl, hA1⟩ := hcut
            have hc17 : Calls Tryz.prog 256 #[.slice (some ⟨g, o, none⟩) N cap, .int .i64 a', .int .i64 b'] wc fun e w' => e = .returned (.tuple #[.int .i64 (rd ltInt dk a' b' lim wb wp).c.1, .int .i64 (hintCode (rd ltInt dk a' b' lim wb wp).c.2)]) ∧ (OrdAt g o ty w0 N) (rd ltInt dk a' b' lim wb wp).d1 w' :=
              choosePivot_ord cap a' b' (rd ltInt dk a' b' lim wb wp).d1 wc hA1 (by omega) hb' hN
            go_upto_if 50 with (go_at_call 256; refine hc17.mono ?_; rintro e w2 ⟨rfl, hA2⟩)
            -- 'if hint == decreasingHint': the ways meet
            go_cut [11, 12] from 19 (fun s11 s12 wc => s11 = .int .i64 (rd ltInt dk a' b' lim wb wp).pivot ∧ s12 = .int .i64 (hintCode (rd ltInt dk a' b' lim wb wp).hint) ∧ (OrdAt g o ty w0 N) (rd ltInt dk a' b' lim wb wp).d2 wc)
            case first =>
              by_cases hh : (rd ltInt dk a' b' lim wb wp).c.2 = .decreasing
              · have hcode : hintCode (rd ltInt dk a' b' lim wb wp).c.2 = 2 := by rw [hh]; rfl
                obtain ⟨e2, epv, eht⟩ := rd_dec hh
                have hc18 := reverseRange_ord cap a' b' (rd ltInt dk a' b' lim wb wp).d1 w2 hA2 hab' hb' hN
                go_wp2_with (go_at_call 257; refine hc18.mono ?_; rintro e w3 ⟨rfl, hA3⟩)
                go_meet
                case rel =>
                  refine ⟨?_, by rw [eht]; rfl, by rw [e2]; exact hA3⟩
                  rw [epv]
                  congr 1
                  omega
              · have hcode : ¬ (hintCode (rd ltInt dk a' b' lim wb wp).c.2 = 2) := fun h => hh (hintCode_two h)
                obtain ⟨e2, epv, eht⟩ := rd_not hh
                go_wp2_with fail
                go_meet
                case rel => exact ⟨by rw [epv], by rw [eht], by rw [e2]; exact hA2⟩
            case rest =>
              clear hA1 hA2 hc17
              obtain ⟨rfl, rfl, hA3⟩ := hcut
              go_upto_region 15 with fail
              go_cut [12, 68] from 19 (fun s12 s68 wx => s12 = .int .i64 (hintCode (rd ltInt dk a' b' lim wb wp).hint) ∧ s68 = .bool (wb && wp && decide ((rd ltInt dk a' b' lim wb wp).hint = .increasing)) ∧ (OrdAt g o ty w0 N) (rd ltInt dk a' b' lim wb wp).d2 wx)
              case first =>
                cases wb <;> cases wp <;> cases hh3 : (rd ltInt dk a' b' lim _ _).hint <;>
                  (have hcode3 := congrArg hintCode hh3
                   simp only [hintCode] at hcode3
                   go_wp2_with fail
                   go_meet
                   exact ⟨by simp [hh3, hintCode], by simp [hh3, hintCode], hA3⟩)
              case rest =>
                clear hA3
                obtain ⟨rfl, rfl, hA3⟩ := hcut
                go_upto_if 68 with fail
                go_cut [] from 19 (fun wx => (rd ltInt dk a' b' lim wb wp).pi.2 = false ∧ (OrdAt g o ty w0 N) (rd ltInt dk a' b' lim wb wp).pi.1 wx)
                case first =>
                  cases h68 : (wb && wp && decide ((rd ltInt dk a' b' lim wb wp).hint = .increasing))
                  · have epi := rd_pi_no h68
                    go_wp2_with fail
                    go_meet
                    case rel => exact ⟨by rw [epi], by rw [epi]; exact hA3⟩
                  · have epi := rd_pi_yes h68
                    have hc19 := partialInsertionSort_ord cap a' b' (rd ltInt dk a' b' lim wb wp).d2 _ hA3 (by omega) hb' hN
                    rw [← epi] at hc19
                    go_wp2_with (go_at_call 258; refine hc19.mono ?_; rintro e w4 ⟨rfl, hA4⟩)
                    all_goals first
                      | (have hp2 : (rd ltInt dk a' b' lim wb wp).pi.2 = false := by rw [epi]; assumption
                         go_meet
                         exact ⟨hp2, hA4⟩)
                      | (have hp2 : (rd ltInt dk a' b' lim wb wp).pi.2 = true := by rw [epi]; assumption
                         (try simp only [Exit.inBlock, Exit.then]); refine bodyPost_ret (results_none rfl _ _ _) rfl ?_
                         refine ⟨rfl, ?_⟩
                         rw [← AE.out, pdq_done h12 hl0 hp2]
                         exact hA4)
                case rest =>
                  clear hA3
                  obtain ⟨hp2, hA5⟩ := hcut
                  go_upto_region 17 with fail
                  go_cut [87] from 19 (fun s87 wx => s87 = .bool (decide (a' > 0) && !ltInt (rd ltInt dk a' b' lim wb wp).pi.1[a' - 1]! (rd ltInt dk a' b' lim wb wp).pi.1[(rd ltInt dk a' b' lim wb wp).pivot]!) ∧ (OrdAt g o ty w0 N) (rd ltInt dk a' b' lim wb wp).pi.1 wx)
                  case first =>
                    rcases Nat.eq_zero_or_pos a' with ha0 | ha0
                    · have ha0z : decide ((a' : Int) > 0) = false := decide_eq_false (by omega)
                      go_wp2_with fail
                      go_big_quiet (first | (go_at_call 259; refine Calls.quiet_of_same (less _ _ _)))
                      go_wp2_with fail
                      go_meet
                      case rel => exact ⟨by simp [ha0], hA5.drewN nq⟩
                    · have ha0z : (a' : Int) > 0 := by omega
                      obtain ⟨PV, hPV⟩ : ∃ PV : Nat, PV = (rd ltInt dk a' b' lim wb wp).pivot := ⟨_, rfl⟩
                      obtain ⟨D5, hD5⟩ : ∃ D5 : Array Int, D5 = (rd ltInt dk a' b' lim wb wp).pi.1 := ⟨_, rfl⟩
                      have hPN : PV < N := by omega
                      rw [← hD5] at hA5
                      rw [← hPV]
                      have HPV := Lib.hid hPV
                      have HD5 := Lib.hid hD5
                      clear hPV hD5
                      obtain ⟨G, HG⟩ := named D5
                      have hcw := hA5.cell HG
                      have hfw := hA5.frz
                      go_wp2_with fail
                      go_big_quiet (first | (go_at_call 259; refine Calls.quiet_of_same (less _ _ _)))
                      go_wp2_with fail
                      have hPV := HPV.out
                      have hD5 := HD5.out
                      clear HPV HD5 hcw hfw
                      subst hPV
                      subst hD5
                      go_meet
                      case rel => exact ⟨by rw [← HG.out, ← HG.out]; simp [ha0], hA5.drewN nq⟩
                  case rest =>
                    clear hA5
                    obtain ⟨rfl, hA6⟩ := hcut
                    cases h87 : (decide (a' > 0) && !ltInt (rd ltInt dk a' b' lim wb wp).pi.1[a' - 1]! (rd ltInt dk a' b' lim wb wp).pi.1[(rd ltInt dk a' b' lim wb wp).pivot]!)
                    · obtain ⟨mid, ap, d4, hx⟩ : ∃ mid ap d4, partition ltInt (rd ltInt dk a' b' lim wb wp).pi.1 a' b' (rd ltInt dk a' b' lim wb wp).pivot = (mid, ap, d4) := ⟨_, _, _, rfl⟩
                      obtain ⟨r1, r2, r3, r4, r5, r6, r7⟩ := round_part hO (partition_holds ltInt) hpv.1 hpv.2 (show b' ≤ (rd ltInt dk a' b' lim wb wp).pi.1.size by omega) B3 hx
                      have hc22 := partition_ord cap a' b' (rd ltInt dk a' b' lim wb wp).pivot (rd ltInt dk a' b' lim wb wp).pi.1 _ hA6 hpv.1 hpv.2 hb' hN
                      rw [hx] at hc22
                      have X : Hid (partition ltInt (rd ltInt dk a' b' lim wb wp).pi.1 a' b' (rd ltInt dk a' b' lim wb wp).pivot = (mid, ap, d4)) := hx
                      have R6 := Lib.hid r6; have R7 := Lib.hid r7
                      clear hx r6 r7
                      go_upto_if 113 with (go_at_call 261; refine hc22.mono ?_; rintro e w7 ⟨rfl, hA7⟩)
                      have hx := X.out
                      have hs4 : d4.size = N := r3.trans (s3.trans hds)
                      by_cases h4 : mid - a' < b' - mid
                      · have h4z : (mid : Int) - (a' : Int) < (b' : Int) - (mid : Int) := by omega
                        have hih := IH.out a' mid (rd ltInt dk a' b' lim wb wp).lim d4 w7 (by omega) hA7 (by omega) (by omega) (Nat.lt_of_le_of_lt (Nat.le_trans rd_lim_le hlim) hlimit) r4
                        obtain ⟨pL, sL⟩ := pdq_sorts ltInt hO d4 a' mid (rd ltInt dk a' b' lim wb wp).lim true true (by omega) (by omega) r4
                        go_wp2_with (go_at_call 241; refine hih.mono ?_; rintro e w8 ⟨rfl, hA8⟩)
                        go_roundg (b' - (mid + 1))
                        case measure => omega
                        case rel =>
                          refine ⟨mid + 1, b', (rd ltInt dk a' b' lim wb wp).lim, decide (mid - a' ≥ (b' - a') / 8), ap, pdq ltInt d4 a' mid (rd ltInt dk a' b' lim wb wp).lim true true, by simp, rfl, rfl, ?_, rfl, by omega, by omega, Nat.le_refl _, by omega, Nat.le_trans rd_lim_le hlim, by rw [pL.1, hs4], (R6.out _ pL sL).1, hA8, ?_⟩
                          · exact congrArg Value.bool (eighth (by omega) (by omega))
                          · show _ = _
                            rw [← AE.out, pdq_left h12 hl0 hp2 h87 (by rw [hx]; exact ⟨r1, r2⟩) (by rw [hx]; exact h4), hx]
                      · have h4z : ¬ ((mid : Int) - (a' : Int) < (b' : Int) - (mid : Int)) := by omega
                        have hih := IH.out (mid + 1) b' (rd ltInt dk a' b' lim wb wp).lim d4 w7 (by omega) hA7 (by omega) (by omega) (Nat.lt_of_le_of_lt (Nat.le_trans rd_lim_le hlim) hlimit) r5
                        rw [show ((mid + 1 : Nat) : Int) = (mid : Int) + 1 by omega] at hih
                        obtain ⟨pL, sL⟩ := pdq_sorts ltInt hO d4 (mid + 1) b' (rd ltInt dk a' b' lim wb wp).lim true true (by omega) (by omega) r5
                        go_wp2_with (go_at_call 241; refine hih.mono ?_; rintro e w8 ⟨rfl, hA8⟩)
                        go_roundg (mid - a')
                        case measure => omega
                        case rel =>
                          refine ⟨a', mid, (rd ltInt dk a' b' lim wb wp).lim, decide (b' - mid ≥ (b' - a') / 8), ap, pdq ltInt d4 (mid + 1) b' (rd ltInt dk a' b' lim wb wp).lim true true, rfl, rfl, rfl, ?_, rfl, by omega, by omega, Nat.le_refl _, by omega, Nat.le_trans rd_lim_le hlim, by rw [pL.1, hs4], (R7.out _ pL sL).1, hA8, ?_⟩
                          · exact congrArg Value.bool (eighth (by omega) (by omega))
                          · show _ = _
                            rw [← AE.out, pdq_right h12 hl0 hp2 h87 (by rw [hx]; exact ⟨r1, r2⟩) (by rw [hx]; exact h4), hx]
                    · have h87' := h87
                      simp only [Bool.and_eq_true, decide_eq_true_eq, Bool.not_eq_true'] at h87'
                      obtain ⟨mid, d4, hx⟩ : ∃ mid d4, partitionEqual ltInt (rd ltInt dk a' b' lim wb wp).pi.1 a' b' (rd ltInt dk a' b' lim wb wp).pivot = (mid, d4) := ⟨_, _, rfl⟩
                      obtain ⟨r1, r2, r3, r4, _⟩ := round_eq hO (partitionEqual_holds ltInt) h87'.1 hpv.1 hpv.2 (show b' ≤ (rd ltInt dk a' b' lim wb wp).pi.1.size by omega) B3 h87'.2 hx
                      have hc21 := partitionEqual_ord cap a' b' (rd ltInt dk a' b' lim wb wp).pivot (rd ltInt dk a' b' lim wb wp).pi.1 _ hA6 hpv.1 hpv.2 hb' hN
                      rw [hx] at hc21
                      have X : Hid (partitionEqual ltInt (rd ltInt dk a' b' lim wb wp).pi.1 a' b' (rd ltInt dk a' b' lim wb wp).pivot = (mid, d4)) := hx
                      clear hx
                      go_wp2_with (go_at_call 260; refine hc21.mono ?_; rintro e w7 ⟨rfl, hA7⟩)
                      go_roundg (b' - mid)
                      case measure => omega
                      case rel =>
                        have hx := X.out
                        exact ⟨mid, b', (rd ltInt dk a' b' lim wb wp).lim, wb, wp, d4, rfl, rfl, rfl, rfl, rfl, r2, hb', Nat.le_refl _, by omega, Nat.le_trans rd_lim_le hlim, by rw [r3, s3, hds], r4, hA7, by show _ = _; rw [← AE.out, pdq_eq h12 hl0 hp2 h87 (by rw [hx]; exact ⟨r1, r2⟩), hx]⟩

set_option maxHeartbeats 1000000 in
set_option maxRecDepth 100000 in
/-- slices.Sort at uint32. -/
theorem sort_ord (cap : Nat) (hN : N < 4611686018427387904) (d : Array Int) (w : World) (hA : (OrdAt g o ty w0 N) d w) :
    Calls Tryz.prog 224 #[.slice (some ⟨g, o, none⟩) N cap] w fun e w' => e = .returned (.tuple #[]) ∧ ∃ d', PermIn 0 N d d' ∧ SortedIn ltInt 0 N d' ∧ (OrdAt g o ty w0 N) d' w' := by
  have hd := hA.size
  have hb := Tryz.bits_Len (N : Int) w (by omega) (by omega)
  have wr : IntKind.u64.wrap (N : Int) = N := by simp [IntKind.wrap, IntKind.bits, IntKind.signed]; omega
  have hlim : Lib.bitLen N < 4611686018427387904 := Nat.lt_of_le_of_lt (Lib.bitLen_le N 62 (by omega) (by omega)) (by omega)
  have hp := pdqsort_ord cap hN (N + 1) 0 N (Lib.bitLen N) d w (by omega) hA (Nat.zero_le _) (Nat.le_refl _) hlim (Or.inl rfl)
  have hs := pdq_sorts ltInt swo_ltInt d 0 N (Lib.bitLen N) true true (Nat.zero_le _) (by omega) (Or.inl rfl)
  go_enter Tryz.func224, Tryz.ntmps224
  go_wp2_with (first
    | (go_at_call 46; refine hb.mono ?_; rintro e w' ⟨rfl, rfl⟩)
    | (go_at_call 241; refine hp.mono ?_; rintro e w' ⟨rfl, hA2⟩))
  go_end0
  exact ⟨rfl, _, hs.1, hs.2, hA2⟩
end Go.Proofs.YtcgggcjmmphldaaGreatDoor.Ord32
namespace Go.Proofs.YtcgggcjmmphldaaGreatDoor.Ord32
open Go.RowKit Go.Sort Go.Lib

theorem get_ints (d : Array Int) (i : Nat) (h : i < d.toList.length) : d[i]! = d.toList[i] := by
  have : i < d.size := by simpa using h
  simp [this]

/-- .. over a row that begins with the numbers xs: they stand sorted there. -/
theorem sort_list (g cap : Nat) (ty : TypeId) (xs : List Int) (sp : List Value) (w : World) (hb : Blk w g ty (xs.map (Value.int .u32) ++ sp).toArray) (hN : xs.length < 4611686018427387904) :
    Calls Tryz.prog 224 #[.slice (some ⟨g, 0, none⟩) xs.length cap] w fun e w' => e = .returned (.tuple #[]) ∧ ∃ (ys : List Int) (sp' : List Value), ys.Perm xs ∧ ys.Pairwise (· ≤ ·) ∧ Blk w' g ty (ys.map (Value.int .u32) ++ sp').toArray ∧ Off [g] w w' := by
  have hA : OrdAt g 0 ty w xs.length xs.toArray w := ⟨rfl, by simp, Off.refl _ _, ⟨sp, by simpa using hb⟩, hb.lt⟩
  refine (sort_ord cap hN xs.toArray w hA).mono ?_
  rintro e w' ⟨he, d', hp, hs, hA'⟩
  obtain ⟨sp', hb'⟩ := hA'.blk
  refine ⟨he, d'.toList, sp', ?_, ?_, hb', hA'.off⟩
  · obtain ⟨h1, _, h3⟩ := hp
    have e1 : xs.toArray.extract 0 xs.length = xs.toArray := by simp
    have e2 : d'.extract 0 xs.length = d' := by
      have : d'.size = xs.length := hA'.size
      rw [← this]; simp
    rw [e1, e2] at h3
    simpa using h3
  · refine List.pairwise_iff_getElem.2 fun i k hi hk hik => ?_
    have hsz : d'.size = xs.length := hA'.size
    have := hs i k (Nat.zero_le _) hik (by rw [← hsz]; simpa using hk)
    rw [get_ints d' i hi, get_ints d' k hk] at this
    have h3 := of_decide_eq_false (show decide (d'.toList[k] < d'.toList[i]) = false from this)
    omega
end Go.Proofs.YtcgggcjmmphldaaGreatDoor.Ord32
