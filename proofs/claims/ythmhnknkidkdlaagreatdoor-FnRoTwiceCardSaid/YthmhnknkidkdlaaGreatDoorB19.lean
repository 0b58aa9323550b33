/-
  slices.Sort at uint32: order2, median, medianAdjacent, choosePivot.
  slices.Sort at uint32: the pattern breaker.
  (No condition beyond those that each theorem states.)
-/
import Derived.Test.YthmhnknkidkdlaaGreatDoorB16
import Derived.Shelf.GgSortFunc.LotD
import Derived.Sort.Walk11
import Derived.Sort.LotD4
import Derived.Sort.LotD1
import Derived.Deep.RegionWith
import Derived.Test.YthmhnknkidkdlaaGreatDoorB01
import Derived.Sort.Walk7
import Derived.Sort.Walk7a
namespace Go.Proofs.YthmhnknkidkdlaaGreatDoor.Ord32
open Go.RowKit Go.Sort Go.Lib
variable {g o N : Nat} {ty : TypeId} {w0 : World}

/-- A counter of comparisons that went against the order: block cb holds s. -/
def Cnt (cb s : Nat) (w : World) : Prop := Blk w cb 3 #[.int .i64 s]
theorem Cnt.one {cb s : Nat} {w : World} (h : Cnt cb s w) (q : Nat) : (w.drewN q).cell? ⟨cb, 0, none⟩ = some (.int .i64 s) ∧ (w.drewN q).frozen? ⟨cb, 0, none⟩ = false :=
  ⟨by rw [World.cell?_drewN]; exact (Blk.cell h 0), by rw [World.frozen?_drewN]; exact Blk.frozen h 0⟩

set_option maxHeartbeats 1000000 in
set_option maxRecDepth 100000 in
theorem order2_ord (cap a b cb s : Nat) (d : Array Int) (w : World) (hA : (OrdAt g o ty w0 N) d w) (hC : Cnt cb s w) (hcb : w0.heap.size ≤ cb) (ha : a < N) (hb : b < N) (hs : s < 4611686018427387904) :
    Calls Tryz.prog 236 #[.slice (some ⟨g, o, none⟩) N cap, .int .i64 a, .int .i64 b, .pointer (some ⟨cb, 0, none⟩)] w fun e w' =>
      e = .returned (.tuple #[.int .i64 (order2 ltInt d a b s).1, .int .i64 (order2 ltInt d a b s).2.1]) ∧ (OrdAt g o ty w0 N) d w' ∧ Cnt cb (order2 ltInt d a b s).2.2 w' := by
  have HC := Lib.hid (fun q => hC.one q)
  have HD : Hid (∀ q, (OrdAt g o ty w0 N) d (w.drewN q) ∧ (OrdAt g o ty w0 N) d ((w.drewN q).setCell ⟨cb, 0, none⟩ (.int .i64 ((s : Int) + 1)))) := fun q =>
    ⟨hA.fresh ((Off.refl [] w).drewN q) (fun x hx => by simp at hx), hA.fresh (((Off.refl [cb] w).drewN q).setCell (p := ⟨cb, 0, none⟩) (Or.inl (List.mem_singleton.2 rfl)) _) (fun x hx => by simp at hx; omega)⟩
  have HB : Hid (∀ q, Cnt cb s (w.drewN q) ∧ Cnt cb (s + 1) ((w.drewN q).setCell ⟨cb, 0, none⟩ (.int .i64 ((s : Int) + 1)))) := fun q =>
    ⟨Blk.drewN hC q, Blk.eq ((Blk.drewN hC q).fill1) (by rw [show ((s + 1 : Nat) : Int) = (s : Int) + 1 by omega])⟩
  have c0 := (hC.one 0).1; have f0 := (hC.one 0).2
  rw [World.drewN_zero] at c0 f0
  obtain ⟨G, HG⟩ := named d
  have hcw := hA.cell HG
  have hfw := hA.frz
  clear hC hA
  go_enter Tryz.func236, Tryz.ntmps236
  go_wp2_with fail
  go_big_quiet (first | (go_at_call 227; refine Calls.quiet_of_same (less _ _ _)))
  go_wp2
  all_goals go_ret2
  · have hlG : ltInt (G b) (G a) = true := by assumption
    have hlv : ltInt d[b]! d[a]! = true := by rw [← HG.out, ← HG.out]; exact hlG
    have e2 : order2 ltInt d a b s = (b, a, s + 1) := by simp [order2, hlv]
    rw [e2]
    exact ⟨rfl, (HD.out _).2, (HB.out _).2⟩
  · have hlG : ltInt (G b) (G a) = false := by assumption
    have hlv : ltInt d[b]! d[a]! = false := by rw [← HG.out, ← HG.out]; exact hlG
    have e2 : order2 ltInt d a b s = (a, b, s) := by simp [order2, hlv]
    rw [e2]
    exact ⟨rfl, (HD.out _).1, (HB.out _).1⟩

set_option maxHeartbeats 1000000 in
set_option maxRecDepth 100000 in
theorem median_ord (cap a b c cb s : Nat) (d : Array Int) (w : World) (hA : (OrdAt g o ty w0 N) d w) (hC : Cnt cb s w) (hcb : w0.heap.size ≤ cb) (ha : a < N) (hb : b < N) (hc : c < N) (hs : s + 3 < 4611686018427387904) :
    Calls Tryz.prog 234 #[.slice (some ⟨g, o, none⟩) N cap, .int .i64 a, .int .i64 b, .int .i64 c, .pointer (some ⟨cb, 0, none⟩)] w fun e w' =>
      e = .returned (.int .i64 (median ltInt d a b c s).1) ∧ (OrdAt g o ty w0 N) d w' ∧ Cnt cb (median ltInt d a b c s).2 w' := by
  have l1 := order2_lt' ltInt d s ha hb
  have s1 := order2_swaps' ltInt d a b s
  have l2 := order2_lt' ltInt d (order2 ltInt d a b s).2.2 l1.2 hc
  have s2 := order2_swaps' ltInt d (order2 ltInt d a b s).2.1 c (order2 ltInt d a b s).2.2
  have step0 := order2_ord cap a b cb s d w hA hC hcb ha hb (by omega)
  have STEP : Hid (∀ (W : World) (t a' b' : Nat), (OrdAt g o ty w0 N) d W → Cnt cb t W → a' < N → b' < N → t < 4611686018427387904 → _) := Lib.hid fun W t a' b' h1 h2 h3 h4 h5 => order2_ord cap a' b' cb t d W h1 h2 hcb h3 h4 h5
  clear hA hC
  go_enter Tryz.func234, Tryz.ntmps234
  go_wp2_with (go_at_call_of 236 (Value.int .i64 (b : Int)); refine step0.mono ?_; rintro e w1 ⟨rfl, hA1, hC1⟩)
  have step1 := STEP.out w1 _ _ c hA1 hC1 l1.2 hc (by omega)
  go_wp2_with (go_at_call_of 236 (Value.int .i64 (c : Int)); refine step1.mono ?_; rintro e w2 ⟨rfl, hA2, hC2⟩)
  have step2 := STEP.out w2 _ _ _ hA2 hC2 l1.1 l2.1 (by omega)
  go_wp2_with (go_at_call_of 236 (Value.int .i64 ((order2 ltInt d a b s).1 : Int)); refine step2.mono ?_; rintro e w3 ⟨rfl, hA3, hC3⟩)
  go_ret
  exact ⟨rfl, hA3, hC3⟩

set_option maxHeartbeats 1000000 in
set_option maxRecDepth 100000 in
theorem medianAdjacent_ord (cap a cb s : Nat) (d : Array Int) (w : World) (hA : (OrdAt g o ty w0 N) d w) (hC : Cnt cb s w) (hcb : w0.heap.size ≤ cb) (ha1 : 1 ≤ a) (ha2 : a + 1 < N) (hN : N < 4611686018427387904) (hs : s + 3 < 4611686018427387904) :
    Calls Tryz.prog 233 #[.slice (some ⟨g, o, none⟩) N cap, .int .i64 a, .pointer (some ⟨cb, 0, none⟩)] w fun e w' =>
      e = .returned (.int .i64 (medianAdjacent ltInt d a s).1) ∧ (OrdAt g o ty w0 N) d w' ∧ Cnt cb (medianAdjacent ltInt d a s).2 w' := by
  have hm := median_ord cap (a - 1) a (a + 1) cb s d w hA hC hcb (by omega) (by omega) ha2 hs
  rw [show ((a - 1 : Nat) : Int) = (a : Int) - 1 by omega, show ((a + 1 : Nat) : Int) = (a : Int) + 1 by omega] at hm
  clear hA hC
  go_enter Tryz.func233, Tryz.ntmps233
  go_wp2_with (go_at_call 234; refine hm.mono ?_; rintro e w1 ⟨rfl, hA1, hC1⟩)
  go_ret
  exact ⟨rfl, hA1, hC1⟩

set_option maxHeartbeats 2000000 in
set_option maxRecDepth 100000 in
theorem choosePivot_ord (cap a b : Nat) (d : Array Int) (w : World) (hA : (OrdAt g o ty w0 N) d w) (hab : a < b) (hb : b ≤ N) (hN : N < 4611686018427387904) :
    Calls Tryz.prog 224 #[.slice (some ⟨g, o, none⟩) N cap, .int .i64 a, .int .i64 b] w fun e w' =>
      e = .returned (.tuple #[.int .i64 (choosePivot ltInt d a b).1, .int .i64 (hintCode (choosePivot ltInt d a b).2)]) ∧ (OrdAt g o ty w0 N) d w' := by
  have hroom := hA.off.size
  have hA0 : (OrdAt g o ty w0 N) d (w.alloc (.cells #[.int .i64 0] 3)) := hA.fresh (Off.alloc (Off.refl [] w) _) (fun x hx => by simp at hx)
  have hC0 : Cnt w.heap.size 0 (w.alloc (.cells #[.int .i64 0] 3)) := Blk.new' _ _ _ rfl
  have MA : ∀ (W : World) (x s : Nat), (OrdAt g o ty w0 N) d W → Cnt w.heap.size s W → 1 ≤ x → x + 1 < N → s + 3 < 4611686018427387904 → Calls Tryz.prog 233 #[.slice (some ⟨g, o, none⟩) N cap, .int .i64 x, .pointer (some ⟨w.heap.size, 0, none⟩)] W fun e w' => e = .returned (.int .i64 (medianAdjacent ltInt d x s).1) ∧ (OrdAt g o ty w0 N) d w' ∧ Cnt w.heap.size (medianAdjacent ltInt d x s).2 w' :=
    fun W x s h1 h2 h3 h4 h5 => medianAdjacent_ord cap x w.heap.size s d W h1 h2 hroom h3 h4 hN h5
  have MD : ∀ (W : World) (x y z s : Nat), (OrdAt g o ty w0 N) d W → Cnt w.heap.size s W → x < N → y < N → z < N → s + 3 < 4611686018427387904 → Calls Tryz.prog 234 #[.slice (some ⟨g, o, none⟩) N cap, .int .i64 x, .int .i64 y, .int .i64 z, .pointer (some ⟨w.heap.size, 0, none⟩)] W fun e w' => e = .returned (.int .i64 (median ltInt d x y z s).1) ∧ (OrdAt g o ty w0 N) d w' ∧ Cnt w.heap.size (median ltInt d x y z s).2 w' :=
    fun W x y z s h1 h2 h3 h4 h5 h6 => median_ord cap x y z w.heap.size s d W h1 h2 hroom h3 h4 h5 h6
  have HA0 := Lib.hid hA0
  have HC0 := Lib.hid hC0
  clear hA0 hC0 hA
  rw [choosePivot_eq]
  obtain ⟨I, hI⟩ : ∃ I : Nat, I = a + (b - a) / 4 * 1 := ⟨_, rfl⟩
  obtain ⟨J, hJ⟩ : ∃ J : Nat, J = a + (b - a) / 4 * 2 := ⟨_, rfl⟩
  obtain ⟨K, hK⟩ : ∃ K : Nat, K = a + (b - a) / 4 * 3 := ⟨_, rfl⟩
  have eI : ((a : Int) + ((b : Int) - (a : Int)) / 4) = (I : Int) := by omega
  have eJ : ((a : Int) + ((b : Int) - (a : Int)) / 4 * 2) = (J : Int) := by omega
  have eK : ((a : Int) + ((b : Int) - (a : Int)) / 4 * 3) = (K : Int) := by omega
  by_cases h8 : b - a ≥ 8
  · by_cases h50 : b - a ≥ 50
    · obtain ⟨i1, s1, h1⟩ : ∃ i1 s1, medianAdjacent ltInt d I 0 = (i1, s1) := ⟨_, _, rfl⟩
      obtain ⟨j1, s2, h2⟩ : ∃ j1 s2, medianAdjacent ltInt d J s1 = (j1, s2) := ⟨_, _, rfl⟩
      obtain ⟨k1, s3, h3⟩ : ∃ k1 s3, medianAdjacent ltInt d K s2 = (k1, s3) := ⟨_, _, rfl⟩
      obtain ⟨p, s, h4⟩ : ∃ p s, median ltInt d i1 j1 k1 s3 = (p, s) := ⟨_, _, rfl⟩
      have hraw : rawPivot ltInt d a b = (p, s) := by simp only [rawPivot, if_pos h8, if_pos h50, ← hI, ← hJ, ← hK, h1, h2, h3, h4]
      have m1 := medianAdjacent_mem ltInt d I 0; rw [h1] at m1
      have m2 := medianAdjacent_mem ltInt d J s1; rw [h2] at m2
      have m3 := medianAdjacent_mem ltInt d K s2; rw [h3] at m3
      have n1 := medianAdjacent_count ltInt d I 0; rw [h1] at n1
      have n2 := medianAdjacent_count ltInt d J s1; rw [h2] at n2
      have n3 := medianAdjacent_count ltInt d K s2; rw [h3] at n3
      simp only [] at m1 m2 m3 n1 n2 n3
      have c1 := MA _ I 0 HA0.out HC0.out (by omega) (by omega) (by omega)
      rw [h1] at c1
      have c2 : ∀ W, (OrdAt g o ty w0 N) d W → Cnt w.heap.size s1 W → Calls Tryz.prog 233 #[.slice (some ⟨g, o, none⟩) N cap, .int .i64 (J : Int), .pointer (some ⟨w.heap.size, 0, none⟩)] W fun e w' => e = .returned (.int .i64 (j1 : Int)) ∧ (OrdAt g o ty w0 N) d w' ∧ Cnt w.heap.size s2 w' := fun W x1 x2 => by
        have h := MA W J s1 x1 x2 (by omega) (by omega) (by omega); rw [h2] at h; exact h
      have c3 : ∀ W, (OrdAt g o ty w0 N) d W → Cnt w.heap.size s2 W → Calls Tryz.prog 233 #[.slice (some ⟨g, o, none⟩) N cap, .int .i64 (K : Int), .pointer (some ⟨w.heap.size, 0, none⟩)] W fun e w' => e = .returned (.int .i64 (k1 : Int)) ∧ (OrdAt g o ty w0 N) d w' ∧ Cnt w.heap.size s3 w' := fun W x1 x2 => by
        have h := MA W K s2 x1 x2 (by omega) (by omega) (by omega); rw [h3] at h; exact h
      have c4 : ∀ W, (OrdAt g o ty w0 N) d W → Cnt w.heap.size s3 W → Calls Tryz.prog 234 #[.slice (some ⟨g, o, none⟩) N cap, .int .i64 (i1 : Int), .int .i64 (j1 : Int), .int .i64 (k1 : Int), .pointer (some ⟨w.heap.size, 0, none⟩)] W fun e w' => e = .returned (.int .i64 (p : Int)) ∧ (OrdAt g o ty w0 N) d w' ∧ Cnt w.heap.size s w' := fun W x1 x2 => by
        have h := MD W i1 j1 k1 s3 x1 x2 (by omega) (by omega) (by omega) (by omega); rw [h4] at h; exact h
      have H2 := Lib.hid c2; have H3 := Lib.hid c3; have H4 := Lib.hid c4
      clear c2 c3 c4
      rw [hraw]
      obtain ⟨Hc, hHc⟩ : ∃ Hc : Int, Hc = hintCode (hintOf s) := ⟨_, rfl⟩
      have hh0 : Hid (s = 0 → Hc = 1) := fun h => by rw [hHc, h]; rfl
      have hh12 : Hid (s = 12 → Hc = 2) := fun h => by rw [hHc, h]; rfl
      have hhx : Hid (s ≠ 0 → s ≠ 12 → Hc = 0) := fun h1 h2 => by rw [hHc]; unfold hintOf; rw [if_neg h1, if_neg h2]; rfl
      show Calls Tryz.prog 224 _ w fun e w' => e = .returned (.tuple #[.int .i64 (p : Int), .int .i64 (hintCode (hintOf s))]) ∧ (OrdAt g o ty w0 N) d w'
      rw [← hHc]
      clear hHc hraw
      clear h1 h2 h3 h4 MA MD hI hJ hK m1 m2 m3
      go_enter Tryz.func224, Tryz.ntmps224
      go_wp2_with (first
        | (go_at_call_of 233 (Value.int .i64 (I : Int)); refine c1.mono ?_; rintro e w1 ⟨rfl, hA1, hC1⟩)
        | (go_at_call_of 233 (Value.int .i64 (J : Int)); refine (H2.out _ hA1 hC1).mono ?_; rintro e w2 ⟨rfl, hA2, hC2⟩)
        | (go_at_call_of 233 (Value.int .i64 (K : Int)); refine (H3.out _ hA2 hC2).mono ?_; rintro e w3 ⟨rfl, hA3, hC3⟩)
        | (go_at_call 234; refine (H4.out _ hA3 hC3).mono ?_; rintro e w4 ⟨rfl, hA4, hC4⟩; have cS : w4.cell? ⟨w.heap.size, 0, none⟩ = some (.int .i64 s) := hC4.cell 0))
      all_goals
        go_ret2
        refine ⟨?_, hA4⟩
        first
          | (have e0 : (s : Int) = 0 := of_beq_int (by assumption)
             rw [hh0.out (by omega)]; rfl)
          | (have e1 : (s : Int) = 12 := of_beq_int (by assumption)
             rw [hh12.out (by omega)]; rfl)
          | (have e0 : (s : Int) ≠ 0 := of_bne_int (by assumption)
             have e1 : (s : Int) ≠ 12 := of_bne_int (by assumption)
             rw [hhx.out (by omega) (by omega)]; rfl)
          | (rw [hh0.out (by omega)]; rfl)
    · obtain ⟨p, s, h4⟩ : ∃ p s, median ltInt d I J K 0 = (p, s) := ⟨_, _, rfl⟩
      have hraw : rawPivot ltInt d a b = (p, s) := by simp only [rawPivot, if_pos h8, if_neg h50, ← hI, ← hJ, ← hK, h4]
      have c4 := MD _ I J K 0 HA0.out HC0.out (by omega) (by omega) (by omega) (by omega)
      rw [h4] at c4
      rw [hraw]
      obtain ⟨Hc, hHc⟩ : ∃ Hc : Int, Hc = hintCode (hintOf s) := ⟨_, rfl⟩
      have hh0 : Hid (s = 0 → Hc = 1) := fun h => by rw [hHc, h]; rfl
      have hh12 : Hid (s = 12 → Hc = 2) := fun h => by rw [hHc, h]; rfl
      have hhx : Hid (s ≠ 0 → s ≠ 12 → Hc = 0) := fun h1 h2 => by rw [hHc]; unfold hintOf; rw [if_neg h1, if_neg h2]; rfl
      show Calls Tryz.prog 224 _ w fun e w' => e = .returned (.tuple #[.int .i64 (p : Int), .int .i64 (hintCode (hintOf s))]) ∧ (OrdAt g o ty w0 N) d w'
      rw [← hHc]
      clear hHc hraw
      clear h4 MA MD hI hJ hK
      go_enter Tryz.func224, Tryz.ntmps224
      go_wp2_with (first | (go_at_call 234; refine c4.mono ?_; rintro e w4 ⟨rfl, hA4, hC4⟩; have cS : w4.cell? ⟨w.heap.size, 0, none⟩ = some (.int .i64 s) := hC4.cell 0))
      all_goals
        go_ret2
        refine ⟨?_, hA4⟩
        first
          | (have e0 : (s : Int) = 0 := of_beq_int (by assumption)
             rw [hh0.out (by omega)]; rfl)
          | (have e1 : (s : Int) = 12 := of_beq_int (by assumption)
             rw [hh12.out (by omega)]; rfl)
          | (have e0 : (s : Int) ≠ 0 := of_bne_int (by assumption)
             have e1 : (s : Int) ≠ 12 := of_bne_int (by assumption)
             rw [hhx.out (by omega) (by omega)]; rfl)
          | (rw [hh0.out (by omega)]; rfl)
  · have hraw : rawPivot ltInt d a b = (J, 0) := by simp only [rawPivot, if_neg h8, ← hJ]
    rw [hraw]
    clear hraw MA MD hI hJ hK
    go_enter Tryz.func224, Tryz.ntmps224
    go_wp2
    go_ret2
    exact ⟨rfl, HA0.out⟩
end Go.Proofs.YthmhnknkidkdlaaGreatDoor.Ord32
namespace Go.Proofs.YthmhnknkidkdlaaGreatDoor.Ord32
open Go.RowKit Go.Sort Go.Lib
variable {g o N : Nat} {ty : TypeId} {w0 : World}

set_option maxHeartbeats 2000000 in
set_option maxRecDepth 1000000 in
theorem xorshift_next (g X : Nat) (t : TypeId) (hX : X < 18446744073709551616) (w : World) (hb : Blk w g t #[.int .u64 X]) :
    Calls Tryz.prog 217 #[.pointer (some ⟨g, 0, none⟩)] w fun e w' => e = .returned (.int .u64 (xorNextN X : Nat)) ∧ w' = (w.setCell ⟨g, 0, none⟩ (.int .u64 (xorNextN X : Nat))).drewN 3 := by
  have hc : w.cell? ⟨g, 0, none⟩ = some (.int .u64 X) := by rw [hb.cell]; rfl
  have hf := hb.frozen 0
  clear hb
  obtain ⟨A1, hA⟩ : ∃ A : Nat, A = X ^^^ (X * 8192 % 18446744073709551616) := ⟨_, rfl⟩
  obtain ⟨B1, hB⟩ : ∃ B : Nat, B = A1 ^^^ (A1 / 128) := ⟨_, rfl⟩
  obtain ⟨C1, hC⟩ : ∃ C : Nat, C = B1 ^^^ (B1 * 131072 % 18446744073709551616) := ⟨_, rfl⟩
  have lA : A1 < 18446744073709551616 := by rw [hA]; exact Nat.xor_lt_two_pow (n := 64) (by omega) (by omega)
  have lB : B1 < 18446744073709551616 := by rw [hB]; exact Nat.xor_lt_two_pow (n := 64) (by omega) (by omega)
  have e1 : bits .xor .u64 (X : Int) (IntKind.u64.wrap ((X : Int) * 8192)) = (A1 : Int) := by
    rw [IntKind.wrap_u64, show ((X : Int) * 8192 % 18446744073709551616) = ((X * 8192 % 18446744073709551616 : Nat) : Int) by omega, bits_xor_u64_nat _ _ hX (by omega), hA]
  have e2 : bits .xor .u64 (A1 : Int) ((A1 : Int) / 128) = (B1 : Int) := by
    rw [show ((A1 : Int) / 128) = ((A1 / 128 : Nat) : Int) by omega, bits_xor_u64_nat _ _ lA (by omega), hB]
  have e3 : bits .xor .u64 (B1 : Int) (IntKind.u64.wrap ((B1 : Int) * 131072)) = (C1 : Int) := by
    rw [IntKind.wrap_u64, show ((B1 : Int) * 131072 % 18446744073709551616) = ((B1 * 131072 % 18446744073709551616 : Nat) : Int) by omega, bits_xor_u64_nat _ _ lB (by omega), hC]
  have hv : xorNextN X = C1 := by unfold xorNextN; simp only []; rw [← hA, ← hB, ← hC]
  rw [hv]
  clear hA hB hC hv
  have hss : ∀ v v', (w.setCell ⟨g, 0, none⟩ v).setCell ⟨g, 0, none⟩ v' = w.setCell ⟨g, 0, none⟩ v' := setCell_setCell w g 0
  go_enter Tryz.func217, Tryz.ntmps217
  go_wp2
  go_region
  all_goals go_wp2
  all_goals go_region
  all_goals go_wp2
  all_goals go_region
  all_goals go_wp2
  all_goals go_ret
  all_goals exact ⟨rfl, rfl⟩

set_option maxRecDepth 100000 in
set_option maxHeartbeats 1000000 in
theorem nextPowerOfTwo_any (n : Nat) (hn : n < 4611686018427387904) (w : World) :
    Calls Tryz.prog 216 #[.int .i64 n] w fun e w' => e = .returned (.int .u64 ((1 <<< bitsLen n : Nat) : Int)) ∧ w' = w := by
  have hLen : ∀ w, Calls Tryz.prog 185 #[.int .u64 (n : Int)] w fun e w' => e = .returned (.int .i64 (bitsLen n : Nat)) ∧ w' = w := fun w => by
    have h := Tryz.bits_Len (n : Int) w (by omega) (by omega)
    rwa [Int.toNat_natCast, bitLen_eq _ (by omega)] at h
  have hk : bitsLen n ≤ 62 := (bitsLen_le_iff n 62).2 (by omega)
  have hp := wrap_two_pow (bitsLen n) hk
  have wr : IntKind.u64.wrap (n : Int) = n := by simp [IntKind.wrap, IntKind.bits, IntKind.signed]; omega
  go_enter Tryz.func216, Tryz.ntmps216
  go_wp2_with (first | (go_at_call 185; refine (hLen _).mono ?_; rintro e w' ⟨rfl, rfl⟩))
  go_ret
  exact ⟨rfl, rfl⟩

set_option maxHeartbeats 4000000 in
set_option maxRecDepth 1000000 in
theorem breakPatterns_go (cap a L : Nat) (d : Array Int) (w : World) (hA : (OrdAt g o ty w0 N) d w) (hb : a + L ≤ N) (hN : N < 4611686018427387904) (h8 : 8 ≤ L) :
    Calls Tryz.prog 223 #[.slice (some ⟨g, o, none⟩) N cap, .int .i64 a, .int .i64 ((a + L : Nat) : Int)] w fun e w' => e = .returned (.tuple #[]) ∧ (OrdAt g o ty w0 N) (breakPatterns d a (a + L)) w' := by
  rw [breakPatterns_eq d a L h8]
  obtain ⟨M, hM⟩ : ∃ M : Nat, M = 1 <<< bitsLen L := ⟨_, rfl⟩
  have hM1 : 1 ≤ M := by rw [hM, Nat.one_shiftLeft]; exact Nat.two_pow_pos _
  have hM2 : M ≤ 2 * L := by rw [hM, Nat.one_shiftLeft]; exact two_pow_bitsLen_le (by omega)
  have hNP : ∀ w, Calls Tryz.prog 216 #[.int .i64 (L : Int)] w fun e w' => e = .returned (.int .u64 (M : Int)) ∧ w' = w := by rw [hM]; exact fun w => nextPowerOfTwo_any L (by omega) w
  rw [← hM]
  clear hM
  have hLz : ((a : Int) + (L : Int) - (a : Int)) = (L : Int) := by omega
  have h8z : (8 : Int) ≤ (L : Int) := by omega
  have hroom := hA.off.size
  have hA0 : (OrdAt g o ty w0 N) d (w.alloc (.cells #[.int .u64 (L : Int)] 355)) := hA.fresh (Off.alloc (Off.refl [] w) _) (fun x hx => by simp at hx)
  have hR0 : Blk (w.alloc (.cells #[.int .u64 (L : Int)] 355)) w.heap.size 355 #[.int .u64 (L : Int)] := Blk.new' _ _ _ rfl
  have HA0 := Lib.hid hA0
  have HR0 := Lib.hid hR0
  clear hA0 hR0
  go_enter Tryz.func223, Tryz.ntmps223
  go_wp2_with (first | (go_at_call 216; refine (hNP _).mono ?_; rintro e w' ⟨rfl, rfl⟩))
  go_loopg [9] 3 (fun g1 vi wr => ∃ (t : Nat) (r : UInt64) (dk : Array Int), vi = .int .i64 ((a + L / 4 * 2 - 1 + t : Nat) : Int) ∧ t ≤ 3 ∧ 3 - t ≤ g1 ∧ (OrdAt g o ty w0 N) dk wr ∧
      Hid (Blk wr w.heap.size 355 #[.int .u64 (r.toNat : Int)]) ∧ Hid (bpRest a L M (a + L / 4 * 2 - 1) (3 - t) t (r, dk) = bpRest a L M (a + L / 4 * 2 - 1) 3 0 (UInt64.ofNat L, d)))
  case atStart =>
    refine ⟨0, UInt64.ofNat L, d, by congr 1; omega, by omega, by omega, HA0.out, ?_, rfl⟩
    rw [show (UInt64.ofNat L).toNat = L from by simp; omega]
    exact HR0
  case round =>
    clear hA HA0 HR0
    obtain ⟨t, r, dk, rfl, ht, hg1, hA, HBR, HR⟩ := hrel
    obtain ⟨I, hI⟩ : ∃ I : Nat, I = a + L / 4 * 2 - 1 + t := ⟨_, rfl⟩
    rw [← hI]
    by_cases ht3 : t < 3
    · have hle : (I : Int) ≤ (a : Int) + (L : Int) / 4 * 2 + 1 := by omega
      have hIN : I < N := by omega
      have HI := Lib.hid hI
      obtain ⟨G, HG⟩ := named dk
      obtain ⟨R, hRr⟩ : ∃ R : Nat, R = r.toNat := ⟨_, rfl⟩
      have lR : R < 18446744073709551616 := by rw [hRr]; exact r.toNat_lt
      obtain ⟨R', hR'⟩ : ∃ R' : Nat, R' = xorNextN R := ⟨_, rfl⟩
      have lR' : R' < 18446744073709551616 := by rw [hR']; exact xorNextN_lt R lR
      obtain ⟨O, hO⟩ : ∃ O : Nat, O = R' &&& (M - 1) := ⟨_, rfl⟩
      have lO : O ≤ M - 1 := by rw [hO]; exact Nat.and_le_right
      have eAnd : bits .and .u64 (R' : Int) ((M : Int) - 1) = (O : Int) := by
        rw [show ((M : Int) - 1) = ((M - 1 : Nat) : Int) by omega, bits_and_u64_nat _ _ lR' (by omega), hO]
      have HN2 : Hid (R' = (xorNext r).toNat ∧ O = (xorNext r).toNat &&& (M - 1)) := by
        have e : R' = (xorNext r).toNat := by rw [hR', hRr, xorNext_toNat]
        exact ⟨e, by rw [hO, e]⟩
      have hBR := HBR.out
      rw [← hRr] at hBR
      have hNext0 := xorshift_next w.heap.size R 355 lR wr hBR
      rw [← hR'] at hNext0
      have hNext : Calls Tryz.prog 217 #[.pointer (some ⟨w.heap.size, 0, none⟩)] wr fun e w' => e = .returned (.int .u64 (R' : Int)) ∧ (OrdAt g o ty w0 N) dk w' ∧ Hid (Blk w' w.heap.size 355 #[.int .u64 (R' : Int)]) :=
        hNext0.mono fun e w' ⟨he, hw⟩ => ⟨he, by
          rw [hw]
          exact hA.fresh (((Off.refl [w.heap.size] wr).setCell (p := ⟨w.heap.size, 0, none⟩) (Or.inl (List.mem_singleton.2 rfl)) _).drewN 3) (fun x hx => by simp at hx; omega), by
          rw [hw]
          exact (hBR.fill1).drewN 3⟩
      clear hRr hR' hO hNext0 hBR HBR hA
      by_cases hLO : L ≤ O
      · have hLOz : (L : Int) ≤ (O : Int) := by omega
        obtain ⟨K, hK⟩ : ∃ K : Nat, K = O - L := ⟨_, rfl⟩
        have eK : (O : Int) - (L : Int) = (K : Int) := by omega
        have hKN : a + K < N := by omega
        have HK := Lib.hid hK
        clear hK hI
        go_wp2_with (go_at_call 217; refine hNext.mono ?_; rintro e w1 ⟨rfl, hA1, HB1⟩)
        have hcw := hA1.cell HG
        have hfw := hA1.frz
        have hgx := hA1.room
        obtain ⟨v', hy'⟩ := cell?_setCell_some (w := w1) (p := ⟨g, o + I, none⟩) (x := .int .u32 (G (a + K))) (q := ⟨g, o + (a + K), none⟩) (hA1.cell HG (a + K) hKN)
        have hy2 := (((HB1.out.drewN 1).far (p := ⟨g, o + I, none⟩) (by show w.heap.size ≠ g; omega) (.int .u32 (G (a + K)))).far (p := ⟨g, o + (a + K), none⟩) (by show w.heap.size ≠ g; omega) (.int .u32 (G I)))
        have HY2 := Lib.hid hy2
        clear hy2
        go_region
        have hA2 := hA1.swp HG 1 I (a + K) hIN hKN
        clear hcw hfw hA1
        go_wp2
        go_roundg (3 - (t + 1))
        case measure => omega
        case rel => exact ⟨t + 1, xorNext r, swp dk (a + L / 4 * 2 - 1 + t) (a + K), by have := HI.out; congr 1; omega, by omega, Nat.le_refl _, by rw [← HI.out]; exact hA2, by show Blk _ _ _ _; rw [← HN2.out.1]; exact HY2.out,
          (show Hid _ from by rw [← HR.out, bp_step a L M _ t r dk K ht3 (by rw [← HN2.out.2, if_pos (by omega), HK.out])]; exact rfl)⟩
      · have hLOz : ¬ (L : Int) ≤ (O : Int) := by omega
        have hON : a + O < N := by omega
        clear hI
        go_wp2_with (go_at_call 217; refine hNext.mono ?_; rintro e w1 ⟨rfl, hA1, HB1⟩)
        have hcw := hA1.cell HG
        have hfw := hA1.frz
        have hgx := hA1.room
        obtain ⟨v', hy'⟩ := cell?_setCell_some (w := w1) (p := ⟨g, o + I, none⟩) (x := .int .u32 (G (a + O))) (q := ⟨g, o + (a + O), none⟩) (hA1.cell HG (a + O) hON)
        have hy2 := (((HB1.out.drewN 1).far (p := ⟨g, o + I, none⟩) (by show w.heap.size ≠ g; omega) (.int .u32 (G (a + O)))).far (p := ⟨g, o + (a + O), none⟩) (by show w.heap.size ≠ g; omega) (.int .u32 (G I)))
        have HY2 := Lib.hid hy2
        clear hy2
        go_region
        have hA2 := hA1.swp HG 1 I (a + O) hIN hON
        clear hcw hfw hA1
        go_wp2
        go_roundg (3 - (t + 1))
        case measure => omega
        case rel => exact ⟨t + 1, xorNext r, swp dk (a + L / 4 * 2 - 1 + t) (a + O), by have := HI.out; congr 1; omega, by omega, Nat.le_refl _, by rw [← HI.out]; exact hA2, by show Blk _ _ _ _; rw [← HN2.out.1]; exact HY2.out,
          (show Hid _ from by rw [← HR.out, bp_step a L M _ t r dk O ht3 (by rw [← HN2.out.2, if_neg (by omega)])]; exact rfl)⟩
    · obtain rfl : t = 3 := by omega
      have hle : ¬ ((I : Int) ≤ (a : Int) + (L : Int) / 4 * 2 + 1) := by omega
      go_wp2
      go_end0
      refine ⟨rfl, ?_⟩
      rw [← HR.out]
      exact hA

set_option maxHeartbeats 1000000 in
set_option maxRecDepth 1000000 in
theorem breakPatterns_ord (cap a b : Nat) (d : Array Int) (w : World) (hA : (OrdAt g o ty w0 N) d w) (hab : a ≤ b) (hb : b ≤ N) (hN : N < 4611686018427387904) :
    Calls Tryz.prog 223 #[.slice (some ⟨g, o, none⟩) N cap, .int .i64 a, .int .i64 b] w fun e w' => e = .returned (.tuple #[]) ∧ (OrdAt g o ty w0 N) (breakPatterns d a b) w' := by
  obtain ⟨L, rfl⟩ : ∃ L, b = a + L := ⟨b - a, by omega⟩
  by_cases h8 : 8 ≤ L
  · exact breakPatterns_go cap a L d w hA hb hN h8
  · have hv : breakPatterns d a (a + L) = d := by unfold breakPatterns; simp only [Nat.add_sub_cancel_left]; rw [if_neg h8]
    rw [hv]
    have hLz : ((a : Int) + (L : Int) - (a : Int)) = (L : Int) := by omega
    have h8z : ¬ (8 : Int) ≤ (L : Int) := by omega
    go_enter Tryz.func223, Tryz.ntmps223
    go_wp2
    go_end0
    exact ⟨rfl, hA⟩
end Go.Proofs.YthmhnknkidkdlaaGreatDoor.Ord32
