/- What the statements' own guards compute of an identifier. -/
import Derived.Test.YtpipfopddlgakaaDoorCidIn
namespace Go.Proofs.YtpipfopddlgakaaDoor
open Go.RowKit

/-- Is it a tidy identifier? -/
def tidyB (ver codec code n : Nat) : Bool := if ver = 0 then (codec == 112 && code == 18 && n == 32) else (ver == 1 && decide (codec < 9223372036854775808) && decide (code < 9223372036854775808))

theorem beqT {a : Nat} {b : Int} (h : (a : Int) = b) : ((a : Int) == b) = true := beq_iff_eq.2 h
theorem beqF {a : Nat} {b : Int} (h : ¬ (a : Int) = b) : ((a : Int) == b) = false := beq_eq_false_iff_ne.2 h

set_option maxRecDepth 100000 in
set_option maxHeartbeats 2000000 in
theorem tidy_any (ver codec code : Nat) (dg : ByteArray) (w : World) :
    Calls Tryd.prog 8 #[cidV ver codec code dg] w fun e w' => e = .returned (.bool (tidyB ver codec code dg.size)) ∧ Below w.heap.size w w' := by
  obtain ⟨B, hB⟩ : ∃ B, B = tidyB ver codec code dg.size := ⟨_, rfl⟩
  rw [← hB]
  have HB := Lib.hid hB
  clear hB
  have cs : (ver = 0 ∧ ¬ codec = 112) ∨ (ver = 0 ∧ codec = 112 ∧ ¬ code = 18) ∨ (ver = 0 ∧ codec = 112 ∧ code = 18 ∧ ¬ dg.size = 32) ∨ (ver = 0 ∧ codec = 112 ∧ code = 18 ∧ dg.size = 32) ∨ (¬ ver = 0 ∧ ¬ ver = 1) ∨
      (ver = 1 ∧ ¬ codec < 9223372036854775808) ∨ (ver = 1 ∧ codec < 9223372036854775808 ∧ ¬ code < 9223372036854775808) ∨ (ver = 1 ∧ codec < 9223372036854775808 ∧ code < 9223372036854775808) := by omega
  rcases cs with ⟨h1, h2⟩ | ⟨h1, h2, h3⟩ | ⟨h1, h2, h3, h4⟩ | ⟨h1, h2, h3, h4⟩ | ⟨h1, h2⟩ | ⟨h1, h2⟩ | ⟨h1, h2, h3⟩ | ⟨h1, h2, h3⟩
  · have a0 := beqT (b := 0) (a := ver) (by omega)
    have a1 := beqF (b := 112) (a := codec) (by omega)
    have H := Lib.hid (And.intro h1 h2)
    clear h1 h2
    go_enter Tryd.func8, Tryd.ntmps8
    go_wp2_with fail
    go_ret
    refine ⟨?_, (Below.refl _ w).alloc (Nat.le_refl _) _⟩
    have := H.out
    rw [HB.out]; simp [tidyB, this]
  · have a0 := beqT (b := 0) (a := ver) (by omega)
    have a1 := beqT (b := 112) (a := codec) (by omega)
    have a2 := beqF (b := 18) (a := code) (by omega)
    have H := Lib.hid (And.intro h1 (And.intro h2 h3))
    clear h1 h2 h3
    go_enter Tryd.func8, Tryd.ntmps8
    go_wp2_with fail
    go_ret
    refine ⟨?_, (Below.refl _ w).alloc (Nat.le_refl _) _⟩
    have := H.out
    rw [HB.out]; simp [tidyB, this]
  · have a0 := beqT (b := 0) (a := ver) (by omega)
    have a1 := beqT (b := 112) (a := codec) (by omega)
    have a2 := beqT (b := 18) (a := code) (by omega)
    have a3 := beqF (b := 32) (a := dg.size) (by omega)
    have H := Lib.hid (And.intro h1 (And.intro h2 (And.intro h3 h4)))
    clear h1 h2 h3 h4
    go_enter Tryd.func8, Tryd.ntmps8
    go_wp2_with fail
    go_ret
    refine ⟨?_, (Below.refl _ w).alloc (Nat.le_refl _) _⟩
    have := H.out
    rw [HB.out]; simp [tidyB, this]
  · have a0 := beqT (b := 0) (a := ver) (by omega)
    have a1 := beqT (b := 112) (a := codec) (by omega)
    have a2 := beqT (b := 18) (a := code) (by omega)
    have a3 := beqT (b := 32) (a := dg.size) (by omega)
    have H := Lib.hid (And.intro h1 (And.intro h2 (And.intro h3 h4)))
    clear h1 h2 h3 h4
    go_enter Tryd.func8, Tryd.ntmps8
    go_wp2_with fail
    go_ret
    refine ⟨?_, (Below.refl _ w).alloc (Nat.le_refl _) _⟩
    have := H.out
    rw [HB.out]; simp [tidyB, this]
  · have a0 := beqF (b := 0) (a := ver) (by omega)
    have a1 := beqF (b := 1) (a := ver) (by omega)
    have H := Lib.hid (And.intro h1 h2)
    clear h1 h2
    go_enter Tryd.func8, Tryd.ntmps8
    go_wp2_with fail
    go_ret
    refine ⟨?_, (Below.refl _ w).alloc (Nat.le_refl _) _⟩
    have := H.out
    rw [HB.out]; simp [tidyB, this]
  · have a0 := beqF (b := 0) (a := ver) (by omega)
    have a1 := beqT (b := 1) (a := ver) (by omega)
    have a2 : ¬ ((codec : Int) < 9223372036854775808) := by omega
    have H := Lib.hid (And.intro h1 h2)
    clear h1 h2
    go_enter Tryd.func8, Tryd.ntmps8
    go_wp2_with fail
    go_ret
    refine ⟨?_, (Below.refl _ w).alloc (Nat.le_refl _) _⟩
    have := H.out
    rw [HB.out]; simp [tidyB, this]
  · have a0 := beqF (b := 0) (a := ver) (by omega)
    have a1 := beqT (b := 1) (a := ver) (by omega)
    have a2 : (codec : Int) < 9223372036854775808 := by omega
    have a3 : ¬ ((code : Int) < 9223372036854775808) := by omega
    have H := Lib.hid (And.intro h1 (And.intro h2 h3))
    clear h1 h2 h3
    go_enter Tryd.func8, Tryd.ntmps8
    go_wp2_with fail
    go_ret
    refine ⟨?_, (Below.refl _ w).alloc (Nat.le_refl _) _⟩
    have := H.out
    rw [HB.out]; simp [tidyB, this]
  · have a0 := beqF (b := 0) (a := ver) (by omega)
    have a1 := beqT (b := 1) (a := ver) (by omega)
    have a2 : (codec : Int) < 9223372036854775808 := by omega
    have a3 : (code : Int) < 9223372036854775808 := by omega
    have H := Lib.hid (And.intro h1 (And.intro h2 h3))
    clear h1 h2 h3
    go_enter Tryd.func8, Tryd.ntmps8
    go_wp2_with fail
    go_ret
    refine ⟨?_, (Below.refl _ w).alloc (Nat.le_refl _) _⟩
    have := H.out
    rw [HB.out]; simp [tidyB, this]

set_option maxRecDepth 100000 in
theorem zzFits1_any (ver codec code : Nat) (dg : ByteArray) (w : World) :
    Calls Tryd.prog 4 #[cidV ver codec code dg] w fun e w' => e = .returned (.bool (decide (dg.size ≤ 2147483647))) ∧ Below w.heap.size w w' := by
  by_cases h : dg.size ≤ 2147483647
  · have h2 : ¬ (2147483647 < (dg.size : Int)) := by omega
    rw [show decide (dg.size ≤ 2147483647) = true from by simpa using h]
    clear h
    go_enter Tryd.func4, Tryd.ntmps4
    go_wp2_with fail
    go_ret
    exact ⟨rfl, (Below.refl _ w).alloc (Nat.le_refl _) _⟩
  · have h2 : (2147483647 < (dg.size : Int)) := by omega
    rw [show decide (dg.size ≤ 2147483647) = false from by simpa using h]
    clear h
    go_enter Tryd.func4, Tryd.ntmps4
    go_wp2_with fail
    go_ret
    exact ⟨rfl, (Below.refl _ w).alloc (Nat.le_refl _) _⟩
end Go.Proofs.YtpipfopddlgakaaDoor
