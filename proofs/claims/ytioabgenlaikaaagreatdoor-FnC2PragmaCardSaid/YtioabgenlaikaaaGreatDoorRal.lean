/- io.ReadAtLeast and io.ReadFull where one Read gives all. -/
import Derived.Test.YtioabgenlaikaaaGreatDoorSs
import Derived.Test.YtioabgenlaikaaaGreatDoorProg
import Derived.Deep.RegionWith
import Derived.Deep.RegionLaw
import Derived.Deep.QuietTactic
import Derived.BigQuiet
import Derived.Deep.DeepFit
import Derived.RegionCalls
import Derived.LoopTactic
import Derived.LoopN
namespace Go.Proofs.YtioabgenlaikaaaGreatDoor
open Go.RowKit

theorem Drew.step {a b : World} (h : Drew a b) : Drew a b.drew := h.more 1

set_option maxRecDepth 100000 in
set_option maxHeartbeats 1000000 in
theorem readAtLeast_br (A g o m dc : Nat) (w : World) (Q : World → Prop) (hm0 : 0 < m) (hmc : m ≤ dc) (hbig : m ≤ 2147483700)
    (HC : ∀ W, Drew w W → Calls Tryz.prog 102 #[.pointer (some ⟨A, 0, none⟩), .slice (some ⟨g, o, none⟩) m dc] W fun e w' => e = .returned (.tuple #[.int .i64 m, .nilIface]) ∧ Q w') :
    Calls Tryz.prog 46 #[.iface 33 (.pointer (some ⟨A, 0, none⟩)), .slice (some ⟨g, o, none⟩) m dc, .int .i64 m] w fun e w' => e = .returned (.tuple #[.int .i64 m, .nilIface]) ∧ Q w' := by
  have hmf : ∀ (fn : Fn) (first cap : Array Value) (w : World), (Instr.makeFunc fn first cap).run Tryz.prog w = .ok (.func fn first cap) w := fun _ _ _ _ => rfl
  have hm1 := method_read
  have hm2 := nil_read
  have HH := Lib.hid HC
  have hw1 : IntKind.i64.wrap ((0 : Int) + (m : Int)) = (m : Int) := by rw [IntKind.wrap_i64]; omega
  have hdc : ¬ dc = 0 := by omega
  clear HC
  go_enter Tryz.func46, Tryz.ntmps46
  go_wp2_with fail
  refine wp_loop_rounds 2 ?_
  rw [rounds_succ]
  go_wp2_with fail
  go_region_with (go_at_call 102; refine (HH.out _ (by repeat' (first | exact Drew.refl _ | refine Drew.step ?_))).mono ?_; rintro e w1 ⟨rfl, hq⟩; have HQ1 := Lib.hid hq; clear hq)
  all_goals
    go_wp2_with fail
    rw [rounds_succ]
    go_wp2_with fail
    go_ret2
    exact ⟨rfl, HQ1.out⟩

set_option maxRecDepth 100000 in
set_option maxHeartbeats 1000000 in
theorem readAtLeast_ts (A g o m dc : Nat) (w : World) (Q : World → Prop) (hm0 : 0 < m) (hmc : m ≤ dc) (hbig : m ≤ 2147483700)
    (HC : ∀ W, Drew w W → Calls Tryz.prog 121 #[.pointer (some ⟨A, 0, none⟩), .slice (some ⟨g, o, none⟩) m dc] W fun e w' => e = .returned (.tuple #[.int .i64 m, .nilIface]) ∧ Q w') :
    Calls Tryz.prog 46 #[.iface 108 (.pointer (some ⟨A, 0, none⟩)), .slice (some ⟨g, o, none⟩) m dc, .int .i64 m] w fun e w' => e = .returned (.tuple #[.int .i64 m, .nilIface]) ∧ Q w' := by
  have hmf : ∀ (fn : Fn) (first cap : Array Value) (w : World), (Instr.makeFunc fn first cap).run Tryz.prog w = .ok (.func fn first cap) w := fun _ _ _ _ => rfl
  have hm1 := method_tRead
  have hm2 := nil_tRead
  have HH := Lib.hid HC
  have hw1 : IntKind.i64.wrap ((0 : Int) + (m : Int)) = (m : Int) := by rw [IntKind.wrap_i64]; omega
  have hdc : ¬ dc = 0 := by omega
  clear HC
  go_enter Tryz.func46, Tryz.ntmps46
  go_wp2_with fail
  refine wp_loop_rounds 2 ?_
  rw [rounds_succ]
  go_wp2_with fail
  go_region_with (go_at_call 121; refine (HH.out _ (by repeat' (first | exact Drew.refl _ | refine Drew.step ?_))).mono ?_; rintro e w1 ⟨rfl, hq⟩; have HQ1 := Lib.hid hq; clear hq)
  all_goals
    go_wp2_with fail
    rw [rounds_succ]
    go_wp2_with fail
    go_ret2
    exact ⟨rfl, HQ1.out⟩

end Go.Proofs.YtioabgenlaikaaaGreatDoor
