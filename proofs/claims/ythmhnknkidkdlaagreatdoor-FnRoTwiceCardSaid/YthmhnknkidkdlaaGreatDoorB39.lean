/-
  car.LoadIndex over a file of version 1 that ends behind its sections.
  (No condition beyond those that each theorem states.)
-/
import Derived.Test.YthmhnknkidkdlaaGreatDoorB38
import Derived.Test.YthmhnknkidkdlaaGreatDoorB07
namespace Go.Proofs.YthmhnknkidkdlaaGreatDoor
open Go.RowKit

theorem genE_dg : ∀ (bs : List Bk) (a : Nat), (∀ b, b ∈ bs → b.ok) → ∀ e, e ∈ genE a bs → e.dg.size ≤ 200
  | [], a, _, e, h => by simp [genE] at h
  | b :: bs, a, hb, e, h => by
    rw [genE, List.mem_append] at h
    rcases h with h | h
    · by_cases h0 : b.1.code = 0
      · rw [if_pos h0] at h; simp at h
      · rw [if_neg h0] at h
        rw [List.mem_singleton.1 h]
        exact (hb b List.mem_cons_self).dg
    · exact genE_dg bs _ (fun x hx => hb x (List.mem_cons_of_mem _ hx)) e h

end Go.Proofs.YthmhnknkidkdlaaGreatDoor
