/- strings.Builder: what its writing methods do at a builder that has been used. -/
import Derived.Test.YtpipfopddlgakaaDoorShelf
import Derived.Test.YtpipfopddlgakaaDoorMh
import Derived.Lib.Builder
namespace Go.Proofs.YtpipfopddlgakaaDoor
open Go.RowKit

set_option maxRecDepth 100000 in
theorem copyCheck_used (b : Nat) (w : World) (h0 : w.cell? ⟨b, 0, none⟩ = some (.pointer (some ⟨b, 0, none⟩))) :
    Calls Tryd.prog 48 #[.pointer (some ⟨b, 0, none⟩)] w fun e w' => e = .returned (.tuple #[]) ∧ w = w' := by
  obtain ⟨j, hj, _⟩ := Option.map_eq_some_iff.1 (show (Tryd.prog.info? 66).map (fun i => i.size) = some 2 by kernel_rfl)
  have hne := fun W => Lib.run_neq_ptr_same (P := Tryd.prog) W ⟨b, 0, none⟩ Tryd.underlying64 hj
  go_enter Tryd.func48, Tryd.ntmps48
  go_wp2
  go_end0
  exact ⟨rfl, rfl⟩

set_option maxRecDepth 100000 in
set_option maxHeartbeats 1000000 in
theorem bldWriteByte (B b : Nat) (bs : List Value) (c : Int) (w : World) (h : Lib.BuilderAt 66 5 B b (.pointer (some ⟨b, 0, none⟩)) bs w) (hlen : bs.length + 1 ≤ 140737488355328) (hBw : B ≤ w.heap.size) :
    Calls Tryd.prog 31 #[.pointer (some ⟨b, 0, none⟩), .int .u8 c] w fun e w' => e = .returned .nilIface ∧ Lib.BuilderAt 66 5 B b (.pointer (some ⟨b, 0, none⟩)) (bs ++ [.int .u8 c]) w' ∧ Below B w w' := by
  obtain ⟨i0, hi, hz0, hz1, hz2⟩ := info_parts Tryd.infoByte
  have hlt := h.lt
  have c0 := h.cell0
  obtain ⟨hB, v, hbk, hown, hne⟩ := h
  have c1 : w.cell? ⟨b, 1, none⟩ = some v := by rw [Lib.cell_of_heap hbk]; rfl
  have HBK := Lib.hid hbk
  have HO := Lib.hid hown
  have HNE := Lib.hid hne
  clear hbk hown hne
  go_enter Tryd.func31, Tryd.ntmps31
  go_wp2_with fail
  refine (copyCheck_used b w c0).mono ?_
  rintro e w' ⟨rfl, rfl⟩
  go_wp2_with (at_builtin; refine wpList_append_own _ rfl _ _ 33 rfl B 5 i0 (.int .u8 0) 1 1 Tryd.underlying33 hi hz0 hz1 hz2 rfl (by decide) _ _ _ rfl (HO.out.alloc _) ⟨w.heap.size, 0, none⟩ 1 1 [.int .u8 c] rfl rfl ?c1 ?c2 ?c3 ?c4 ?c5 ?_)
  case c1 =>
    intro j u hj
    match j, hj with
    | 0, hj => simp at hj; subst hj; simp [Addr.add]
  case c2 => intro u hu; simp at hu; subst hu; rfl
  case c3 => unfold maxLen; omega
  case c4 => omega
  case c5 => simp; omega
  intro v' w2 hown' hgrow _
  have hb2 : w2.heap[b]? = some (.cells #[.pointer (some ⟨b, 0, none⟩), v] 66 (0, 0)) := by
    rw [hgrow.block b (by simp; omega) (fun e => HNE.out e.symm), Lib.alloc_old w _ b hlt]
    exact HBK.out
  have d0 : w2.cell? ⟨b, 0, none⟩ = some (.pointer (some ⟨b, 0, none⟩)) := by rw [Lib.cell_of_heap hb2]; rfl
  have d1 : w2.cell? ⟨b, 1, none⟩ = some v := by rw [Lib.cell_of_heap hb2]; rfl
  have f1 : w2.frozen? ⟨b, 1, none⟩ = false := Lib.frozen_of_heap hb2 1
  obtain ⟨g, cap, rfl⟩ : ∃ g cap, v' = .slice (some ⟨g, 0, none⟩) (bs.length + 1) cap := by
    rcases hown'.2 with ⟨_, h0⟩ | ⟨g, cap, cur, hv, _⟩
    · omega
    · exact ⟨g, cap, hv⟩
  have HB2 := Lib.hid hb2
  have HOW := Lib.hid hown'
  have HGR := Lib.hid hgrow
  clear hb2 hown' hgrow
  go_wp2_with fail
  go_ret
  refine ⟨rfl, ?_, ?_⟩
  · exact Lib.BuilderAt.put (T := 66) (e := 5) hB HB2.out (bs' := bs ++ [.int .u8 c]) (by simpa using HOW.out) (by decide)
  · exact ((((Below.refl B w).alloc hBw _).grown HGR.out (by simp; omega) (fun k hk => (HO.out.lt k hk).1))).setCell (p := ⟨b, 1, none⟩) hB _

set_option maxRecDepth 100000 in
set_option maxHeartbeats 1000000 in
theorem bldWrite (B b : Nat) (bs : List Value) (sb so sc n : Nat) (l : List UInt8) (w : World) (h : Lib.BuilderAt 66 5 B b (.pointer (some ⟨b, 0, none⟩)) bs w) (hn : l.length = n) (hlen : bs.length + n ≤ 140737488355328) (hp : 0 < n) (hBw : B ≤ w.heap.size) (hs : Seg w sb so l) :
    Calls Tryd.prog 32 #[.pointer (some ⟨b, 0, none⟩), .slice (some ⟨sb, so, none⟩) n sc] w fun e w' => e = .returned (.tuple #[.int .i64 n, .nilIface]) ∧ Lib.BuilderAt 66 5 B b (.pointer (some ⟨b, 0, none⟩)) (bs ++ Lib.byteCells l) w' ∧ Below B w w' := by
  obtain ⟨i0, hi, hz0, hz1, hz2⟩ := info_parts Tryd.infoByte
  have hlt := h.lt
  have c0 := h.cell0
  obtain ⟨hB, v, hbk, hown, hne⟩ := h
  have c1 : w.cell? ⟨b, 1, none⟩ = some v := by rw [Lib.cell_of_heap hbk]; rfl
  have HBK := Lib.hid hbk
  have HO := Lib.hid hown
  have HNE := Lib.hid hne
  have HS := Lib.hid hs
  have HN := Lib.hid hn
  clear hbk hown hne hs hn
  go_enter Tryd.func32, Tryd.ntmps32
  go_wp2_with fail
  refine (copyCheck_used b w c0).mono ?_
  rintro e w' ⟨rfl, rfl⟩
  go_wp2_with (at_builtin; refine wpList_append_own _ rfl _ _ 33 rfl B 5 i0 (.int .u8 0) 1 1 Tryd.underlying33 hi hz0 hz1 hz2 rfl (by decide) _ _ _ rfl HO.out ⟨sb, so, none⟩ n sc (Lib.byteCells l) rfl ?c0 ?c1 ?c2 ?c3 ?c4 ?c5 ?_)
  case c0 => rw [Lib.byteCells_length, HN.out, Nat.mul_one]
  case c1 => exact HS.out.cells
  case c2 => exact byteCells_one l
  case c3 => unfold maxLen; omega
  case c4 => omega
  case c5 => omega
  intro v' w2 hown' hgrow _
  have hb2 : w2.heap[b]? = some (.cells #[.pointer (some ⟨b, 0, none⟩), v] 66 (0, 0)) := by
    rw [hgrow.block b hlt (fun e => HNE.out e.symm)]
    exact HBK.out
  have d0 : w2.cell? ⟨b, 0, none⟩ = some (.pointer (some ⟨b, 0, none⟩)) := by rw [Lib.cell_of_heap hb2]; rfl
  have d1 : w2.cell? ⟨b, 1, none⟩ = some v := by rw [Lib.cell_of_heap hb2]; rfl
  have f1 : w2.frozen? ⟨b, 1, none⟩ = false := Lib.frozen_of_heap hb2 1
  obtain ⟨g, cap, rfl⟩ : ∃ g cap, v' = .slice (some ⟨g, 0, none⟩) (bs.length + n) cap := by
    rcases hown'.2 with ⟨_, h0⟩ | ⟨g, cap, cur, hv, _⟩
    · omega
    · exact ⟨g, cap, hv⟩
  have HB2 := Lib.hid hb2
  have HOW := Lib.hid hown'
  have HGR := Lib.hid hgrow
  clear hb2 hown' hgrow
  go_wp2_with fail
  go_ret2
  refine ⟨rfl, ?_, ?_⟩
  · refine Lib.BuilderAt.put (T := 66) (e := 5) hB HB2.out (bs' := bs ++ Lib.byteCells l) ?_ (by decide)
    have h := HOW.out
    rw [← HN.out] at h ⊢
    simpa [Lib.byteCells_length] using h
  · exact ((Below.refl B w).grown HGR.out hBw (fun k hk => (HO.out.lt k hk).1)).setCell (p := ⟨b, 1, none⟩) hB _
end Go.Proofs.YtpipfopddlgakaaDoor
