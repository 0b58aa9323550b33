/-
  laws.zzFits8, zzFits7, ixGood over entries in memory.
  (No condition beyond those that each theorem states.)
-/
import Derived.Test.YtcgggcjmmphldaaGreatDoorHa3
import Derived.Test.YtcgggcjmmphldaaGreatDoorHa4
import Derived.Deep.LoopGhost
namespace Go.Proofs.YtcgggcjmmphldaaGreatDoor
open Go.RowKit

set_option maxRecDepth 100000 in
set_option maxHeartbeats 2000000 in
theorem zzFits8_any (e : Ent) (w : World) :
    Calls Tryz.prog 9 #[.agg #[.int .u64 (e.ver : Int), .int .u64 (e.codec : Int), .int .u64 (e.code : Int), .string e.dg, .int .u64 (e.off : Int)]] w fun r w' => r = .returned (.bool (decide (e.dg.size ≤ 2147483647))) ∧ Off [] w w' := by
  have HZ := Lib.hid fun W => zzFits1_any e.ver e.codec e.code e.dg W
  obtain ⟨B, hB⟩ : ∃ B, B = decide (e.dg.size ≤ 2147483647) := ⟨_, rfl⟩
  rw [← hB] at HZ ⊢
  clear hB
  cases B
  all_goals
    go_enter Tryz.func9, Tryz.ntmps9
    go_wp2_with (go_at_call 18; refine (HZ.out _).mono ?_; rintro r w1 ⟨rfl, hb⟩; have HO := Lib.hid (Off.then (Off.alloc (Off.refl [] w) (.cells #[.int .u64 (e.ver : Int), .int .u64 (e.codec : Int), .int .u64 (e.code : Int), .string e.dg, .int .u64 (e.off : Int)] 27)) (Off.ofBelow (S := []) hb) (fun x hx => by simp at hx)); clear hb)
    go_ret
    exact ⟨rfl, HO.out⟩

def fitB (es : List Ent) : Bool := decide (es.length ≤ 2147483647) && es.all fun e => decide (e.dg.size ≤ 2147483647)
def goodB (kind : Nat) (es : List Ent) : Bool := decide (kind = 1024 ∨ kind = 1025) && es.all fun e => decide (e.dg.size ≤ 200) && tidyB e.ver e.codec e.code e.dg.size

set_option maxRecDepth 100000 in
set_option maxHeartbeats 4000000 in
theorem zzFits7_any (es : List Ent) (A : Option Addr) (ib io c n : Nat) (w : World) (hn : es.length = n) (hat : EntsAt w A ib io es) :
    Calls Tryz.prog 8 #[.slice A n c] w fun r w' => r = .returned (.bool (fitB es)) ∧ Off [] w w' := by
  obtain ⟨F, hF⟩ : ∃ F, F = fitB es := ⟨_, rfl⟩
  rw [← hF]
  have HF := Lib.hid hF
  clear hF
  have HAT := Lib.hid hat
  have HN := Lib.hid hn
  clear hat hn
  by_cases hbig : n ≤ 2147483647
  · go_enter Tryz.func8, Tryz.ntmps8
    go_wp2_with fail
    go_loopg [10] n (fun kx s10 wr => ∃ j : Nat, s10 = .int .i64 (j : Int) ∧ j ≤ n ∧ n - j ≤ kx ∧ Hid (Off [] w wr) ∧ Hid (∀ e, e ∈ es.take j → decide (e.dg.size ≤ 2147483647) = true))
    case atStart => exact ⟨0, rfl, Nat.zero_le _, by omega, Lib.hid (Off.refl [] w), Lib.hid (fun e he => by simp at he)⟩
    case round =>
      rename World => wr
      obtain ⟨j, rfl, hjn, hkx, HO, HA⟩ := hrel
      by_cases hlt : j < n
      · have hie : j < es.length := by have := HN.out; omega
        have hat := HAT.out.off HO.out (by simp)
        obtain ⟨hA, hib⟩ := hat.at_ (by omega)
        obtain ⟨c0, c1, c2, c3, c4⟩ := hat.cells j hie
        obtain ⟨ent, hent⟩ : ∃ ent, ent = es[j] := ⟨_, rfl⟩
        rw [← hent] at c0 c1 c2 c3 c4
        have HZ := Lib.hid fun W => zzFits8_any ent W
        have HM := Lib.hid (show ent ∈ es by rw [hent]; exact List.getElem_mem _)
        have HTK := Lib.hid (show es.take (j + 1) = es.take j ++ [ent] by rw [List.take_succ_eq_append_getElem hie, hent])
        obtain ⟨B, hB⟩ : ∃ B, B = decide (ent.dg.size ≤ 2147483647) := ⟨_, rfl⟩
        rw [← hB] at HZ
        have HB0 := Lib.hid hB
        clear hent hat hB
        subst hA
        cases B
        · go_wp2_with (go_at_call 9; refine (HZ.out _).mono ?_; rintro r w1 ⟨rfl, hb⟩; have HB := Lib.hid (Off.then (Off.alloc HO.out _) hb (fun x hx => by simp at hx)); clear hb)
          go_ret
          refine ⟨?_, HB.out⟩
          have : fitB es = false := by
            unfold fitB
            rw [Bool.and_eq_false_iff]
            exact Or.inr (List.all_eq_false.2 ⟨ent, HM.out, by rw [← HB0.out]; decide⟩)
          rw [HF.out, this]
          rfl
        · go_wp2_with (go_at_call 9; refine (HZ.out _).mono ?_; rintro r w1 ⟨rfl, hb⟩; have HB := Lib.hid (Off.then (Off.alloc HO.out _) hb (fun x hx => by simp at hx)); clear hb)
          go_roundg (n - (j + 1))
          case measure => omega
          case rel =>
            refine ⟨j + 1, rfl, by omega, by omega, HB, Lib.hid fun x hx => ?_⟩
            rw [HTK.out] at hx
            rcases List.mem_append.1 hx with hx | hx
            · exact HA.out x hx
            · rw [List.mem_singleton.1 hx]; exact HB0.out.symm
      · obtain rfl : j = n := by omega
        go_wp2_with fail
        go_ret
        refine ⟨?_, HO.out⟩
        have hl := HN.out
        have : fitB es = true := by
          unfold fitB
          rw [Bool.and_eq_true, decide_eq_true_eq]
          refine ⟨by omega, List.all_eq_true.2 fun e he => HA.out e ?_⟩
          rw [List.take_of_length_le (by omega)]
          exact he
        rw [HF.out, this]
        rfl
  · go_enter Tryz.func8, Tryz.ntmps8
    go_wp2_with fail
    go_ret
    refine ⟨?_, Off.refl [] w⟩
    have hl := HN.out
    have : fitB es = false := by
      unfold fitB
      rw [Bool.and_eq_false_iff]
      exact Or.inl (decide_eq_false (by omega))
    rw [HF.out, this]
    rfl

theorem good_false {kind : Nat} {es : List Ent} {e : Ent} (he : e ∈ es) (h : (decide (e.dg.size ≤ 200) && tidyB e.ver e.codec e.code e.dg.size) = false) : goodB kind es = false := by
  unfold goodB
  rw [Bool.and_eq_false_iff]
  exact Or.inr (List.all_eq_false.2 ⟨e, he, by rw [h]; decide⟩)
theorem ok_of_tidy {e : Ent} (h : true = tidyB e.ver e.codec e.code e.dg.size) (hz : e.dg.size ≤ 200) (ho : e.off < 18446744073709551616) : e.ok := by
  have hl : e.dg.data.toList.length = e.dg.size := by rw [Array.length_toList]; rfl
  refine ⟨?_, by omega, ho⟩
  unfold tidyB at h
  by_cases h0 : e.ver = 0
  · rw [if_pos h0] at h
    simp only [Bool.and_eq_true, beq_iff_eq, eq_comm (a := true)] at h
    exact Or.inl ⟨h0, h.1.1, h.1.2, by omega⟩
  · rw [if_neg h0] at h
    simp only [Bool.and_eq_true, beq_iff_eq, decide_eq_true_eq, eq_comm (a := true)] at h
    exact Or.inr ⟨h.1.1, h.1.2, h.2⟩

set_option maxRecDepth 100000 in
set_option maxHeartbeats 4000000 in
theorem ixGood_any (es : List Ent) (A : Option Addr) (ib io c n kind : Nat) (w : World) (hn : es.length = n) (hn2 : n ≤ 100) (hat : EntsAt w A ib io es) :
    Calls Tryz.prog 10 #[.slice A n c, .int .u64 (kind : Int)] w fun r w' => r = .returned (.bool (goodB kind es)) ∧ Off [] w w' := by
  obtain ⟨F, hF⟩ : ∃ F, F = goodB kind es := ⟨_, rfl⟩
  rw [← hF]
  have HF := Lib.hid hF
  clear hF
  have HAT := Lib.hid hat
  have HN := Lib.hid hn
  clear hat hn
  by_cases hk : kind = 1024 ∨ kind = 1025
  · rcases hk with rfl | rfl
    all_goals
      go_enter Tryz.func10, Tryz.ntmps10
      go_wp2_with fail
      go_loopg [20] n (fun kx s20 wr => ∃ j : Nat, s20 = .int .i64 (j : Int) ∧ j ≤ n ∧ n - j ≤ kx ∧ Hid (Off [] w wr ∧ ∀ e, e ∈ es.take j → (decide (e.dg.size ≤ 200) && tidyB e.ver e.codec e.code e.dg.size) = true))
      case atStart => exact ⟨0, rfl, Nat.zero_le _, by omega, Lib.hid ⟨Off.refl [] w, fun e he => by simp at he⟩⟩
      case round =>
        rename World => wr
        obtain ⟨j, rfl, hjn, hkx, hh⟩ := hrel
        obtain ⟨hO, hall⟩ := hh.out
        have HO := Lib.hid hO
        have HA := Lib.hid hall
        clear hO hall hh
        by_cases hlt : j < n
        · have hie : j < es.length := by have := HN.out; omega
          have hat := HAT.out.off HO.out (by simp)
          obtain ⟨hA, hib⟩ := hat.at_ (by omega)
          obtain ⟨c0, c1, c2, c3, c4⟩ := hat.cells j hie
          obtain ⟨ent, hent⟩ : ∃ ent, ent = es[j] := ⟨_, rfl⟩
          rw [← hent] at c0 c1 c2 c3 c4
          have HM := Lib.hid (show ent ∈ es by rw [hent]; exact List.getElem_mem _)
          have HTK := Lib.hid (show es.take (j + 1) = es.take j ++ [ent] by rw [List.take_succ_eq_append_getElem hie, hent])
          have HT := Lib.hid fun W => tidy_any ent.ver ent.codec ent.code ent.dg W
          obtain ⟨B, hB⟩ : ∃ B, B = tidyB ent.ver ent.codec ent.code ent.dg.size := ⟨_, rfl⟩
          rw [← hB] at HT
          have HB := Lib.hid hB
          clear hent hat hB
          subst hA
          by_cases hz : ent.dg.size ≤ 200
          · have hz2 : (ent.dg.size : Int) ≤ 200 := by omega
            have HZ := Lib.hid hz
            clear hz
            cases B
            · go_wp2_with (go_at_call 19; refine (HT.out _).mono ?_; rintro r w1 ⟨rfl, hb⟩; have HO1 := Lib.hid (Off.then (Off.alloc HO.out _) (Off.ofBelow (S := []) hb) (fun x hx => by simp at hx)); clear hb)
              go_ret
              refine ⟨?_, HO1.out⟩
              rw [HF.out, good_false HM.out (by rw [← HB.out, Bool.and_false])]
              rfl
            · go_wp2_with (go_at_call 19; refine (HT.out _).mono ?_; rintro r w1 ⟨rfl, hb⟩; have HO1 := Lib.hid (Off.then (Off.alloc HO.out _) (Off.ofBelow (S := []) hb) (fun x hx => by simp at hx)); clear hb)
              go_roundg (n - (j + 1))
              case measure => omega
              case rel =>
                refine ⟨j + 1, rfl, by omega, by omega, Lib.hid ⟨HO1.out, ?_⟩⟩
                rw [HTK.out]
                intro e he
                rcases List.mem_append.1 he with he | he
                · exact HA.out e he
                · rw [List.mem_singleton.1 he]
                  rw [← HB.out, decide_eq_true HZ.out]; rfl
          · have hz2 : ¬ (ent.dg.size : Int) ≤ 200 := by omega
            have HZ := Lib.hid hz
            clear hz
            go_wp2_with fail
            go_ret
            refine ⟨?_, HO.out.alloc _⟩
            rw [HF.out, good_false HM.out (by rw [decide_eq_false HZ.out, Bool.false_and])]
            rfl
        · obtain rfl : j = n := by omega
          go_wp2_with fail
          go_ret
          refine ⟨?_, HO.out⟩
          have hl := HN.out
          rw [HF.out]
          have : ∀ k, k = 1024 ∨ k = 1025 → goodB k es = true := fun k hk => by
            unfold goodB
            rw [decide_eq_true hk, Bool.true_and]
            refine List.all_eq_true.2 fun e he => HA.out e ?_
            rw [List.take_of_length_le (by omega)]
            exact he
          rw [this _ (by simp)]
          rfl
  · have hk1 : ((kind : Int) == 1024) = false := beqF (by omega)
    have hk2 : ((kind : Int) == 1025) = false := beqF (by omega)
    have hk3 : ((kind : Int) != 1024) = true := by rw [bne, hk1]; rfl
    have hk4 : ((kind : Int) != 1025) = true := by rw [bne, hk2]; rfl
    have HK := Lib.hid hk
    clear hk
    go_enter Tryz.func10, Tryz.ntmps10
    go_wp2_with fail
    go_ret
    refine ⟨?_, Off.refl [] w⟩
    have : goodB kind es = false := by
      unfold goodB
      rw [decide_eq_false HK.out, Bool.false_and]
    rw [HF.out, this]
    rfl
theorem good_ok {kind : Nat} {es : List Ent} (h : goodB kind es = true) (ho : ∀ e, e ∈ es → e.off < 18446744073709551616) : (kind = 1024 ∨ kind = 1025) ∧ ∀ e, e ∈ es → e.ok ∧ e.dg.size ≤ 200 := by
  unfold goodB at h
  rw [Bool.and_eq_true, decide_eq_true_eq] at h
  refine ⟨h.1, fun e he => ?_⟩
  have := List.all_eq_true.1 h.2 e he
  rw [Bool.and_eq_true, decide_eq_true_eq] at this
  exact ⟨ok_of_tidy this.2.symm this.1 (ho e he), this.1⟩
end Go.Proofs.YtcgggcjmmphldaaGreatDoor
