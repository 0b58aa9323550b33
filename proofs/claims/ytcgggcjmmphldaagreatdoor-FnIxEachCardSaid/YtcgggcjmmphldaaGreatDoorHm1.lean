/-
  laws.FnIxBytes: an index of entries is written as the specification says.
  (No condition beyond those that each theorem states.)
-/
import Derived.Test.YtcgggcjmmphldaaGreatDoorHl2
import Derived.Test.YtcgggcjmmphldaaGreatDoorHa5
namespace Go.Proofs.YtcgggcjmmphldaaGreatDoor
open Go.RowKit

theorem one_each_of {kind : Nat} {es : List Ent} (h : onceP kind es) : OneEach kind (rws es) := fun x y hx hy hk hd => by
  obtain ⟨e1, h1, rfl⟩ := List.mem_map.1 hx
  obtain ⟨e2, h2, rfl⟩ := List.mem_map.1 hy
  obtain ⟨p, hp, rfl⟩ := List.getElem_of_mem h1
  obtain ⟨q, hq, rfl⟩ := List.getElem_of_mem h2
  have hdg : es[p].dg = es[q].dg := ByteArray.ext (Array.toList_inj.1 hd)
  have hk' : kind = 1024 ∨ es[p].code = es[q].code := hk
  rcases Nat.lt_trichotomy p q with hpq | rfl | hpq
  · exact absurd ⟨hdg.symm, hk'.imp id Eq.symm⟩ (h q p hq hpq)
  · rfl
  · exact absurd ⟨hdg, hk'⟩ (h p q hp hpq)

set_option maxRecDepth 100000 in
theorem ixGood_big (A : Option Addr) (c n kind : Nat) (w : World) (hn : 100 < n) :
    Calls Tryz.prog 10 #[.slice A n c, .int .u64 (kind : Int)] w fun r w' => r = .returned (.bool false) ∧ Off [] w w' := by
  have hz : (n : Int) > 100 := by omega
  go_enter Tryz.func10, Tryz.ntmps10
  go_wp2_with fail
  go_ret
  exact ⟨rfl, Off.refl [] w⟩

/-- laws.ixGood at any number of entries. -/
theorem ixGood_all (es : List Ent) (A : Option Addr) (ib io c n kind : Nat) (w : World) (hn : es.length = n) (hat : EntsAt w A ib io es) :
    Calls Tryz.prog 10 #[.slice A n c, .int .u64 (kind : Int)] w fun r w' => r = .returned (.bool (decide (n ≤ 100) && goodB kind es)) ∧ Off [] w w' := by
  by_cases h : n ≤ 100
  · refine (ixGood_any es A ib io c n kind w hn h hat).mono ?_
    rintro r w' ⟨rfl, ho⟩
    exact ⟨by rw [decide_eq_true h]; rfl, ho⟩
  · refine (ixGood_big A c n kind w (by omega)).mono ?_
    rintro r w' ⟨rfl, ho⟩
    exact ⟨by rw [decide_eq_false h]; rfl, ho⟩

set_option maxRecDepth 100000 in
set_option maxHeartbeats 4000000 in
theorem bytes_true (es : List Ent) (A : Option Addr) (ib io c n kind : Nat) (a : Addr) (w : World) (hn : es.length = n) (hA0 : A = none → n = 0 ∧ c = 0) (hnc : n ≤ c) (hat : EntsAt w A ib io es) (hoff : ∀ e, e ∈ es → e.off < 18446744073709551616)
    (hE : w.cell? ⟨0, 0, none⟩ = some (notF a)) :
    Calls Tryz.prog 4 #[.slice A n c, .int .u64 (kind : Int)] w fun r w' => r = .returned (.bool true) ∧ Off [] w w' := by
  have HN := Lib.hid hn
  have HAT := Lib.hid hat
  have HE := Lib.hid hE
  have HOFF := Lib.hid hoff
  have HA0 := Lib.hid hA0
  have H1 := Lib.hid (zzFits7_any es A ib io c n w hn hat)
  clear hn hat hE hoff hA0
  obtain ⟨F, hF⟩ : ∃ F, F = fitB es := ⟨_, rfl⟩
  obtain ⟨G, hG⟩ : ∃ G, G = (decide (n ≤ 100) && goodB kind es) := ⟨_, rfl⟩
  have HF := Lib.hid hF
  have HG := Lib.hid hG
  clear hF hG
  go_enter Tryz.func4, Tryz.ntmps4
  cases F with
  | false =>
    go_wp2_with (first
      | (go_at_call 8
         refine H1.out.mono ?_
         rintro r w1 ⟨rfl, ho1⟩
         rw [← HF.out]
         have HO1 := Lib.hid ho1
         clear ho1))
    go_ret
    exact ⟨rfl, HO1.out⟩
  | true =>
    cases G with
    | false =>
      go_wp2_with (first
        | (go_at_call 10
           refine (ixGood_all es A ib io c n kind w1 HN.out (HAT.out.off HO1.out (by simp))).mono ?_
           rintro r w2 ⟨rfl, ho2⟩
           rw [← HG.out]
           have HO2 := Lib.hid (HO1.out.then ho2 (fun x hx => by simp at hx))
           clear ho2)
        | (go_at_call 8
           refine H1.out.mono ?_
           rintro r w1 ⟨rfl, ho1⟩
           rw [← HF.out]
           have HO1 := Lib.hid ho1
           clear ho1))
      go_ret
      exact ⟨rfl, HO2.out⟩
    | true =>
      have hgg : n ≤ 100 ∧ goodB kind es = true := by
        have h := HG.out.symm
        rw [Bool.and_eq_true, decide_eq_true_eq] at h
        exact h
      have hn2 := hgg.1
      obtain ⟨hk, hok⟩ := good_ok hgg.2 HOFF.out
      have HK := Lib.hid hk
      have HOK := Lib.hid (fun e he => (hok e he).1)
      clear hgg hk hok
      obtain ⟨O, hO⟩ : ∃ O, O = onceB kind es := ⟨_, rfl⟩
      have HO := Lib.hid hO
      clear hO
      cases O with
      | false =>
        go_wp2_with (first
          | (go_at_call 15
             refine (once_any es A ib io c n kind w2 HN.out (by omega) hnc (HAT.out.off HO2.out (by simp))).mono ?_
             rintro r w3 ⟨rfl, ho3⟩
             rw [← HO.out]
             have HO3 := Lib.hid (HO2.out.then ho3 (fun x hx => by simp at hx))
             clear ho3)
          | (go_at_call 10
             refine (ixGood_all es A ib io c n kind w1 HN.out (HAT.out.off HO1.out (by simp))).mono ?_
             rintro r w2 ⟨rfl, ho2⟩
             rw [← HG.out]
             have HO2 := Lib.hid (HO1.out.then ho2 (fun x hx => by simp at hx))
             clear ho2)
          | (go_at_call 8
             refine H1.out.mono ?_
             rintro r w1 ⟨rfl, ho1⟩
             rw [← HF.out]
             have HO1 := Lib.hid ho1
             clear ho1))
        go_ret
        exact ⟨rfl, HO3.out⟩
      | true =>
        go_wp2_with (first
          | (go_at_call 17
             refine (ixOne_any kind HK.out a w5 (HO5.out.cell HE.out (by simp))).mono ?_
             rintro r w6 ⟨rfl, ho6⟩
             have HO6 := Lib.hid (HO5.out.then ho6 (fun x hx => by simp at hx))
             clear ho6)
          | (go_at_call 16
             refine (indexBytes_any kind HK.out es A ib io c n w4 HOK.out HN.out hn2 HA0.out (HAT.out.off HO4.out (by simp))).mono ?_
             rintro r w5 ⟨s5, hs5, rfl, ho5⟩
             obtain ⟨b5, hb5⟩ : ∃ b, b = (⟨s5.toArray⟩ : ByteArray) := ⟨_, rfl⟩
             rw [← hb5]
             have heq : b4 = b5 := by rw [HB4.out, hb5, enc_unique HS4.out hs5 (one_each_of (onceP_of HO.out.symm))]
             have HO5 := Lib.hid (HO4.out.then ho5 (fun x hx => by simp at hx))
             clear hs5 hb5 ho5
             subst heq)
          | (go_at_call 11
             refine (ixBytes_enc kind HK.out es A ib io c n w3 HOK.out HN.out (by omega) (HAT.out.off HO3.out (by simp))).mono ?_
             rintro r w4 ⟨s4, hs4, rfl, ho4⟩
             obtain ⟨b4, hb4⟩ : ∃ b, b = (⟨s4.toArray⟩ : ByteArray) := ⟨_, rfl⟩
             rw [← hb4]
             have HS4 := Lib.hid hs4
             have HB4 := Lib.hid hb4
             have HO4 := Lib.hid (HO3.out.then ho4 (fun x hx => by simp at hx))
             clear hs4 hb4 ho4)
          | (go_at_call 15
             refine (once_any es A ib io c n kind w2 HN.out (by omega) hnc (HAT.out.off HO2.out (by simp))).mono ?_
             rintro r w3 ⟨rfl, ho3⟩
             rw [← HO.out]
             have HO3 := Lib.hid (HO2.out.then ho3 (fun x hx => by simp at hx))
             clear ho3)
          | (go_at_call 10
             refine (ixGood_all es A ib io c n kind w1 HN.out (HAT.out.off HO1.out (by simp))).mono ?_
             rintro r w2 ⟨rfl, ho2⟩
             rw [← HG.out]
             have HO2 := Lib.hid (HO1.out.then ho2 (fun x hx => by simp at hx))
             clear ho2)
          | (go_at_call 8
             refine H1.out.mono ?_
             rintro r w1 ⟨rfl, ho1⟩
             rw [← HF.out]
             have HO1 := Lib.hid ho1
             clear ho1))
        go_ret
        exact ⟨rfl, HO6.out⟩
end Go.Proofs.YtcgggcjmmphldaaGreatDoor
