/-
  laws.ixSorted and laws.ixSame at rows that may be empty.
  An identifier as a statement's argument: opened.
  laws.FnIxGet: what an index has for an identifier.
  (No condition beyond those that each theorem states.)
-/
import Derived.Test.YtcgggcjmmphldaaGreatDoorHj1
import Derived.Test.YtcgggcjmmphldaaGreatDoorHj2
import Derived.Test.YtcgggcjmmphldaaGreatDoorHk6
import Derived.Test.YtcgggcjmmphldaaGreatDoorHk5
import Derived.Test.YtcgggcjmmphldaaGreatDoorHa6
import Derived.Test.YtcgggcjmmphldaaGreatDoorHm1
namespace Go.Proofs.YtcgggcjmmphldaaGreatDoor
open Go.RowKit

/-- A row of uint64 (none: nil). -/
def In64 (w : World) (v : Value) (zs : List Int) : Prop := (zs = [] ∧ v = .slice none 0 0) ∨ ∃ A c, v = .slice A zs.length c ∧ U64s w A zs
/-- .. (none: a slice of no elements). -/
def R64 (w : World) (v : Value) (zs : List Int) : Prop := ∃ A c, v = .slice A zs.length c ∧ (zs = [] ∨ U64s w A zs)
theorem In64.r {w : World} {v : Value} {zs : List Int} (h : In64 w v zs) : R64 w v zs := by
  rcases h with ⟨rfl, rfl⟩ | ⟨A, c, rfl, h⟩
  · exact ⟨none, 0, rfl, Or.inl rfl⟩
  · exact ⟨A, c, rfl, Or.inr h⟩
theorem U64s.off {w w' : World} {A : Option Addr} {zs : List Int} (h : U64s w A zs) (ho : Off [] w w') : U64s w' A zs := by
  obtain ⟨b, o, rfl, hb, hc⟩ := h
  exact ⟨b, o, rfl, Nat.lt_of_lt_of_le hb ho.size, fun j hj => ho.cellS (hc j hj) (by simp)⟩
theorem In64.off {w w' : World} {v : Value} {zs : List Int} (h : In64 w v zs) (ho : Off [] w w') : In64 w' v zs := by
  rcases h with h | ⟨A, c, rfl, h⟩
  · exact Or.inl h
  · exact Or.inr ⟨A, c, rfl, h.off ho⟩
theorem R64.off {w w' : World} {v : Value} {zs : List Int} (h : R64 w v zs) (ho : Off [] w w') : R64 w' v zs := by
  obtain ⟨A, c, rfl, h⟩ := h
  exact ⟨A, c, rfl, h.imp id (fun h => h.off ho)⟩
theorem OutRow.in64 {w W : World} {v : Value} {outs : List Nat} (h : OutRow w W v outs) : In64 W v (ints outs) := by
  by_cases h0 : outs = []
  · subst h0
    rcases h with ⟨_, h⟩ | ⟨g, cap, sp, rfl, h2, h3, h4, h5⟩
    · exact Or.inl ⟨rfl, h⟩
    · exact Or.inr ⟨_, cap, rfl, g, 0, rfl, h3.lt, fun j hj => absurd hj (by simp [ints])⟩
  · obtain ⟨A, cap, rfl, hu⟩ := h.u64s h0
    exact Or.inr ⟨A, cap, by simp [ints], hu⟩
theorem SrtRow.r64 {w : World} {v : Value} {outs : List Nat} (h : SrtRow w v outs) : R64 w v (srtI (ints outs)) := by
  rcases h with ⟨rfl, rfl⟩ | ⟨A, c, rfl, h⟩
  · exact ⟨none, 0, by rw [srtI_len]; rfl, Or.inl (by simp [srtI, ints])⟩
  · exact ⟨A, c, by rw [srtI_len]; simp [ints], Or.inr h⟩

set_option maxHeartbeats 4000000 in
set_option maxRecDepth 100000 in
theorem ixSorted_nil (w : World) : Calls Tryz.prog 14 #[.slice none 0 0] w fun e w' => ∃ A' c', e = .returned (.slice A' 0 c') ∧ Off [] w w' := by
  obtain ⟨i0, hi, hz0, hz1, hz2⟩ := info_parts (show (Tryz.prog.info? 23).map (fun i => (i.zero, i.size, i.bytes)) = some (some (.int .u64 0), 1, 8) by kernel_rfl)
  have HB0 := Lib.hid (show Blk (w.alloc (.cells #[] 23)) w.heap.size 23 (([] : List Value) ++ []).toArray from Blk.new' w _ _ rfl)
  have HO0 := Lib.hid (show Off [] w (w.alloc (.cells #[] 23)) from (Off.refl [] w).alloc _)
  go_enter Tryz.func14, Tryz.ntmps14
  go_wp2_with (first
    | (at_builtin
       refine wpList_append_blks _ rfl _ _ 33 rfl 23 i0 _ 1 8 Tryz.underlying33 hi hz0 hz1 hz2 rfl (by decide) w.heap.size 0 0 rfl [] [] HB0.out rfl rfl (Nat.le_refl _) (Nat.zero_le _) none 0 0 rfl [] (fun _ => ⟨rfl, rfl⟩) rfl (fun ad h => by cases h) (fun u hu => by simp at hu) (by unfold maxLen; omega) (by omega) ?_
       intro g cap sp w2 hb2 hsp2 hc2 hm2 ho2 hg2
       have HB2 := Lib.hid hb2
       have HO2 := Lib.hid (HO0.out.then ho2 (fun x hx => by simp at hx; subst hx; exact Or.inr (Nat.le_refl _)))
       have HG2 := Lib.hid (show w.heap.size ≤ g by rcases hg2 with rfl | rfl <;> simp)
       clear hb2 hsp2 hc2 hm2 ho2 hg2)
    | (go_at_call 25
       refine (sortAll g cap w2.heap.size 0 [] sp rfl (by omega) _ (HB2.out.alloc _) (Blk.new' _ _ _ rfl) (by have := HB2.out.lt; omega)).mono ?_
       rintro e w3 ⟨rfl, ho3, hc3⟩
       have hbox : w3.cell? ⟨w2.heap.size, 0, none⟩ = some (.slice (some ⟨g, 0, none⟩) 0 cap) := ((Blk.new' w2 _ _ rfl).off ho3 (by have := HB2.out.lt; simp; omega)).cell 0
       have HO3 := Lib.hid ho3
       clear ho3 hc3))
  go_ret
  exact ⟨_, _, rfl, (HO2.out.alloc _).then HO3.out (fun x hx => by simp at hx; subst hx; exact Or.inr HG2.out)⟩

set_option maxHeartbeats 4000000 in
set_option maxRecDepth 100000 in
theorem ixSame_nil (w : World) (A1 A2 : Option Addr) (c1 c2 : Nat) : Calls Tryz.prog 13 #[.slice A1 0 c1, .slice A2 0 c2] w fun e w' => e = .returned (.bool true) ∧ Off [] w w' := by
  go_enter Tryz.func13, Tryz.ntmps13
  go_wp2_with fail
  refine wp_loop_rounds 1 ?_
  rw [rounds_succ]
  go_wp2_with fail
  go_ret
  exact ⟨rfl, Off.refl [] w⟩

theorem ixSorted_in (w : World) (v : Value) (zs : List Int) (h : In64 w v zs) (hs : zs.length ≤ 1000) : Calls Tryz.prog 14 #[v] w fun e w' => ∃ v', e = .returned v' ∧ R64 w' v' (srtI zs) ∧ Off [] w w' := by
  rcases h with ⟨rfl, rfl⟩ | ⟨A, c, rfl, h⟩
  · refine (ixSorted_nil w).mono ?_
    rintro e w' ⟨A', c', rfl, ho⟩
    exact ⟨_, rfl, ⟨A', c', by rw [srtI_len]; rfl, Or.inl (by simp [srtI])⟩, ho⟩
  · refine (ixSorted_any w A c zs.length zs rfl h hs).mono ?_
    rintro e w' ⟨A', c', rfl, hu, ho⟩
    exact ⟨_, rfl, ⟨A', c', by rw [srtI_len], Or.inr hu⟩, ho⟩
theorem ixSame_r (w : World) (v1 v2 : Value) (zs : List Int) (h1 : R64 w v1 zs) (h2 : R64 w v2 zs) (hs : zs.length ≤ 1000) : Calls Tryz.prog 13 #[v1, v2] w fun e w' => e = .returned (.bool true) ∧ Off [] w w' := by
  obtain ⟨A1, c1, rfl, h1⟩ := h1
  obtain ⟨A2, c2, rfl, h2⟩ := h2
  by_cases h0 : zs = []
  · subst h0
    exact ixSame_nil w A1 A2 c1 c2
  · exact ixSame_any w A1 A2 c1 c2 zs.length zs rfl (h1.resolve_left h0) (h2.resolve_left h0) hs
end Go.Proofs.YtcgggcjmmphldaaGreatDoor
namespace Go.Proofs.YtcgggcjmmphldaaGreatDoor
open Go.ChangeShapes Go.WideShapes Go.Deep Go.RowKit

section
variable {H : Type} {enc : TypeId × Value → H} {w : World} {base : Nat} {spare : Nat → Bool} {held : Bool}
set_option maxRecDepth 100000 in
theorem open_cid {fuel : Nat} {cs : List Value} {x : DataW H × List MemPlace} (h : DataW.trod enc Tryz.prog w base spare held fuel 25 cs = some x) :
    ∃ e : Ent, cs = [.int .u64 (e.ver : Int), .int .u64 (e.codec : Int), .int .u64 (e.code : Int), .string e.dg] ∧ e.off = 0 := by
  obtain ⟨ys, m, hm, hy, hyl, hylen, hf⟩ := DataW.trod_struct Tryz.underlying25 h
  have g0 := hf 0 _ rfl
  have g1 := hf 1 _ rfl
  have g2 := hf 2 _ rfl
  have g3 := hf 3 _ rfl
  rw [cid_cells] at hyl
  match cs, hyl, ys, hylen with
  | [c0, c1, c2, c3], _, [z0, z1, z2, z3], _ =>
    have k0 : DataW.trod enc Tryz.prog w base spare held m 23 [c0] = some z0 := by
      have e : (([c0, c1, c2, c3] : List Value).drop 0).take (Tryz.prog.cellsOf 23) = [c0] := by rw [u64_cells]; rfl
      rw [← e]; exact g0
    have k1 : DataW.trod enc Tryz.prog w base spare held m 23 [c1] = some z1 := by
      have e : (([c0, c1, c2, c3] : List Value).drop 1).take (Tryz.prog.cellsOf 23) = [c1] := by rw [u64_cells]; rfl
      rw [← e]; exact g1
    have k2 : DataW.trod enc Tryz.prog w base spare held m 23 [c2] = some z2 := by
      have e : (([c0, c1, c2, c3] : List Value).drop 2).take (Tryz.prog.cellsOf 23) = [c2] := by rw [u64_cells]; rfl
      rw [← e]; exact g2
    have k3 : DataW.trod enc Tryz.prog w base spare held m 9 [c3] = some z3 := by
      have e : (([c0, c1, c2, c3] : List Value).drop 3).take (Tryz.prog.cellsOf 9) = [c3] := by rw [str_cells]; rfl
      rw [← e]; exact g3
    obtain ⟨n0, q0, _, w0⟩ := DataW.trod_int Tryz.underlying23 k0
    obtain ⟨n1, q1, _, w1⟩ := DataW.trod_int Tryz.underlying23 k1
    obtain ⟨n2, q2, _, w2⟩ := DataW.trod_int Tryz.underlying23 k2
    obtain ⟨s3, q3, _, w3⟩ := DataW.trod_string Tryz.underlying9 k3
    obtain ⟨m0, rfl, _⟩ := u64_of_wf w0
    obtain ⟨m1, rfl, _⟩ := u64_of_wf w1
    obtain ⟨m2, rfl, _⟩ := u64_of_wf w2
    injection q0 with q0 _
    injection q1 with q1 _
    injection q2 with q2 _
    injection q3 with q3 _
    subst q0 q1 q2 q3
    exact ⟨⟨m0, m1, m2, s3, 0⟩, rfl, rfl⟩
end
end Go.Proofs.YtcgggcjmmphldaaGreatDoor
namespace Go.Proofs.YtcgggcjmmphldaaGreatDoor
open Go.RowKit

theorem flag_eq {o l : List Nat} {fv : Int} (h : o.Perm l) (hf : fv = if l = [] then 1 else 0) : (if o = [] then (1 : Int) else 0) = fv := by
  rw [hf]
  by_cases h0 : l = []
  · rw [if_pos h0, if_pos (h.trans (List.Perm.of_eq h0)).eq_nil]
  · rw [if_neg h0, if_neg (fun h1 => h0 (h.symm.trans (List.Perm.of_eq h1)).eq_nil)]

set_option maxRecDepth 100000 in
set_option maxHeartbeats 8000000 in
theorem get_true (es : List Ent) (A : Option Addr) (ib io c n kind : Nat) (t : Ent) (a : Addr) (w : World) (hn : es.length = n) (hA0 : A = none → n = 0 ∧ c = 0) (hat : EntsAt w A ib io es) (hoff : ∀ e, e ∈ es → e.off < 18446744073709551616) (hto : t.off = 0)
    (hE : w.cell? ⟨0, 0, none⟩ = some (notF a)) :
    Calls Tryz.prog 5 #[.slice A n c, .int .u64 (kind : Int), .agg #[.int .u64 (t.ver : Int), .int .u64 (t.codec : Int), .int .u64 (t.code : Int), .string t.dg]] w fun r w' => r = .returned (.bool true) ∧ Off [] w w' := by
  have HN := Lib.hid hn
  have HAT := Lib.hid hat
  have HE := Lib.hid hE
  have HOFF := Lib.hid hoff
  have HA0 := Lib.hid hA0
  have HTF := Lib.hid hto
  clear hn hat hE hoff hA0 hto
  obtain ⟨F, hF⟩ : ∃ F, F = fitB es := ⟨_, rfl⟩
  obtain ⟨Z, hZ⟩ : ∃ Z, Z = decide (t.dg.size ≤ 2147483647) := ⟨_, rfl⟩
  obtain ⟨G, hG⟩ : ∃ G, G = (decide (n ≤ 100) && goodB kind es) := ⟨_, rfl⟩
  obtain ⟨T, hT⟩ : ∃ T, T = tidyB t.ver t.codec t.code t.dg.size := ⟨_, rfl⟩
  have HF := Lib.hid hF
  have HZ := Lib.hid hZ
  have HG := Lib.hid hG
  have HT := Lib.hid hT
  clear hF hZ hG hT
  obtain ⟨wb, hwb⟩ : ∃ wb, wb = w.alloc (.cells #[.int .u64 (t.ver : Int), .int .u64 (t.codec : Int), .int .u64 (t.code : Int), .string t.dg] 25) := ⟨_, rfl⟩
  have P0 : Hid (Off [] w wb) := Lib.hid (by rw [hwb]; exact (Off.refl [] w).alloc _)
  have PW := P0
  have hbb : Blk wb w.heap.size 25 #[.int .u64 (t.ver : Int), .int .u64 (t.codec : Int), .int .u64 (t.code : Int), .string t.dg] := by rw [hwb]; exact Blk.new _ _ _
  have HBX : Hid (∀ W, Off [] wb W → W.cell? ⟨w.heap.size, 0, none⟩ = some (.int .u64 (t.ver : Int)) ∧ W.cell? ⟨w.heap.size, 1, none⟩ = some (.int .u64 (t.codec : Int)) ∧ W.cell? ⟨w.heap.size, 2, none⟩ = some (.int .u64 (t.code : Int)) ∧ W.cell? ⟨w.heap.size, 3, none⟩ = some (.string t.dg)) := Lib.hid (fun W hW => by
    have h := hbb.off hW (by simp)
    exact ⟨h.cell 0, h.cell 1, h.cell 2, h.cell 3⟩)
  have HWB := Lib.hid hwb
  clear hbb hwb
  go_enter Tryz.func5, Tryz.ntmps5
  go_upto_region 1 with fail
  rw [← HWB.out]
  cases F with
  | false =>
    go_wp2_with (first
    | (go_at_call 8
       refine (zzFits7_any es A ib io c n wb HN.out (HAT.out.off P0.out (by simp))).mono ?_
       rintro r w1 ⟨rfl, ho1⟩
       rw [← HF.out]
       have P1 := Lib.hid ho1
       obtain ⟨x0_1, x1_1, x2_1, x3_1⟩ := HBX.out w1 P1.out
       clear ho1
))
    go_ret
    exact ⟨rfl, PW.out.then P1.out (fun x hx => by simp at hx)⟩
  | true =>
   cases Z with
   | false =>
    go_wp2_with (first
    | (go_at_call 18
       refine (zzFits1_any t.ver t.codec t.code t.dg w1).mono ?_
       rintro r w2 ⟨rfl, hb2⟩
       rw [← HZ.out]
       have P2 := Lib.hid (P1.out.then (Off.ofBelow (S := []) hb2) (fun x hx => by simp at hx))
       obtain ⟨x0_2, x1_2, x2_2, x3_2⟩ := HBX.out w2 P2.out
       clear hb2
)
    | (go_at_call 8
       refine (zzFits7_any es A ib io c n wb HN.out (HAT.out.off P0.out (by simp))).mono ?_
       rintro r w1 ⟨rfl, ho1⟩
       rw [← HF.out]
       have P1 := Lib.hid ho1
       obtain ⟨x0_1, x1_1, x2_1, x3_1⟩ := HBX.out w1 P1.out
       clear ho1
))
    go_ret
    exact ⟨rfl, PW.out.then P2.out (fun x hx => by simp at hx)⟩
   | true =>
   cases G with
   | false =>
    go_wp2_with (first
    | (go_at_call 10
       refine (ixGood_all es A ib io c n kind w2 HN.out ((HAT.out.off P0.out (by simp)).off P2.out (by simp))).mono ?_
       rintro r w3 ⟨rfl, ho3⟩
       rw [← HG.out]
       have P3 := Lib.hid (P2.out.then ho3 (fun x hx => by simp at hx))
       obtain ⟨x0_3, x1_3, x2_3, x3_3⟩ := HBX.out w3 P3.out
       clear ho3
)
    | (go_at_call 18
       refine (zzFits1_any t.ver t.codec t.code t.dg w1).mono ?_
       rintro r w2 ⟨rfl, hb2⟩
       rw [← HZ.out]
       have P2 := Lib.hid (P1.out.then (Off.ofBelow (S := []) hb2) (fun x hx => by simp at hx))
       obtain ⟨x0_2, x1_2, x2_2, x3_2⟩ := HBX.out w2 P2.out
       clear hb2
)
    | (go_at_call 8
       refine (zzFits7_any es A ib io c n wb HN.out (HAT.out.off P0.out (by simp))).mono ?_
       rintro r w1 ⟨rfl, ho1⟩
       rw [← HF.out]
       have P1 := Lib.hid ho1
       obtain ⟨x0_1, x1_1, x2_1, x3_1⟩ := HBX.out w1 P1.out
       clear ho1
))
    go_ret
    exact ⟨rfl, PW.out.then P3.out (fun x hx => by simp at hx)⟩
   | true =>
   by_cases hsz : t.dg.size ≤ 200
   case neg =>
    have hgt : (t.dg.size : Int) > 200 := by omega
    go_wp2_with (first
    | (go_at_call 10
       refine (ixGood_all es A ib io c n kind w2 HN.out ((HAT.out.off P0.out (by simp)).off P2.out (by simp))).mono ?_
       rintro r w3 ⟨rfl, ho3⟩
       rw [← HG.out]
       have P3 := Lib.hid (P2.out.then ho3 (fun x hx => by simp at hx))
       obtain ⟨x0_3, x1_3, x2_3, x3_3⟩ := HBX.out w3 P3.out
       clear ho3
)
    | (go_at_call 18
       refine (zzFits1_any t.ver t.codec t.code t.dg w1).mono ?_
       rintro r w2 ⟨rfl, hb2⟩
       rw [← HZ.out]
       have P2 := Lib.hid (P1.out.then (Off.ofBelow (S := []) hb2) (fun x hx => by simp at hx))
       obtain ⟨x0_2, x1_2, x2_2, x3_2⟩ := HBX.out w2 P2.out
       clear hb2
)
    | (go_at_call 8
       refine (zzFits7_any es A ib io c n wb HN.out (HAT.out.off P0.out (by simp))).mono ?_
       rintro r w1 ⟨rfl, ho1⟩
       rw [← HF.out]
       have P1 := Lib.hid ho1
       obtain ⟨x0_1, x1_1, x2_1, x3_1⟩ := HBX.out w1 P1.out
       clear ho1
))
    go_ret
    exact ⟨rfl, PW.out.then P3.out (fun x hx => by simp at hx)⟩
   case pos =>
   have hgt : ¬ (t.dg.size : Int) > 200 := by omega
   cases T with
   | false =>
    go_wp2_with (first
    | (go_at_call 19
       refine (tidy_any t.ver t.codec t.code t.dg w3).mono ?_
       rintro r w4 ⟨rfl, hb4⟩
       rw [← HT.out]
       have P4 := Lib.hid (P3.out.then (Off.ofBelow (S := []) hb4) (fun x hx => by simp at hx))
       obtain ⟨x0_4, x1_4, x2_4, x3_4⟩ := HBX.out w4 P4.out
       clear hb4
)
    | (go_at_call 10
       refine (ixGood_all es A ib io c n kind w2 HN.out ((HAT.out.off P0.out (by simp)).off P2.out (by simp))).mono ?_
       rintro r w3 ⟨rfl, ho3⟩
       rw [← HG.out]
       have P3 := Lib.hid (P2.out.then ho3 (fun x hx => by simp at hx))
       obtain ⟨x0_3, x1_3, x2_3, x3_3⟩ := HBX.out w3 P3.out
       clear ho3
)
    | (go_at_call 18
       refine (zzFits1_any t.ver t.codec t.code t.dg w1).mono ?_
       rintro r w2 ⟨rfl, hb2⟩
       rw [← HZ.out]
       have P2 := Lib.hid (P1.out.then (Off.ofBelow (S := []) hb2) (fun x hx => by simp at hx))
       obtain ⟨x0_2, x1_2, x2_2, x3_2⟩ := HBX.out w2 P2.out
       clear hb2
)
    | (go_at_call 8
       refine (zzFits7_any es A ib io c n wb HN.out (HAT.out.off P0.out (by simp))).mono ?_
       rintro r w1 ⟨rfl, ho1⟩
       rw [← HF.out]
       have P1 := Lib.hid ho1
       obtain ⟨x0_1, x1_1, x2_1, x3_1⟩ := HBX.out w1 P1.out
       clear ho1
))
    go_ret
    exact ⟨rfl, PW.out.then P4.out (fun x hx => by simp at hx)⟩
   | true =>
    have hgg : n ≤ 100 ∧ goodB kind es = true := by
      have h := HG.out.symm
      rw [Bool.and_eq_true, decide_eq_true_eq] at h
      exact h
    have hn2 := hgg.1
    obtain ⟨hk, hok⟩ := good_ok hgg.2 HOFF.out
    have HK := Lib.hid hk
    have HOK := Lib.hid (fun e he => (hok e he).1)
    have HTO : Hid t.ok := Lib.hid (ok_of_tidy HT.out hsz (by rw [HTF.out]; omega))
    obtain ⟨fl, hfl⟩ : ∃ fl, fl = (founds kind (rws es) t.code t.dg.data.toList).length := ⟨_, rfl⟩
    obtain ⟨fv, hfv⟩ : ∃ fv : Int, fv = if founds kind (rws es) t.code t.dg.data.toList = [] then 1 else 0 := ⟨_, rfl⟩
    have HFL := Lib.hid hfl
    have HFV := Lib.hid hfv
    have HFL1 : Hid ((founds kind (rws es) t.code t.dg.data.toList).length ≤ 1000) := Lib.hid (Nat.le_trans (founds_len _ _ _ _) (by rw [rws, List.length_map, HN.out]; omega))
    have hcase : (fl = 0 ∧ fv = 1) ∨ (0 < fl ∧ fv = 0) := by
      by_cases h : founds kind (rws es) t.code t.dg.data.toList = []
      · exact Or.inl ⟨by rw [hfl, h]; rfl, by rw [hfv, if_pos h]⟩
      · exact Or.inr ⟨by rw [hfl]; exact List.length_pos_iff.2 h, by rw [hfv, if_neg h]⟩
    have HCASE := Lib.hid hcase
    clear hgg hk hok hfl hfv hcase
    go_wp2_with (first
    | (go_at_call 12
       refine (ixAll_enc kind (rws es) s6 HS6.out (by rw [rws, List.length_map, HN.out]; omega) (rws_small es HOK.out) b6 (by rw [HB6.out]) t HTO.out 1000 (by rw [rws, List.length_map, HN.out]; omega) a w6 ((PW.out.then P6.out (fun x hx => by simp at hx)).cell HE.out (by simp))).mono ?_
       rintro r w7 ⟨v7, o7, hp7, rfl, hr7, ho7⟩
       have e7 := flag_eq hp7 HFV.out
       rw [e7]
       have HI7 : Hid (In64 w7 v7 (ints o7)) := Lib.hid hr7.in64
       have HS7' : Hid (srtI (ints o7) = srtI (ints (founds kind (rws es) t.code t.dg.data.toList)) ∧ (ints o7).length ≤ 1000) := Lib.hid ⟨srtI_perm (by unfold ints; exact hp7.map _), by rw [ints, List.length_map, hp7.length_eq]; exact HFL1.out⟩
       have HR5 := Lib.hid (HR5.out.off ho7)
       have P7 := Lib.hid (P6.out.then ho7 (fun x hx => by simp at hx))
       obtain ⟨x0_7, x1_7, x2_7, x3_7⟩ := HBX.out w7 P7.out
       clear hp7 hr7 ho7 e7
)
    | (go_at_call 11
       refine (ixBytes_enc kind HK.out es A ib io c n w5 HOK.out HN.out (by omega) ((HAT.out.off P0.out (by simp)).off P5.out (by simp))).mono ?_
       rintro r w6 ⟨s6, hs6, rfl, ho6⟩
       obtain ⟨b6, hb6⟩ : ∃ b, b = (⟨s6.toArray⟩ : ByteArray) := ⟨_, rfl⟩
       rw [← hb6]
       have HS6 := Lib.hid hs6
       have HB6 := Lib.hid hb6
       have HR5 := Lib.hid (HR5.out.off ho6)
       have P6 := Lib.hid (P5.out.then ho6 (fun x hx => by simp at hx))
       obtain ⟨x0_6, x1_6, x2_6, x3_6⟩ := HBX.out w6 P6.out
       clear hs6 hb6 ho6
)
    | (go_at_call 20
       refine (specOffsets_any es A ib io c n kind t w4 HK.out HN.out (by omega) ((HAT.out.off P0.out (by simp)).off P4.out (by simp))).mono ?_
       rintro r w5 ⟨v5, rfl, hr5, ho5⟩
       obtain ⟨A5, c5, rfl, hu5⟩ := hr5.r64
       rw [srtI_len, show (ints (founds kind (rws es) t.code t.dg.data.toList)).length = (founds kind (rws es) t.code t.dg.data.toList).length by simp [ints], ← HFL.out]
       have HR5 : Hid (R64 w5 (.slice A5 fl c5) (srtI (ints (founds kind (rws es) t.code t.dg.data.toList)))) := Lib.hid ⟨A5, c5, by rw [srtI_len, HFL.out]; simp [ints], hu5⟩
       have P5 := Lib.hid (P4.out.then ho5 (fun x hx => by simp at hx))
       obtain ⟨x0_5, x1_5, x2_5, x3_5⟩ := HBX.out w5 P5.out
       clear hr5 hu5 ho5
)
    | (go_at_call 19
       refine (tidy_any t.ver t.codec t.code t.dg w3).mono ?_
       rintro r w4 ⟨rfl, hb4⟩
       rw [← HT.out]
       have P4 := Lib.hid (P3.out.then (Off.ofBelow (S := []) hb4) (fun x hx => by simp at hx))
       obtain ⟨x0_4, x1_4, x2_4, x3_4⟩ := HBX.out w4 P4.out
       clear hb4
)
    | (go_at_call 10
       refine (ixGood_all es A ib io c n kind w2 HN.out ((HAT.out.off P0.out (by simp)).off P2.out (by simp))).mono ?_
       rintro r w3 ⟨rfl, ho3⟩
       rw [← HG.out]
       have P3 := Lib.hid (P2.out.then ho3 (fun x hx => by simp at hx))
       obtain ⟨x0_3, x1_3, x2_3, x3_3⟩ := HBX.out w3 P3.out
       clear ho3
)
    | (go_at_call 18
       refine (zzFits1_any t.ver t.codec t.code t.dg w1).mono ?_
       rintro r w2 ⟨rfl, hb2⟩
       rw [← HZ.out]
       have P2 := Lib.hid (P1.out.then (Off.ofBelow (S := []) hb2) (fun x hx => by simp at hx))
       obtain ⟨x0_2, x1_2, x2_2, x3_2⟩ := HBX.out w2 P2.out
       clear hb2
)
    | (go_at_call 8
       refine (zzFits7_any es A ib io c n wb HN.out (HAT.out.off P0.out (by simp))).mono ?_
       rintro r w1 ⟨rfl, ho1⟩
       rw [← HF.out]
       have P1 := Lib.hid ho1
       obtain ⟨x0_1, x1_1, x2_1, x3_1⟩ := HBX.out w1 P1.out
       clear ho1
))
    have D7 := Lib.hid P7.out.drew
    go_region_held3 (fun W => W.cell? ⟨w.heap.size, 0, none⟩ = some (.int .u64 (t.ver : Int)) ∧ W.cell? ⟨w.heap.size, 1, none⟩ = some (.int .u64 (t.codec : Int)) ∧ W.cell? ⟨w.heap.size, 2, none⟩ = some (.int .u64 (t.code : Int)) ∧ W.cell? ⟨w.heap.size, 3, none⟩ = some (.string t.dg)) (first | exact HBX.out _ P7.out | exact HBX.out _ D7.out | exact HBX.out _ P8.out | exact HBX.out _ D8.out | exact HBX.out _ P9.out) (first
    | (go_at_call 12
       refine (ixAll_enc kind (rws es) s8 HS8.out (by rw [rws, List.length_map, HN.out]; omega) (rws_small es HOK.out) b8 (by rw [HB8.out]) t HTO.out 1000 (by rw [rws, List.length_map, HN.out]; omega) a w8 ((PW.out.then P8.out (fun x hx => by simp at hx)).cell HE.out (by simp))).mono ?_
       rintro r w9 ⟨v9, o9, hp9, rfl, hr9, ho9⟩
       have e9 := flag_eq hp9 HFV.out
       rw [e9]
       have HI9 : Hid (In64 w9 v9 (ints o9)) := Lib.hid hr9.in64
       have HS9' : Hid (srtI (ints o9) = srtI (ints (founds kind (rws es) t.code t.dg.data.toList)) ∧ (ints o9).length ≤ 1000) := Lib.hid ⟨srtI_perm (by unfold ints; exact hp9.map _), by rw [ints, List.length_map, hp9.length_eq]; exact HFL1.out⟩
       have HR5 := Lib.hid (HR5.out.off ho9)
       have HI7 := Lib.hid (HI7.out.off ho9)
       have P9 := Lib.hid (P8.out.then ho9 (fun x hx => by simp at hx))
       clear hp9 hr9 ho9 e9
)
    | (go_at_call 12
       refine (ixAll_enc kind (rws es) s8 HS8.out (by rw [rws, List.length_map, HN.out]; omega) (rws_small es HOK.out) b8 (by rw [HB8.out]) t HTO.out 1000 (by rw [rws, List.length_map, HN.out]; omega) a w8.drew ((PW.out.then D8.out (fun x hx => by simp at hx)).cell HE.out (by simp))).mono ?_
       rintro r w9 ⟨v9, o9, hp9, rfl, hr9, ho9⟩
       have e9 := flag_eq hp9 HFV.out
       rw [e9]
       have HI9 : Hid (In64 w9 v9 (ints o9)) := Lib.hid hr9.in64
       have HS9' : Hid (srtI (ints o9) = srtI (ints (founds kind (rws es) t.code t.dg.data.toList)) ∧ (ints o9).length ≤ 1000) := Lib.hid ⟨srtI_perm (by unfold ints; exact hp9.map _), by rw [ints, List.length_map, hp9.length_eq]; exact HFL1.out⟩
       have HR5 := Lib.hid ((HR5.out.off (Off.refl [] w8).drew).off ho9)
       have HI7 := Lib.hid ((HI7.out.off (Off.refl [] w8).drew).off ho9)
       have P9 := Lib.hid (D8.out.then ho9 (fun x hx => by simp at hx))
       clear hp9 hr9 ho9 e9
)
    | (go_at_call 16
       refine (indexBytes_any kind HK.out es A ib io c n w7.drew HOK.out HN.out hn2 HA0.out ((HAT.out.off P0.out (by simp)).off D7.out (by simp))).mono ?_
       rintro r w8 ⟨s8, hs8, rfl, ho8⟩
       obtain ⟨b8, hb8⟩ : ∃ b, b = (⟨s8.toArray⟩ : ByteArray) := ⟨_, rfl⟩
       rw [← hb8]
       have HS8 := Lib.hid hs8
       have HB8 := Lib.hid hb8
       have HR5 := Lib.hid ((HR5.out.off (Off.refl [] w7).drew).off ho8)
       have HI7 := Lib.hid ((HI7.out.off (Off.refl [] w7).drew).off ho8)
       have P8 := Lib.hid (D7.out.then ho8 (fun x hx => by simp at hx))
       have D8 := Lib.hid P8.out.drew
       clear hs8 hb8 ho8
))
    rcases HCASE.out with ⟨hfl0, hfv1⟩ | ⟨hfl0, hfv1⟩
    · have hz : ((fl : Int) == 0) = true := beq_iff_eq.2 (by omega)
      subst hfv1
      clear hfl0
      go_wp2_with (first
    | (go_at_call 17
       refine (ixOne_any kind HK.out a w13 ((PW.out.then P13.out (fun x hx => by simp at hx)).cell HE.out (by simp))).mono ?_
       rintro r w14 ⟨rfl, ho14⟩
       have P14 := Lib.hid (P13.out.then ho14 (fun x hx => by simp at hx))
       clear ho14
)
    | (go_at_call 13
       refine (ixSame_r w12 v12 _ _ HR12.out HR5.out (by rw [srtI_len]; rw [ints, List.length_map]; exact HFL1.out)).mono ?_
       rintro r w13 ⟨rfl, ho13⟩
       have P13 := Lib.hid (P12.out.then ho13 (fun x hx => by simp at hx))
       clear ho13
)
    | (go_at_call 14
       refine (ixSorted_in w11 v9 (ints o9) HI9.out HS9'.out.2).mono ?_
       rintro r w12 ⟨v12, rfl, hr12, ho12⟩
       rw [HS9'.out.1] at hr12
       have HR12 := Lib.hid hr12
       have HR5 := Lib.hid (HR5.out.off ho12)
       have P12 := Lib.hid (P11.out.then ho12 (fun x hx => by simp at hx))
       clear hr12 ho12
)
    | (go_at_call 13
       refine (ixSame_r w10 v10 _ _ HR10.out HR5.out (by rw [srtI_len]; rw [ints, List.length_map]; exact HFL1.out)).mono ?_
       rintro r w11 ⟨rfl, ho11⟩
       have HR5 := Lib.hid (HR5.out.off ho11)
       have HI9 := Lib.hid (HI9.out.off ho11)
       have P11 := Lib.hid (P10.out.then ho11 (fun x hx => by simp at hx))
       clear ho11
)
    | (go_at_call 14
       refine (ixSorted_in w9 v7 (ints o7) HI7.out HS7'.out.2).mono ?_
       rintro r w10 ⟨v10, rfl, hr10, ho10⟩
       rw [HS7'.out.1] at hr10
       have HR10 := Lib.hid hr10
       have HR5 := Lib.hid (HR5.out.off ho10)
       have HI9 := Lib.hid (HI9.out.off ho10)
       have P10 := Lib.hid (P9.out.then ho10 (fun x hx => by simp at hx))
       clear hr10 ho10
))
      go_ret
      exact ⟨rfl, PW.out.then P14.out (fun x hx => by simp at hx)⟩
    · have hz : ((fl : Int) == 0) = false := beq_eq_false_iff_ne.2 (by omega)
      subst hfv1
      clear hfl0
      go_wp2_with (first
    | (go_at_call 17
       refine (ixOne_any kind HK.out a w13 ((PW.out.then P13.out (fun x hx => by simp at hx)).cell HE.out (by simp))).mono ?_
       rintro r w14 ⟨rfl, ho14⟩
       have P14 := Lib.hid (P13.out.then ho14 (fun x hx => by simp at hx))
       clear ho14
)
    | (go_at_call 13
       refine (ixSame_r w12 v12 _ _ HR12.out HR5.out (by rw [srtI_len]; rw [ints, List.length_map]; exact HFL1.out)).mono ?_
       rintro r w13 ⟨rfl, ho13⟩
       have P13 := Lib.hid (P12.out.then ho13 (fun x hx => by simp at hx))
       clear ho13
)
    | (go_at_call 14
       refine (ixSorted_in w11 v9 (ints o9) HI9.out HS9'.out.2).mono ?_
       rintro r w12 ⟨v12, rfl, hr12, ho12⟩
       rw [HS9'.out.1] at hr12
       have HR12 := Lib.hid hr12
       have HR5 := Lib.hid (HR5.out.off ho12)
       have P12 := Lib.hid (P11.out.then ho12 (fun x hx => by simp at hx))
       clear hr12 ho12
)
    | (go_at_call 13
       refine (ixSame_r w10 v10 _ _ HR10.out HR5.out (by rw [srtI_len]; rw [ints, List.length_map]; exact HFL1.out)).mono ?_
       rintro r w11 ⟨rfl, ho11⟩
       have HR5 := Lib.hid (HR5.out.off ho11)
       have HI9 := Lib.hid (HI9.out.off ho11)
       have P11 := Lib.hid (P10.out.then ho11 (fun x hx => by simp at hx))
       clear ho11
)
    | (go_at_call 14
       refine (ixSorted_in w9 v7 (ints o7) HI7.out HS7'.out.2).mono ?_
       rintro r w10 ⟨v10, rfl, hr10, ho10⟩
       rw [HS7'.out.1] at hr10
       have HR10 := Lib.hid hr10
       have HR5 := Lib.hid (HR5.out.off ho10)
       have HI9 := Lib.hid (HI9.out.off ho10)
       have P10 := Lib.hid (P9.out.then ho10 (fun x hx => by simp at hx))
       clear hr10 ho10
))
      go_ret
      exact ⟨rfl, PW.out.then P14.out (fun x hx => by simp at hx)⟩
end Go.Proofs.YtcgggcjmmphldaaGreatDoor
