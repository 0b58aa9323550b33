/-
  laws.FnIxAdd: true, whatever its arguments (first part: up to the two rows).
  (No condition beyond those that each theorem states.)
-/
import Derived.Test.YtcgggcjmmphldaaGreatDoorGa7
import Derived.Test.YtcgggcjmmphldaaGreatDoorGa8
import Derived.Test.YtcgggcjmmphldaaGreatDoorGj2
import Derived.Test.YtcgggcjmmphldaaGreatDoorGj1
import Derived.Deep.DeepCutAuto
namespace Go.Proofs.YtcgggcjmmphldaaGreatDoor
open Go.RowKit

theorem Tryz.infoEnt : (Tryz.prog.info? 27).map (fun i => (i.zero, i.size, i.bytes)) = some (some (.agg #[.int .u64 0, .int .u64 0, .int .u64 0, .string ByteArray.empty, .int .u64 0]), 5, 48) := by kernel_rfl

theorem news_blk {W : World} {T : Nat} {t : TypeId} {cs : List Value} {ad : Addr} (h : Blk W T t cs.toArray) (hA : some (⟨T, 0, none⟩ : Addr) = some ad) : ∀ j u, cs[j]? = some u → W.cell? (ad.add j) = some u := fun j u hj => by
  injection hA with hA
  subst hA
  have hadd : (⟨T, 0, none⟩ : Addr).add j = ⟨T, j, none⟩ := by unfold Addr.add; split <;> simp_all
  rw [hadd, h.cell]
  simpa using hj
theorem ent_one (e : Ent) : ∀ u ∈ entC e, u.oneCell' = true := fun u he => by
  simp only [entC, List.mem_cons, List.not_mem_nil, or_false] at he
  rcases he with rfl | rfl | rfl | rfl | rfl <;> rfl

theorem founds_le (kind : Nat) (es : List (Nat × Rw)) (c : Nat) (d : List UInt8) : (founds kind es c d).length ≤ es.length := by
  rw [founds, List.length_map]
  exact List.length_filter_le _ _
theorem U64s.off {w w' : World} {A : Option Addr} {zs : List Int} (h : U64s w A zs) (ho : Off [] w w') : U64s w' A zs := by
  obtain ⟨b, o, rfl, hb, hc⟩ := h
  exact ⟨b, o, rfl, Nat.lt_of_lt_of_le hb ho.size, fun j hj => ho.cell (hc j hj) (by simp)⟩
def inB (e : Ent) (l : List Nat) : Bool := l.any fun x => decide (x = e.off)
theorem in_step {B C V : Bool} (e : Ent) (l : List Nat) (x : Nat) (hB : B = inB e l) (hC : ((x : Int) == (e.off : Int)) = C) (hV : V = (B || C)) : Value.bool V = .bool (inB e (l ++ [x])) := by
  have h : ((x : Int) == (e.off : Int)) = decide (x = e.off) := by
    by_cases h : x = e.off
    · simp [h]
    · simp [h]; omega
  rw [hV, hB, ← hC, h]
  simp [inB]
theorem neq_size (a b : Nat) : ((a : Int) != (b : Int)) = !decide (a = b) := by
  by_cases h : a = b
  · simp [h]
  · simp [h]; omega
theorem eq_code (a b : Nat) : ((a : Int) == (b : Int)) = decide (a = b) := by
  by_cases h : a = b
  · simp [h]
  · simp [h]; omega
theorem wid_step {W L C V : Bool} (kind : Nat) (e : Ent) (l : List Ent) (x : Ent) (hW : W = widB kind e l) (hL : ((x.dg.size : Int) != (e.dg.size : Int)) = L) (hC : ((x.code : Int) == (e.code : Int)) = C) (hV : V = (W && (!(decide (kind = 1024) || C) || L))) : Value.bool V = .bool (widB kind e (l ++ [x])) := by
  rw [widB_snoc, ← hW, hV, ← hL, ← hC, neq_size, eq_code]; rfl
theorem cod_step {D C V : Bool} (kind : Nat) (e : Ent) (l : List Ent) (x : Ent) (hD : D = codB kind e l) (hC : ((x.code : Int) == (e.code : Int)) = C) (hV : V = (D && !(decide (kind = 1024) || C))) : Value.bool V = .bool (codB kind e (l ++ [x])) := by
  rw [codB_snoc, ← hD, hV, ← hC, eq_code]; rfl

set_option maxRecDepth 100000 in
set_option maxHeartbeats 8000000 in
theorem add_true (es : List Ent) (A : Option Addr) (ib io c n : Nat) (e : Ent) (kind : Nat) (a : Addr) (w : World) (hn : es.length = n) (hnil : A = none → n = 0 ∧ c = 0) (hat : EntsAt w A ib io es) (hoff : ∀ x, x ∈ es → x.off < 18446744073709551616) (heo : e.off < 18446744073709551616)
    (hE : w.cell? ⟨0, 0, none⟩ = some (notF a)) :
    Calls Tryz.prog 3 #[.slice A n c, .agg #[.int .u64 (e.ver : Int), .int .u64 (e.codec : Int), .int .u64 (e.code : Int), .string e.dg, .int .u64 (e.off : Int)], .int .u64 (kind : Int)] w fun r w' => r = .returned (.bool true) ∧ Off [] w w' := by
  obtain ⟨i0, hi, hz0, hz1, hz2⟩ := info_parts Tryz.infoEnt
  obtain ⟨wA, hwA⟩ : ∃ wA, wA = w.alloc (.cells #[.int .u64 (e.ver : Int), .int .u64 (e.codec : Int), .int .u64 (e.code : Int), .string e.dg, .int .u64 (e.off : Int)] 27) := ⟨_, rfl⟩
  have hoA : Off [] w wA := by rw [hwA]; exact (Off.refl [] w).alloc _
  have hbA : Blk wA w.heap.size 27 #[.int .u64 (e.ver : Int), .int .u64 (e.codec : Int), .int .u64 (e.code : Int), .string e.dg, .int .u64 (e.off : Int)] := by rw [hwA]; exact Blk.new w _ _
  have hatA := hat.off hoA (by simp)
  have hEA := hoA.cell hE (by simp)
  have HOA := Lib.hid hoA
  have HBA := Lib.hid hbA
  have HAT := Lib.hid hatA
  have HEA := Lib.hid hEA
  have HWA := Lib.hid hwA
  have HN := Lib.hid hn
  have HOF := Lib.hid hoff
  have HEO := Lib.hid heo
  have HNIL := Lib.hid hnil
  have H7 := Lib.hid (zzFits7_any es A ib io c n wA hn hatA)
  obtain ⟨B7, hB7⟩ : ∃ B, B = fitB es := ⟨_, rfl⟩
  rw [← hB7] at H7
  have H8 := Lib.hid fun W => zzFits8_any e W
  obtain ⟨B8, hB8⟩ : ∃ B, B = decide (e.dg.size ≤ 2147483647) := ⟨_, rfl⟩
  rw [← hB8] at H8
  clear hoA hbA hatA hEA hwA hn hoff heo hnil hat hE hB7 hB8
  cases B7
  · go_enter Tryz.func3, Tryz.ntmps3
    go_wp2_with (go_at_call 8; rw [← HWA.out]; refine H7.out.mono ?_; rintro r w1 ⟨rfl, ho1⟩; have HO1 := Lib.hid (HOA.out.then ho1 (fun x hx => by simp at hx)); clear ho1)
    go_ret
    exact ⟨rfl, HO1.out⟩
  cases B8
  · go_enter Tryz.func3, Tryz.ntmps3
    go_wp2_with (first
      | (go_at_call 8; rw [← HWA.out]; refine H7.out.mono ?_; rintro r w1 ⟨rfl, ho1⟩; have hb1 := HBA.out.off ho1 (by simp); have b0 := hb1.cell 0; have b1 := hb1.cell 1; have b2 := hb1.cell 2; have b3 := hb1.cell 3; have b4 := hb1.cell 4; simp at b0 b1 b2 b3 b4; have HO1 := Lib.hid (HOA.out.then ho1 (fun x hx => by simp at hx)); clear ho1 hb1)
      | (go_at_call 9; refine (H8.out _).mono ?_; rintro r w2 ⟨rfl, ho2⟩; have HO2 := Lib.hid (HO1.out.then ho2 (fun x hx => by simp at hx)); clear ho2))
    go_ret
    exact ⟨rfl, HO2.out⟩
  by_cases h99 : n ≤ 99
  rotate_left
  · go_enter Tryz.func3, Tryz.ntmps3
    go_wp2_with (first
      | (go_at_call 8; rw [← HWA.out]; refine H7.out.mono ?_; rintro r w1 ⟨rfl, ho1⟩; have hb1 := HBA.out.off ho1 (by simp); have b0 := hb1.cell 0; have b1 := hb1.cell 1; have b2 := hb1.cell 2; have b3 := hb1.cell 3; have b4 := hb1.cell 4; simp at b0 b1 b2 b3 b4; have HO1 := Lib.hid (HOA.out.then ho1 (fun x hx => by simp at hx)); clear ho1 hb1)
      | (go_at_call 9; refine (H8.out _).mono ?_; rintro r w2 ⟨rfl, ho2⟩; have HO2 := Lib.hid (HO1.out.then ho2 (fun x hx => by simp at hx)); clear ho2))
    go_ret
    exact ⟨rfl, HO2.out⟩
  go_enter Tryz.func3, Tryz.ntmps3
  go_upto_region 5 with (first
    | (go_at_call 8; rw [← HWA.out]; refine H7.out.mono ?_; rintro r w1 ⟨rfl, ho1⟩; have hb1 := HBA.out.off ho1 (by simp); have b0 := hb1.cell 0; have b1 := hb1.cell 1; have b2 := hb1.cell 2; have b3 := hb1.cell 3; have b4 := hb1.cell 4; simp at b0 b1 b2 b3 b4; have HB1 := Lib.hid hb1; have HO1 := Lib.hid ho1; clear ho1 hb1)
    | (go_at_call 9; refine (H8.out _).mono ?_; rintro r w2 ⟨rfl, ho2⟩; have hb2 := HB1.out.off ho2 (by simp); have d0 := hb2.cell 0; have d1 := hb2.cell 1; have d2 := hb2.cell 2; have d3 := hb2.cell 3; have d4 := hb2.cell 4; simp at d0 d1 d2 d3 d4; have HB2 := Lib.hid hb2; have HO2 := Lib.hid (HO1.out.then ho2 (fun x hx => by simp at hx)); clear ho2 hb2 b0 b1 b2 b3 b4))
  have hd0 : Hid (EntsAt w2 A ib io es) := Lib.hid (HAT.out.off HO2.out (by simp))
  go_cut [7] from 40 to 45 (fun s7 wx => ∃ (g cap : Nat), s7 = .slice (some ⟨g, 0, none⟩) (n + 1) cap ∧ Hid (Off [] w2 wx ∧ EntsAt wx (some ⟨g, 0, none⟩) g 0 (es ++ [e]) ∧ w2.heap.size ≤ g))
  case first =>
    have H5C : Hid (∀ W, Off [] w2 W → W.cell? ⟨w.heap.size, 0, none⟩ = some (.int .u64 (e.ver : Int)) ∧ W.cell? ⟨w.heap.size, 1, none⟩ = some (.int .u64 (e.codec : Int)) ∧ W.cell? ⟨w.heap.size, 2, none⟩ = some (.int .u64 (e.code : Int)) ∧ W.cell? ⟨w.heap.size, 3, none⟩ = some (.string e.dg) ∧ W.cell? ⟨w.heap.size, 4, none⟩ = some (.int .u64 (e.off : Int))) := Lib.hid fun W hW => ⟨hW.cell d0 (by simp), hW.cell d1 (by simp), hW.cell d2 (by simp), hW.cell d3 (by simp), hW.cell d4 (by simp)⟩
    have X1 : Hid (Off [] w2 (w2.alloc (.cells #[] 27)).drew) := Lib.hid ((Off.refl [] w2).alloc _).drew
    have X2 : Hid (Off [] w2 ((w2.alloc (.cells #[] 27)).alloc (.cells #[.int .u64 (e.ver : Int), .int .u64 (e.codec : Int), .int .u64 (e.code : Int), .string e.dg, .int .u64 (e.off : Int)] 27)).drew) := Lib.hid (((Off.refl [] w2).alloc _).alloc _).drew
    have X3 : Hid (Off [] w2 ((w2.alloc (.cells #[.int .u64 (e.ver : Int), .int .u64 (e.codec : Int), .int .u64 (e.code : Int), .string e.dg, .int .u64 (e.off : Int)] 27)).alloc (.cells #[] 27)).drew) := Lib.hid (((Off.refl [] w2).alloc _).alloc _).drew
    have X4 : Hid (Off [] w2 (w2.alloc (.cells #[.int .u64 (e.ver : Int), .int .u64 (e.codec : Int), .int .u64 (e.code : Int), .string e.dg, .int .u64 (e.off : Int)] 27)).drew) := Lib.hid ((Off.refl [] w2).alloc _).drew
    have K1 := Lib.hid (H5C.out _ X1.out)
    have K2 := Lib.hid (H5C.out _ X2.out)
    have K3 := Lib.hid (H5C.out _ X3.out)
    have K4 := Lib.hid (H5C.out _ X4.out)
    have D0 : ∀ W, Off [] W W.drew := fun W => (Off.refl [] W).drew
    have E1 : Hid (Blk (w2.alloc (.cells #[] 27)).drew w2.heap.size 27 (([] : List Value) ++ []).toArray) := Lib.hid ((Blk.new w2 _ _).off (D0 _) (by simp))
    have E2 : Hid (Blk ((w2.alloc (.cells #[] 27)).alloc (.cells #[.int .u64 (e.ver : Int), .int .u64 (e.codec : Int), .int .u64 (e.code : Int), .string e.dg, .int .u64 (e.off : Int)] 27)).drew w2.heap.size 27 (([] : List Value) ++ []).toArray) := Lib.hid (((Blk.new w2 _ _).alloc _).off (D0 _) (by simp))
    have E3 : Hid (Blk ((w2.alloc (.cells #[.int .u64 (e.ver : Int), .int .u64 (e.codec : Int), .int .u64 (e.code : Int), .string e.dg, .int .u64 (e.off : Int)] 27)).alloc (.cells #[] 27)).drew (w2.heap.size + 1) 27 (([] : List Value) ++ []).toArray) := Lib.hid ((Blk.new' _ _ _ (by simp)).off (D0 _) (by simp))
    have T2 : Hid (Blk ((w2.alloc (.cells #[] 27)).alloc (.cells #[.int .u64 (e.ver : Int), .int .u64 (e.codec : Int), .int .u64 (e.code : Int), .string e.dg, .int .u64 (e.off : Int)] 27)).drew (w2.heap.size + 1) 27 #[.int .u64 (e.ver : Int), .int .u64 (e.codec : Int), .int .u64 (e.code : Int), .string e.dg, .int .u64 (e.off : Int)]) := Lib.hid ((Blk.new' _ _ _ (by simp)).off (D0 _) (by simp))
    have T3 : Hid (Blk ((w2.alloc (.cells #[.int .u64 (e.ver : Int), .int .u64 (e.codec : Int), .int .u64 (e.code : Int), .string e.dg, .int .u64 (e.off : Int)] 27)).alloc (.cells #[] 27)).drew w2.heap.size 27 #[.int .u64 (e.ver : Int), .int .u64 (e.codec : Int), .int .u64 (e.code : Int), .string e.dg, .int .u64 (e.off : Int)]) := Lib.hid (((Blk.new w2 _ _).alloc _).off (D0 _) (by simp))
    have HNW : Hid (∀ W, Off [] w2 W → ∀ ad, A = some ad → ∀ j u, (entsC es)[j]? = some u → W.cell? (ad.add j) = some u) := Lib.hid fun W hW ad hA => EntsAt.news (hd0.out.off hW (by simp)) ad hA
    clear D0
    go_region_held3 (fun w' => w'.cell? ⟨w.heap.size, 0, none⟩ = some (.int .u64 (e.ver : Int)) ∧ w'.cell? ⟨w.heap.size, 1, none⟩ = some (.int .u64 (e.codec : Int)) ∧ w'.cell? ⟨w.heap.size, 2, none⟩ = some (.int .u64 (e.code : Int)) ∧ w'.cell? ⟨w.heap.size, 3, none⟩ = some (.string e.dg) ∧ w'.cell? ⟨w.heap.size, 4, none⟩ = some (.int .u64 (e.off : Int))) (first | exact ⟨d0, d1, d2, d3, d4⟩ | exact K1.out | exact K4.out | exact K2.out | exact K3.out | exact K6.out | exact K5.out | exact K5b.out) (first
      | (refine step_append_blks (w2.alloc (.cells #[] 27)).drew rfl (.tmp 40) (.tmp 41) 22 rfl 27 i0 _ 5 48 Tryz.underlying22 hi hz0 hz1 hz2 rfl (by decide) (w2.heap.size) 0 0 rfl [] [] E1.out rfl rfl (Nat.le_refl _) (by unfold maxLen; omega) A n c rfl (entsC es) HNIL.out (by rw [entsC_len, HN.out]) (HNW.out _ X1.out) (entsC_one es) (by unfold maxLen; omega) (by omega) ?_
         intro g5 cap5 sp5 w5 hb5 hs5 hc5 hm5 ho5 hg5
         rw [Nat.zero_add] at hs5 hc5
         rw [Nat.zero_add]
         rw [List.nil_append] at hb5
         have O5 := Lib.hid (X1.out.then ho5 (fun x hx => by simp at hx; right; omega))
         have K5 := Lib.hid (H5C.out _ O5.out)
         have K5b := Lib.hid (H5C.out _ (O5.out.alloc (.cells #[.int .u64 (e.ver : Int), .int .u64 (e.codec : Int), .int .u64 (e.code : Int), .string e.dg, .int .u64 (e.off : Int)] 27)))
         have G5 := Lib.hid (show w2.heap.size ≤ g5 by rcases hg5 with h | h <;> (try simp at h) <;> omega)
         have U5 := hm5
         have B5 := Lib.hid hb5
         have S5 := Lib.hid hs5
         clear hb5 ho5 hs5 hg5)
      | (refine step_append_blks ((w2.alloc (.cells #[] 27)).alloc (.cells #[.int .u64 (e.ver : Int), .int .u64 (e.codec : Int), .int .u64 (e.code : Int), .string e.dg, .int .u64 (e.off : Int)] 27)).drew rfl (.tmp 40) (.tmp 41) 22 rfl 27 i0 _ 5 48 Tryz.underlying22 hi hz0 hz1 hz2 rfl (by decide) (w2.heap.size) 0 0 rfl [] [] E2.out rfl rfl (Nat.le_refl _) (by unfold maxLen; omega) A n c rfl (entsC es) HNIL.out (by rw [entsC_len, HN.out]) (HNW.out _ X2.out) (entsC_one es) (by unfold maxLen; omega) (by omega) ?_
         intro g5 cap5 sp5 w5 hb5 hs5 hc5 hm5 ho5 hg5
         rw [Nat.zero_add] at hs5 hc5
         rw [Nat.zero_add]
         rw [List.nil_append] at hb5
         have O5 := Lib.hid (X2.out.then ho5 (fun x hx => by simp at hx; right; omega))
         have K5 := Lib.hid (H5C.out _ O5.out)
         have K5b := Lib.hid (H5C.out _ (O5.out.alloc (.cells #[.int .u64 (e.ver : Int), .int .u64 (e.codec : Int), .int .u64 (e.code : Int), .string e.dg, .int .u64 (e.off : Int)] 27)))
         have G5 := Lib.hid (show w2.heap.size ≤ g5 by rcases hg5 with h | h <;> (try simp at h) <;> omega)
         have T52 := Lib.hid (ho5.blk T2.out (by simp))
         have B5 := Lib.hid hb5
         have S5 := Lib.hid hs5
         clear hb5 ho5 hs5 hg5)
      | (refine step_append_blks ((w2.alloc (.cells #[.int .u64 (e.ver : Int), .int .u64 (e.codec : Int), .int .u64 (e.code : Int), .string e.dg, .int .u64 (e.off : Int)] 27)).alloc (.cells #[] 27)).drew rfl (.tmp 40) (.tmp 41) 22 rfl 27 i0 _ 5 48 Tryz.underlying22 hi hz0 hz1 hz2 rfl (by decide) (w2.heap.size + 1) 0 0 rfl [] [] E3.out rfl rfl (Nat.le_refl _) (by unfold maxLen; omega) A n c rfl (entsC es) HNIL.out (by rw [entsC_len, HN.out]) (HNW.out _ X3.out) (entsC_one es) (by unfold maxLen; omega) (by omega) ?_
         intro g5 cap5 sp5 w5 hb5 hs5 hc5 hm5 ho5 hg5
         rw [Nat.zero_add] at hs5 hc5
         rw [Nat.zero_add]
         rw [List.nil_append] at hb5
         have O5 := Lib.hid (X3.out.then ho5 (fun x hx => by simp at hx; right; omega))
         have K5 := Lib.hid (H5C.out _ O5.out)
         have K5b := Lib.hid (H5C.out _ (O5.out.alloc (.cells #[.int .u64 (e.ver : Int), .int .u64 (e.codec : Int), .int .u64 (e.code : Int), .string e.dg, .int .u64 (e.off : Int)] 27)))
         have G5 := Lib.hid (show w2.heap.size ≤ g5 by rcases hg5 with h | h <;> (try simp at h) <;> omega)
         have T53 := Lib.hid (ho5.blk T3.out (by simp))
         have B5 := Lib.hid hb5
         have S5 := Lib.hid hs5
         clear hb5 ho5 hs5 hg5)
      | (refine step_append_blks w5 rfl (.tmp 42) (.tmp 44) 22 rfl 27 i0 _ 5 48 Tryz.underlying22 hi hz0 hz1 hz2 rfl (by decide) g5 n cap5 rfl (entsC es) sp5 B5.out (by rw [entsC_len, HN.out]) S5.out hc5 hm5 (some ⟨w2.heap.size + 1, 0, none⟩) 1 1 rfl (entC e) (fun h => by cases h) rfl (fun ad hA => news_blk (cs := entC e) T52.out hA) (ent_one e) (by unfold maxLen; omega) (by omega) ?_
         intro g6 cap6 sp6 w6 hb6 hs6 hc6 hm6 ho6 hg6
         have O6 := Lib.hid (show Off [] w2 w6 from Off.then (b := w5) O5.out ho6 (fun x hx => by simp at hx; right; have := G5.out; omega))
         have K6 := Lib.hid (H5C.out _ O6.out)
         have G6 := Lib.hid (show w2.heap.size ≤ g6 by have h1 := G5.out; have h2 := O5.out.size; rcases hg6 with h | h <;> (try simp at h) <;> omega)
         have B6 := Lib.hid hb6
         clear hb6 ho6 hs6 hg6)
      | (refine step_append_blks w5 rfl (.tmp 42) (.tmp 44) 22 rfl 27 i0 _ 5 48 Tryz.underlying22 hi hz0 hz1 hz2 rfl (by decide) g5 n cap5 rfl (entsC es) sp5 B5.out (by rw [entsC_len, HN.out]) S5.out hc5 hm5 (some ⟨w2.heap.size, 0, none⟩) 1 1 rfl (entC e) (fun h => by cases h) rfl (fun ad hA => news_blk (cs := entC e) T53.out hA) (ent_one e) (by unfold maxLen; omega) (by omega) ?_
         intro g6 cap6 sp6 w6 hb6 hs6 hc6 hm6 ho6 hg6
         have O6 := Lib.hid (show Off [] w2 w6 from Off.then (b := w5) O5.out ho6 (fun x hx => by simp at hx; right; have := G5.out; omega))
         have K6 := Lib.hid (H5C.out _ O6.out)
         have G6 := Lib.hid (show w2.heap.size ≤ g6 by have h1 := G5.out; have h2 := O5.out.size; rcases hg6 with h | h <;> (try simp at h) <;> omega)
         have B6 := Lib.hid hb6
         clear hb6 ho6 hs6 hg6)
      | (refine step_append_blks (w5.alloc (.cells #[.int .u64 (e.ver : Int), .int .u64 (e.codec : Int), .int .u64 (e.code : Int), .string e.dg, .int .u64 (e.off : Int)] 27)) rfl (.tmp 42) (.tmp 44) 22 rfl 27 i0 _ 5 48 Tryz.underlying22 hi hz0 hz1 hz2 rfl (by decide) g5 n cap5 rfl (entsC es) sp5 (B5.out.alloc _) (by rw [entsC_len, HN.out]) S5.out hc5 hm5 (some ⟨w5.heap.size, 0, none⟩) 1 1 rfl (entC e) (fun h => by cases h) rfl (fun ad hA => news_blk (cs := entC e) (Blk.new w5 _ _) hA) (ent_one e) (by unfold maxLen; omega) (by omega) ?_
         intro g6 cap6 sp6 w6 hb6 hs6 hc6 hm6 ho6 hg6
         have O6 := Lib.hid (show Off [] w2 w6 from Off.then (b := (w5.alloc (.cells #[.int .u64 (e.ver : Int), .int .u64 (e.codec : Int), .int .u64 (e.code : Int), .string e.dg, .int .u64 (e.off : Int)] 27))) (O5.out.alloc _) ho6 (fun x hx => by simp at hx; right; have := G5.out; omega))
         have K6 := Lib.hid (H5C.out _ O6.out)
         have G6 := Lib.hid (show w2.heap.size ≤ g6 by have h1 := G5.out; have h2 := O5.out.size; rcases hg6 with h | h <;> (try simp at h) <;> omega)
         have B6 := Lib.hid hb6
         clear hb6 ho6 hs6 hg6))
    all_goals go_wp2_with fail
    all_goals go_meet
    all_goals exact ⟨g6, cap6, rfl, Lib.hid ⟨O6.out, EntsAt.of_blk (t := 27) (sp := sp6) (by rw [show entsC (es ++ [e]) = entsC es ++ entC e by simp [entsC]]; exact B6.out), G6.out⟩⟩
  case rest =>
    obtain ⟨g, cap, rfl, hh⟩ := hcut
    obtain ⟨hox, hall, hgx⟩ := hh.out
    have HOX := Lib.hid hox
    have HALL := Lib.hid hall
    have HGX := Lib.hid hgx
    clear hox hall hgx hh hd0
    have hnl : (es ++ [e]).length = n + 1 := by rw [List.length_append, HN.out]; rfl
    have HIG := Lib.hid (ixGood_any (es ++ [e]) (some ⟨g, 0, none⟩) g 0 cap (n + 1) kind wc hnl (by omega) HALL.out)
    obtain ⟨BG, hBG⟩ : ∃ B, B = goodB kind (es ++ [e]) := ⟨_, rfl⟩
    rw [← hBG] at HIG
    have HBG := Lib.hid hBG
    have HNL := Lib.hid hnl
    clear hBG hnl
    have HOw := Lib.hid (HOA.out.then (HO2.out.then HOX.out (fun x hx => by simp at hx)) (fun x hx => by simp at hx))
    cases BG
    · go_wp2_with (go_at_call 10; refine HIG.out.mono ?_; rintro r w4 ⟨rfl, ho4⟩; have HO4 := Lib.hid (HOw.out.then ho4 (fun x hx => by simp at hx)); clear ho4)
      go_ret
      exact ⟨rfl, HO4.out⟩
    obtain ⟨hkind, hoks⟩ := good_ok HBG.out.symm (fun x hx => by
      rcases List.mem_append.1 hx with hx | hx
      · exact HOF.out x hx
      · rw [List.mem_singleton.1 hx]; exact HEO.out)
    have HOKS := Lib.hid hoks
    have HKD := Lib.hid hkind
    clear hoks
    have hfx := HB2.out.off HOX.out (by simp)
    have f2 := hfx.cell 2
    have f3 := hfx.cell 3
    have f4 := hfx.cell 4
    simp at f2 f3 f4
    clear hfx d0 d1 d2 d3 d4
    have hez : e.dg.size ≤ 200 := (HOKS.out e (by simp)).2
    have hez : e.dg.size ≤ 200 := (HOKS.out e (by simp)).2
    have hez : e.dg.size ≤ 200 := (HOKS.out e (by simp)).2
    have hez : e.dg.size ≤ 200 := (HOKS.out e (by simp)).2
    have hez : e.dg.size ≤ 200 := (HOKS.out e (by simp)).2
    rcases hkind with rfl | rfl
    · go_wp2_with (go_at_call 10; refine HIG.out.mono ?_; rintro r w4 ⟨rfl, ho4⟩; have hf4 := (HB2.out.off HOX.out (by simp)).off ho4 (by simp); have q2 := hf4.cell 2; have q3 := hf4.cell 3; have q4 := hf4.cell 4; simp at q2 q3 q4; have HO4 := Lib.hid ho4; have HF4 := Lib.hid hf4; clear ho4 hf4 f2 f3 f4)
      go_loopg [9, 10, 59] n (fun kx s9 s10 s59 wr => ∃ j : Nat, s59 = .int .i64 (j : Int) ∧ s9 = .bool (widB 1024 e (es.take j)) ∧ s10 = .bool (codB 1024 e (es.take j)) ∧ j ≤ n ∧ n - j ≤ kx ∧ Hid (Off [] w4 wr))
      case atStart => exact ⟨0, rfl, rfl, rfl, Nat.zero_le _, by omega, Lib.hid (Off.refl [] w4)⟩
      case round =>
        rename World => wr
        obtain ⟨j, rfl, rfl, rfl, hjn, hkx, HO⟩ := hrel
        by_cases hlt : j < n
        · have hie : j < es.length := by have := HN.out; omega
          have hat := ((HAT.out.off HO2.out (by simp)).off (HOX.out.then HO4.out (fun x hx => by simp at hx)) (by simp)).off HO.out (by simp)
          obtain ⟨hA, hib⟩ := hat.at_ (by omega)
          obtain ⟨c0, c1, c2, c3, c4⟩ := hat.cells j hie
          obtain ⟨ent, hent⟩ : ∃ ent, ent = es[j] := ⟨_, rfl⟩
          rw [← hent] at c0 c1 c2 c3 c4
          have HTK := Lib.hid (show es.take (j + 1) = es.take j ++ [ent] by rw [List.take_succ_eq_append_getElem hie, hent])
          have hg4 := HF4.out.off HO.out (by simp)
          have r2 := hg4.cell 2
          have r3 := hg4.cell 3
          simp at r2 r3
          have a2 := (Off.alloc (Off.refl [] wr) (.cells #[.int .u64 (ent.ver : Int), .int .u64 (ent.codec : Int), .int .u64 (ent.code : Int), .string ent.dg, .int .u64 (ent.off : Int)] 27)).cell r2 (by simp)
          have a3 := (Off.alloc (Off.refl [] wr) (.cells #[.int .u64 (ent.ver : Int), .int .u64 (ent.codec : Int), .int .u64 (ent.code : Int), .string ent.dg, .int .u64 (ent.off : Int)] 27)).cell r3 (by simp)
          have HOB := Lib.hid (HO.out.alloc (.cells #[.int .u64 (ent.ver : Int), .int .u64 (ent.codec : Int), .int .u64 (ent.code : Int), .string ent.dg, .int .u64 (ent.off : Int)] 27))
          obtain ⟨Wq, hW⟩ : ∃ W, W = widB 1024 e (es.take j) := ⟨_, rfl⟩
          obtain ⟨Dq, hD⟩ : ∃ D, D = codB 1024 e (es.take j) := ⟨_, rfl⟩
          obtain ⟨Lq, hL⟩ : ∃ L, ((ent.dg.size : Int) != (e.dg.size : Int)) = L := ⟨_, rfl⟩
          obtain ⟨Cq, hC⟩ : ∃ C, ((ent.code : Int) == (e.code : Int)) = C := ⟨_, rfl⟩
          rw [← hW, ← hD]
          have HWq := Lib.hid hW
          have HDq := Lib.hid hD
          have HLq := Lib.hid hL
          have HCq := Lib.hid hC
          clear hW hD hent hat hg4 q2 q3 q4
          subst hA
          cases Wq <;> cases Lq <;> cases Dq
          all_goals go_wp2_with fail
          all_goals
            go_roundg (n - (j + 1))
            case measure => omega
            case rel =>
              exact ⟨j + 1, rfl, by rw [HTK.out]; exact wid_step 1024 e _ ent HWq.out HLq.out HCq.out rfl, by rw [HTK.out]; exact cod_step 1024 e _ ent HDq.out HCq.out rfl, by omega, by omega, HOB⟩
        · obtain rfl : n = j := by omega
          have htk : es.take n = es := List.take_of_length_le (by have := HN.out; omega)
          rw [htk]
          obtain ⟨Wq, hW⟩ : ∃ W, W = widB 1024 e es := ⟨_, rfl⟩
          obtain ⟨Dq, hD⟩ : ∃ D, D = codB 1024 e es := ⟨_, rfl⟩
          obtain ⟨M1, hM1⟩ : ∃ M1 : Nat, M1 = e.dg.size + 8 + (if Wq = true then 12 else 0) := ⟨_, rfl⟩
          obtain ⟨M2, hM2⟩ : ∃ M2 : Nat, M2 = M1 + (if Dq = true then 12 else 0) := ⟨_, rfl⟩
          have hmore : M2 = moreN 1024 e es := by rw [hM2, hM1, hW, hD]; rfl
          have HMORE := Lib.hid hmore
          have HM1 := Lib.hid hM1
          have HM2 := Lib.hid hM2
          have hM1b : M1 ≤ 220 := by rw [hM1]; split <;> omega
          have hM2b : M2 ≤ 232 := by rw [hM2]; split <;> omega
          rw [← hW, ← hD]
          clear htk hW hD hmore hM1 hM2 hkx hlt q2 q3 q4
          go_upto_if 96 with fail
          go_cut [8] from 96 to 98 (fun s8 wx => s8 = .int .i64 (M1 : Int) ∧ wx = wr)
          case first =>
            cases Wq
            · go_wp2_with fail
              go_meet
              exact ⟨by rw [HM1.out]; simp, rfl⟩
            · go_wp2_with fail
              go_meet
              exact ⟨by rw [HM1.out]; simp, rfl⟩
          case rest =>
            obtain ⟨rfl, rfl⟩ := hcut
            go_upto_if 99 with fail
            go_cut [8] from 99 to 101 (fun s8 wx => s8 = .int .i64 (M2 : Int) ∧ wx = wc)
            case first =>
              cases Dq
              · go_wp2_with fail
                go_meet
                exact ⟨by rw [HM2.out]; simp, rfl⟩
              · go_wp2_with fail
                go_meet
                exact ⟨by rw [HM2.out]; simp, rfl⟩
            case rest =>
              obtain ⟨rfl, rfl⟩ := hcut
              have hoc : Off [] wA wc := HO2.out.then (HOX.out.then (HO4.out.then HO.out (fun x hx => by simp at hx)) (fun x hx => by simp at hx)) (fun x hx => by simp at hx)
              have HOC := Lib.hid hoc
              have HI1 := Lib.hid (ixBytes_enc 1024 (by simp) es A ib io c n wc (fun x hx => (HOKS.out x (by simp [hx])).1) HN.out (by omega) (HAT.out.off hoc (by simp)))
              have HI2 : Hid (∀ W, Off [] wc W → Calls Tryz.prog 11 #[.slice (some ⟨g, 0, none⟩) (n + 1) cap, .int .u64 1024] W fun r w' => ∃ s, Enc 1024 (rws (es ++ [e])) s ∧ r = .returned (.tuple #[.string ⟨s.toArray⟩, .bool true]) ∧ Off [] W w') := Lib.hid fun W hW =>
                ixBytes_enc 1024 (by simp) (es ++ [e]) (some ⟨g, 0, none⟩) g 0 cap (n + 1) W (fun x hx => (HOKS.out x hx).1) HNL.out (by omega) ((HALL.out.off (HO4.out.then HO.out (fun x hx => by simp at hx)) (by simp)).off hW (by simp))
              clear hoc
              go_wp2_with (first
                | (go_at_call 11
                   refine (HI2.out _ HO5.out).mono ?_
                   rintro r w6 ⟨s2, hs2, rfl, ho6⟩
                   obtain ⟨b2, hb2⟩ : ∃ sb : ByteArray, sb = ⟨s2.toArray⟩ := ⟨_, rfl⟩
                   rw [← hb2]
                   have hl2 := enc_len (by simp) es e HS1.out hs2
                   have hz1 : b1.size = s1.length := by rw [HB1.out]; rfl
                   have hz2 : b2.size = s2.length := by rw [hb2]; rfl
                   have hqb : b1.size ≤ 2000000 := by
                     rw [hz1]
                     exact HS1.out.len (by rw [rws, List.length_map, HN.out]; omega) (fun r hr => (rws_small es (fun x hx => (HOKS.out x (by simp [hx])).1) r hr).2.1)
                   have hq : (b2.size : Int) = (b1.size : Int) + (M2 : Int) := by have := HMORE.out; omega
                   have HS2 := Lib.hid hs2
                   have HB2' := Lib.hid hb2
                   have HO6 := Lib.hid (HO5.out.then ho6 (fun x hx => by simp at hx))
                   clear hs2 hb2 ho6 hl2 hz1 hz2)
                | (go_at_call 11
                   refine HI1.out.mono ?_
                   rintro r w5 ⟨s1, hs1, rfl, ho5⟩
                   obtain ⟨b1, hb1⟩ : ∃ sb : ByteArray, sb = ⟨s1.toArray⟩ := ⟨_, rfl⟩
                   rw [← hb1]
                   have HS1 := Lib.hid hs1
                   have HB1 := Lib.hid hb1
                   have HO5 := Lib.hid ho5
                   clear hs1 hb1 ho5))
              clear hq
              go_loopg [131] n (fun kx s131 wr => ∃ j : Nat, s131 = .int .i64 (j : Int) ∧ j ≤ n ∧ n - j ≤ kx ∧ Hid (Off [] w6 wr))
              case atStart => exact ⟨0, rfl, Nat.zero_le _, by omega, Lib.hid (Off.refl [] w6)⟩
              case round =>
                rename World => wr
                obtain ⟨j, rfl, hjn, hkx, HR⟩ := hrel
                by_cases hlt : j < n
                · have hie : j < es.length := by have := HN.out; omega
                  have hor : Off [] wA wr := HOC.out.then (HO6.out.then HR.out (fun x hx => by simp at hx)) (fun x hx => by simp at hx)
                  have hat := HAT.out.off hor (by simp)
                  obtain ⟨hA, hib⟩ := hat.at_ (by omega)
                  obtain ⟨c0, c1, c2, c3, c4⟩ := hat.cells j hie
                  obtain ⟨ent, hent⟩ : ∃ ent, ent = es[j] := ⟨_, rfl⟩
                  rw [← hent] at c0 c1 c2 c3 c4
                  have hmem : ent ∈ es := by rw [hent]; exact List.getElem_mem _
                  have hok : ent.ok := (HOKS.out ent (by simp [hmem])).1
                  have hbr := HBA.out.off hor (by simp)
                  have r3 := hbr.cell 3
                  simp at r3
                  have hal : Off [] wr (wr.alloc (.cells #[.int .u64 (ent.ver : Int), .int .u64 (ent.codec : Int), .int .u64 (ent.code : Int), .string ent.dg, .int .u64 (ent.off : Int)] 27)) := Off.alloc (Off.refl [] wr) _
                  have a3 := hal.cell r3 (by simp)
                  have n0 : (wr.alloc (.cells #[.int .u64 (ent.ver : Int), .int .u64 (ent.codec : Int), .int .u64 (ent.code : Int), .string ent.dg, .int .u64 (ent.off : Int)] 27)).cell? ⟨wr.heap.size, 0, none⟩ = some (.int .u64 (ent.ver : Int)) := (Blk.new wr 27 #[.int .u64 (ent.ver : Int), .int .u64 (ent.codec : Int), .int .u64 (ent.code : Int), .string ent.dg, .int .u64 (ent.off : Int)]).cell 0
                  have n1 : (wr.alloc (.cells #[.int .u64 (ent.ver : Int), .int .u64 (ent.codec : Int), .int .u64 (ent.code : Int), .string ent.dg, .int .u64 (ent.off : Int)] 27)).cell? ⟨wr.heap.size, 1, none⟩ = some (.int .u64 (ent.codec : Int)) := (Blk.new wr 27 #[.int .u64 (ent.ver : Int), .int .u64 (ent.codec : Int), .int .u64 (ent.code : Int), .string ent.dg, .int .u64 (ent.off : Int)]).cell 1
                  have n2 : (wr.alloc (.cells #[.int .u64 (ent.ver : Int), .int .u64 (ent.codec : Int), .int .u64 (ent.code : Int), .string ent.dg, .int .u64 (ent.off : Int)] 27)).cell? ⟨wr.heap.size, 2, none⟩ = some (.int .u64 (ent.code : Int)) := (Blk.new wr 27 #[.int .u64 (ent.ver : Int), .int .u64 (ent.codec : Int), .int .u64 (ent.code : Int), .string ent.dg, .int .u64 (ent.off : Int)]).cell 2
                  have n3 : (wr.alloc (.cells #[.int .u64 (ent.ver : Int), .int .u64 (ent.codec : Int), .int .u64 (ent.code : Int), .string ent.dg, .int .u64 (ent.off : Int)] 27)).cell? ⟨wr.heap.size, 3, none⟩ = some (.string ent.dg) := (Blk.new wr 27 #[.int .u64 (ent.ver : Int), .int .u64 (ent.codec : Int), .int .u64 (ent.code : Int), .string ent.dg, .int .u64 (ent.off : Int)]).cell 3
                  have hsm1 := rws_small es (fun x hx => (HOKS.out x (by simp [hx])).1)
                  have hsm2 := rws_small (es ++ [e]) (fun x hx => (HOKS.out x hx).1)
                  have hl1 : (rws es).length = n := by rw [rws, List.length_map, HN.out]
                  have hl2 : (rws (es ++ [e])).length = n + 1 := by rw [rws, List.length_map, HNL.out]
                  have hEw : ∀ W, Off [] wr W → W.cell? ⟨0, 0, none⟩ = some (notF a) := fun W hW => hW.cell (hor.cell HEA.out (by simp)) (by simp)
                  have HX1 : Hid (∀ W, Off [] wr W → Calls Tryz.prog 12 #[.string b1, .agg #[.int .u64 (ent.ver : Int), .int .u64 (ent.codec : Int), .int .u64 (ent.code : Int), .string ent.dg], .int .i64 1000] W fun r w' => ∃ v outs, outs.Perm (founds 1024 (rws es) ent.code ent.dg.data.toList) ∧ r = .returned (.tuple #[v, .int .u8 (if outs = [] then 1 else 0)]) ∧ OutRow W w' v outs ∧ Off [] W w') := Lib.hid fun W hW =>
                    ixAll_enc 1024 (rws es) _ HS1.out (by omega) hsm1 b1 (by rw [HB1.out]) ent hok 1000 (by omega) a W (hEw W hW)
                  have HX2 : Hid (∀ W, Off [] wr W → Calls Tryz.prog 12 #[.string b2, .agg #[.int .u64 (ent.ver : Int), .int .u64 (ent.codec : Int), .int .u64 (ent.code : Int), .string ent.dg], .int .i64 1000] W fun r w' => ∃ v outs, outs.Perm (founds 1024 (rws (es ++ [e])) ent.code ent.dg.data.toList) ∧ r = .returned (.tuple #[v, .int .u8 (if outs = [] then 1 else 0)]) ∧ OutRow W w' v outs ∧ Off [] W w') := Lib.hid fun W hW =>
                    ixAll_enc 1024 (rws (es ++ [e])) _ HS2.out (by omega) hsm2 b2 (by rw [HB2'.out]) ent hok 1000 (by omega) a W (hEw W hW)
                  have HL1 := Lib.hid hl1
                  have HMEM := Lib.hid hmem
                  have HAL := Lib.hid hal
                  clear hent hat hbr hmem hok hsm1 hsm2 hl1 hl2 hEw hor hal
                  subst hA
                  by_cases hdg : ent.dg = e.dg
                  · have hdt : ent.dg.toList = e.dg.toList := by rw [hdg]
                    have HDG := Lib.hid hdg
                    clear hdg
                    go_wp2_with (first
                      | (go_at_call 12
                         refine (HX2.out _ P7.out).mono ?_
                         rintro r w8 ⟨v2, o2, hp2, rfl, hr2, ho8⟩
                         obtain ⟨fv2, hfv2⟩ : ∃ fv : Int, fv = if o2 = [] then 1 else 0 := ⟨_, rfl⟩
                         rw [← hfv2]
                         have P8 := Lib.hid (P7.out.then ho8 (fun x hx => by simp at hx))
                         have x3 := ho8.cell y3 (by simp)
                         have z3 := ho8.cell a3' (by simp)
                         clear hp2 hr2 ho8 hfv2)
                      | (go_at_call 12
                         refine (HX1.out _ HAL.out).mono ?_
                         rintro r w7 ⟨v1, o1, hp1, rfl, hr1, ho7⟩
                         obtain ⟨fv1, hfv1⟩ : ∃ fv : Int, fv = if o1 = [] then 1 else 0 := ⟨_, rfl⟩
                         rw [← hfv1]
                         have P7 := Lib.hid (HAL.out.then ho7 (fun x hx => by simp at hx))
                         have y0 := ho7.cell n0 (by simp)
                         have y1 := ho7.cell n1 (by simp)
                         have y2 := ho7.cell n2 (by simp)
                         have y3 := ho7.cell n3 (by simp)
                         have a3' := ho7.cell a3 (by simp)
                         clear hp1 hr1 ho7 hfv1 n0 n1 n2 n3 a3))
                    go_roundg (n - (j + 1))
                    case measure => omega
                    case rel => exact ⟨j + 1, rfl, by omega, by omega, Lib.hid (HR.out.then P8.out (fun x hx => by simp at hx))⟩
                  · have hdt : ¬ ent.dg.toList = e.dg.toList := fun h => hdg (by rw [ByteArray.toList_eq, ByteArray.toList_eq] at h; exact ByteArray.ext (Array.toList_inj.1 h))
                    have HDG := Lib.hid hdg
                    clear hdg
                    go_wp2_with (first
                      | (go_at_call 12
                         refine (HX2.out _ P7.out).mono ?_
                         rintro r w8 ⟨v2, o2, hp2, rfl, hr2, ho8⟩
                         obtain ⟨fv2, hfv2⟩ : ∃ fv : Int, fv = if o2 = [] then 1 else 0 := ⟨_, rfl⟩
                         rw [← hfv2]
                         have P8 := Lib.hid (P7.out.then ho8 (fun x hx => by simp at hx))
                         have x3 := ho8.cell y3 (by simp)
                         have z3 := ho8.cell a3' (by simp)
                         have hp21 : o2.Perm o1 := hp2.trans ((List.Perm.of_eq (founds_rest 1024 es e ent HDG.out)).trans HP1.out.symm)
                         obtain ⟨A2, k2, hv2, hu2⟩ := hr2.u64s (fun h => HNE1.out (by rw [h] at hp21; exact hp21.symm.eq_nil))
                         rw [hp21.length_eq, ← HMM.out] at hv2
                         subst hv2
                         have hz : srtI (ints o2) = srtI (ints o1) := srtI_perm (hp21.map _)
                         have hml : (ints o2).length = m := by rw [ints, List.length_map, hp21.length_eq, ← HMM.out]
                         have S2 : Hid (∀ W, Off [] w8 W → Calls Tryz.prog 14 #[.slice A2 m k2] W fun r w' => ∃ A' c', r = .returned (.slice A' m c') ∧ U64s w' A' (srtI (ints o1)) ∧ Off [] W w') := Lib.hid fun W hW => by
                           have := ixSorted_any W A2 k2 m (ints o2) hml (hu2.off hW) (by omega)
                           rw [hz] at this
                           exact this
                         have S1 := Lib.hid (ixSorted_any w8 A1 k1 m (ints o1) (by rw [ints, List.length_map, ← HMM.out]) (HU1.out.off ho8) (by omega))
                         clear hp2 hr2 ho8 hfv2 hp21 hu2 hz hml)
                      | (go_at_call 12
                         refine (HX1.out _ HAL.out).mono ?_
                         rintro r w7 ⟨v1, o1, hp1, rfl, hr1, ho7⟩
                         obtain ⟨fv1, hfv1⟩ : ∃ fv : Int, fv = if o1 = [] then 1 else 0 := ⟨_, rfl⟩
                         rw [← hfv1]
                         have P7 := Lib.hid (HAL.out.then ho7 (fun x hx => by simp at hx))
                         have y0 := ho7.cell n0 (by simp)
                         have y1 := ho7.cell n1 (by simp)
                         have y2 := ho7.cell n2 (by simp)
                         have y3 := ho7.cell n3 (by simp)
                         have a3' := ho7.cell a3 (by simp)
                         have hne1 : o1 ≠ [] := fun h => founds_ne 1024 es ent HMEM.out (by rw [h] at hp1; exact hp1.symm.eq_nil)
                         obtain ⟨A1, k1, hv1, hu1⟩ := hr1.u64s hne1
                         have hm1 : o1.length ≤ n := by rw [hp1.length_eq, ← HL1.out]; exact founds_le _ _ _ _
                         obtain ⟨m, hm⟩ : ∃ m, m = o1.length := ⟨_, rfl⟩
                         rw [← hm] at hv1 hm1
                         subst hv1
                         have HMM := Lib.hid hm
                         have HP1 := Lib.hid hp1
                         have HNE1 := Lib.hid hne1
                         have HU1 := Lib.hid hu1
                         clear hp1 hr1 ho7 hfv1 n0 n1 n2 n3 a3 hne1 hu1 hm)
                      | (go_at_call 14
                         refine (S2.out _ O9.out).mono ?_
                         rintro r w10 ⟨A4, c4', rfl, hu4, ho10⟩
                         have P10 := Lib.hid (P8.out.then (O9.out.then ho10 (fun x hx => by simp at hx)) (fun x hx => by simp at hx))
                         have SM := Lib.hid (ixSame_any w10 A3 A4 c3' c4' m (srtI (ints o1)) (by rw [srtI_len, ints, List.length_map, ← HMM.out]) (U3.out.off ho10) hu4 (by omega))
                         clear hu4 ho10)
                      | (go_at_call 14
                         refine S1.out.mono ?_
                         rintro r w9 ⟨A3, c3', rfl, hu3, ho9⟩
                         have O9 := Lib.hid ho9
                         have U3 := Lib.hid hu3
                         clear hu3 ho9)
                      | (go_at_call 13
                         refine SM.out.mono ?_
                         rintro r w11 ⟨rfl, ho11⟩
                         have P11 := Lib.hid (P10.out.then ho11 (fun x hx => by simp at hx))
                         clear ho11))
                    go_roundg (n - (j + 1))
                    case measure => omega
                    case rel => exact ⟨j + 1, rfl, by omega, by omega, Lib.hid (HR.out.then P11.out (fun x hx => by simp at hx))⟩
                · obtain rfl : n = j := by omega
                  have hor : Off [] wA wr := HOC.out.then (HO6.out.then HR.out (fun x hx => by simp at hx)) (fun x hx => by simp at hx)
                  have hbr := HBA.out.off hor (by simp)
                  have r0 := hbr.cell 0
                  have r1 := hbr.cell 1
                  have r2 := hbr.cell 2
                  have r3 := hbr.cell 3
                  have r4 := hbr.cell 4
                  simp at r0 r1 r2 r3 r4
                  have hl2 : (rws (es ++ [e])).length = n + 1 := by rw [rws, List.length_map, HNL.out]
                  have HX3 : Hid (Calls Tryz.prog 12 #[.string b2, .agg #[.int .u64 (e.ver : Int), .int .u64 (e.codec : Int), .int .u64 (e.code : Int), .string e.dg], .int .i64 1000] wr fun r w' => ∃ v outs, outs.Perm (founds 1024 (rws (es ++ [e])) e.code e.dg.data.toList) ∧ r = .returned (.tuple #[v, .int .u8 (if outs = [] then 1 else 0)]) ∧ OutRow wr w' v outs ∧ Off [] wr w') := Lib.hid
                    (ixAll_enc 1024 (rws (es ++ [e])) _ HS2.out (by omega) (rws_small (es ++ [e]) (fun x hx => (HOKS.out x hx).1)) b2 (by rw [HB2'.out]) e (HOKS.out e (by simp)).1 1000 (by omega) a wr (hor.cell HEA.out (by simp)))
                  have HL2 := Lib.hid hl2
                  have HOR := Lib.hid hor
                  clear hl2 hbr hor hkx hlt
                  go_wp2_with (first
                    | (go_at_call 12
                       refine HX3.out.mono ?_
                       rintro r w7 ⟨v3, o3, hp3, rfl, hr3, ho7⟩
                       have hin3 : e.off ∈ o3 := hp3.mem_iff.2 (founds_in 1024 es e)
                       have hne3 : o3 ≠ [] := List.ne_nil_of_mem hin3
                       rw [if_neg hne3]
                       obtain ⟨A3, k3, hv3, hu3⟩ := hr3.u64s hne3
                       have hm3 : o3.length ≤ 100 := by rw [hp3.length_eq]; exact Nat.le_trans (founds_le _ _ _ _) (by rw [HL2.out]; omega)
                       obtain ⟨m, hm⟩ : ∃ m, m = o3.length := ⟨_, rfl⟩
                       rw [← hm] at hv3 hm3
                       subst hv3
                       obtain ⟨bb, oo, rfl, hbb, hcc⟩ := hu3
                       have t4 := ho7.cell r4 (by simp)
                       have HM3 := Lib.hid hm
                       have HIN := Lib.hid hin3
                       have HCC := Lib.hid hcc
                       have HP7 := Lib.hid (HOA.out.then (HOR.out.then ho7 (fun x hx => by simp at hx)) (fun x hx => by simp at hx))
                       clear hp3 hr3 ho7 hne3 hin3 hcc hm r0 r1 r2 r3 r4))
                  go_loopg [26, 174] m (fun kx s26 s174 wz => ∃ j : Nat, s174 = .int .i64 (j : Int) ∧ s26 = .bool (inB e (o3.take j)) ∧ j ≤ m ∧ m - j ≤ kx ∧ wz = w7)
                  case atStart => exact ⟨0, rfl, rfl, Nat.zero_le _, by omega, rfl⟩
                  case round =>
                    rename World => wz
                    obtain ⟨j, rfl, rfl, hjm, hkx, rfl⟩ := hrel
                    by_cases hlt : j < m
                    · have hj3 : j < o3.length := by have := HM3.out; omega
                      obtain ⟨x, hx⟩ : ∃ x, x = o3[j] := ⟨_, rfl⟩
                      have hcx : wz.cell? ⟨bb, oo + j, none⟩ = some (.int .u64 (x : Int)) := by
                        have := HCC.out j (by rw [ints, List.length_map]; exact hj3)
                        rw [this, hx]
                        simp [ints]
                      have HTK := Lib.hid (show o3.take (j + 1) = o3.take j ++ [x] by rw [List.take_succ_eq_append_getElem hj3, hx])
                      obtain ⟨Bq, hB⟩ : ∃ B, B = inB e (o3.take j) := ⟨_, rfl⟩
                      obtain ⟨Cq, hC⟩ : ∃ C, ((x : Int) == (e.off : Int)) = C := ⟨_, rfl⟩
                      rw [← hB]
                      have HBq := Lib.hid hB
                      have HCq := Lib.hid hC
                      clear hB hx
                      cases Bq <;> cases Cq
                      all_goals go_wp2_with fail
                      all_goals
                        go_roundg (m - (j + 1))
                        case measure => omega
                        case rel => exact ⟨j + 1, rfl, by rw [HTK.out]; exact in_step e _ x HBq.out HCq.out rfl, by omega, by omega, rfl⟩
                    · obtain rfl : m = j := by omega
                      have hin : inB e (o3.take m) = true := by
                        rw [List.take_of_length_le (by have := HM3.out; omega)]
                        exact List.any_eq_true.2 ⟨e.off, HIN.out, by simp⟩
                      rw [hin]
                      clear hin hkx hlt
                      go_wp2_with fail
                      go_ret
                      exact ⟨rfl, HP7.out⟩
    · go_wp2_with (go_at_call 10; refine HIG.out.mono ?_; rintro r w4 ⟨rfl, ho4⟩; have hf4 := (HB2.out.off HOX.out (by simp)).off ho4 (by simp); have q2 := hf4.cell 2; have q3 := hf4.cell 3; have q4 := hf4.cell 4; simp at q2 q3 q4; have HO4 := Lib.hid ho4; have HF4 := Lib.hid hf4; clear ho4 hf4 f2 f3 f4)
      go_loopg [9, 10, 59] n (fun kx s9 s10 s59 wr => ∃ j : Nat, s59 = .int .i64 (j : Int) ∧ s9 = .bool (widB 1025 e (es.take j)) ∧ s10 = .bool (codB 1025 e (es.take j)) ∧ j ≤ n ∧ n - j ≤ kx ∧ Hid (Off [] w4 wr))
      case atStart => exact ⟨0, rfl, rfl, rfl, Nat.zero_le _, by omega, Lib.hid (Off.refl [] w4)⟩
      case round =>
        rename World => wr
        obtain ⟨j, rfl, rfl, rfl, hjn, hkx, HO⟩ := hrel
        by_cases hlt : j < n
        · have hie : j < es.length := by have := HN.out; omega
          have hat := ((HAT.out.off HO2.out (by simp)).off (HOX.out.then HO4.out (fun x hx => by simp at hx)) (by simp)).off HO.out (by simp)
          obtain ⟨hA, hib⟩ := hat.at_ (by omega)
          obtain ⟨c0, c1, c2, c3, c4⟩ := hat.cells j hie
          obtain ⟨ent, hent⟩ : ∃ ent, ent = es[j] := ⟨_, rfl⟩
          rw [← hent] at c0 c1 c2 c3 c4
          have HTK := Lib.hid (show es.take (j + 1) = es.take j ++ [ent] by rw [List.take_succ_eq_append_getElem hie, hent])
          have hg4 := HF4.out.off HO.out (by simp)
          have r2 := hg4.cell 2
          have r3 := hg4.cell 3
          simp at r2 r3
          have a2 := (Off.alloc (Off.refl [] wr) (.cells #[.int .u64 (ent.ver : Int), .int .u64 (ent.codec : Int), .int .u64 (ent.code : Int), .string ent.dg, .int .u64 (ent.off : Int)] 27)).cell r2 (by simp)
          have a3 := (Off.alloc (Off.refl [] wr) (.cells #[.int .u64 (ent.ver : Int), .int .u64 (ent.codec : Int), .int .u64 (ent.code : Int), .string ent.dg, .int .u64 (ent.off : Int)] 27)).cell r3 (by simp)
          have HOB := Lib.hid (HO.out.alloc (.cells #[.int .u64 (ent.ver : Int), .int .u64 (ent.codec : Int), .int .u64 (ent.code : Int), .string ent.dg, .int .u64 (ent.off : Int)] 27))
          obtain ⟨Wq, hW⟩ : ∃ W, W = widB 1025 e (es.take j) := ⟨_, rfl⟩
          obtain ⟨Dq, hD⟩ : ∃ D, D = codB 1025 e (es.take j) := ⟨_, rfl⟩
          obtain ⟨Lq, hL⟩ : ∃ L, ((ent.dg.size : Int) != (e.dg.size : Int)) = L := ⟨_, rfl⟩
          obtain ⟨Cq, hC⟩ : ∃ C, ((ent.code : Int) == (e.code : Int)) = C := ⟨_, rfl⟩
          rw [← hW, ← hD]
          have HWq := Lib.hid hW
          have HDq := Lib.hid hD
          have HLq := Lib.hid hL
          have HCq := Lib.hid hC
          clear hW hD hent hat hg4 q2 q3 q4
          subst hA
          cases Wq <;> cases Lq <;> cases Dq <;> cases Cq
          all_goals go_wp2_with fail
          all_goals
            go_roundg (n - (j + 1))
            case measure => omega
            case rel =>
              exact ⟨j + 1, rfl, by rw [HTK.out]; exact wid_step 1025 e _ ent HWq.out HLq.out HCq.out rfl, by rw [HTK.out]; exact cod_step 1025 e _ ent HDq.out HCq.out rfl, by omega, by omega, HOB⟩
        · obtain rfl : n = j := by omega
          have htk : es.take n = es := List.take_of_length_le (by have := HN.out; omega)
          rw [htk]
          obtain ⟨Wq, hW⟩ : ∃ W, W = widB 1025 e es := ⟨_, rfl⟩
          obtain ⟨Dq, hD⟩ : ∃ D, D = codB 1025 e es := ⟨_, rfl⟩
          obtain ⟨M1, hM1⟩ : ∃ M1 : Nat, M1 = e.dg.size + 8 + (if Wq = true then 12 else 0) := ⟨_, rfl⟩
          obtain ⟨M2, hM2⟩ : ∃ M2 : Nat, M2 = M1 + (if Dq = true then 12 else 0) := ⟨_, rfl⟩
          have hmore : M2 = moreN 1025 e es := by rw [hM2, hM1, hW, hD]; rfl
          have HMORE := Lib.hid hmore
          have HM1 := Lib.hid hM1
          have HM2 := Lib.hid hM2
          have hM1b : M1 ≤ 220 := by rw [hM1]; split <;> omega
          have hM2b : M2 ≤ 232 := by rw [hM2]; split <;> omega
          rw [← hW, ← hD]
          clear htk hW hD hmore hM1 hM2 hkx hlt q2 q3 q4
          go_upto_if 96 with fail
          go_cut [8] from 96 to 98 (fun s8 wx => s8 = .int .i64 (M1 : Int) ∧ wx = wr)
          case first =>
            cases Wq
            · go_wp2_with fail
              go_meet
              exact ⟨by rw [HM1.out]; simp, rfl⟩
            · go_wp2_with fail
              go_meet
              exact ⟨by rw [HM1.out]; simp, rfl⟩
          case rest =>
            obtain ⟨rfl, rfl⟩ := hcut
            go_upto_if 99 with fail
            go_cut [8] from 99 to 101 (fun s8 wx => s8 = .int .i64 (M2 : Int) ∧ wx = wc)
            case first =>
              cases Dq
              · go_wp2_with fail
                go_meet
                exact ⟨by rw [HM2.out]; simp, rfl⟩
              · go_wp2_with fail
                go_meet
                exact ⟨by rw [HM2.out]; simp, rfl⟩
            case rest =>
              obtain ⟨rfl, rfl⟩ := hcut
              have hoc : Off [] wA wc := HO2.out.then (HOX.out.then (HO4.out.then HO.out (fun x hx => by simp at hx)) (fun x hx => by simp at hx)) (fun x hx => by simp at hx)
              have HOC := Lib.hid hoc
              have HI1 := Lib.hid (ixBytes_enc 1025 (by simp) es A ib io c n wc (fun x hx => (HOKS.out x (by simp [hx])).1) HN.out (by omega) (HAT.out.off hoc (by simp)))
              have HI2 : Hid (∀ W, Off [] wc W → Calls Tryz.prog 11 #[.slice (some ⟨g, 0, none⟩) (n + 1) cap, .int .u64 1025] W fun r w' => ∃ s, Enc 1025 (rws (es ++ [e])) s ∧ r = .returned (.tuple #[.string ⟨s.toArray⟩, .bool true]) ∧ Off [] W w') := Lib.hid fun W hW =>
                ixBytes_enc 1025 (by simp) (es ++ [e]) (some ⟨g, 0, none⟩) g 0 cap (n + 1) W (fun x hx => (HOKS.out x hx).1) HNL.out (by omega) ((HALL.out.off (HO4.out.then HO.out (fun x hx => by simp at hx)) (by simp)).off hW (by simp))
              clear hoc
              go_wp2_with (first
                | (go_at_call 11
                   refine (HI2.out _ HO5.out).mono ?_
                   rintro r w6 ⟨s2, hs2, rfl, ho6⟩
                   obtain ⟨b2, hb2⟩ : ∃ sb : ByteArray, sb = ⟨s2.toArray⟩ := ⟨_, rfl⟩
                   rw [← hb2]
                   have hl2 := enc_len (by simp) es e HS1.out hs2
                   have hz1 : b1.size = s1.length := by rw [HB1.out]; rfl
                   have hz2 : b2.size = s2.length := by rw [hb2]; rfl
                   have hqb : b1.size ≤ 2000000 := by
                     rw [hz1]
                     exact HS1.out.len (by rw [rws, List.length_map, HN.out]; omega) (fun r hr => (rws_small es (fun x hx => (HOKS.out x (by simp [hx])).1) r hr).2.1)
                   have hq : (b2.size : Int) = (b1.size : Int) + (M2 : Int) := by have := HMORE.out; omega
                   have HS2 := Lib.hid hs2
                   have HB2' := Lib.hid hb2
                   have HO6 := Lib.hid (HO5.out.then ho6 (fun x hx => by simp at hx))
                   clear hs2 hb2 ho6 hl2 hz1 hz2)
                | (go_at_call 11
                   refine HI1.out.mono ?_
                   rintro r w5 ⟨s1, hs1, rfl, ho5⟩
                   obtain ⟨b1, hb1⟩ : ∃ sb : ByteArray, sb = ⟨s1.toArray⟩ := ⟨_, rfl⟩
                   rw [← hb1]
                   have HS1 := Lib.hid hs1
                   have HB1 := Lib.hid hb1
                   have HO5 := Lib.hid ho5
                   clear hs1 hb1 ho5))
              clear hq
              go_loopg [131] n (fun kx s131 wr => ∃ j : Nat, s131 = .int .i64 (j : Int) ∧ j ≤ n ∧ n - j ≤ kx ∧ Hid (Off [] w6 wr))
              case atStart => exact ⟨0, rfl, Nat.zero_le _, by omega, Lib.hid (Off.refl [] w6)⟩
              case round =>
                rename World => wr
                obtain ⟨j, rfl, hjn, hkx, HR⟩ := hrel
                by_cases hlt : j < n
                · have hie : j < es.length := by have := HN.out; omega
                  have hor : Off [] wA wr := HOC.out.then (HO6.out.then HR.out (fun x hx => by simp at hx)) (fun x hx => by simp at hx)
                  have hat := HAT.out.off hor (by simp)
                  obtain ⟨hA, hib⟩ := hat.at_ (by omega)
                  obtain ⟨c0, c1, c2, c3, c4⟩ := hat.cells j hie
                  obtain ⟨ent, hent⟩ : ∃ ent, ent = es[j] := ⟨_, rfl⟩
                  rw [← hent] at c0 c1 c2 c3 c4
                  have hmem : ent ∈ es := by rw [hent]; exact List.getElem_mem _
                  have hok : ent.ok := (HOKS.out ent (by simp [hmem])).1
                  have hbr := HBA.out.off hor (by simp)
                  have r3 := hbr.cell 3
                  simp at r3
                  have hal : Off [] wr (wr.alloc (.cells #[.int .u64 (ent.ver : Int), .int .u64 (ent.codec : Int), .int .u64 (ent.code : Int), .string ent.dg, .int .u64 (ent.off : Int)] 27)) := Off.alloc (Off.refl [] wr) _
                  have a3 := hal.cell r3 (by simp)
                  have n0 : (wr.alloc (.cells #[.int .u64 (ent.ver : Int), .int .u64 (ent.codec : Int), .int .u64 (ent.code : Int), .string ent.dg, .int .u64 (ent.off : Int)] 27)).cell? ⟨wr.heap.size, 0, none⟩ = some (.int .u64 (ent.ver : Int)) := (Blk.new wr 27 #[.int .u64 (ent.ver : Int), .int .u64 (ent.codec : Int), .int .u64 (ent.code : Int), .string ent.dg, .int .u64 (ent.off : Int)]).cell 0
                  have n1 : (wr.alloc (.cells #[.int .u64 (ent.ver : Int), .int .u64 (ent.codec : Int), .int .u64 (ent.code : Int), .string ent.dg, .int .u64 (ent.off : Int)] 27)).cell? ⟨wr.heap.size, 1, none⟩ = some (.int .u64 (ent.codec : Int)) := (Blk.new wr 27 #[.int .u64 (ent.ver : Int), .int .u64 (ent.codec : Int), .int .u64 (ent.code : Int), .string ent.dg, .int .u64 (ent.off : Int)]).cell 1
                  have n2 : (wr.alloc (.cells #[.int .u64 (ent.ver : Int), .int .u64 (ent.codec : Int), .int .u64 (ent.code : Int), .string ent.dg, .int .u64 (ent.off : Int)] 27)).cell? ⟨wr.heap.size, 2, none⟩ = some (.int .u64 (ent.code : Int)) := (Blk.new wr 27 #[.int .u64 (ent.ver : Int), .int .u64 (ent.codec : Int), .int .u64 (ent.code : Int), .string ent.dg, .int .u64 (ent.off : Int)]).cell 2
                  have n3 : (wr.alloc (.cells #[.int .u64 (ent.ver : Int), .int .u64 (ent.codec : Int), .int .u64 (ent.code : Int), .string ent.dg, .int .u64 (ent.off : Int)] 27)).cell? ⟨wr.heap.size, 3, none⟩ = some (.string ent.dg) := (Blk.new wr 27 #[.int .u64 (ent.ver : Int), .int .u64 (ent.codec : Int), .int .u64 (ent.code : Int), .string ent.dg, .int .u64 (ent.off : Int)]).cell 3
                  have hsm1 := rws_small es (fun x hx => (HOKS.out x (by simp [hx])).1)
                  have hsm2 := rws_small (es ++ [e]) (fun x hx => (HOKS.out x hx).1)
                  have hl1 : (rws es).length = n := by rw [rws, List.length_map, HN.out]
                  have hl2 : (rws (es ++ [e])).length = n + 1 := by rw [rws, List.length_map, HNL.out]
                  have hEw : ∀ W, Off [] wr W → W.cell? ⟨0, 0, none⟩ = some (notF a) := fun W hW => hW.cell (hor.cell HEA.out (by simp)) (by simp)
                  have HX1 : Hid (∀ W, Off [] wr W → Calls Tryz.prog 12 #[.string b1, .agg #[.int .u64 (ent.ver : Int), .int .u64 (ent.codec : Int), .int .u64 (ent.code : Int), .string ent.dg], .int .i64 1000] W fun r w' => ∃ v outs, outs.Perm (founds 1025 (rws es) ent.code ent.dg.data.toList) ∧ r = .returned (.tuple #[v, .int .u8 (if outs = [] then 1 else 0)]) ∧ OutRow W w' v outs ∧ Off [] W w') := Lib.hid fun W hW =>
                    ixAll_enc 1025 (rws es) _ HS1.out (by omega) hsm1 b1 (by rw [HB1.out]) ent hok 1000 (by omega) a W (hEw W hW)
                  have HX2 : Hid (∀ W, Off [] wr W → Calls Tryz.prog 12 #[.string b2, .agg #[.int .u64 (ent.ver : Int), .int .u64 (ent.codec : Int), .int .u64 (ent.code : Int), .string ent.dg], .int .i64 1000] W fun r w' => ∃ v outs, outs.Perm (founds 1025 (rws (es ++ [e])) ent.code ent.dg.data.toList) ∧ r = .returned (.tuple #[v, .int .u8 (if outs = [] then 1 else 0)]) ∧ OutRow W w' v outs ∧ Off [] W w') := Lib.hid fun W hW =>
                    ixAll_enc 1025 (rws (es ++ [e])) _ HS2.out (by omega) hsm2 b2 (by rw [HB2'.out]) ent hok 1000 (by omega) a W (hEw W hW)
                  have HL1 := Lib.hid hl1
                  have HMEM := Lib.hid hmem
                  have HAL := Lib.hid hal
                  clear hent hat hbr hmem hok hsm1 hsm2 hl1 hl2 hEw hor hal
                  subst hA
                  by_cases hdg : ent.dg = e.dg
                  · have hdt : ent.dg.toList = e.dg.toList := by rw [hdg]
                    have HDG := Lib.hid hdg
                    clear hdg
                    go_wp2_with (first
                      | (go_at_call 12
                         refine (HX2.out _ P7.out).mono ?_
                         rintro r w8 ⟨v2, o2, hp2, rfl, hr2, ho8⟩
                         obtain ⟨fv2, hfv2⟩ : ∃ fv : Int, fv = if o2 = [] then 1 else 0 := ⟨_, rfl⟩
                         rw [← hfv2]
                         have P8 := Lib.hid (P7.out.then ho8 (fun x hx => by simp at hx))
                         have x3 := ho8.cell y3 (by simp)
                         have z3 := ho8.cell a3' (by simp)
                         clear hp2 hr2 ho8 hfv2)
                      | (go_at_call 12
                         refine (HX1.out _ HAL.out).mono ?_
                         rintro r w7 ⟨v1, o1, hp1, rfl, hr1, ho7⟩
                         obtain ⟨fv1, hfv1⟩ : ∃ fv : Int, fv = if o1 = [] then 1 else 0 := ⟨_, rfl⟩
                         rw [← hfv1]
                         have P7 := Lib.hid (HAL.out.then ho7 (fun x hx => by simp at hx))
                         have y0 := ho7.cell n0 (by simp)
                         have y1 := ho7.cell n1 (by simp)
                         have y2 := ho7.cell n2 (by simp)
                         have y3 := ho7.cell n3 (by simp)
                         have a3' := ho7.cell a3 (by simp)
                         clear hp1 hr1 ho7 hfv1 n0 n1 n2 n3 a3))
                    go_roundg (n - (j + 1))
                    case measure => omega
                    case rel => exact ⟨j + 1, rfl, by omega, by omega, Lib.hid (HR.out.then P8.out (fun x hx => by simp at hx))⟩
                  · have hdt : ¬ ent.dg.toList = e.dg.toList := fun h => hdg (by rw [ByteArray.toList_eq, ByteArray.toList_eq] at h; exact ByteArray.ext (Array.toList_inj.1 h))
                    have HDG := Lib.hid hdg
                    clear hdg
                    go_wp2_with (first
                      | (go_at_call 12
                         refine (HX2.out _ P7.out).mono ?_
                         rintro r w8 ⟨v2, o2, hp2, rfl, hr2, ho8⟩
                         obtain ⟨fv2, hfv2⟩ : ∃ fv : Int, fv = if o2 = [] then 1 else 0 := ⟨_, rfl⟩
                         rw [← hfv2]
                         have P8 := Lib.hid (P7.out.then ho8 (fun x hx => by simp at hx))
                         have x3 := ho8.cell y3 (by simp)
                         have z3 := ho8.cell a3' (by simp)
                         have hp21 : o2.Perm o1 := hp2.trans ((List.Perm.of_eq (founds_rest 1025 es e ent HDG.out)).trans HP1.out.symm)
                         obtain ⟨A2, k2, hv2, hu2⟩ := hr2.u64s (fun h => HNE1.out (by rw [h] at hp21; exact hp21.symm.eq_nil))
                         rw [hp21.length_eq, ← HMM.out] at hv2
                         subst hv2
                         have hz : srtI (ints o2) = srtI (ints o1) := srtI_perm (hp21.map _)
                         have hml : (ints o2).length = m := by rw [ints, List.length_map, hp21.length_eq, ← HMM.out]
                         have S2 : Hid (∀ W, Off [] w8 W → Calls Tryz.prog 14 #[.slice A2 m k2] W fun r w' => ∃ A' c', r = .returned (.slice A' m c') ∧ U64s w' A' (srtI (ints o1)) ∧ Off [] W w') := Lib.hid fun W hW => by
                           have := ixSorted_any W A2 k2 m (ints o2) hml (hu2.off hW) (by omega)
                           rw [hz] at this
                           exact this
                         have S1 := Lib.hid (ixSorted_any w8 A1 k1 m (ints o1) (by rw [ints, List.length_map, ← HMM.out]) (HU1.out.off ho8) (by omega))
                         clear hp2 hr2 ho8 hfv2 hp21 hu2 hz hml)
                      | (go_at_call 12
                         refine (HX1.out _ HAL.out).mono ?_
                         rintro r w7 ⟨v1, o1, hp1, rfl, hr1, ho7⟩
                         obtain ⟨fv1, hfv1⟩ : ∃ fv : Int, fv = if o1 = [] then 1 else 0 := ⟨_, rfl⟩
                         rw [← hfv1]
                         have P7 := Lib.hid (HAL.out.then ho7 (fun x hx => by simp at hx))
                         have y0 := ho7.cell n0 (by simp)
                         have y1 := ho7.cell n1 (by simp)
                         have y2 := ho7.cell n2 (by simp)
                         have y3 := ho7.cell n3 (by simp)
                         have a3' := ho7.cell a3 (by simp)
                         have hne1 : o1 ≠ [] := fun h => founds_ne 1025 es ent HMEM.out (by rw [h] at hp1; exact hp1.symm.eq_nil)
                         obtain ⟨A1, k1, hv1, hu1⟩ := hr1.u64s hne1
                         have hm1 : o1.length ≤ n := by rw [hp1.length_eq, ← HL1.out]; exact founds_le _ _ _ _
                         obtain ⟨m, hm⟩ : ∃ m, m = o1.length := ⟨_, rfl⟩
                         rw [← hm] at hv1 hm1
                         subst hv1
                         have HMM := Lib.hid hm
                         have HP1 := Lib.hid hp1
                         have HNE1 := Lib.hid hne1
                         have HU1 := Lib.hid hu1
                         clear hp1 hr1 ho7 hfv1 n0 n1 n2 n3 a3 hne1 hu1 hm)
                      | (go_at_call 14
                         refine (S2.out _ O9.out).mono ?_
                         rintro r w10 ⟨A4, c4', rfl, hu4, ho10⟩
                         have P10 := Lib.hid (P8.out.then (O9.out.then ho10 (fun x hx => by simp at hx)) (fun x hx => by simp at hx))
                         have SM := Lib.hid (ixSame_any w10 A3 A4 c3' c4' m (srtI (ints o1)) (by rw [srtI_len, ints, List.length_map, ← HMM.out]) (U3.out.off ho10) hu4 (by omega))
                         clear hu4 ho10)
                      | (go_at_call 14
                         refine S1.out.mono ?_
                         rintro r w9 ⟨A3, c3', rfl, hu3, ho9⟩
                         have O9 := Lib.hid ho9
                         have U3 := Lib.hid hu3
                         clear hu3 ho9)
                      | (go_at_call 13
                         refine SM.out.mono ?_
                         rintro r w11 ⟨rfl, ho11⟩
                         have P11 := Lib.hid (P10.out.then ho11 (fun x hx => by simp at hx))
                         clear ho11))
                    go_roundg (n - (j + 1))
                    case measure => omega
                    case rel => exact ⟨j + 1, rfl, by omega, by omega, Lib.hid (HR.out.then P11.out (fun x hx => by simp at hx))⟩
                · obtain rfl : n = j := by omega
                  have hor : Off [] wA wr := HOC.out.then (HO6.out.then HR.out (fun x hx => by simp at hx)) (fun x hx => by simp at hx)
                  have hbr := HBA.out.off hor (by simp)
                  have r0 := hbr.cell 0
                  have r1 := hbr.cell 1
                  have r2 := hbr.cell 2
                  have r3 := hbr.cell 3
                  have r4 := hbr.cell 4
                  simp at r0 r1 r2 r3 r4
                  have hl2 : (rws (es ++ [e])).length = n + 1 := by rw [rws, List.length_map, HNL.out]
                  have HX3 : Hid (Calls Tryz.prog 12 #[.string b2, .agg #[.int .u64 (e.ver : Int), .int .u64 (e.codec : Int), .int .u64 (e.code : Int), .string e.dg], .int .i64 1000] wr fun r w' => ∃ v outs, outs.Perm (founds 1025 (rws (es ++ [e])) e.code e.dg.data.toList) ∧ r = .returned (.tuple #[v, .int .u8 (if outs = [] then 1 else 0)]) ∧ OutRow wr w' v outs ∧ Off [] wr w') := Lib.hid
                    (ixAll_enc 1025 (rws (es ++ [e])) _ HS2.out (by omega) (rws_small (es ++ [e]) (fun x hx => (HOKS.out x hx).1)) b2 (by rw [HB2'.out]) e (HOKS.out e (by simp)).1 1000 (by omega) a wr (hor.cell HEA.out (by simp)))
                  have HL2 := Lib.hid hl2
                  have HOR := Lib.hid hor
                  clear hl2 hbr hor hkx hlt
                  go_wp2_with (first
                    | (go_at_call 12
                       refine HX3.out.mono ?_
                       rintro r w7 ⟨v3, o3, hp3, rfl, hr3, ho7⟩
                       have hin3 : e.off ∈ o3 := hp3.mem_iff.2 (founds_in 1025 es e)
                       have hne3 : o3 ≠ [] := List.ne_nil_of_mem hin3
                       rw [if_neg hne3]
                       obtain ⟨A3, k3, hv3, hu3⟩ := hr3.u64s hne3
                       have hm3 : o3.length ≤ 100 := by rw [hp3.length_eq]; exact Nat.le_trans (founds_le _ _ _ _) (by rw [HL2.out]; omega)
                       obtain ⟨m, hm⟩ : ∃ m, m = o3.length := ⟨_, rfl⟩
                       rw [← hm] at hv3 hm3
                       subst hv3
                       obtain ⟨bb, oo, rfl, hbb, hcc⟩ := hu3
                       have t4 := ho7.cell r4 (by simp)
                       have HM3 := Lib.hid hm
                       have HIN := Lib.hid hin3
                       have HCC := Lib.hid hcc
                       have HP7 := Lib.hid (HOA.out.then (HOR.out.then ho7 (fun x hx => by simp at hx)) (fun x hx => by simp at hx))
                       clear hp3 hr3 ho7 hne3 hin3 hcc hm r0 r1 r2 r3 r4))
                  go_loopg [26, 174] m (fun kx s26 s174 wz => ∃ j : Nat, s174 = .int .i64 (j : Int) ∧ s26 = .bool (inB e (o3.take j)) ∧ j ≤ m ∧ m - j ≤ kx ∧ wz = w7)
                  case atStart => exact ⟨0, rfl, rfl, Nat.zero_le _, by omega, rfl⟩
                  case round =>
                    rename World => wz
                    obtain ⟨j, rfl, rfl, hjm, hkx, rfl⟩ := hrel
                    by_cases hlt : j < m
                    · have hj3 : j < o3.length := by have := HM3.out; omega
                      obtain ⟨x, hx⟩ : ∃ x, x = o3[j] := ⟨_, rfl⟩
                      have hcx : wz.cell? ⟨bb, oo + j, none⟩ = some (.int .u64 (x : Int)) := by
                        have := HCC.out j (by rw [ints, List.length_map]; exact hj3)
                        rw [this, hx]
                        simp [ints]
                      have HTK := Lib.hid (show o3.take (j + 1) = o3.take j ++ [x] by rw [List.take_succ_eq_append_getElem hj3, hx])
                      obtain ⟨Bq, hB⟩ : ∃ B, B = inB e (o3.take j) := ⟨_, rfl⟩
                      obtain ⟨Cq, hC⟩ : ∃ C, ((x : Int) == (e.off : Int)) = C := ⟨_, rfl⟩
                      rw [← hB]
                      have HBq := Lib.hid hB
                      have HCq := Lib.hid hC
                      clear hB hx
                      cases Bq <;> cases Cq
                      all_goals go_wp2_with fail
                      all_goals
                        go_roundg (m - (j + 1))
                        case measure => omega
                        case rel => exact ⟨j + 1, rfl, by rw [HTK.out]; exact in_step e _ x HBq.out HCq.out rfl, by omega, by omega, rfl⟩
                    · obtain rfl : m = j := by omega
                      have hin : inB e (o3.take m) = true := by
                        rw [List.take_of_length_le (by have := HM3.out; omega)]
                        exact List.any_eq_true.2 ⟨e.off, HIN.out, by simp⟩
                      rw [hin]
                      clear hin hkx hlt
                      go_wp2_with fail
                      go_ret
                      exact ⟨rfl, HP7.out⟩
end Go.Proofs.YtcgggcjmmphldaaGreatDoor
