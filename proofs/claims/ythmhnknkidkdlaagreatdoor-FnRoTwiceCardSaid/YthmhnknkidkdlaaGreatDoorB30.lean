/-
  MultihashIndexSorted.Load.
  MultihashIndexSorted.Load, told by what sort.Sort makes of the rows.
  (No condition beyond those that each theorem states.)
-/
import Derived.Test.YthmhnknkidkdlaaGreatDoorB29
import Derived.Test.YthmhnknkidkdlaaGreatDoorB24
namespace Go.Proofs.YthmhnknkidkdlaaGreatDoor
open Go.RowKit Go.Maps

theorem zeroRecs (w : World) : (zeroValue 130).run Tryz.prog w = .ok (.slice none 0 0) w := by kernel_rfl
theorem Tryz.infoRec : (Tryz.prog.info? 143).map (fun i => (i.zero, i.size, i.bytes)) = some (some (.agg #[.string ByteArray.empty, .int .u64 0]), 2, 24) := by kernel_rfl
theorem run_makeRec (W : World) : (Instr.makeSlice 130 (.int .i64 0) (.int .i64 0)).run Tryz.prog W = .ok (.slice (some ⟨W.heap.size, 0, none⟩) 0 0) (W.alloc (.cells #[] 143)) := by
  obtain ⟨i0, hi, hz0, hz1, hz2⟩ := info_parts Tryz.infoRec
  have hr := run_make (P := Tryz.prog) W 130 143 i0 _ Tryz.underlying130 hi hz0 .i64 .i64 0 0 (by omega) (by omega) (by rw [hz2]; omega) (by omega)
  have e : madeCells (Value.agg #[.string ByteArray.empty, .int .u64 0]).cells (0 * i0.size) = #[] := Array.eq_empty_of_size_eq_zero (by simp [size_madeCells])
  simp only [Int.toNat_zero] at hr
  rw [e] at hr
  exact hr
theorem rowsC_le {w wr : World} {mb : Nat} {its : List It} {K : List Nat} {V : Nat → Value} {G : Nat → Nat} {R : Nat → List It} (h : GathC w wr mb its K V G R) (n : Nat) (hn : n ∈ K) : (R n).length ≤ its.length := by
  rw [h.rows n hn]
  exact List.length_filter_le _ _
theorem oneR (s : ByteArray) (k : IntKind) (x : Int) : ∀ u ∈ [Value.string s, Value.int k x], u.oneCell' = true := by
  intro u hu
  simp at hu
  rcases hu with rfl | rfl <;> rfl

set_option maxRecDepth 100000 in
theorem newMwci_any (w : World) :
    Calls Tryz.prog 171 #[] w fun e w' => e = .returned (.pointer (some ⟨w.heap.size + 1, 0, none⟩)) ∧ w' = (w.alloc (.map #[] 0)).alloc (.cells #[.map (some w.heap.size), .int .u64 0] 304) := by
  have hmm := @run_makeMap Tryz.prog
  go_enter Tryz.func171, Tryz.ntmps171
  go_wp2_with fail
  go_ret
  exact ⟨by simp, rfl⟩

set_option maxRecDepth 100000 in
set_option maxHeartbeats 1000000 in
theorem put_any (pb po mm q c n : Nat) (K : List Nat) (V : Nat → Value) (w : World) (hp : w.cell? ⟨pb, po, none⟩ = some (.map (some mm))) (hq : w.cell? ⟨q, 1, none⟩ = some (.int .u64 (c : Int))) (hm : MpN Tryz.prog 30 .u64 w mm n K V) (hn : n ≤ 1000000) (hc : c < 18446744073709551616) (hpm : pb ≠ mm) (hqm : q ≠ mm) :
    Calls Tryz.prog 173 #[.pointer (some ⟨pb, po, none⟩), .pointer (some ⟨q, 0, none⟩)] w fun e w' =>
      e = .returned (.tuple #[]) ∧ MpN Tryz.prog 30 .u64 w' mm (n + 1) (if c ∈ K then K else K ++ [c]) (fun j => if j = c then .pointer (some ⟨q, 0, none⟩) else V j) ∧ Off [mm] w w' ∧ w'.heap.size = w.heap.size := by
  have hpl := World.block_lt_of_cell? w _ hp
  have hql := World.block_lt_of_cell? w _ hq
  have hmd := hm.off (Off.drew (Off.refl [] w)) (by simp)
  obtain ⟨w6, hrun6, hmp6, ho6, hs6⟩ := Mp.store hmd Tryz.underlying30 Tryz.underlying162 (by unfold maxLen; omega) (c : Int) (WalkArith.wf_u64 (by omega)) (.pointer (some ⟨q, 0, none⟩))
  have hp6 : w6.cell? ⟨pb, po, none⟩ = some (.map (some mm)) := by rw [World.cell?_of_block (a := ⟨pb, po, none⟩) (ho6.block pb hpl (by simp; exact hpm))]; exact hp
  have hq6 : w6.cell? ⟨q, 1, none⟩ = some (.int .u64 (c : Int)) := by rw [World.cell?_of_block (a := ⟨q, 1, none⟩) (ho6.block q hql (by simp; exact hqm))]; exact hq
  have hst := MpN.stored (m := c) (K := K) (V := V) hmp6
  obtain ⟨K', hK'⟩ : ∃ K', K' = if c ∈ K then K else K ++ [c] := ⟨_, rfl⟩
  obtain ⟨V', hV'⟩ : ∃ V' : Nat → Value, V' = fun j => if j = c then .pointer (some ⟨q, 0, none⟩) else V j := ⟨_, rfl⟩
  rw [← hK', ← hV'] at hst ⊢
  have HMP6 := Lib.hid hst
  have HO6 := Lib.hid ho6
  have HS6 := Lib.hid hs6
  clear hmp6 ho6 hm hmd hs6 hst hK' hV'
  go_enter Tryz.func173, Tryz.ntmps173
  go_wp2_with fail
  go_region_held3 (fun w' => w'.cell? ⟨pb, po, none⟩ = some (.map (some mm)) ∧ w'.cell? ⟨q, 1, none⟩ = some (.int .u64 (c : Int)))
    (first | (exact ⟨hp, hq⟩) | (exact ⟨hp6, hq6⟩)) (fail)
  all_goals go_wp2_with fail
  all_goals go_end0
  all_goals exact ⟨rfl, HMP6.out, (Off.refl [mm] w).next HO6.out ⟨rfl, rfl, rfl, rfl⟩ (fun x hx => Or.inl hx), by rw [HS6.out]; rfl⟩

def GathC1 (w wr : World) (mb : Nat) (its : List It) : Prop := ∃ K V G R, GathC w wr mb its K V G R

end Go.Proofs.YthmhnknkidkdlaaGreatDoor
namespace Go.Proofs.YthmhnknkidkdlaaGreatDoor
open Go.RowKit Go.Maps

set_option maxRecDepth 100000 in
set_option maxHeartbeats 1000000 in
theorem misLoad_F (A : Option Addr) (ib io pb po mm c : Nat) (its : List It) (w : World) (hits : ∀ it, it ∈ its → it.ok) (hn : its.length ≤ 1000) (hat : ItemsAt w A ib io its) (hp : w.cell? ⟨pb, po, none⟩ = some (.map (some mm))) (hpm : pb ≠ mm) (hm : Mp Tryz.prog 30 .u64 w mm 0 [] (fun _ => undef)) :
    Calls Tryz.prog 167 #[.pointer (some ⟨pb, po, none⟩), .slice A its.length c] w fun e w' => e = .returned .nilIface ∧ Off [mm] w w' ∧ ∃ Cs D S, MisAt w.heap.size w' mm Cs D S ∧ (∀ c, c ∈ Cs ↔ ∃ it, it ∈ its ∧ it.code = c) ∧
      ∀ c, c ∈ Cs → (∀ n, n ∈ D c ↔ ∃ it, it ∈ its.filter (fun it => it.code == c) ∧ it.d.length = n) ∧ ∀ n, n ∈ D c → S c n = srtL (((its.filter fun it => it.code == c).filter fun it => it.d.length == n).map It.rw) := by
  have hmm := @run_makeMap Tryz.prog
  obtain ⟨i0, hi, hz0, hz1, hz2⟩ := info_parts Tryz.infoRec
  have hmk := run_makeRec
  obtain ⟨n, hnl⟩ : ∃ n, n = its.length := ⟨_, rfl⟩
  have HNL := Lib.hid hnl
  have hG0 : GathC1 w (w.alloc (.map #[] 0)) w.heap.size [] := ⟨[], fun _ => undef, fun _ => 0, fun _ => [], Off.alloc (Off.refl [] w) _, rfl, Mp.made w _ _ _ _, fun n => by simp, fun n h => by simp at h, fun m h => by simp at h, fun n h => by simp at h⟩
  have HG0 := Lib.hid hG0
  have HAT := Lib.hid hat
  have HITS := Lib.hid hits
  have HP := Lib.hid hp
  have HM := Lib.hid hm
  rw [← hnl]
  rw [← hnl] at hn
  clear hG0 hat hits hp hm hnl
  go_enter Tryz.func167, Tryz.ntmps167
  go_wp2_with fail
  go_loopw [20] (fun vi wr => ∃ i : Nat, vi = .int .i64 i ∧ i ≤ n ∧ Hid (GathC1 w wr w.heap.size (its.take i))) (fun vi _ => n - (intOf vi).toNat)
  case atStart => exact ⟨0, by go_num, by omega, HG0⟩
  case round =>
    clear HG0
    obtain ⟨i, rfl, hin, HG⟩ := hrel
    by_cases hlt : i < n
    · have hltz : (i : Int) < (n : Int) := by omega
      have hi0 : (0 : Int) ≤ (i : Int) := by omega
      have hlt' : i < its.length := by rw [← HNL.out]; exact hlt
      obtain ⟨it, hit⟩ : ∃ it, it = its[i] := ⟨_, rfl⟩
      obtain ⟨K, V, G, R, hg⟩ := HG.out
      have hok : it.ok := HITS.out it (by rw [hit]; exact List.getElem_mem _)
      have hatr := HAT.out.off hg.off (fun _ => by simp)
      obtain ⟨hA, hib⟩ := hatr.at_ (by omega)
      obtain ⟨c0, c1⟩ := hatr.cells i hlt'
      rw [← hit] at c0 c1
      subst hA
      have hgmb := hg.mp.lt
      have hwf : (Lit.int .u64 (it.code : Int)).wf = true := WalkArith.wf_u64 (by have := hok.cid.1; omega)
      have htk : its.take (i + 1) = its.take i ++ [it] := by rw [hit, List.take_succ_eq_append_getElem hlt']
      have htl : (its.take i).length = i := by rw [List.length_take]; omega
      have HTK := Lib.hid htk
      have HH : Hid (∀ W, _) := fun W => hash_any it.s it.code it.d W hok.cid
      have HD : Hid (∀ (W : World) (g o c' : Nat), (mhB it.code it.d).length ≤ c' → Seg W g o (mhB it.code it.d) → g < W.heap.size → _) := fun W g o c' h1 h2 h3 => decodeP_ok it.code g o (mhB it.code it.d).length c' it.d W hok.cid.1 hok.cid.2.1 rfl h1 h2 h3
      have HGA := Lib.hid hg
      have HOK := Lib.hid hok
      have HIT := Lib.hid hit
      have HTL := Lib.hid htl
      have hsz : w.heap.size < wr.heap.size := hgmb
      clear hok hatr hit htk htl
      by_cases hK : it.code ∈ K
      · obtain ⟨cap, sp, e1, e2, e3, e4, hb, e6⟩ := hg.row _ hK
        have hRl : (R it.code).length ≤ 1000 := by have := rowsC_le hg _ hK; rw [HTL.out] at this; omega
        have HB := Lib.hid hb
        have HE4 := Lib.hid e4
        have HE1 := Lib.hid e1
        clear hg hb e4 e1
        go_wp2_with (first
          | (go_at_call 170; refine (HH.out _).mono ?_; rintro e w2 ⟨g2, o2, cc2, rfl, h1, h2, h3, h4, h5⟩
             have hx2 : w2.cell? ⟨wr.heap.size, 1, none⟩ = some (.int .u64 (it.off : Int)) := by rw [h5.cell (p := ⟨wr.heap.size, 1, none⟩) (by simp)]; simp
             have hy2 : w2.cell? ⟨wr.heap.size, 0, none⟩ = some (.string it.s) := by rw [h5.cell (p := ⟨wr.heap.size, 0, none⟩) (by simp)]; simp
             have ho2 : Off [] wr w2 := Off.then (by repeat' (first | exact Off.refl [] _ | refine Off.alloc ?_ _ | refine Off.drew ?_)) (Off.ofBelow (S := []) h5) (fun x hx => by simp at hx)
             have hg2 : wr.heap.size ≤ g2 := by simp at h1; omega
             have HS2 := Lib.hid h4; have HO2 := Lib.hid ho2; have HC2 := Lib.hid h3; clear h1 h3 h4 h5 ho2)
          | (go_at_call 87; refine (HD.out _ _ _ _ HC2.out HS2.out h2).mono ?_; rintro e w3 ⟨A3, C3, g3, rfl, k1, k2, k3, k4⟩
             have hx3 : w3.cell? ⟨wr.heap.size, 1, none⟩ = some (.int .u64 (it.off : Int)) := by rw [k4.cell (p := ⟨wr.heap.size, 1, none⟩) (by have := HO2.out.size; have := World.block_lt_of_cell? _ _ hx2; simpa using this)]; exact hx2
             have hy3 : w3.cell? ⟨wr.heap.size, 0, none⟩ = some (.string it.s) := by rw [k4.cell (p := ⟨wr.heap.size, 0, none⟩) (by have := HO2.out.size; have := World.block_lt_of_cell? _ _ hx2; simpa using this)]; exact hy2
             have hd3 : w3.cell? ⟨g3, 0, none⟩ = some (.int .u64 (it.code : Int)) := k2.cell 0
             have hw3 : w2.heap.size ≤ w3.heap.size := k4.size
             have HO3 := Lib.hid (HO2.out.then (Off.ofBelow (S := []) k4) (fun x hx => by simp at hx)); have HS3 := Lib.hid (mhB_dig (HS2.out.below k4 h2)); have HDG := Lib.hid k3; clear k1 k2 k3 k4 hx2 hy2
             have hM3 : MpN Tryz.prog 30 .u64 w3 w.heap.size (2 * (its.take i).length) K V := Mp.off HGA.out.mp HO3.out (by simp)
             have hl3 := (Mp.look hM3 Tryz.underlying30 Tryz.underlying298 (zeroRecs w3) (it.code : Int) hwf).1
             rw [if_pos (mem_mapN.2 hK), decide_eq_true (mem_mapN.2 hK)] at hl3
             simp only [Int.toNat_natCast] at hl3
             rw [HE1.out] at hl3
             have HM3 := Lib.hid hM3; have HB3 := Lib.hid (HB.out.off HO3.out (by simp))
             clear hM3)
          | (at_builtin; refine wpList_append_blk rfl _ _ 130 rfl 143 i0 _ 2 24 Tryz.underlying130 hi hz0 hz1 hz2 rfl (by decide) (.slice (some ⟨G it.code, 0, none⟩) (R it.code).length cap) (R it.code).length (flatI (R it.code)) (flatI_length _) rfl
               (owns_blk (HB3.out.alloc _) (flatI_length _) HE4.out e2 e3) ⟨w3.heap.size, 0, none⟩ 1 [.string it.s, .int .u64 (it.off : Int)] rfl rfl (news_alloc _ _ _) (oneR _ _ _) (by unfold maxLen; omega) (by omega) ?_
             intro g' cap' sp' w5 hb5 q1 q2 q3 hg5 ho5 hown5
             have HM5 : Hid (MpN Tryz.prog 30 .u64 w5 w.heap.size (2 * (its.take i).length) K V) := Mp.off (Mp.off HM3.out (Off.alloc (Off.refl [] w3) _) (by simp)) (ho5.out [G it.code] (fun g hg => by simp [Value.ownBlock] at hg; simp [hg])) (by simp; omega)
             have HQ3 := Lib.hid q3; have HG5 := Lib.hid hg5; clear q3 hg5 hown5)
          | (at_mapUpdate; refine wpList_mapUpdate_mp rfl _ _ _ 298 rfl Tryz.underlying30 Tryz.underlying298 HM5.out rfl (by rw [HTL.out]; unfold maxLen; omega) (it.code : Int) rfl hwf (.slice (some ⟨g', 0, none⟩) ((R it.code).length + 1) cap') rfl ?_
             intro w6 hm6 ho6 hs6))
        go_roundw
        case measure => simp [intOf]; omega
        case rel =>
          refine ⟨i + 1, by go_num, by omega, ?_⟩
          show GathC1 _ _ _ _
          rw [HTK.out]
          have hO36 : Off [w.heap.size, G it.code] w3 w6 := ((Off.alloc (Off.refl [w.heap.size, G it.code] w3) _).then (ho5.out [G it.code] (fun g hg => by simp [Value.ownBlock] at hg; simp [hg])) (fun x hx => by simp at hx; simp [hx])).then ho6.out (fun x hx => by simp at hx; simp [hx])
          have hO : Off [w.heap.size, G it.code] wr w6 := (HO3.out.mono (fun x hx => by simp at hx)).then hO36 (fun x hx => Or.inl hx)
          have hGlt := HB.out.lt
          have hst := HGA.out.step (w6 := w6) it g' cap' sp'
          rw [if_pos hK, if_pos hK, if_pos hK] at hst
          have h36 : w3.heap.size ≤ w6.heap.size := hO36.size
          refine ⟨_, _, _, _, hst hO ?_ ?_ (by simp; omega) q2 (by simp; have := HQ3.out; omega) ?_ hsz⟩
          · have := MpN.stored hm6.out
            rw [if_pos hK] at this
            refine MpN.mono ?_ (show 2 * (its.take i).length + 1 ≤ _ by simp; omega)
            simpa using this
          · have := hb5.out.off ho6.out (by rcases HG5.out with h | h; simp [Value.ownBlock] at h; simp; omega; simp at h; simp; omega)
            rw [flatI_append]
            exact this
          · rcases HG5.out with h | h
            · simp [Value.ownBlock] at h
              exact Or.inl ⟨hK, h.symm⟩
            · simp at h
              have := HO3.out.size
              exact Or.inr (by omega)
      · clear hg
        have tok1 : True := trivial
        go_wp2_with (first
          | (go_at_call 170; refine (HH.out _).mono ?_; rintro e w2 ⟨g2, o2, cc2, rfl, h1, h2, h3, h4, h5⟩
             have hx2 : w2.cell? ⟨wr.heap.size, 1, none⟩ = some (.int .u64 (it.off : Int)) := by rw [h5.cell (p := ⟨wr.heap.size, 1, none⟩) (by simp)]; simp
             have hy2 : w2.cell? ⟨wr.heap.size, 0, none⟩ = some (.string it.s) := by rw [h5.cell (p := ⟨wr.heap.size, 0, none⟩) (by simp)]; simp
             have ho2 : Off [] wr w2 := Off.then (by repeat' (first | exact Off.refl [] _ | refine Off.alloc ?_ _ | refine Off.drew ?_)) (Off.ofBelow (S := []) h5) (fun x hx => by simp at hx)
             have hg2 : wr.heap.size ≤ g2 := by simp at h1; omega
             have HS2 := Lib.hid h4; have HO2 := Lib.hid ho2; have HC2 := Lib.hid h3; clear h1 h3 h4 h5 ho2)
          | (go_at_call 87; refine (HD.out _ _ _ _ HC2.out HS2.out h2).mono ?_; rintro e w3 ⟨A3, C3, g3, rfl, k1, k2, k3, k4⟩
             have hx3 : w3.cell? ⟨wr.heap.size, 1, none⟩ = some (.int .u64 (it.off : Int)) := by rw [k4.cell (p := ⟨wr.heap.size, 1, none⟩) (by have := HO2.out.size; have := World.block_lt_of_cell? _ _ hx2; simpa using this)]; exact hx2
             have hy3 : w3.cell? ⟨wr.heap.size, 0, none⟩ = some (.string it.s) := by rw [k4.cell (p := ⟨wr.heap.size, 0, none⟩) (by have := HO2.out.size; have := World.block_lt_of_cell? _ _ hx2; simpa using this)]; exact hy2
             have hd3 : w3.cell? ⟨g3, 0, none⟩ = some (.int .u64 (it.code : Int)) := k2.cell 0
             have hw3 : w2.heap.size ≤ w3.heap.size := k4.size
             have HO3 := Lib.hid (HO2.out.then (Off.ofBelow (S := []) k4) (fun x hx => by simp at hx)); have HS3 := Lib.hid (mhB_dig (HS2.out.below k4 h2)); have HDG := Lib.hid k3; clear k1 k2 k3 k4 hx2 hy2
             have hM3 : MpN Tryz.prog 30 .u64 w3 w.heap.size (2 * (its.take i).length) K V := Mp.off HGA.out.mp HO3.out (by simp)
             have hl3 := (Mp.look hM3 Tryz.underlying30 Tryz.underlying298 (zeroRecs w3) (it.code : Int) hwf).1
             rw [if_neg (fun e => hK (mem_mapN.1 e)), decide_eq_false (fun e => hK (mem_mapN.1 e))] at hl3
             have HM3 := Lib.hid hM3
             clear hM3)
          | (at_mapUpdate; have _t := tok1; refine wpList_mapUpdate_mp rfl _ _ _ 298 rfl Tryz.underlying30 Tryz.underlying298 (Mp.off HM3.out (Off.alloc (Off.refl [] w3) _) (by simp)) rfl (by rw [HTL.out]; unfold maxLen; omega) (it.code : Int) rfl hwf (.slice (some ⟨w3.heap.size, 0, none⟩) 0 0) rfl ?_
             intro w4 hm4 ho4 hs4
             have hM4 := MpN.stored hm4.out
             rw [if_neg hK] at hM4
             have hO34 : Off [w.heap.size] w3 w4 := (Off.alloc (Off.refl [w.heap.size] w3) _).then ho4.out (fun x hx => Or.inl hx)
             have hr4 : w3.heap.size < w4.heap.size := by rw [hs4]; simp
             have hx4 : w4.cell? ⟨wr.heap.size, 1, none⟩ = some (.int .u64 (it.off : Int)) := by
               rw [World.cell?_of_block (a := ⟨wr.heap.size, 1, none⟩) (hO34.block wr.heap.size (World.block_lt_of_cell? _ _ hx3) (by simp; omega))]; exact hx3
             have hy4 : w4.cell? ⟨wr.heap.size, 0, none⟩ = some (.string it.s) := by
               rw [World.cell?_of_block (a := ⟨wr.heap.size, 0, none⟩) (hO34.block wr.heap.size (World.block_lt_of_cell? _ _ hy3) (by simp; omega))]; exact hy3
             have HB4 : Hid (Blk w4 w3.heap.size 143 (flatI [] ++ []).toArray) := (Blk.new' w3 143 #[] rfl).off ho4.out (by simp; have := HO3.out.size; omega)
             have HM4 := Lib.hid hM4; have HO34 := Lib.hid hO34; clear hm4 ho4 hM4 hO34 hx3 hy3 tok1 hs4)
          | (at_builtin; refine wpList_append_blk rfl _ _ 130 rfl 143 i0 _ 2 24 Tryz.underlying130 hi hz0 hz1 hz2 rfl (by decide) (.slice (some ⟨w3.heap.size, 0, none⟩) 0 0) 0 (flatI []) rfl rfl
               (owns_blk (HB4.out.alloc _) rfl rfl (Nat.le_refl _) (Nat.zero_le _)) ⟨w4.heap.size, 0, none⟩ 1 [.string it.s, .int .u64 (it.off : Int)] rfl rfl (news_alloc _ _ _) (oneR _ _ _) (by unfold maxLen; omega) (by omega) ?_
             intro g' cap' sp' w5 hb5 q1 q2 q3 hg5 ho5 hown5
             have hO45 : Off [w3.heap.size] w4 w5 := (Off.alloc (Off.refl [w3.heap.size] w4) _).then (ho5.out [w3.heap.size] (fun g hg => by simp [Value.ownBlock] at hg; simp [hg])) (fun x hx => Or.inl hx)
             have HM5 := Lib.hid (MpN.off HM4.out hO45 (by simp; have := HO3.out.size; omega))
             have HO45 := Lib.hid hO45; have HQ3 := Lib.hid q3; have HG5 := Lib.hid hg5; clear q3 hg5 hown5 hO45)
          | (at_mapUpdate; refine wpList_mapUpdate_mp rfl _ _ _ 298 rfl Tryz.underlying30 Tryz.underlying298 HM5.out rfl (by rw [HTL.out]; unfold maxLen; omega) (it.code : Int) rfl hwf (.slice (some ⟨g', 0, none⟩) (0 + 1) cap') rfl ?_
             intro w6 hm6 ho6 hs6))
        go_roundw
        case measure => simp [intOf]; omega
        case rel =>
          refine ⟨i + 1, by go_num, by omega, ?_⟩
          show GathC1 _ _ _ _
          rw [HTK.out]
          have hs3 := HO3.out.size
          have hO : Off [w.heap.size] wr w6 := (((HO3.out.mono (S' := [w.heap.size]) (fun x hx => by simp at hx)).then HO34.out (fun x hx => Or.inl hx)).then HO45.out (fun x hx => by simp at hx; right; omega)).then ho6.out (fun x hx => Or.inl hx)
          have hst := HGA.out.step (w6 := w6) it g' cap' sp'
          rw [if_neg hK, if_neg hK, if_neg hK] at hst
          have h35 : w4.heap.size ≤ w5.heap.size := HO45.out.size
          have hgg : wr.heap.size ≤ g' := by
            rcases HG5.out with h | h
            · simp [Value.ownBlock] at h; omega
            · simp at h; omega
          refine ⟨_, _, _, _, hst hO ?_ ?_ (by simpa using q1) q2 (by simp; have := HQ3.out; omega) (Or.inr hgg) hsz⟩
          · have := MpN.stored (K := K ++ [it.code]) (m := it.code) (V := fun j => if j = it.code then .slice (some ⟨w3.heap.size, 0, none⟩) 0 0 else V j) hm6.out
            rw [if_pos (show it.code ∈ K ++ [it.code] by simp)] at this
            refine MpN.congr (V := fun j => if j = it.code then .slice (some ⟨g', 0, none⟩) (0 + 1) cap' else if j = it.code then .slice (some ⟨w3.heap.size, 0, none⟩) 0 0 else V j) ?_ ?_
            · exact MpN.mono this (by simp; omega)
            · intro j _
              by_cases hj : j = it.code
              · simp [hj]
              · simp [hj]
          · have := hb5.out.off ho6.out (by simp; omega)
            simpa [flatI, It.cells] using this
    · have hltz : ¬ (i : Int) < (n : Int) := by omega
      have hall : its.take i = its := List.take_of_length_le (by rw [← HNL.out]; omega)
      have HG1 : Hid (GathC1 w wr w.heap.size its) := by rw [← hall]; exact HG
      obtain ⟨K, V, G, R, hg⟩ := HG1.out
      have hmb := hg.mp
      have HMB := Lib.hid hmb
      have HGA := Lib.hid hg
      have hwr : w.heap.size < wr.heap.size := hmb.lt
      have hmmlt := HM.out.lt
      clear hg hmb hall HG HG1
      go_wp2_with (at_range; refine wpList_range_mp rfl _ 298 rfl Tryz.underlying30 Tryz.underlying298 HMB.out rfl ?_; intro w1 hr1 ho1 hs1)
      (try go_frame)
      go_loopg [13] K.length (fun kx s13 wq => Hid (∃ L Cs D S, L.length ≤ kx ∧ PackC w wq w.heap.size mm wr.heap.size its.length K V G R L Cs D S ∧ ∀ c, c ∈ Cs → ∀ n, n ∈ D c → S c n = srtL (((R c).filter fun it => it.d.length == n).map It.rw)))
      case atStart =>
        have hg := HGA.out
        refine ⟨ints K, [], fun _ => [], fun _ _ => [], by simp [ints], ?_, fun j hj => by simp at hj⟩
        refine ⟨(hg.off.mono (S' := [mm]) (fun x hx => by simp at hx)).then ho1.out (fun x hx => by simp at hx), hr1.out, ⟨fun _ => undef, fun _ => 0, fun _ => 0, (HM.out.off hg.off (by simp)).off ho1.out (by simp), fun n hn => by simp at hn⟩, fun j => ?_, fun j hj => by simp at hj, fun j hj _ => ?_, fun j hj => ?_, rfl, hmmlt, hwr, by rw [hs1]; omega⟩
        · constructor
          · intro hx; simp at hx
          · rintro ⟨h1, h2⟩; exact absurd (mem_mapN.2 h1) h2
        · obtain ⟨cap, sp, e1, e2, e3, e4, hb, e6⟩ := hg.row j hj
          exact ⟨cap, sp, e1, hb.off ho1.out (by simp)⟩
        · obtain ⟨cap, sp, e1, e2, e3, e4, hb, e6⟩ := hg.row j hj
          exact ⟨e6, hb.lt⟩
      case round =>
        rename World => wq
        obtain ⟨L, Cs, D, S, hlen, hpk, hsl⟩ := hrel.out
        have HSL := Lib.hid hsl
        have HPK := Lib.hid hpk
        have hrg := hpk.rg
        have hwq := hpk.hrb
        have hmbk := hpk.rg.map.lt
        clear hrel hpk hsl
        go_wp2_with (at_next; refine wpList_next_mp rfl _ rfl Tryz.underlying30 rfl hrg ?_ ?_)
        · intro hL
          subst hL
          go_wp2_with fail
          go_ret
          have hpk := HPK.out
          have hmi := hpk.mis
          refine ⟨rfl, hpk.off, Cs, D, S, ?_, fun n => ?_, fun n hn => ?_⟩
          · obtain ⟨V2, q2, m2, h1, h2⟩ := hmi.ex
            exact ⟨V2, q2, m2, h1, fun c hc => by obtain ⟨a1, a2, a3, a4, a5⟩ := h2 c hc; exact ⟨a1, a2, a3.mono (by omega), by omega, by omega⟩⟩
          · rw [hpk.dmem, ← HGA.out.mem]; simp
          · have hk := ((hpk.dmem n).1 hn).1
            have h1 := hpk.res n hn
            have h2 := HSL.out n hn
            rw [HGA.out.rows n hk] at h1 h2
            exact ⟨h1.1, h2⟩
        · intro x w2 hxL hwx hrg2 ho2 hs2 hen
          obtain ⟨j, hjK, rfl⟩ := List.mem_map.1 (hrg.sub x hxL)
          obtain ⟨cap, sp, e1, hb⟩ := HPK.out.row j hjK hxL
          obtain ⟨gb1, gb2⟩ := HPK.out.gb j hjK
          simp only [Int.toNat_natCast] at hen
          rw [e1] at hen
          have hRl : (R j).length ≤ 1000 := by have := rowsC_le HGA.out j hjK; rw [← HNL.out] at this; omega
          have hRits : ∀ it, it ∈ R j → it.ok := fun it hit => by rw [HGA.out.rows j hjK] at hit; exact HITS.out it (List.mem_filter.1 hit).1
          have hj64 : j < 18446744073709551616 := by
            obtain ⟨it, hit, he⟩ := (HGA.out.mem j).1 hjK
            have := (HITS.out it hit).cid.1
            omega
          have hb2 := hb.off ho2 (by simp; omega)
          -- the new index, its code, its map
          have hN := newMwci_any w2
          have hQ1 : ((w2.alloc (.map #[] 0)).alloc (.cells #[.map (some w2.heap.size), .int .u64 0] 304)).heap.size = w2.heap.size + 2 := by simp
          have hQB : Blk ((w2.alloc (.map #[] 0)).alloc (.cells #[.map (some w2.heap.size), .int .u64 0] 304)) (w2.heap.size + 1) 304 #[.map (some w2.heap.size), .int .u64 0] := Blk.new' _ _ _ (by simp)
          have hQM : Mp Tryz.prog 262 .u32 ((w2.alloc (.map #[] 0)).alloc (.cells #[.map (some w2.heap.size), .int .u64 0] 304)) w2.heap.size 0 [] (fun _ => undef) := (Mp.made w2 _ _ _ _).off (Off.alloc (Off.refl [] _) _) (by simp)
          have hQO : Off [] w2 ((w2.alloc (.map #[] 0)).alloc (.cells #[.map (some w2.heap.size), .int .u64 0] 304)) := Off.alloc (Off.alloc (Off.refl [] w2) _) _
          obtain ⟨w3, hw3⟩ : ∃ w3, w3 = ((w2.alloc (.map #[] 0)).alloc (.cells #[.map (some w2.heap.size), .int .u64 0] 304)) := ⟨_, rfl⟩
          rw [← hw3] at hN hQ1 hQB hQM hQO
          clear hw3
          have hc1 : w3.cell? ⟨w2.heap.size + 1, 1, none⟩ = some (.int .u64 0) := hQB.cell 1
          have hf1 : w3.frozen? ⟨w2.heap.size + 1, 1, none⟩ = false := hQB.frozen 1
          have hQB4 : Blk (w3.setCell ⟨w2.heap.size + 1, 1, none⟩ (.int .u64 (j : Int))) (w2.heap.size + 1) 304 #[.map (some w2.heap.size), .int .u64 (j : Int)] := hQB.set_ 1 _
          have hO4 : Off [w2.heap.size + 1] w3 (w3.setCell ⟨w2.heap.size + 1, 1, none⟩ (.int .u64 (j : Int))) := (Off.refl _ w3).setCell (p := ⟨w2.heap.size + 1, 1, none⟩) (Or.inl (List.mem_singleton.2 rfl)) _
          obtain ⟨w4, hw4⟩ : ∃ w4, w4 = w3.setCell ⟨w2.heap.size + 1, 1, none⟩ (.int .u64 (j : Int)) := ⟨_, rfl⟩
          rw [← hw4] at hQB4 hO4
          have hO24 : Off [] w2 w4 := hQO.then hO4 (fun x hx => by simp at hx; right; omega)
          have hs4 : w4.heap.size = w2.heap.size + 2 := by rw [hw4]; simpa [World.setCell] using hQ1
          have hGw2 := hb2.lt
          have hL := mwLoad_F (some ⟨G j, 0, none⟩) (G j) 0 (w2.heap.size + 1) 0 w2.heap.size cap (R j) w4 hRits hRl (itemsAt_blk (hb2.off hO24 (by simp))) (hQB4.cell 0) (by omega) (hQM.off hO4 (by simp))
          rw [hw4] at hL
          have HE1 := Lib.hid e1
          have HRG2 := Lib.hid hrg2
          have HO2 := Lib.hid ho2
          have HS2 := Lib.hid hs2
          have HRG := Lib.hid hrg
          have HO24 := Lib.hid hO24
          have HS4 := Lib.hid hs4
          have HQB4 := Lib.hid hQB4
          have HW4 := Lib.hid hw4
          clear e1 hrg2 ho2 hs2 hrg hb hb2 hQ1 hQB hQM hQO hQB4 hO4 hO24 hs4 hw4
          go_wp2_with (first
            | (go_at_call 171; refine hN.mono ?_; rintro e w3' ⟨rfl, rfl⟩)
            | (go_at_call 172; refine hL.mono ?_; rintro e w5 ⟨rfl, ho5, D', S', hmw5, hmem5, hS5⟩
               rw [← HW4.out] at ho5 hmw5
               have HO5 := Lib.hid ho5; have HMW5 := Lib.hid hmw5; have HMEM5 := Lib.hid hmem5; have HS5 := Lib.hid hS5; clear ho5 hmw5 hmem5 hS5))
          obtain ⟨V2, q2, m2, hmp2, hrow2⟩ := HPK.out.mis.ex
          have hpmlt : pb < w.heap.size := World.block_lt_of_cell? w _ HP.out
          have hs4 := HS4.out
          have hsq := HS2.out
          have hwq1 := HPK.out.off.size
          have hO25 : Off [w2.heap.size] w2 w5 := (HO24.out.mono (S' := [w2.heap.size]) (fun x hx => by simp at hx)).then HO5.out (fun x hx => Or.inl hx)
          have hO05 : Off [mm, wr.heap.size, w2.heap.size] w w5 := ((HPK.out.off.mono (S' := [mm, wr.heap.size, w2.heap.size]) (fun x hx => by simp at hx; simp [hx])).then HO2.out (fun x hx => by simp at hx; simp [hx])).then hO25 (fun x hx => by simp at hx; simp [hx])
          have hp5 : w5.cell? ⟨pb, po, none⟩ = some (.map (some mm)) := by
            rw [World.cell?_of_block (a := ⟨pb, po, none⟩) (hO05.block pb hpmlt (by simp; omega))]; exact HP.out
          have hqb5 := HQB4.out.off HO5.out (by simp)
          have hmp5 := (hmp2.off HO2.out (by simp; omega)).off hO25 (by simp; omega)
          have hDlen : Cs.length ≤ 1000000 := by
            have h1 : Cs.Nodup := HPK.out.mis.nodup
            have h3 : Cs.length ≤ K.length := nodup_len Cs K h1 (fun x hx => ((HPK.out.dmem x).1 hx).1)
            have h4 := HGA.out.mp.le
            simp [ints] at h4
            rw [← HNL.out] at h4
            omega
          have hput := put_any pb po mm (w2.heap.size + 1) j Cs.length Cs V2 w5 hp5 (hqb5.cell 1) hmp5 hDlen hj64 hpm (by omega)
          have HQB5 := Lib.hid hqb5
          have HO25 := Lib.hid hO25
          have HROW := Lib.hid hrow2
          clear hqb5 hmp5 hmp2 hO05 hrow2 hDlen hs4 hsq hwq1 hO25
          go_wp2_with (go_at_call 173; refine hput.mono ?_; rintro e w6 ⟨rfl, hmp6, ho6, hs6⟩)
          have hLpos := List.length_pos_of_mem hxL
          go_roundg (L.length - 1)
          case measure => omega
          case rel =>
            have hs4 := HS4.out
            have hsq := HS2.out
            have h25 := HO25.out.size
            have hoff : Off [wr.heap.size, mm] wq w6 := ((HO2.out.mono (S' := [wr.heap.size, mm]) (fun x hx => by simp at hx; simp [hx])).then HO25.out (fun x hx => by simp at hx; right; omega)).then ho6 (fun x hx => by simp at hx; simp [hx])
            have hrg6 : Rg Tryz.prog 30 .u64 w6 w.heap.size wr.heap.size (2 * its.length) (ints K) (fun x => V x.toNat) (L.erase (j : Int)) :=
              (HRG2.out.off HO25.out (by simp; omega) (by simp; omega)).off ho6 (by simp; omega) (by simp; omega)
            have hmw6 : MwAt (wr.heap.size + 1) w6 w2.heap.size D' S' := (HMW5.out.mono (by omega)).off ho6 (by simp; omega) (fun x hx => by simp at hx; left; omega)
            refine ⟨L.erase (j : Int), Cs ++ [j], fun k => if k = j then D' else D k, fun k => if k = j then S' else S k, by rw [List.length_erase_of_mem hxL]; exact Nat.le_refl _,
              HPK.out.step j hjK hxL hoff hrg6 V2 q2 m2 (w2.heap.size + 1) w2.heap.size D' S' HROW.out hmp6 (by omega) (by omega) (HQB5.out.off ho6 (by simp; omega)) hmw6 ⟨HMEM5.out, fun n hn => by rw [HS5.out n hn]; exact ⟨srtL_perm _, srtL_srtd _⟩⟩, fun x hx => ?_⟩
            by_cases he : x = j
            · subst he; simp only [if_true]; exact HS5.out
            · simp only [if_neg he]
              rcases List.mem_append.1 hx with h1 | h1
              · exact HSL.out x h1
              · simp at h1; exact absurd h1 he
end Go.Proofs.YthmhnknkidkdlaaGreatDoor
