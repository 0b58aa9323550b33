/-
  multiWidthIndex.Load: the first loop: a round of it.
  sort.Sort of a row of digests, as a function of the row: what comes out depends on the digests and offsets that went in, and on nothing else.
  multiWidthIndex.Load, told by what sort.Sort makes of the rows.
  (No condition beyond those that each theorem states.)
-/
import Derived.Test.YthmhnknkidkdlaaGreatDoorB16
import Derived.Test.YthmhnknkidkdlaaGreatDoorB20
import Derived.Test.YthmhnknkidkdlaaGreatDoorB23
import Derived.Deep.RegionHeldLaw
import Derived.Deep.LoopGhost
import Derived.LoopTactic
import Derived.Test.YthmhnknkidkdlaaGreatDoorB15
import Derived.Test.YthmhnknkidkdlaaGreatDoorB14
namespace Go.Proofs.YthmhnknkidkdlaaGreatDoor
open Go.RowKit Go.Maps

theorem zeroDRs (w : World) : (zeroValue 310).run Tryz.prog w = .ok (.slice none 0 0) w := by kernel_rfl
theorem Tryz.infoDR : (Tryz.prog.info? 313).map (fun i => (i.zero, i.size, i.bytes)) = some (some (.agg #[.slice none 0 0, .int .u64 0]), 2, 32) := by kernel_rfl
theorem news_alloc (w : World) (xs : List Value) (t : TypeId) : ∀ j u, xs[j]? = some u → (w.alloc (.cells xs.toArray t)).cell? ((⟨w.heap.size, 0, none⟩ : Addr).add j) = some u := fun j u h => by
  rw [add_plain]
  have hb := Blk.new' w t xs.toArray rfl
  rw [Nat.zero_add, hb.cell]
  simpa using h
theorem run_makeDR (W : World) : (Instr.makeSlice 310 (.int .i64 0) (.int .i64 0)).run Tryz.prog W = .ok (.slice (some ⟨W.heap.size, 0, none⟩) 0 0) (W.alloc (.cells #[] 313)) := by
  obtain ⟨i0, hi, hz0, hz1, hz2⟩ := info_parts Tryz.infoDR
  have hr := run_make (P := Tryz.prog) W 310 313 i0 _ Tryz.underlying310 hi hz0 .i64 .i64 0 0 (by omega) (by omega) (by rw [hz2]; omega) (by omega)
  have e : madeCells (Value.agg #[.slice none 0 0, .int .u64 0]).cells (0 * i0.size) = #[] := Array.eq_empty_of_size_eq_zero (by simp [size_madeCells])
  simp only [Int.toNat_zero] at hr
  rw [e] at hr
  exact hr
theorem rows_le {w wr : World} {mb : Nat} {its : List It} {K : List Nat} {V : Nat → Value} {G : Nat → Nat} {R : Nat → List DR} (h : Gath w wr mb its K V G R) (n : Nat) (hn : n ∈ K) : (R n).length ≤ its.length := by
  have := congrArg List.length (h.rows n hn)
  simp only [List.length_map] at this
  rw [this]
  exact List.length_filter_le _ _
theorem one2 (A : Option Addr) (l C : Nat) (k : IntKind) (x : Int) : ∀ u ∈ [Value.slice A l C, Value.int k x], u.oneCell' = true := by
  intro u hu
  simp at hu
  rcases hu with rfl | rfl <;> rfl

theorem nodup_len : ∀ (D K : List Nat), D.Nodup → (∀ x, x ∈ D → x ∈ K) → D.length ≤ K.length
  | [], _, _, _ => Nat.zero_le _
  | a :: D, K, hn, hs => by
    have hn' := List.nodup_cons.1 hn
    have ha := hs a (List.mem_cons_self ..)
    have h1 := nodup_len D (K.erase a) hn'.2 (fun x hx => (List.mem_erase_of_ne (fun e => hn'.1 (by rw [← e]; exact hx))).2 (hs x (List.mem_cons_of_mem _ hx)))
    have h2 := List.length_erase_of_mem ha
    have h3 := List.length_pos_of_mem ha
    simp only [List.length_cons]
    omega

/-- What a round of the first loop leaves: the entries gathered so far. -/
def Gath1 (w wr : World) (mb : Nat) (its : List It) : Prop := ∃ K V G R, Gath w wr mb its K V G R

end Go.Proofs.YthmhnknkidkdlaaGreatDoor
namespace Go.Proofs.YthmhnknkidkdlaaGreatDoor
open Go.RowKit

section
variable {α : Type} [Inhabited α] {T : TypeId} {rv : Value} {gl gs : Nat} {lt : α → α → Bool} {N B : Nat} {At : Array α → World → Prop}
set_option maxHeartbeats 1000000 in
set_option maxRecDepth 100000 in
/-- sort.Sort: the row that pdqsort makes of it. -/
theorem sort_srtF (S : Srt T rv gl gs lt N B At) (hO : Sort.SWO lt) (hN : N < 4611686018427387904) (gn : Nat) (d : Array α) (w : World) (hA : At d w)
    (mN : ∀ w, (method 480 T rv "Len").run Tryz.prog w = .ok (gn, rv) w) (eN : ∀ args w, (callFunc gn args).run Tryz.prog w = .ok (.enter gn args) w)
    (hlen : Calls Tryz.prog gn #[rv] w fun e w' => e = .returned (.int .i64 N) ∧ w = w') :
    Calls Tryz.prog 178 #[.iface T rv] w fun e w' => e = .returned (.tuple #[]) ∧ At (if N ≤ 1 then d else Sort.pdq lt d 0 N (Lib.bitLen N) true true) w' := by
  by_cases h1 : N ≤ 1
  · rw [if_pos h1]
    go_enter Tryz.func178, Tryz.ntmps178
    go_wp2_with (go_at_fn gn; refine hlen.mono ?_; rintro e w' ⟨rfl, rfl⟩)
    all_goals first | (exfalso; omega) | ((try simp only [Exit.inBlock, Exit.then]); refine bodyPost_ret (results_none rfl _ _ _) rfl ?_; exact ⟨rfl, hA⟩)
  · rw [if_neg h1]
    have hb := Tryz.bits_Len (N : Int) w (by omega) (by omega)
    have wr : IntKind.u64.wrap (N : Int) = N := by simp [IntKind.wrap, IntKind.bits, IntKind.signed]; omega
    have hlim : Lib.bitLen N < 4611686018427387904 := Nat.lt_of_le_of_lt (Lib.bitLen_le N 62 (by omega) (by omega)) (by omega)
    have hp := pdqsort_srt S hO hN (N + 1) 0 N (Lib.bitLen N) d w (by omega) hA (Nat.zero_le _) (Nat.le_refl _) hlim (Or.inl rfl)
    go_enter Tryz.func178, Tryz.ntmps178
    go_wp2_with (first
      | (go_at_fn gn; refine hlen.mono ?_; rintro e w' ⟨rfl, rfl⟩)
      | (go_at_call 185; refine hb.mono ?_; rintro e w' ⟨rfl, rfl⟩)
      | (go_at_call 186; refine hp.mono ?_; rintro e w' ⟨rfl, hA2⟩))
    all_goals first
      | (exfalso; omega)
      | (go_end0; exact ⟨rfl, hA2⟩)
end

def ltRw (a b : Rw) : Bool := Sort.ltStr a.d b.d
theorem swo_ltRw : Sort.SWO ltRw where
  irrefl x := Sort.swo_ltStr.irrefl x.d
  trans x y z := Sort.swo_ltStr.trans x.d y.d z.d
  ntrans x y z := Sort.swo_ltStr.ntrans x.d y.d z.d
/-- What sort.Sort makes of rows. -/
def srtA (d : Array Rw) : Array Rw := if d.size ≤ 1 then d else Sort.pdq ltRw d 0 d.size (Lib.bitLen d.size) true true
def srtL (l : List Rw) : List Rw := (srtA l.toArray).toList
theorem perm_of_inA {α : Type} [Inhabited α] {d d' : Array α} {N : Nat} (hN : d.size = N) (h : Sort.PermIn 0 N d d') : d'.toList.Perm d.toList := by
  obtain ⟨h1, _, h3⟩ := h
  subst hN
  have e1 : d.extract 0 d.size = d := by simp
  have e2 : d'.extract 0 d.size = d' := by rw [← h1]; simp
  rwa [e1, e2] at h3
theorem srtL_perm (l : List Rw) : (srtL l).Perm l := by
  unfold srtL srtA
  by_cases h1 : l.toArray.size ≤ 1
  · rw [if_pos h1]
  · rw [if_neg h1]
    have hs := Sort.pdq_sorts ltRw swo_ltRw l.toArray 0 l.toArray.size (Lib.bitLen l.toArray.size) true true (Nat.zero_le _) (Nat.le_refl _) (Or.inl rfl)
    exact perm_of_inA rfl hs.1
theorem srtL_srtd (l : List Rw) : Srtd (srtL l) := by
  unfold srtL srtA Srtd
  by_cases h1 : l.toArray.size ≤ 1
  · rw [if_pos h1]
    refine List.pairwise_iff_getElem.2 fun i k hi hk hik => ?_
    simp at hi hk h1
    omega
  · rw [if_neg h1]
    have hs := Sort.pdq_sorts ltRw swo_ltRw l.toArray 0 l.toArray.size (Lib.bitLen l.toArray.size) true true (Nat.zero_le _) (Nat.le_refl _) (Or.inl rfl)
    have hz : (Sort.pdq ltRw l.toArray 0 l.toArray.size (Lib.bitLen l.toArray.size) true true).size = l.toArray.size := hs.1.1
    refine List.pairwise_iff_getElem.2 fun i k hi hk hik => ?_
    have h9 : i < (Sort.pdq ltRw l.toArray 0 l.toArray.size (Lib.bitLen l.toArray.size) true true).size ∧ k < (Sort.pdq ltRw l.toArray 0 l.toArray.size (Lib.bitLen l.toArray.size) true true).size := ⟨by simpa using hi, by simpa using hk⟩
    have h2 := hs.2 i k (Nat.zero_le _) hik (by rw [← hz]; exact h9.2)
    rw [get_list _ i h9.1, get_list _ k h9.2] at h2
    simpa [ltRw, Sort.ltStr] using h2

/-- The row in block g, told by its digests and offsets alone. -/
def RowW (w0 : World) (g : Nat) (sp : List Value) (N : Nat) (d : Array Rw) (w : World) : Prop := ∃ D : Array DR, D.map DR.rw = d ∧ RowAt w0 g sp N D w
theorem getW {D : Array DR} {i : Nat} (h : i < D.size) : (D.map DR.rw)[i]! = (D[i]!).rw := by
  rw [getElem!_pos _ i (by simpa using h), getElem!_pos D i h]; simp
theorem swpW {D : Array DR} {i j : Nat} (hi : i < D.size) (hj : j < D.size) : (Sort.swp D i j).map DR.rw = Sort.swp (D.map DR.rw) i j := by
  unfold Sort.swp
  rw [getW hi, getW hj]
  apply Array.ext'
  simp
theorem srt_rowW (w0 : World) (g n c : Nat) (sp : List Value) (hn : n < 4611686018427387904) (hg : g < w0.heap.size) :
    Srt (lt := ltRw) 315 (.slice (some ⟨g, 0, none⟩) n c) 279 280 n w0.heap.size (RowW w0 g sp n) where
  size h := by obtain ⟨D, rfl, h⟩ := h; rw [Array.size_map]; exact h.size
  room h := by obtain ⟨D, rfl, h⟩ := h; exact (srt_row w0 g n c sp hn hg).room h
  fresh h ho hS := by obtain ⟨D, rfl, h⟩ := h; exact ⟨D, rfl, (srt_row w0 g n c sp hn hg).fresh h ho hS⟩
  mLess w := (srt_row w0 g n c sp hn hg).mLess w
  mSwap w := (srt_row w0 g n c sp hn hg).mSwap w
  eLess args w := (srt_row w0 g n c sp hn hg).eLess args w
  eSwap args w := (srt_row w0 g n c sp hn hg).eSwap args w
  less {d w} i j h hi hj := by
    obtain ⟨D, rfl, h⟩ := h
    have hz := h.size
    rw [getW (by omega), getW (by omega)]
    exact (srt_row w0 g n c sp hn hg).less i j h hi hj
  swap {d w} i j h hi hj := by
    obtain ⟨D, rfl, h⟩ := h
    have hz := h.size
    refine ((srt_row w0 g n c sp hn hg).swap i j h hi hj).mono ?_
    rintro e w' ⟨he, ha, hk⟩
    exact ⟨he, ⟨_, swpW (by omega) (by omega), ha⟩, hk⟩

/-- sort.Sort over a row of digests: the rows that srtL makes of them. -/
theorem sort_rows (w0 : World) (g N c : Nat) (sp : List Value) (hn : N < 4611686018427387904) (hg : g < w0.heap.size) (D : Array DR) (w : World) (hA : RowAt w0 g sp N D w) :
    Calls Tryz.prog 178 #[.iface 315 (.slice (some ⟨g, 0, none⟩) N c)] w fun e w' => e = .returned (.tuple #[]) ∧ ∃ d' : Array DR, d'.toList.map DR.rw = srtL (D.toList.map DR.rw) ∧ RowAt w0 g sp N d' w' := by
  refine (sort_srtF (srt_rowW w0 g N c sp hn hg) swo_ltRw hn 278 (D.map DR.rw) w ⟨D, rfl, hA⟩ (fun W => by kernel_rfl) (enters_of Tryz.func278 (by kernel_rfl) rfl) (rsLen_any _ _ _ _)).mono ?_
  rintro e w' ⟨he, d', hd, ha⟩
  refine ⟨he, d', ?_, ha⟩
  have hz : (D.map DR.rw).size = N := by rw [Array.size_map]; exact hA.size
  have h2 : d'.map DR.rw = srtA (D.map DR.rw) := by rw [hd]; unfold srtA; rw [hz]
  have h3 : (D.toList.map DR.rw).toArray = D.map DR.rw := by apply Array.ext'; simp
  unfold srtL
  rw [h3, ← h2]
  simp
end Go.Proofs.YthmhnknkidkdlaaGreatDoor
namespace Go.Proofs.YthmhnknkidkdlaaGreatDoor
open Go.RowKit Go.Maps

set_option maxRecDepth 100000 in
set_option maxHeartbeats 1000000 in
theorem mwLoad_F (A : Option Addr) (ib io pb po mm c : Nat) (its : List It) (w : World) (hits : ∀ it, it ∈ its → it.ok) (hn : its.length ≤ 1000) (hat : ItemsAt w A ib io its) (hp : w.cell? ⟨pb, po, none⟩ = some (.map (some mm))) (hpm : pb ≠ mm) (hm : Mp Tryz.prog 262 .u32 w mm 0 [] (fun _ => undef)) :
    Calls Tryz.prog 172 #[.pointer (some ⟨pb, po, none⟩), .slice A its.length c] w fun e w' => e = .returned .nilIface ∧ Off [mm] w w' ∧ ∃ D S, MwAt w.heap.size w' mm D S ∧ (∀ n, n ∈ D ↔ ∃ it, it ∈ its ∧ it.d.length = n) ∧ ∀ n, n ∈ D → S n = srtL ((its.filter fun it => it.d.length == n).map It.rw) := by
  have hmm := @run_makeMap Tryz.prog
  obtain ⟨i0, hi, hz0, hz1, hz2⟩ := info_parts Tryz.infoDR
  have hmk := run_makeDR
  obtain ⟨n, hnl⟩ : ∃ n, n = its.length := ⟨_, rfl⟩
  have HNL := Lib.hid hnl
  have hG0 : Gath1 w (w.alloc (.map #[] 0)) w.heap.size [] := ⟨[], fun _ => undef, fun _ => 0, fun _ => [], Off.alloc (Off.refl [] w) _, rfl, Mp.made w _ _ _ _, fun n => by simp, fun n h => by simp at h, fun m h => by simp at h, fun n h => by simp at h, fun n h => by simp at h⟩
  have HG0 := Lib.hid hG0
  have HAT := Lib.hid hat
  have HITS := Lib.hid hits
  have HP := Lib.hid hp
  have HM := Lib.hid hm
  rw [← hnl]
  rw [← hnl] at hn
  clear hG0 hat hits hp hm hnl
  go_enter Tryz.func172, Tryz.ntmps172
  go_wp2_with fail
  go_loopw [23] (fun vi wr => ∃ i : Nat, vi = .int .i64 i ∧ i ≤ n ∧ Hid (Gath1 w wr w.heap.size (its.take i))) (fun vi _ => n - (intOf vi).toNat)
  case atStart => exact ⟨0, by go_num, by omega, HG0⟩
  case round =>
    clear HG0
    obtain ⟨i, rfl, hin, HG⟩ := hrel
    by_cases hlt : i < n
    · have hltz : (i : Int) < (n : Int) := by omega
      have hi0 : (0 : Int) ≤ (i : Int) := by omega
      have hlt' : i < its.length := by rw [← HNL.out]; exact hlt
      obtain ⟨it, hit⟩ : ∃ it, it = its[i] := ⟨_, rfl⟩
      obtain ⟨K, V, G, R, hg⟩ := HG.out
      have hok : it.ok := HITS.out it (by rw [hit]; exact List.getElem_mem _)
      have hatr := HAT.out.off hg.off (fun _ => by simp)
      obtain ⟨hA, hib⟩ := hatr.at_ (by omega)
      obtain ⟨c0, c1⟩ := hatr.cells i hlt'
      rw [← hit] at c0 c1
      subst hA
      have hgmb := hg.mp.lt
      have hwf : (Lit.int .i64 (it.d.length : Int)).wf = true := WalkArith.wf_i64 (by have := hok.small; omega)
      have htk : its.take (i + 1) = its.take i ++ [it] := by rw [hit, List.take_succ_eq_append_getElem hlt']
      have htl : (its.take i).length = i := by rw [List.length_take]; omega
      have HTK := Lib.hid htk
      have HH : Hid (∀ W, _) := fun W => hash_any it.s it.code it.d W hok.cid
      have HD : Hid (∀ (W : World) (g o c' : Nat), (mhB it.code it.d).length ≤ c' → Seg W g o (mhB it.code it.d) → g < W.heap.size → _) := fun W g o c' h1 h2 h3 => decodeP_ok it.code g o (mhB it.code it.d).length c' it.d W hok.cid.1 hok.cid.2.1 rfl h1 h2 h3
      have HGA := Lib.hid hg
      have HOK := Lib.hid hok
      have HIT := Lib.hid hit
      have HTL := Lib.hid htl
      have hsz : w.heap.size < wr.heap.size := hgmb
      clear hok hatr hit htk htl
      by_cases hK : it.d.length ∈ K
      · obtain ⟨cap, sp, e1, e2, e3, e4, hb, e6⟩ := hg.row _ hK
        have hRl : (R it.d.length).length ≤ 1000 := by have := rows_le hg _ hK; rw [HTL.out] at this; omega
        have HB := Lib.hid hb
        have HE4 := Lib.hid e4
        have HE1 := Lib.hid e1
        clear hg hb e4 e1
        go_wp2_with (first
          | (go_at_call 170; refine (HH.out _).mono ?_; rintro e w2 ⟨g2, o2, cc2, rfl, h1, h2, h3, h4, h5⟩
             have hx2 : w2.cell? ⟨wr.heap.size, 1, none⟩ = some (.int .u64 (it.off : Int)) := by rw [h5.cell (p := ⟨wr.heap.size, 1, none⟩) (by simp)]; simp
             have ho2 : Off [] wr w2 := Off.then (by repeat' (first | exact Off.refl [] _ | refine Off.alloc ?_ _ | refine Off.drew ?_)) (Off.ofBelow (S := []) h5) (fun x hx => by simp at hx)
             have hg2 : wr.heap.size ≤ g2 := by simp at h1; omega
             have HS2 := Lib.hid h4; have HO2 := Lib.hid ho2; have HC2 := Lib.hid h3; clear h1 h3 h4 h5 ho2)
          | (go_at_call 87; refine (HD.out _ _ _ _ HC2.out HS2.out h2).mono ?_; rintro e w3 ⟨A3, C3, g3, rfl, k1, k2, k3, k4⟩
             have hx3 : w3.cell? ⟨wr.heap.size, 1, none⟩ = some (.int .u64 (it.off : Int)) := by rw [k4.cell (p := ⟨wr.heap.size, 1, none⟩) (by have := HO2.out.size; have := World.block_lt_of_cell? _ _ hx2; simpa using this)]; exact hx2
             have hd3 : w3.cell? ⟨g3, 3, none⟩ = some (.slice A3 it.d.length C3) := k2.cell 3
             have hw3 : w2.heap.size ≤ w3.heap.size := k4.size
             have HO3 := Lib.hid (HO2.out.then (Off.ofBelow (S := []) k4) (fun x hx => by simp at hx)); have HS3 := Lib.hid (mhB_dig (HS2.out.below k4 h2)); have HDG := Lib.hid k3; clear k1 k2 k3 k4 hx2
             have hM3 : MpN Tryz.prog 3 .i64 w3 w.heap.size (2 * (its.take i).length) K V := Mp.off HGA.out.mp HO3.out (by simp)
             have hl3 := (Mp.look hM3 Tryz.underlying3 Tryz.underlying309 (zeroDRs w3) (it.d.length : Int) hwf).1
             rw [if_pos (mem_mapN.2 hK), decide_eq_true (mem_mapN.2 hK)] at hl3
             simp only [Int.toNat_natCast] at hl3
             rw [HE1.out] at hl3
             have HM3 := Lib.hid hM3; have HB3 := Lib.hid (HB.out.off HO3.out (by simp))
             clear hM3)
          | (at_builtin; refine wpList_append_blk rfl _ _ 310 rfl 313 i0 _ 2 32 Tryz.underlying310 hi hz0 hz1 hz2 rfl (by decide) (.slice (some ⟨G it.d.length, 0, none⟩) (R it.d.length).length cap) (R it.d.length).length (flat2 (R it.d.length)) (flat2_length _) rfl
               (owns_blk (HB3.out.alloc _) (flat2_length _) HE4.out e2 e3) ⟨w3.heap.size, 0, none⟩ 1 [.slice A3 it.d.length C3, .int .u64 (it.off : Int)] rfl rfl (news_alloc _ _ _) (one2 _ _ _ _ _) (by unfold maxLen; omega) (by omega) ?_
             intro g' cap' sp' w5 hb5 q1 q2 q3 hg5 ho5 hown5
             have HM5 : Hid (MpN Tryz.prog 3 .i64 w5 w.heap.size (2 * (its.take i).length) K V) := Mp.off (Mp.off HM3.out (Off.alloc (Off.refl [] w3) _) (by simp)) (ho5.out [G it.d.length] (fun g hg => by simp [Value.ownBlock] at hg; simp [hg])) (by simp; omega)
             have HQ3 := Lib.hid q3; have HG5 := Lib.hid hg5; clear q3 hg5 hown5)
          | (at_mapUpdate; refine wpList_mapUpdate_mp rfl _ _ _ 309 rfl Tryz.underlying3 Tryz.underlying309 HM5.out rfl (by rw [HTL.out]; unfold maxLen; omega) (it.d.length : Int) rfl hwf (.slice (some ⟨g', 0, none⟩) ((R it.d.length).length + 1) cap') rfl ?_
             intro w6 hm6 ho6 hs6))
        go_roundw
        case measure => simp [intOf]; omega
        case rel =>
          refine ⟨i + 1, by go_num, by omega, ?_⟩
          show Gath1 _ _ _ _
          rw [HTK.out]
          have hO36 : Off [w.heap.size, G it.d.length] w3 w6 := ((Off.alloc (Off.refl [w.heap.size, G it.d.length] w3) _).then (ho5.out [G it.d.length] (fun g hg => by simp [Value.ownBlock] at hg; simp [hg])) (fun x hx => by simp at hx; simp [hx])).then ho6.out (fun x hx => by simp at hx; simp [hx])
          have hO : Off [w.heap.size, G it.d.length] wr w6 := (HO3.out.mono (fun x hx => by simp at hx)).then hO36 (fun x hx => Or.inl hx)
          have hGlt := HB.out.lt
          have hst := HGA.out.step (w6 := w6) it ⟨.slice A3 it.d.length C3, it.d, it.off⟩ rfl rfl g' cap' sp' g2 (o2 + mhO it.code it.d) A3 C3
          rw [if_pos hK, if_pos hK, if_pos hK] at hst
          have h36 : w3.heap.size ≤ w6.heap.size := hO36.size
          refine ⟨_, _, _, _, hst hO ?_ ?_ (by simp; omega) q2 (by simp; have := HQ3.out; omega) ?_ ?_ rfl HDG.out.2 hg2 (fun _ => by omega) ?_ hsz⟩
          · have := MpN.stored hm6.out
            rw [if_pos hK] at this
            refine MpN.mono ?_ (show 2 * (its.take i).length + 1 ≤ _ by simp; omega)
            simpa using this
          · have := hb5.out.off ho6.out (by rcases HG5.out with h | h; simp [Value.ownBlock] at h; simp; omega; simp at h; simp; omega)
            rw [flat2_append]
            exact this
          · rcases HG5.out with h | h
            · simp [Value.ownBlock] at h
              exact Or.inl ⟨hK, h.symm⟩
            · simp at h
              have := HO3.out.size
              exact Or.inr (by omega)
          · rcases HG5.out with h | h
            · simp [Value.ownBlock] at h
              omega
            · simp at h
              omega
          · exact HS3.out.off hO36 (by simp; omega)
      · clear hg
        have tok1 : True := trivial
        go_wp2_with (first
          | (go_at_call 170; refine (HH.out _).mono ?_; rintro e w2 ⟨g2, o2, cc2, rfl, h1, h2, h3, h4, h5⟩
             have hx2 : w2.cell? ⟨wr.heap.size, 1, none⟩ = some (.int .u64 (it.off : Int)) := by rw [h5.cell (p := ⟨wr.heap.size, 1, none⟩) (by simp)]; simp
             have ho2 : Off [] wr w2 := Off.then (by repeat' (first | exact Off.refl [] _ | refine Off.alloc ?_ _ | refine Off.drew ?_)) (Off.ofBelow (S := []) h5) (fun x hx => by simp at hx)
             have hg2 : wr.heap.size ≤ g2 := by simp at h1; omega
             have HS2 := Lib.hid h4; have HO2 := Lib.hid ho2; have HC2 := Lib.hid h3; clear h1 h3 h4 h5 ho2)
          | (go_at_call 87; refine (HD.out _ _ _ _ HC2.out HS2.out h2).mono ?_; rintro e w3 ⟨A3, C3, g3, rfl, k1, k2, k3, k4⟩
             have hx3 : w3.cell? ⟨wr.heap.size, 1, none⟩ = some (.int .u64 (it.off : Int)) := by rw [k4.cell (p := ⟨wr.heap.size, 1, none⟩) (by have := HO2.out.size; have := World.block_lt_of_cell? _ _ hx2; simpa using this)]; exact hx2
             have hd3 : w3.cell? ⟨g3, 3, none⟩ = some (.slice A3 it.d.length C3) := k2.cell 3
             have hw3 : w2.heap.size ≤ w3.heap.size := k4.size
             have HO3 := Lib.hid (HO2.out.then (Off.ofBelow (S := []) k4) (fun x hx => by simp at hx)); have HS3 := Lib.hid (mhB_dig (HS2.out.below k4 h2)); have HDG := Lib.hid k3; clear k1 k2 k3 k4 hx2
             have hM3 : MpN Tryz.prog 3 .i64 w3 w.heap.size (2 * (its.take i).length) K V := Mp.off HGA.out.mp HO3.out (by simp)
             have hl3 := (Mp.look hM3 Tryz.underlying3 Tryz.underlying309 (zeroDRs w3) (it.d.length : Int) hwf).1
             rw [if_neg (fun e => hK (mem_mapN.1 e)), decide_eq_false (fun e => hK (mem_mapN.1 e))] at hl3
             have HM3 := Lib.hid hM3
             clear hM3)
          | (at_mapUpdate; have _t := tok1; refine wpList_mapUpdate_mp rfl _ _ _ 309 rfl Tryz.underlying3 Tryz.underlying309 (Mp.off HM3.out (Off.alloc (Off.refl [] w3) _) (by simp)) rfl (by rw [HTL.out]; unfold maxLen; omega) (it.d.length : Int) rfl hwf (.slice (some ⟨w3.heap.size, 0, none⟩) 0 0) rfl ?_
             intro w4 hm4 ho4 hs4
             have hM4 := MpN.stored hm4.out
             rw [if_neg hK] at hM4
             have hmem : it.d.length ∈ K ++ [it.d.length] := by simp
             have hl4 := (Mp.look hM4 Tryz.underlying3 Tryz.underlying309 (zeroDRs w4) (it.d.length : Int) hwf).2
             rw [if_pos (mem_mapN.2 hmem)] at hl4
             simp only [Int.toNat_natCast, if_true] at hl4
             have hO34 : Off [w.heap.size] w3 w4 := (Off.alloc (Off.refl [w.heap.size] w3) _).then ho4.out (fun x hx => Or.inl hx)
             have hr4 : w3.heap.size < w4.heap.size := by rw [hs4]; simp
             have hx4 : w4.cell? ⟨wr.heap.size, 1, none⟩ = some (.int .u64 (it.off : Int)) := by
               rw [World.cell?_of_block (a := ⟨wr.heap.size, 1, none⟩) (hO34.block wr.heap.size (World.block_lt_of_cell? _ _ hx3) (by simp; omega))]; exact hx3
             have HB4 : Hid (Blk w4 w3.heap.size 313 (flat2 [] ++ []).toArray) := (Blk.new' w3 313 #[] rfl).off ho4.out (by simp; have := HO3.out.size; omega)
             have HM4 := Lib.hid hM4; have HO34 := Lib.hid hO34; clear hm4 ho4 hM4 hO34 hx3 tok1 hs4)
          | (at_builtin; refine wpList_append_blk rfl _ _ 310 rfl 313 i0 _ 2 32 Tryz.underlying310 hi hz0 hz1 hz2 rfl (by decide) (.slice (some ⟨w3.heap.size, 0, none⟩) 0 0) 0 (flat2 []) rfl rfl
               (owns_blk (HB4.out.alloc _) rfl rfl (Nat.le_refl _) (Nat.zero_le _)) ⟨w4.heap.size, 0, none⟩ 1 [.slice A3 it.d.length C3, .int .u64 (it.off : Int)] rfl rfl (news_alloc _ _ _) (one2 _ _ _ _ _) (by unfold maxLen; omega) (by omega) ?_
             intro g' cap' sp' w5 hb5 q1 q2 q3 hg5 ho5 hown5
             have hO45 : Off [w3.heap.size] w4 w5 := (Off.alloc (Off.refl [w3.heap.size] w4) _).then (ho5.out [w3.heap.size] (fun g hg => by simp [Value.ownBlock] at hg; simp [hg])) (fun x hx => Or.inl hx)
             have HM5 := Lib.hid (MpN.off HM4.out hO45 (by simp; have := HO3.out.size; omega))
             have HO45 := Lib.hid hO45; have HQ3 := Lib.hid q3; have HG5 := Lib.hid hg5; clear q3 hg5 hown5 hO45)
          | (at_mapUpdate; refine wpList_mapUpdate_mp rfl _ _ _ 309 rfl Tryz.underlying3 Tryz.underlying309 HM5.out rfl (by rw [HTL.out]; unfold maxLen; omega) (it.d.length : Int) rfl hwf (.slice (some ⟨g', 0, none⟩) (0 + 1) cap') rfl ?_
             intro w6 hm6 ho6 hs6))
        go_roundw
        case measure => simp [intOf]; omega
        case rel =>
          refine ⟨i + 1, by go_num, by omega, ?_⟩
          show Gath1 _ _ _ _
          rw [HTK.out]
          have hs3 := HO3.out.size
          have hO : Off [w.heap.size] wr w6 := (((HO3.out.mono (S' := [w.heap.size]) (fun x hx => by simp at hx)).then HO34.out (fun x hx => Or.inl hx)).then HO45.out (fun x hx => by simp at hx; right; omega)).then ho6.out (fun x hx => Or.inl hx)
          have hst := HGA.out.step (w6 := w6) it ⟨.slice A3 it.d.length C3, it.d, it.off⟩ rfl rfl g' cap' sp' g2 (o2 + mhO it.code it.d) A3 C3
          rw [if_neg hK, if_neg hK, if_neg hK] at hst
          have h35 : w4.heap.size ≤ w5.heap.size := HO45.out.size
          have hgg : wr.heap.size ≤ g' ∧ g2 ≠ g' := by
            rcases HG5.out with h | h
            · simp [Value.ownBlock] at h; omega
            · simp at h; omega
          refine ⟨_, _, _, _, hst hO ?_ ?_ (by simpa using q1) q2 (by simp; have := HQ3.out; omega) (Or.inr hgg.1) hgg.2 rfl HDG.out.2 hg2 (fun _ => by omega) ?_ hsz⟩
          · have := MpN.stored (K := K ++ [it.d.length]) (m := it.d.length) (V := fun j => if j = it.d.length then .slice (some ⟨w3.heap.size, 0, none⟩) 0 0 else V j) hm6.out
            rw [if_pos (show it.d.length ∈ K ++ [it.d.length] by simp)] at this
            refine MpN.congr (V := fun j => if j = it.d.length then .slice (some ⟨g', 0, none⟩) (0 + 1) cap' else if j = it.d.length then .slice (some ⟨w3.heap.size, 0, none⟩) 0 0 else V j) ?_ ?_
            · exact MpN.mono this (by simp; omega)
            · intro j _
              by_cases hj : j = it.d.length
              · simp [hj]
              · simp [hj]
          · have := hb5.out.off ho6.out (by simp; omega)
            simpa [flat2, DR.cells] using this
          · exact ((HS3.out.off HO34.out (by simp; omega)).off HO45.out (by simp; omega)).off ho6.out (by simp; omega)
    · have hltz : ¬ (i : Int) < (n : Int) := by omega
      have hall : its.take i = its := List.take_of_length_le (by rw [← HNL.out]; omega)
      have HG1 : Hid (Gath1 w wr w.heap.size its) := by rw [← hall]; exact HG
      obtain ⟨K, V, G, R, hg⟩ := HG1.out
      have hmb := hg.mp
      have HMB := Lib.hid hmb
      have HGA := Lib.hid hg
      have hwr : w.heap.size < wr.heap.size := hmb.lt
      have hmmlt := HM.out.lt
      clear hg hmb hall HG HG1
      go_wp2_with (at_range; refine wpList_range_mp rfl _ 309 rfl Tryz.underlying3 Tryz.underlying309 HMB.out rfl ?_; intro w1 hr1 ho1 hs1)
      (try go_frame)
      go_loopg [13] K.length (fun kx s13 wq => Hid (∃ L D S, L.length ≤ kx ∧ Pack w wq w.heap.size mm wr.heap.size its.length K V G R L D S ∧ ∀ j, j ∈ D → S j = srtL ((R j).map DR.rw)))
      case atStart =>
        have hg := HGA.out
        refine ⟨ints K, [], fun _ => [], by simp [ints], ?_, fun j hj => by simp at hj⟩
        refine ⟨(hg.off.mono (S' := [mm]) (fun x hx => by simp at hx)).then ho1.out (fun x hx => by simp at hx), hr1.out, ⟨fun _ => undef, fun _ => 0, (HM.out.off hg.off (by simp)).off ho1.out (by simp), fun n hn => by simp at hn⟩, fun j => ?_, fun j hj => by simp at hj, fun j hj _ => ?_, fun j hj => ?_, hg.inj, fun j hj r hr => ?_, fun j hj r hr => ?_, rfl, hmmlt, hwr, by rw [hs1]; omega⟩
        · constructor
          · intro hx; simp at hx
          · rintro ⟨h1, h2⟩; exact absurd (mem_mapN.2 h1) h2
        · obtain ⟨cap, sp, e1, e2, e3, e4, hb, e6⟩ := hg.row j hj
          exact ⟨cap, sp, e1, e2, e3, e4, hb.off ho1.out (by simp)⟩
        · obtain ⟨cap, sp, e1, e2, e3, e4, hb, e6⟩ := hg.row j hj
          exact ⟨e6, hb.lt⟩
        · have : r.rw ∈ (R j).map DR.rw := List.mem_map.2 ⟨r, hr, rfl⟩
          rw [hg.rows j hj] at this
          obtain ⟨it, hit, he⟩ := List.mem_map.1 this
          have h1 : it.d = r.d := congrArg Rw.d he
          have h2 := (List.mem_filter.1 hit).2
          rw [← h1]
          simpa using h2
        · obtain ⟨A', C', b', o', e1, e2, e3⟩ := hg.rd j hj r hr
          exact ⟨A', C', b', o', e1, e2, e3.off ho1.out (by simp)⟩
      case round =>
        rename World => wq
        obtain ⟨L, D, S, hlen, hpk, hsl⟩ := hrel.out
        have HSL := Lib.hid hsl
        have HPK := Lib.hid hpk
        have hrg := hpk.rg
        have hwq := hpk.hrb
        have hmbk := hpk.rg.map.lt
        clear hrel hpk hsl
        go_wp2_with (at_next; refine wpList_next_mp rfl _ rfl Tryz.underlying3 rfl hrg ?_ ?_)
        · -- nothing is left
          intro hL
          subst hL
          go_wp2_with fail
          go_ret
          have hpk := HPK.out
          refine ⟨rfl, hpk.off, D, S, ?_, fun n => ?_, fun n hn => ?_⟩
          · obtain ⟨V2, C2, h1, h2⟩ := hpk.mw.ex
            exact ⟨V2, C2, h1, fun n hn => by obtain ⟨a1, a2, a3, a4, a5⟩ := h2 n hn; exact ⟨a1, a2, by omega, a4, a5⟩⟩
          · rw [hpk.dmem, ← HGA.out.mem]; simp
          · have hk := ((hpk.dmem n).1 hn).1
            have h1 := HSL.out n hn
            rw [HGA.out.rows n hk] at h1
            exact h1
        · intro x w2 hxL hwx hrg2 ho2 hs2 hen
          obtain ⟨j, hjK, rfl⟩ := List.mem_map.1 (hrg.sub x hxL)
          obtain ⟨cap, sp, e1, e2, e3, e4, hb⟩ := HPK.out.row j hjK hxL
          obtain ⟨gb1, gb2⟩ := HPK.out.gb j hjK
          simp only [Int.toNat_natCast] at hen
          rw [e1] at hen
          have hRl : (R j).length ≤ 1000 := by have := rows_le HGA.out j hjK; rw [← HNL.out] at this; omega
          have hj1000 : j ≤ 1000 := by
            obtain ⟨it, hit, he⟩ := (HGA.out.mem j).1 hjK
            have := (HITS.out it hit).small
            omega
          have hA2 : RowAt w2 (G j) sp (R j).length (R j).toArray w2 := by
            refine ⟨Off.refl _ _, ?_, by simp, fun r hr => ?_⟩
            · have := hb.off ho2 (by simp; omega)
              simpa using this
            · simp at hr
              obtain ⟨A', C', b', o', f1, f2, f3⟩ := HPK.out.rd j hjK r hr
              refine ⟨A', C', b', o', f1, fun h0 => ⟨(f2 h0).1, by have := (f2 h0).2.2.1; rw [hs2]; omega, (f2 h0).2.2.2 j hjK⟩, ?_⟩
              by_cases h0 : 0 < r.d.length
              · exact f3.off ho2 (by simp; have := (f2 h0).2.2.1; omega)
              · have h1 : r.d = [] := List.eq_nil_of_length_eq_zero (by omega)
                rw [h1]; exact Seg.nil
          have hsort := sort_rows w2 (G j) (R j).length cap sp (by omega) (by rw [hs2]; omega) (R j).toArray w2 hA2
          obtain ⟨N, hN⟩ : ∃ N, N = (R j).length := ⟨_, rfl⟩
          obtain ⟨W8, hW8⟩ : ∃ W8, W8 = j + 8 := ⟨_, rfl⟩
          obtain ⟨M, hM⟩ : ∃ M, M = W8 * N := ⟨_, rfl⟩
          have hMle : M ≤ 1008000 := by rw [hM]; exact Nat.le_trans (Nat.mul_le_mul (show W8 ≤ 1008 by omega) (show N ≤ 1000 by omega)) (by omega)
          have hw1 : (j : Int) + 8 = (W8 : Int) := by omega
          have hw2 : IntKind.i64.wrap ((W8 : Int) * (N : Int)) = (M : Int) := by rw [hM, Int.natCast_mul, IntKind.wrap_i64]; omega
          rw [← hN] at hen hsort hRl e2 e4
          have hmkb : ∀ W' : World, (Instr.makeSlice 47 (.int .i64 (M : Int)) (.int .i64 (M : Int))).run Tryz.prog W' = .ok (.slice (some ⟨W'.heap.size, 0, none⟩) M M) (W'.alloc (.cells (zeroBytes M).toArray 5)) := fun W' => by
            obtain ⟨ib0, hbi, hbz0, hbz1, hbz2⟩ := info_parts Tryz.infoByte
            exact run_makeBytes Tryz.underlying47 hbi hbz0 hbz1 hbz2 M (by omega) W'
          have HE1 := Lib.hid e1
          have HN := Lib.hid hN
          have HM8 := Lib.hid hM
          have HW8 := Lib.hid hW8
          have HRG2 := Lib.hid hrg2
          have HO2 := Lib.hid ho2
          have HS2 := Lib.hid hs2
          have HRG := Lib.hid hrg
          have hGw2 : G j < w2.heap.size := by rw [hs2]; omega
          clear e1 hN hM hW8 hrg2 ho2 hs2 hrg hA2 hb
          go_wp2_with (go_at_call 178; refine hsort.mono ?_; rintro e w3 ⟨rfl, d', hP, hA3⟩)
          obtain ⟨Sd, hSd⟩ : ∃ Sd, Sd = d'.toList.map DR.rw := ⟨_, rfl⟩
          have hsl2 : Sd = srtL ((R j).map DR.rw) := by rw [hSd, hP]
          have hperm : Sd.Perm ((R j).map DR.rw) := by rw [hsl2]; exact srtL_perm _
          have hsrt : Srtd Sd := by rw [hsl2]; exact srtL_srtd _
          have hin : ∀ r, r ∈ d'.toList → r.rw ∈ (R j).map DR.rw := fun r hr => hperm.mem_iff.1 (by rw [hSd]; exact List.mem_map.2 ⟨r, hr, rfl⟩)
          have hwid : ∀ r, r ∈ d'.toList → r.d.length = j := fun r hr => by
            obtain ⟨x, hx, he⟩ := List.mem_map.1 (hin r hr)
            have h2 : x.d = r.d := congrArg Rw.d he
            rw [← h2]
            exact HPK.out.wid j hjK x hx
          have hwSd : ∀ r, r ∈ Sd → r.d.length = j := fun r hr => by
            rw [hSd] at hr
            obtain ⟨x, hx, rfl⟩ := List.mem_map.1 hr
            exact hwid x hx
          have hlSd : Sd.length = N := by rw [hSd]; simp [hA3.size]
          have hG3 : G j < w3.heap.size := Nat.lt_of_lt_of_le hGw2 hA3.off.size
          have hof : ∀ r, r ∈ d'.toList → r.off < 18446744073709551616 := fun r hr => by
            have h1 : r.rw ∈ (R j).map DR.rw := hin r hr
            rw [HGA.out.rows j hjK] at h1
            obtain ⟨it, hit, he⟩ := List.mem_map.1 h1
            have h2 : it.off = r.off := congrArg Rw.off he
            have := (HITS.out it (List.mem_filter.1 hit).1).off
            omega
          have HOF := Lib.hid hof
          clear hof
          have HSD := Lib.hid hSd
          have HPM := Lib.hid hperm
          have HWD := Lib.hid hwid
          have HWSD := Lib.hid hwSd
          have HSRT := Lib.hid hsrt
          have HSL2 := Lib.hid hsl2
          have HLS := Lib.hid hlSd
          have HA3 := Lib.hid hA3
          clear hSd hperm hsrt hwid hwSd hlSd hA3 hP hsort hin hsl2
          go_loopg [88] N (fun kx s88 wi => ∃ k : Nat, s88 = .int .i64 k ∧ k ≤ N ∧ N - k ≤ kx ∧ Hid (Off [] w3 wi) ∧ Hid (Blk wi w3.heap.size 5 (Lib.byteCells (rowsB (Sd.take k)) ++ zeroBytes ((N - k) * W8)).toArray))
          case atStart =>
            refine ⟨0, by go_num, by omega, by omega, Lib.hid (Off.alloc (Off.refl [] w3) _), Lib.hid (Blk.new' _ _ _ rfl |>.eq ?_)⟩
            rw [HM8.out]
            simp [rowsB, Lib.byteCells, Nat.mul_comm]
          case round =>
            rename World => wi
            obtain ⟨k, rfl, hkN, hkx, HOi, HBi⟩ := hrel
            by_cases hlt2 : k < N
            · have hltz2 : (k : Int) < (N : Int) := by omega
              have hk0 : (0 : Int) ≤ (k : Int) := by omega
              obtain ⟨c0, c1, hrd⟩ := HA3.out.at k hlt2
              obtain ⟨r, hr⟩ : ∃ r, r = d'[k]! := ⟨_, rfl⟩
              have hmem : r ∈ d'.toList := by rw [hr, get_list d' k (by rw [HA3.out.size]; exact hlt2)]; exact List.getElem_mem _
              have hrl := HWD.out r hmem
              have hro := HOF.out r hmem
              have hsk : Sd.take (k + 1) = Sd.take k ++ [r.rw] := by
                have h1 : k < Sd.length := by rw [HLS.out]; exact hlt2
                have h2 : Sd[k] = r.rw := by simp only [HSD.out, List.getElem_map]; rw [hr, get_list d' k (by rw [HA3.out.size]; exact hlt2)]
                rw [List.take_succ_eq_append_getElem h1, h2]
              rw [← hr] at c0 c1 hrd
              obtain ⟨A4, C4, b4, o4, hrv, _, _⟩ := id hrd
              have hdg := (hrd.dg HA3.out.off).off0 HOi.out
              have hbi := HOi.out.block (G j) hG3 (by simp)
              have d0 : wi.cell? ⟨G j, k * 2, none⟩ = some (.slice A4 r.d.length C4) := by rw [World.cell?_of_block (a := ⟨G j, k * 2, none⟩) hbi, c0, hrv]
              have d1 : wi.cell? ⟨G j, k * 2 + 1, none⟩ = some (.int .u64 (r.off : Int)) := by rw [World.cell?_of_block (a := ⟨G j, k * 2 + 1, none⟩) hbi, c1]
              obtain ⟨o1, ho1⟩ : ∃ o1, o1 = k * W8 := ⟨_, rfl⟩
              obtain ⟨o2, ho2⟩ : ∃ o2, o2 = (k + 1) * W8 := ⟨_, rfl⟩
              have h12 : o2 = o1 + W8 := by rw [ho1, ho2, Nat.succ_mul]
              have h2M : o2 ≤ M := by rw [ho2, HM8.out, Nat.mul_comm W8 N]; exact Nat.mul_le_mul_right _ hlt2
              have hW := HW8.out
              have hk1 : IntKind.i64.wrap ((k : Int) * (W8 : Int)) = (o1 : Int) := by
                have : ((k : Int) * (W8 : Int)) = (o1 : Int) := by rw [ho1, Int.natCast_mul]
                rw [IntKind.wrap_i64, this]; omega
              have hk2 : IntKind.i64.wrap (((k : Int) + 1) * (W8 : Int)) = (o2 : Int) := by
                have : (((k : Int) + 1) * (W8 : Int)) = (o2 : Int) := by rw [ho2, Int.natCast_mul]; rfl
                rw [IntKind.wrap_i64, this]; omega
              have hz1 : (0 : Int) ≤ (o1 : Int) := by omega
              have hz12 : (o1 : Int) ≤ (o2 : Int) := by omega
              have hz2M : (o2 : Int) ≤ (M : Int) := by omega
              have hMo : ¬ M = o1 := by omega
              have hz02 : (0 : Int) ≤ (o2 : Int) := by omega
              have hka : IntKind.i64.wrap ((k : Int) + 1) = (k : Int) + 1 := by rw [IntKind.wrap_i64]; omega
              have hpl : (Lib.byteCells (rowsB (Sd.take k))).length = o1 := by
                rw [Lib.byteCells_length, rowsB_length _ j (fun x hx => HWSD.out x (List.mem_of_mem_take hx)), List.length_take, HLS.out, Nat.min_eq_left (by omega), ← hW, ho1, Nat.mul_comm]
              have hzz : zeroBytes ((N - k) * W8) = zeroBytes W8 ++ zeroBytes ((N - (k + 1)) * W8) := by
                rw [← zeroBytes_append]
                congr 1
                rw [show N - k = (N - (k + 1)) + 1 by omega, Nat.succ_mul, Nat.add_comm]
              have hbk := HBi.out
              rw [hzz] at hbk
              have HC : Hid (∀ W : World, Drew (wi.alloc (.cells #[.slice A4 r.d.length C4, .int .u64 (r.off : Int)] 313)) W → Calls Tryz.prog 179 #[.agg #[.slice A4 r.d.length C4, .int .u64 (r.off : Int)], .slice (some ⟨w3.heap.size, o1, none⟩) (o2 - o1) (M - o1)] W fun e w' =>
                  e = .returned (.tuple #[]) ∧ Blk w' w3.heap.size 5 (Lib.byteCells (rowsB (Sd.take (k + 1))) ++ zeroBytes ((N - (k + 1)) * W8)).toArray ∧ Off [w3.heap.size] W w') := fun W hW' => by
                have h1 := drWrite_any r w3.heap.size o1 (M - o1) (o2 - o1) 5 (Lib.byteCells (rowsB (Sd.take k))) (zeroBytes W8) (zeroBytes ((N - (k + 1)) * W8)) W ((hdg.off0 (Off.alloc (Off.refl [] wi) _)).off0 (Off.ofDrew hW')) hro (by omega) (by rw [zeroBytes_length]; omega) hpl (by omega) (by omega) (fun _ _ _ _ => trivial) (hW'.blk (hbk.alloc _))
                rw [hrv] at h1
                refine h1.mono fun e w' ⟨q1, q2, q3⟩ => ⟨q1, q2.eq ?_, q3⟩
                rw [hsk]
                simp only [rowsB, List.flatMap_append, List.flatMap_cons, List.flatMap_nil, List.append_nil, Lib.byteCells_append, List.append_assoc]
                rfl
              have HOK2 := Lib.hid h2M
              have hX0 : (wi.alloc (.cells #[.slice A4 r.d.length C4, .int .u64 (r.off : Int)] 313)).cell? ⟨wi.heap.size, 0, none⟩ = some (.slice A4 r.d.length C4) := (Blk.new' wi 313 #[.slice A4 r.d.length C4, .int .u64 (r.off : Int)] rfl).cell 0
              have hX1 : (wi.alloc (.cells #[.slice A4 r.d.length C4, .int .u64 (r.off : Int)] 313)).cell? ⟨wi.heap.size, 1, none⟩ = some (.int .u64 (r.off : Int)) := (Blk.new' wi 313 #[.slice A4 r.d.length C4, .int .u64 (r.off : Int)] rfl).cell 1
              have HBX := Lib.hid (Blk.new' wi 313 #[.slice A4 r.d.length C4, .int .u64 (r.off : Int)] rfl)
              have hwi : w3.heap.size < wi.heap.size := HBi.out.lt
              clear hsk hzz hpl hbk hW hbi c0 c1 hr hrd hdg hmem hrl hro h12 h2M ho1 ho2
              go_wp2_with fail
              go_region_held3 (fun w' => w'.cell? ⟨wi.heap.size, 0, none⟩ = some (.slice A4 r.d.length C4) ∧ w'.cell? ⟨wi.heap.size, 1, none⟩ = some (.int .u64 (r.off : Int)))
                (first | (exact ⟨hX0, hX1⟩) | (exact ⟨hY0, hY1⟩)) (first | (go_at_call 179; refine (HC.out _ (by repeat' (first | exact Drew.refl _ | exact Drew.one _ | refine Drew.more ?_ 1))).mono ?_; rintro e w5 ⟨rfl, hB5, hO5⟩; have hBY := hO5.blk HBX.out (by simp; omega); have hY0 : w5.cell? ⟨wi.heap.size, 0, none⟩ = some (.slice A4 r.d.length C4) := hBY.cell 0; have hY1 : w5.cell? ⟨wi.heap.size, 1, none⟩ = some (.int .u64 (r.off : Int)) := hBY.cell 1; have HB5 := Lib.hid hB5; have HO5 := Lib.hid hO5; clear hBY hB5 hO5))
              all_goals
                go_wp2_with fail
                go_roundg (N - (k + 1))
                case measure => omega
                case rel => exact ⟨k + 1, by go_num, by omega, Nat.le_refl _, Lib.hid ((HOi.out.then (Off.alloc (Off.refl [] wi) _) (fun x hx => by simp at hx)).next HO5.out ⟨rfl, rfl, rfl, rfl⟩ (fun x hx => by simp at hx; right; omega)), HB5⟩
            · obtain rfl : k = N := by omega
              have hltz2 : ¬ (k : Int) < (k : Int) := by omega
              go_wp2_with fail
              obtain ⟨V2, C2, hmp2, hrow2⟩ := HPK.out.mw.ex
              have hkS : (R j).length = k := HN.out.symm
              have hW := HW8.out
              have hpmlt : pb < w.heap.size := World.block_lt_of_cell? w _ HP.out
              have hs23 := HA3.out.off.size
              have hs3i : w3.heap.size < wi.heap.size := HBi.out.lt
              have hsq2 := HS2.out
              have hO2 : Off [wr.heap.size, G j] wq wi := ((HO2.out.mono (S' := [wr.heap.size, G j]) (fun x hx => by simp at hx; simp [hx])).then HA3.out.off (fun x hx => by simp at hx; simp [hx])).then HOi.out (fun x hx => by simp at hx)
              have hwi : Off [mm, wr.heap.size, G j] w wi := (HPK.out.off.mono (S' := [mm, wr.heap.size, G j]) (fun x hx => by simp at hx; simp [hx])).then hO2 (fun x hx => by simp at hx; rcases hx with rfl | rfl <;> simp)
              have hpc : wi.cell? ⟨pb, po, none⟩ = some (.map (some mm)) := by
                rw [World.cell?_of_block (a := ⟨pb, po, none⟩) (hwi.block pb hpmlt (by simp; omega))]; exact HP.out
              have hpc1 : (wi.alloc (.cells #[.int .u32 (W8 : Int), .int .u64 (k : Int), .slice (some ⟨w3.heap.size, 0, none⟩) M M] 318)).cell? ⟨pb, po, none⟩ = some (.map (some mm)) := by
                rw [World.cell?_alloc_lt wi _ _ (by have := hwi.size; show pb < _; omega)]; exact hpc
              have hY := Blk.new' wi 318 #[.int .u32 (W8 : Int), .int .u64 (k : Int), .slice (some ⟨w3.heap.size, 0, none⟩) M M] rfl
              have hY0 : (wi.alloc (.cells #[.int .u32 (W8 : Int), .int .u64 (k : Int), .slice (some ⟨w3.heap.size, 0, none⟩) M M] 318)).cell? ⟨wi.heap.size, 0, none⟩ = some (.int .u32 (W8 : Int)) := hY.cell 0
              have hY1 : (wi.alloc (.cells #[.int .u32 (W8 : Int), .int .u64 (k : Int), .slice (some ⟨w3.heap.size, 0, none⟩) M M] 318)).cell? ⟨wi.heap.size, 1, none⟩ = some (.int .u64 (k : Int)) := hY.cell 1
              have hY2 : (wi.alloc (.cells #[.int .u32 (W8 : Int), .int .u64 (k : Int), .slice (some ⟨w3.heap.size, 0, none⟩) M M] 318)).cell? ⟨wi.heap.size, 2, none⟩ = some (.slice (some ⟨w3.heap.size, 0, none⟩) M M) := hY.cell 2
              have hmpi := (hmp2.off hO2 (by simp; omega)).off (Off.alloc (Off.refl [] wi) (.cells #[.int .u32 (W8 : Int), .int .u64 (k : Int), .slice (some ⟨w3.heap.size, 0, none⟩) M M] 318)) (by simp)
              have hmpd := hmpi.off (Off.drew (Off.refl [] _)) (by simp)
              have hDlen : D.length ≤ 1000000 := by
                have h1 : D.Nodup := HPK.out.mw.nodup
                have h2 : K.Nodup := HGA.out.mp.nodup
                have h3 : D.length ≤ K.length := nodup_len D K h1 (fun x hx => ((HPK.out.dmem x).1 hx).1)
                have h4 := HGA.out.mp.le
                simp [ints] at h4
                rw [← HNL.out] at h4
                omega
              obtain ⟨w6, hrun6, hmp6, ho6, hs6⟩ := Mp.store hmpd Tryz.underlying262 Tryz.underlying159 (by unfold maxLen; omega) (W8 : Int) (WalkArith.wf_u32 (by omega)) (.agg #[.int .u32 (W8 : Int), .int .u64 (k : Int), .slice (some ⟨w3.heap.size, 0, none⟩) M M])
              have hwu : IntKind.u32.wrap ((j : Int) + 8) = (W8 : Int) := by rw [IntKind.wrap_u32]; omega
              have hwu2 : IntKind.u32.wrap (W8 : Int) = (W8 : Int) := by rw [IntKind.wrap_u32]; omega
              have hju : IntKind.u32.wrap (j : Int) = (j : Int) := by rw [IntKind.wrap_u32]; omega
              have hb6 := hY.drew.off ho6 (by simp; omega)
              have hz0 : w6.cell? ⟨wi.heap.size, 0, none⟩ = some (.int .u32 (W8 : Int)) := hb6.cell 0
              have hz1' : w6.cell? ⟨wi.heap.size, 1, none⟩ = some (.int .u64 (k : Int)) := hb6.cell 1
              have hz2' : w6.cell? ⟨wi.heap.size, 2, none⟩ = some (.slice (some ⟨w3.heap.size, 0, none⟩) M M) := hb6.cell 2
              have hpc6 : w6.cell? ⟨pb, po, none⟩ = some (.map (some mm)) := by
                rw [World.cell?_of_block (a := ⟨pb, po, none⟩) (ho6.block pb (by simp; have := hwi.size; omega) (by simp; omega))]; exact hpc1
              have HMP6 := Lib.hid hmp6
              have HO6 := Lib.hid ho6
              have HROW := Lib.hid hrow2
              have HOW := Lib.hid hO2
              have HWI := Lib.hid hwi
              have HS6 := Lib.hid hs6
              clear hmp6 ho6 hrow2 hO2 hwi hb6 hmpi hmpd hY hmp2 hpc hs6 hW hkS hsq2 hs23 hDlen
              go_region_held3 (fun w' => w'.cell? ⟨pb, po, none⟩ = some (.map (some mm)) ∧ w'.cell? ⟨wi.heap.size, 0, none⟩ = some (.int .u32 (W8 : Int)) ∧ w'.cell? ⟨wi.heap.size, 1, none⟩ = some (.int .u64 (k : Int)) ∧ w'.cell? ⟨wi.heap.size, 2, none⟩ = some (.slice (some ⟨w3.heap.size, 0, none⟩) M M))
                (first | (exact ⟨hpc1, hY0, hY1, hY2⟩) | (exact ⟨hpc6, hz0, hz1', hz2'⟩)) (fail)
              all_goals go_wp2_with fail
              have hLpos := List.length_pos_of_mem hxL
              go_roundg (L.length - 1)
              case measure => omega
              case rel =>
                have hk' := HN.out
                have hW := HW8.out
                have hM' := HM8.out
                have hs23 := HA3.out.off.size
                have hsq2 := HS2.out
                have hl : Sd.length = k := HLS.out
                have hAl : Off [] wi (wi.alloc (.cells #[.int .u32 (W8 : Int), .int .u64 (k : Int), .slice (some ⟨w3.heap.size, 0, none⟩) M M] 318)) := Off.alloc (Off.refl [] wi) _
                have hoff : Off [wr.heap.size, G j, mm] wq w6 := ((HOW.out.mono (S' := [wr.heap.size, G j, mm]) (fun x hx => by simp at hx; rcases hx with rfl | rfl <;> simp)).then hAl (fun x hx => by simp at hx)).next HO6.out ⟨rfl, rfl, rfl, rfl⟩ (fun x hx => by simp at hx; simp [hx])
                have hrg6 : Rg Tryz.prog 3 .i64 w6 w.heap.size wr.heap.size (2 * its.length) (ints K) (fun x => V x.toNat) (L.erase (j : Int)) :=
                  ((((HRG2.out.off HA3.out.off (by simp; omega) (by simp; omega)).off HOi.out (by simp) (by simp)).off hAl (by simp) (by simp)).off (Off.drew (Off.refl [] _)) (by simp) (by simp)).off HO6.out (by simp; omega) (by simp; omega)
                have hseg : Seg w6 w3.heap.size 0 (rowsB Sd) := by
                  have h1 := HBi.out
                  rw [List.take_of_length_le (by omega)] at h1
                  exact ((h1.seg.off hAl (by simp)).off (Off.drew (Off.refl [] _)) (by simp)).off HO6.out (by simp; omega)
                have hmp := MpN.stored (K := D.map (· + 8)) (V := V2) (m := W8) HMP6.out
                refine ⟨L.erase (j : Int), D ++ [j], fun x => if x = j then Sd else S x, by rw [List.length_erase_of_mem hxL]; exact Nat.le_refl _, HPK.out.step j hjK hxL hoff hrg6 V2 C2 w3.heap.size Sd HROW.out ?_ (by omega) (by rw [HS6.out]; simp; omega) hseg ?_ HSRT.out, ?_⟩
                · have e : swv j Sd.length w3.heap.size = .agg #[.int .u32 (W8 : Int), .int .u64 (k : Int), .slice (some ⟨w3.heap.size, 0, none⟩) M M] := by
                    unfold swv
                    rw [hl, ← hW, ← hM']
                  rw [e, ← hW]
                  exact hmp
                · exact HPM.out
                · intro x hx
                  by_cases he : x = j
                  · subst he; simp only [if_true]; exact HSL2.out
                  · simp only [if_neg he]
                    rcases List.mem_append.1 hx with h1 | h1
                    · exact HSL.out x h1
                    · simp at h1; exact absurd h1 he
end Go.Proofs.YthmhnknkidkdlaaGreatDoor
