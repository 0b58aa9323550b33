/-
  laws.FnIxLengths: an index of entries with digests of given lengths.
  (No condition beyond those that each theorem states.)
-/
import Derived.Test.YtcgggcjmmphldaaGreatDoorHm1
import Derived.Test.YtcgggcjmmphldaaGreatDoorHn1
import Derived.Test.YtcgggcjmmphldaaGreatDoorHo1
namespace Go.Proofs.YtcgggcjmmphldaaGreatDoor
open Go.RowKit

set_option maxRecDepth 100000 in
set_option maxHeartbeats 8000000 in
theorem lengths_true (ns : List Nat) (A : Option Addr) (ib io c n kind : Nat) (a : Addr) (w : World) (hn : ns.length = n) (hat : U16At w A ib io ns) (h16 : ∀ m, m ∈ ns → m < 65536)
    (hE : w.cell? ⟨0, 0, none⟩ = some (notF a)) :
    Calls Tryz.prog 6 #[.slice A n c, .int .u64 (kind : Int)] w fun r w' => r = .returned (.bool true) ∧ Off [] w w' := by
  obtain ⟨i0, hi, hz0, hz1, hz2⟩ := info_parts Tryz.infoEnt2
  obtain ⟨i8, hi8, hw0, hw1, hw2⟩ := info_parts Tryz.infoByte
  have HN := Lib.hid hn
  have HAT := Lib.hid hat
  have HE := Lib.hid hE
  have H16 := Lib.hid h16
  clear hn hat hE h16
  by_cases hbig : n ≤ 2147483647
  case neg =>
    have hz : (n : Int) > 2147483647 := by omega
    go_enter Tryz.func6, Tryz.ntmps6
    go_wp2_with fail
    go_ret
    exact ⟨rfl, Off.refl [] w⟩
  by_cases hn40 : n ≤ 40
  case neg =>
    have hz : ¬ (n : Int) > 2147483647 := by omega
    have hz2 : (n : Int) > 40 := by omega
    go_enter Tryz.func6, Tryz.ntmps6
    go_wp2_with fail
    go_ret
    exact ⟨rfl, Off.refl [] w⟩
  have hz : ¬ (n : Int) > 2147483647 := by omega
  have hz2 : ¬ (n : Int) > 40 := by omega
  by_cases hk : kind = 1024 ∨ kind = 1025
  case neg =>
    have hk1 : ((kind : Int) == 1024) = false := beq_eq_false_iff_ne.2 (by omega)
    have hk2 : ((kind : Int) == 1025) = false := beq_eq_false_iff_ne.2 (by omega)
    have hk3 : ((kind : Int) != 1024) = true := by rw [bne, hk1]; rfl
    have hk4 : ((kind : Int) != 1025) = true := by rw [bne, hk2]; rfl
    clear hk
    go_enter Tryz.func6, Tryz.ntmps6
    go_wp2_with fail
    go_ret
    exact ⟨rfl, Off.refl [] w⟩
  have HK := Lib.hid hk
  go_enter Tryz.func6, Tryz.ntmps6
  go_upto_region 3 with fail
  go_cut [33] from 23 to 33 (fun s33 wx => s33 = .bool false ∧ w = wx)
  case first =>
    rcases hk with rfl | rfl
    · go_wp2_with fail
      go_meet
      exact ⟨rfl, rfl⟩
    · go_wp2_with fail
      go_meet
      exact ⟨rfl, rfl⟩
  case rest =>
    obtain ⟨rfl, rfl⟩ := hcut
    clear hk hz hz2
    go_wp2_with fail
    go_loopg [5, 36] n (fun kx s5 s36 wr => ∃ k : Nat, s36 = .int .i64 (k : Int) ∧ k ≤ n ∧ n - k ≤ kx ∧ Hid (RowE wr w.heap.size s5 (lnEs (ns.take k)) ∧ Off [] w wr) ∧ Hid (∀ m, m ∈ ns.take k → m ≤ 300))
    case atStart => exact ⟨0, rfl, Nat.zero_le _, by omega, Lib.hid ⟨by rw [List.take_zero]; exact World.ownsRow_nil _ _ _ _, Off.refl _ _⟩, Lib.hid (fun m hm => by simp at hm)⟩
    case round =>
      rename World => wr
      obtain ⟨k, rfl, hkn, hkx, hh, hall⟩ := hrel
      by_cases hlt : k < n
      · have hkl : k < ns.length := by have := HN.out; omega
        have hat := HAT.out.off hh.out.2
        obtain ⟨hA, hib⟩ := hat.at_ (by omega)
        have hc := hat.cells k hkl
        obtain ⟨nk, hnk⟩ : ∃ m, m = ns[k] := ⟨_, rfl⟩
        rw [← hnk] at hc
        have hn16 : nk < 65536 := H16.out nk (by rw [hnk]; exact List.getElem_mem _)
        have HNK := Lib.hid (show ∃ h : k < ns.length, nk = ns[k] from ⟨hkl, hnk⟩)
        clear hat hnk hkl
        subst hA
        by_cases h300 : nk ≤ 300
        · have hz3 : ¬ (nk : Int) > 300 := by omega
          have hmk := fun W => run_makeBytes (P := Tryz.prog) Tryz.underlying46 hi8 hw0 hw1 hw2 nk (by omega) W (k := .u16)
          go_wp2_with fail
          have HHO := Lib.hid (show Off [] wr (wr.alloc (.cells (zeroBytes nk).toArray 5)) from (Off.refl [] wr).alloc _)
          have HB0 := Lib.hid (show Blk (wr.alloc (.cells (zeroBytes nk).toArray 5)) wr.heap.size 5 (Lib.byteCells (List.replicate 0 (lnB k) ++ List.replicate (nk - 0) 0)).toArray from Blk.new _ _ _)
          clear hmk hc
          go_loopg [47] nk (fun kx s47 wq => ∃ j : Nat, s47 = .int .i64 (j : Int) ∧ j ≤ nk ∧ nk - j ≤ kx ∧ Hid (Off [] wr wq ∧ Blk wq wr.heap.size 5 (Lib.byteCells (List.replicate j (lnB k) ++ List.replicate (nk - j) 0)).toArray))
          case atStart => exact ⟨0, rfl, Nat.zero_le _, by omega, Lib.hid ⟨HHO.out, HB0.out⟩⟩
          case round =>
            rename World => wq
            obtain ⟨j, rfl, hjn, hkx2, hq⟩ := hrel
            by_cases hlt2 : j < nk
            · have hblk := hq.out.2
              have hcj : wq.cell? ⟨wr.heap.size, j, none⟩ = (Lib.byteCells (List.replicate j (lnB k) ++ List.replicate (nk - j) 0)).toArray[j]? := hblk.cell j
              have hcs : ∃ u, wq.cell? ⟨wr.heap.size, j, none⟩ = some u := ⟨_, by rw [hcj, List.getElem?_toArray, List.getElem?_eq_getElem (by rw [Lib.byteCells_length, List.length_append, List.length_replicate, List.length_replicate]; omega)]⟩
              obtain ⟨uj, huj⟩ := hcs
              have hfj := hblk.frozen j
              clear hblk hcj
              go_wp2_with fail
              go_roundg (nk - (j + 1))
              case measure => omega
              case rel =>
                refine ⟨j + 1, rfl, by omega, by omega, Lib.hid ⟨hq.out.1.setCell (p := ⟨wr.heap.size, j, none⟩) (Or.inr (Nat.le_refl _)) _, ?_⟩⟩
                rw [← fill_step j nk (lnB k) hlt2, lnB_int k (by omega)]
                exact hq.out.2.set_ j _
            · obtain rfl : nk = j := by omega
              have hblk := hq.out.2
              rw [Nat.sub_self, List.replicate_zero, List.append_nil] at hblk
              have hcv := run_convert_seg (P := Tryz.prog) (src := 46) (e := 5) (dst := 9) Tryz.underlying46 Tryz.underlying5 Tryz.underlying9 nk hblk.seg'
              rw [List.length_replicate] at hcv
              obtain ⟨dg, hdg⟩ : ∃ dg, dg = str (List.replicate nk (lnB k)) := ⟨_, rfl⟩
              rw [← hdg] at hcv
              have harr : (#[.int .u64 1, .int .u64 85, .int .u64 18, .string dg, .int .u64 ((k : Int) * 72057594037927936)] : Array Value) = (entC (lnE k nk)).toArray := by
                rw [hdg]
                simp [entC, lnE]
              have HNEW : Hid (∀ (q : Nat) (x : Value), (entC (lnE k nk))[q]? = some x → (wq.alloc (.cells #[.int .u64 1, .int .u64 85, .int .u64 18, .string dg, .int .u64 ((k : Int) * 72057594037927936)] 27)).cell? ((⟨wq.heap.size, 0, none⟩ : Addr).add q) = some x) := Lib.hid (fun q x hx => by
                rw [harr, add_plain, Nat.zero_add, (Blk.new wq 27 (entC (lnE k nk)).toArray).cell, List.getElem?_toArray]
                exact hx)
              have hle : (lnEs (ns.take k)).length = k := by
                rw [lnEs_len, List.length_take]
                have := HN.out
                omega
              have HOWN : Hid (World.ownsRow (wq.alloc (.cells #[.int .u64 1, .int .u64 85, .int .u64 18, .string dg, .int .u64 ((k : Int) * 72057594037927936)] 27)) w.heap.size 27 5 u5 k (entsC (lnEs (ns.take k)))) := Lib.hid (by
                have h := hh.out.1.off (hq.out.1.alloc (.cells #[.int .u64 1, .int .u64 85, .int .u64 18, .string dg, .int .u64 ((k : Int) * 72057594037927936)] 27)) (fun x _ => by simp)
                unfold RowE at h
                rw [hle] at h
                exact h)
              have HWS := Lib.hid (Nat.le_trans hh.out.2.size hq.out.1.size)
              clear hblk hdg hlt2 hkx2 harr hle
              go_wp2_with (first
                | (at_builtin
                   refine wpList_append_own_at _ rfl _ _ 22 rfl w.heap.size 27 i0 _ 5 48 Tryz.underlying22 hi hz0 hz1 hz2 rfl (by decide) u5 k (entsC (lnEs (ns.take k))) rfl HOWN.out ⟨wq.heap.size, 0, none⟩ 1 1 (entC (lnE k nk)) rfl rfl HNEW.out (entC_one _) (by unfold maxLen; omega) (by omega) (by have := HWS.out; simp; omega) ?_
                   intro v5 w5 hown5 hgr hnil hat5
                   have HO5 := Lib.hid hown5
                   have HG5 := Lib.hid hgr
                   clear hown5 hgr hnil hat5))
              go_roundg (n - (k + 1))
              case measure => omega
              case rel =>
                obtain ⟨h1, h2⟩ := HNK.out
                have hsn := lnEs_snoc ns k h1
                rw [← h2] at hsn
                refine ⟨k + 1, rfl, by omega, by omega, Lib.hid ⟨?_, ?_⟩, Lib.hid (fun m hm => ?_)⟩
                · have e : (lnEs (ns.take (k + 1))).length = k + 1 := by rw [lnEs_len, List.length_take]; have := HN.out; omega
                  show World.ownsRow _ _ _ _ _ (lnEs (ns.take (k + 1))).length (entsC (lnEs (ns.take (k + 1))))
                  rw [e, hsn, entsC_snoc]
                  exact HO5.out
                · exact hh.out.2.then ((hq.out.1.mono (S' := ob u5) (fun x hx => by simp at hx)).alloc _ |>.then (off_grown_own (S := ob u5) HG5.out (fun g hg => by simp [ob, hg])) (fun x hx => Or.inl hx)) (fun x hx => Or.inr (hh.out.1.base x hx))
                · rw [List.take_succ_eq_append_getElem h1] at hm
                  rcases List.mem_append.1 hm with hm | hm
                  · exact hall.out m hm
                  · rw [List.mem_singleton.1 hm, ← h2]; exact h300
        · have hz3 : (nk : Int) > 300 := by omega
          go_wp2_with fail
          go_ret
          exact ⟨rfl, hh.out.2⟩
      · obtain rfl : n = k := by omega
        have htk : ns.take n = ns := List.take_of_length_le (by have := HN.out; omega)
        have hrow := hh.out.1
        have hallo := hall.out
        rw [htk] at hrow hallo
        obtain ⟨es, hes⟩ : ∃ es, es = lnEs ns := ⟨_, rfl⟩
        rw [← hes] at hrow
        have hel : es.length = n := by rw [hes, lnEs_len]; exact HN.out
        have HOK : Hid (∀ e, e ∈ es → e.ok) := Lib.hid (by rw [hes]; exact lnEs_ok ns hallo (by have := HN.out; omega))
        have HV1 : Hid (∀ e, e ∈ es → e.ver = 1 ∧ e.codec = 85 ∧ e.code = 18) := Lib.hid (by
          rw [hes]
          intro e he
          obtain ⟨i, hi, rfl⟩ := List.mem_mapIdx.1 he
          exact ⟨rfl, rfl, rfl⟩)
        obtain ⟨A', ib', c', rfl, hA', hE'⟩ := hrow.ents
        rw [hel]
        have HEL := Lib.hid hel
        have HAT' := Lib.hid hE'
        have HO := Lib.hid hh.out.2
        clear hlt hkx htk hrow hallo hes hA' hE' hel hh hall HAT H16 HN
        go_wp2_with (first
          | (go_at_call 11
             refine (ixBytes_enc kind HK.out es A' ib' 0 c' n wr HOK.out HEL.out (by omega) HAT'.out).mono ?_
             rintro r w6 ⟨s6, hs6, rfl, ho6⟩
             obtain ⟨b6, hb6⟩ : ∃ b, b = (⟨s6.toArray⟩ : ByteArray) := ⟨_, rfl⟩
             rw [← hb6]
             have HS6 := Lib.hid hs6
             have HB6 := Lib.hid hb6
             have HAT6 := Lib.hid (HAT'.out.off ho6 (by simp))
             have P6 := Lib.hid (HO.out.then ho6 (fun x hx => by simp at hx))
             clear hs6 hb6 ho6))
        clear HAT' HO
        go_loopg [76] n (fun kx s76 wq => ∃ j : Nat, s76 = .int .i64 (j : Int) ∧ j ≤ n ∧ n - j ≤ kx ∧ Hid (Off [] w6 wq))
        case atStart => exact ⟨0, rfl, Nat.zero_le _, by omega, Lib.hid (Off.refl [] w6)⟩
        case round =>
          rename World => wq
          obtain ⟨j, rfl, hjn, hkx, HQ⟩ := hrel
          by_cases hlt : j < n
          · have hje : j < es.length := by have := HEL.out; omega
            have hat := HAT6.out.off HQ.out (by simp)
            obtain ⟨hA, hib⟩ := hat.at_ (by omega)
            obtain ⟨c0, c1, c2, c3, c4⟩ := hat.cells j hje
            obtain ⟨e, he⟩ : ∃ e, e = es[j] := ⟨_, rfl⟩
            rw [← he, Nat.zero_add] at c0 c1 c2 c3 c4
            have HMEM := Lib.hid (show e ∈ es by rw [he]; exact List.getElem_mem _)
            clear hat he hje
            subst hA
            obtain ⟨wx, hwx⟩ : ∃ wx, wx = wq.alloc (.cells #[.int .u64 (e.ver : Int), .int .u64 (e.codec : Int), .int .u64 (e.code : Int), .string e.dg, .int .u64 (e.off : Int)] 27) := ⟨_, rfl⟩
            have hox : Off [] wq wx := by rw [hwx]; exact (Off.refl [] wq).alloc _
            have hbx : Blk wx wq.heap.size 27 #[.int .u64 (e.ver : Int), .int .u64 (e.codec : Int), .int .u64 (e.code : Int), .string e.dg, .int .u64 (e.off : Int)] := by rw [hwx]; exact Blk.new _ _ _
            have HBX : Hid (∀ W, Off [] wx W → W.cell? ⟨wq.heap.size, 0, none⟩ = some (.int .u64 (e.ver : Int)) ∧ W.cell? ⟨wq.heap.size, 1, none⟩ = some (.int .u64 (e.codec : Int)) ∧ W.cell? ⟨wq.heap.size, 2, none⟩ = some (.int .u64 (e.code : Int)) ∧ W.cell? ⟨wq.heap.size, 3, none⟩ = some (.string e.dg)) := Lib.hid (fun W hW => by
              have h := hbx.off hW (by simp)
              exact ⟨h.cell 0, h.cell 1, h.cell 2, h.cell 3⟩)
            have PX := Lib.hid (HQ.out.then hox (fun x hx => by simp at hx))
            have HWX := Lib.hid hwx
            clear hwx hox hbx
            go_upto_region 23 with fail
            rw [← HWX.out]
            obtain ⟨x0, x1, x2, x3⟩ := HBX.out wx (Off.refl [] wx)
            clear c0 c1 c2 c3 c4
            go_wp2_with (first
              | (go_at_call 12
                 refine (ixAll_enc kind (rws es) s6 HS6.out (by rw [rws, List.length_map, HEL.out]; omega) (rws_small es HOK.out) b6 (by rw [HB6.out]) e (HOK.out e HMEM.out) 1000 (by rw [rws, List.length_map, HEL.out]; omega) a wx ((P6.out.then PX.out (fun x hx => by simp at hx)).cell HE.out (by simp))).mono ?_
                 rintro r w7 ⟨v7, o7, hp7, rfl, hr7, ho7⟩
                 have hne : o7 ≠ [] := fun h => founds_ne kind es e HMEM.out (by rw [h] at hp7; exact hp7.symm.eq_nil)
                 rw [if_neg hne]
                 have HI7 : Hid (In64 w7 v7 (ints o7)) := Lib.hid hr7.in64
                 have HS7' : Hid (srtI (ints o7) = srtI (ints (founds kind (rws es) e.code e.dg.data.toList)) ∧ (ints o7).length ≤ 1000) := Lib.hid ⟨srtI_perm (by unfold ints; exact hp7.map _), by rw [ints, List.length_map, hp7.length_eq]; exact Nat.le_trans (founds_len _ _ _ _) (by rw [rws, List.length_map, HEL.out]; omega)⟩
                 have P7 := Lib.hid ho7
                 clear hp7 hr7 ho7 hne))
            have D7 := Lib.hid P7.out.drew
            go_upto_region 24 with fail
            go_cut [99] from 87 to 99 (fun s99 W => s99 = .bool false ∧ Hid (Off [] wx W))
            case first =>
              have HI7d := Lib.hid (HI7.out.off (Off.refl [] w7).drew)
              go_region_held3 (fun W => W.cell? ⟨wq.heap.size, 0, none⟩ = some (.int .u64 (e.ver : Int)) ∧ W.cell? ⟨wq.heap.size, 1, none⟩ = some (.int .u64 (e.codec : Int)) ∧ W.cell? ⟨wq.heap.size, 2, none⟩ = some (.int .u64 (e.code : Int)) ∧ W.cell? ⟨wq.heap.size, 3, none⟩ = some (.string e.dg)) (first | exact HBX.out _ P7.out | exact HBX.out _ D7.out | exact HBX.out _ P8.out | exact HBX.out _ P8d.out | exact HBX.out _ P9.out | exact HBX.out _ P9d.out | exact HBX.out _ P10.out) (first
                | (go_at_call 13
                   refine (ixSame_r w9 v8 _ _ HR8.out HR9.out (by rw [srtI_len]; rw [ints, List.length_map]; exact Nat.le_trans (founds_len _ _ _ _) (by rw [rws, List.length_map, HEL.out]; omega))).mono ?_
                   rintro r w10 ⟨rfl, ho10⟩
                   have P10 := Lib.hid (P9.out.then ho10 (fun x hx => by simp at hx))
                   clear ho10)
                | (go_at_call 20
                   refine (specOffsets_any es (some ⟨ib', 0, none⟩) ib' 0 c' n kind e w8 HK.out HEL.out (by omega) ((HAT6.out.off PX.out (by simp)).off P8.out (by simp))).mono ?_
                   rintro r w9 ⟨v9, rfl, hr9, ho9⟩
                   have HR9 := Lib.hid hr9.r64
                   have HR8 := Lib.hid (HR8.out.off ho9)
                   have P9 := Lib.hid (P8.out.then ho9 (fun x hx => by simp at hx))
                   have P9d := Lib.hid P9.out.drew
                   clear hr9 ho9)
                | (go_at_call 14
                   refine (ixSorted_in w7.drew v7 (ints o7) HI7d.out HS7'.out.2).mono ?_
                   rintro r w8 ⟨v8, rfl, hr8, ho8⟩
                   rw [HS7'.out.1] at hr8
                   have HR8 := Lib.hid hr8
                   have P8 := Lib.hid (D7.out.then ho8 (fun x hx => by simp at hx))
                   have P8d := Lib.hid P8.out.drew
                   clear hr8 ho8))
              all_goals go_wp2_with fail
              all_goals go_meet
              all_goals exact ⟨rfl, P10⟩
            case rest =>
              obtain ⟨rfl, P10⟩ := hcut
              rename World => wc
              clear HI7 HS7' P7 D7 x0 x1 x2 x3
              obtain ⟨y0, y1, y2, y3⟩ := HBX.out wc P10.out
              by_cases hsz : e.dg.size ≤ 1
              · have hz : ¬ (e.dg.size : Int) > 1 := by omega
                go_wp2_with fail
                go_roundg (n - (j + 1))
                case measure => omega
                case rel => exact ⟨j + 1, rfl, by omega, by omega, Lib.hid (PX.out.then P10.out (fun x hx => by simp at hx))⟩
              · have hz : (e.dg.size : Int) > 1 := by omega
                have hsml : e.dg.size ≤ 1000 := by
                  have := (HOK.out e HMEM.out).small
                  rw [Array.length_toList] at this
                  exact this
                obtain ⟨wy, hwy⟩ : ∃ wy, wy = wc.alloc (.cells #[.int .u64 (e.ver : Int), .int .u64 (e.codec : Int), .int .u64 (e.code : Int), .string e.dg] 25) := ⟨_, rfl⟩
                have HOY := Lib.hid (show Off [] wc wy by rw [hwy]; exact (Off.refl [] wc).alloc _)
                have HBY := Lib.hid (show Blk wy wc.heap.size 25 #[.int .u64 (e.ver : Int), .int .u64 (e.codec : Int), .int .u64 (e.code : Int), .string e.dg] by rw [hwy]; exact Blk.new _ _ _)
                have HWY := Lib.hid hwy
                clear hwy
                go_upto_region 29 with fail
                rw [← HWY.out]
                have z3 : wy.cell? ⟨wc.heap.size, 3, none⟩ = some (.string e.dg) := HBY.out.cell 3
                have hf3 := HBY.out.frozen 3
                clear y0 y1 y2 y3
                go_upto_region 30 with fail
                obtain ⟨sd, hsd⟩ : ∃ sd, sd = e.dg.extract 0 (e.dg.size - 1) := ⟨_, rfl⟩
                rw [← hsd]
                have hsds : sd.size ≤ 1000 := by rw [hsd, ByteArray.size_extract]; omega
                obtain ⟨wz, hwz⟩ : ∃ wz, wz = wy.setCell ⟨wc.heap.size, 3, none⟩ (.string sd) := ⟨_, rfl⟩
                rw [← hwz]
                obtain ⟨e2, he2⟩ : ∃ e2 : Ent, e2 = ⟨e.ver, e.codec, e.code, sd, e.off⟩ := ⟨_, rfl⟩
                have HOK2 : Hid e2.ok := Lib.hid (by
                  obtain ⟨v1, v2, v3⟩ := HV1.out e HMEM.out
                  rw [he2]
                  refine ⟨Or.inr ⟨v1, ?_, ?_⟩, ?_, (HOK.out e HMEM.out).off⟩
                  · show e.codec < _; omega
                  · show e.code < _; omega
                  · show sd.data.toList.length ≤ 1000
                    rw [Array.length_toList]; exact hsds)
                have PZ : Hid (Off [] wx wz) := Lib.hid (by rw [hwz]; exact (P10.out.then HOY.out (fun x hx => by simp at hx)).setCell (p := ⟨wc.heap.size, 3, none⟩) (Or.inr P10.out.size) _)
                have hbz : Blk wz wc.heap.size 25 #[.int .u64 (e2.ver : Int), .int .u64 (e2.codec : Int), .int .u64 (e2.code : Int), .string e2.dg] := by rw [hwz, he2]; exact HBY.out.set_ 3 _
                have HBZ : Hid (∀ W, Off [] wz W → W.cell? ⟨wc.heap.size, 0, none⟩ = some (.int .u64 (e2.ver : Int)) ∧ W.cell? ⟨wc.heap.size, 1, none⟩ = some (.int .u64 (e2.codec : Int)) ∧ W.cell? ⟨wc.heap.size, 2, none⟩ = some (.int .u64 (e2.code : Int)) ∧ W.cell? ⟨wc.heap.size, 3, none⟩ = some (.string e2.dg)) := Lib.hid (fun W hW => by
                  have h := hbz.off hW (by simp)
                  exact ⟨h.cell 0, h.cell 1, h.cell 2, h.cell 3⟩)
                obtain ⟨z0, z1, z2, z3'⟩ := HBZ.out wz (Off.refl [] wz)
                obtain ⟨fl, hfl⟩ : ∃ fl, fl = (founds kind (rws es) e2.code e2.dg.data.toList).length := ⟨_, rfl⟩
                obtain ⟨fv, hfv⟩ : ∃ fv : Int, fv = if founds kind (rws es) e2.code e2.dg.data.toList = [] then 1 else 0 := ⟨_, rfl⟩
                have HFL := Lib.hid hfl
                have HFV := Lib.hid hfv
                have hcase : (fl = 0 ∧ fv = 1) ∨ (0 < fl ∧ fv = 0) := by
                  by_cases h : founds kind (rws es) e2.code e2.dg.data.toList = []
                  · exact Or.inl ⟨by rw [hfl, h]; rfl, by rw [hfv, if_pos h]⟩
                  · exact Or.inr ⟨by rw [hfl]; exact List.length_pos_iff.2 h, by rw [hfv, if_neg h]⟩
                clear hfl hfv hsd hwz hbz he2 z3 hf3 hsds
                rcases hcase with ⟨hfl0, rfl⟩ | ⟨hfl0, rfl⟩
                · have hq : ¬ (fl : Int) > 0 := by omega
                  clear hfl0
                  go_wp2_with (first
                    | (go_at_call 20
                       refine (specOffsets_any es (some ⟨ib', 0, none⟩) ib' 0 c' n kind e2 w11 HK.out HEL.out (by omega) ((HAT6.out.off PX.out (by simp)).off P11.out (by simp))).mono ?_
                       rintro r w12 ⟨v12, rfl, hr12, ho12⟩
                       obtain ⟨A12, c12, rfl, hu12⟩ := hr12.r64
                       rw [srtI_len, show (ints (founds kind (rws es) e2.code e2.dg.data.toList)).length = (founds kind (rws es) e2.code e2.dg.data.toList).length by simp [ints], ← HFL.out]
                       have P12 := Lib.hid (P11.out.then ho12 (fun x hx => by simp at hx))
                       clear hr12 hu12 ho12)
                    | (go_at_call 12
                       refine (ixAll_enc kind (rws es) s6 HS6.out (by rw [rws, List.length_map, HEL.out]; omega) (rws_small es HOK.out) b6 (by rw [HB6.out]) e2 HOK2.out 1000 (by rw [rws, List.length_map, HEL.out]; omega) a wz (((P6.out.then PX.out (fun x hx => by simp at hx)).then PZ.out (fun x hx => by simp at hx)).cell HE.out (by simp))).mono ?_
                       rintro r w11 ⟨v11, o11, hp11, rfl, hr11, ho11⟩
                       have e11 := flag_eq hp11 HFV.out
                       rw [e11]
                       have P11 := Lib.hid (PZ.out.then ho11 (fun x hx => by simp at hx))
                       obtain ⟨y0, y1, y2, y3⟩ := HBZ.out w11 ho11
                       clear hp11 hr11 ho11 e11))
                  go_roundg (n - (j + 1))
                  case measure => omega
                  case rel => exact ⟨j + 1, rfl, by omega, by omega, Lib.hid (PX.out.then P12.out (fun x hx => by simp at hx))⟩
                · have hq : (0 : Int) < (fl : Int) := by omega
                  have hq2 : decide ((0 : Int) < (fl : Int)) = true := decide_eq_true hq
                  have hq3 : 0 < fl := hfl0
                  clear hfl0
                  go_wp2_with (first
                    | (go_at_call 20
                       refine (specOffsets_any es (some ⟨ib', 0, none⟩) ib' 0 c' n kind e2 w11 HK.out HEL.out (by omega) ((HAT6.out.off PX.out (by simp)).off P11.out (by simp))).mono ?_
                       rintro r w12 ⟨v12, rfl, hr12, ho12⟩
                       obtain ⟨A12, c12, rfl, hu12⟩ := hr12.r64
                       rw [srtI_len, show (ints (founds kind (rws es) e2.code e2.dg.data.toList)).length = (founds kind (rws es) e2.code e2.dg.data.toList).length by simp [ints], ← HFL.out]
                       have P12 := Lib.hid (P11.out.then ho12 (fun x hx => by simp at hx))
                       clear hr12 hu12 ho12)
                    | (go_at_call 12
                       refine (ixAll_enc kind (rws es) s6 HS6.out (by rw [rws, List.length_map, HEL.out]; omega) (rws_small es HOK.out) b6 (by rw [HB6.out]) e2 HOK2.out 1000 (by rw [rws, List.length_map, HEL.out]; omega) a wz (((P6.out.then PX.out (fun x hx => by simp at hx)).then PZ.out (fun x hx => by simp at hx)).cell HE.out (by simp))).mono ?_
                       rintro r w11 ⟨v11, o11, hp11, rfl, hr11, ho11⟩
                       have e11 := flag_eq hp11 HFV.out
                       rw [e11]
                       have P11 := Lib.hid (PZ.out.then ho11 (fun x hx => by simp at hx))
                       obtain ⟨y0, y1, y2, y3⟩ := HBZ.out w11 ho11
                       clear hp11 hr11 ho11 e11))
                  go_roundg (n - (j + 1))
                  case measure => omega
                  case rel => exact ⟨j + 1, rfl, by omega, by omega, Lib.hid (PX.out.then P12.out (fun x hx => by simp at hx))⟩
          · obtain rfl : j = n := by omega
            clear hlt hkx
            go_wp2_with (first
              | (go_at_call 17
                 refine (ixOne_any kind HK.out a wq ((P6.out.then HQ.out (fun x hx => by simp at hx)).cell HE.out (by simp))).mono ?_
                 rintro r w14 ⟨rfl, ho14⟩
                 have P14 := Lib.hid ((P6.out.then HQ.out (fun x hx => by simp at hx)).then ho14 (fun x hx => by simp at hx))
                 clear ho14))
            go_ret
            exact ⟨rfl, P14.out⟩
end Go.Proofs.YtcgggcjmmphldaaGreatDoor
