/-
  spec.Rows at 1025: what an index says of entries.
  laws.FnIxEach: ForEach tells each entry once.
  PROVED: for every input laws.FnIxEach returns true, and its arguments read behind the call as they read before (the card: the listed package-level variables are tied to the program's text). No condition of its own.
  (No condition beyond those that each theorem states.)
-/
import Derived.Test.YtcgggcjmmphldaaGreatDoorHp2
import Derived.Test.YtcgggcjmmphldaaGreatDoorHm1
import Derived.Test.YtcgggcjmmphldaaGreatDoorHl1
import Derived.Test.YtcgggcjmmphldaaGreatDoorCards
import Derived.Test.YtcgggcjmmphldaaGreatDoorTie
import Derived.Test.YtcgggcjmmphldaaGreatDoorHa6
import Derived.Stop.LaidErr
import Derived.MakeChecks
import Derived.ChangeMaps5
import Derived.WideKeyArgs
import Derived.Carry
import Derived.ProofKit
import Derived.OpenShut
import Derived.ChangeSame
import Derived.Lib.SmallJoins
import Derived.Deep.DeepHandedRow
import Derived.Deep.DeepWitnessRowRef
namespace Go.Proofs.YtcgggcjmmphldaaGreatDoor
open Go.RowKit Go.Sort

theorem new_row (W : World) (e : Ent) (t : TypeId) (g : Nat) (hg : W.heap.size = g) : ∀ (j : Nat) (u : Value), (rowC e)[j]? = some u → (W.alloc (.cells #[.int .u64 (e.code : Int), .string e.dg, .int .u64 (e.off : Int)] t)).cell? ((⟨g, 0, none⟩ : Addr).add j) = some u := fun j u hu => by
  subst hg
  have h := Blk.new W t #[.int .u64 (e.code : Int), .string e.dg, .int .u64 (e.off : Int)]
  rw [add_plain, Nat.zero_add, h.cell]
  simpa [rowC] using hu

set_option maxRecDepth 100000 in
set_option maxHeartbeats 4000000 in
theorem rows_1025 (es : List Ent) (A : Option Addr) (ib io c n : Nat) (w : World) (hes : ∀ e, e ∈ es → e.ok) (hn : es.length = n) (hn2 : n ≤ 100) (hat : EntsAt w A ib io es) :
    Calls Tryz.prog 21 #[.slice A n c, .int .u64 1025] w fun r w' => ∃ v l H, r = .returned v ∧ CGrp (rws es) H ∧ l.map rwE = cflat H ∧ RowR w' w.heap.size v l ∧ Off [] w w' := by
  obtain ⟨i0, hi, hz0, hz1, hz2⟩ := info_parts Tryz.infoSlE
  obtain ⟨i1, hi1, hy0, hy1, hy2⟩ := info_parts Tryz.infoRow
  have hc64 : ∀ e, e ∈ es → e.code < 18446744073709551616 := fun e he => by rcases (hes e he).ver with ⟨_, _, h, _⟩ | ⟨_, _, h⟩ <;> omega
  have HC : Hid (∀ W, Off [] w W → _) := Lib.hid (fun W hW => codes_any es A ib io c n W hn (by omega) hc64 (hat.off hW (by simp)))
  have HES := Lib.hid hes
  have HN := Lib.hid hn
  have HAT := Lib.hid hat
  have HIB := Lib.hid (fun h0 : 0 < es.length => (hat.at_ h0).2)
  clear hes hn hat hc64
  go_enter Tryz.func21, Tryz.ntmps21
  go_wp2_with (first
    | (go_at_call 31
       have hoA : Off [] w (w.alloc (.cells #[.slice A n c] 22)) := (Off.refl [] w).alloc _
       refine (HC.out _ hoA).mono ?_
       rintro r w1 ⟨vC, outs, rfl, hnd, hmem, hrow, ho1⟩
       obtain ⟨Cs, hasc, hmem2, hsrt, hlen⟩ := asc_of_outs outs hnd
       obtain ⟨AC, bC, oC, cC, rfl, hAC, hcC⟩ := intsAt_of_srt hrow hsrt hlen
       have HO1 := Lib.hid (hoA.then ho1 (fun x hx => by simp at hx))
       have hkle : Cs.length ≤ 100 := by
         have h1 := nodup_lenN Cs (es.map fun e => e.code) (nodup_asc hasc) (fun k hk => by
           obtain ⟨e, he, rfl⟩ := (hmem k).1 ((hmem2 k).1 hk)
           exact List.mem_map.2 ⟨e, he, rfl⟩)
         rw [List.length_map, HN.out] at h1
         omega
       have HCS := Lib.hid (And.intro hasc (show ∀ k, k ∈ Cs ↔ ∃ e, e ∈ es ∧ e.code = k from fun k => (hmem2 k).trans (hmem k)))
       have HAC := Lib.hid hAC
       have HCC := Lib.hid hcC
       obtain ⟨kc, hkc⟩ : ∃ k, k = Cs.length := ⟨_, rfl⟩
       have HKC := Lib.hid hkc
       rw [← hkc] at hkle ⊢
       clear hoA hnd hmem hrow ho1 hasc hmem2 hsrt hlen hAC hcC hkc))
  go_loopg [5, 24] kc (fun kx s5 s24 wr => ∃ i : Nat, s24 = .int .i64 (i : Int) ∧ i ≤ kc ∧ kc - i ≤ kx ∧ Hid (∃ Vs, GrI w1 wr es Cs i s5 Vs))
  case atStart => exact ⟨0, rfl, Nat.zero_le _, by omega, Lib.hid ⟨[], Off.refl _ _, rfl, World.ownsRow_nil _ _ _ _, fun k hk => by simp at hk⟩⟩
  case round =>
    rename World => wr
    obtain ⟨i, rfl, hik, hkx, hh⟩ := hrel
    obtain ⟨Vs, hG⟩ := hh.out
    have HG := Lib.hid hG
    clear hh hG
    by_cases hlt : i < kc
    · have hic : i < Cs.length := by have := HKC.out; omega
      obtain ⟨hA, hbl⟩ := HAC.out (by omega)
      have hcc := HG.out.off.cell (HCC.out i hic) (by simp)
      obtain ⟨c1, hc1⟩ : ∃ m, m = Cs[i] := ⟨_, rfl⟩
      rw [← hc1] at hcc
      have HC1 := Lib.hid (show Cs[i]? = some c1 by rw [hc1]; exact List.getElem?_eq_getElem hic)
      clear hc1 hic
      subst hA
      go_wp2_with (first
        | (at_builtin
           refine wpList_append_own_at _ rfl _ _ 59 rfl w1.heap.size 22 i0 _ 1 24 Tryz.underlying59 hi hz0 hz1 hz2 rfl (by decide) u5 i Vs rfl HOWN.out ⟨w31.heap.size, 0, none⟩ 1 1 [.slice A' n' c'] rfl rfl (new_one w31 _ _) (by intro u hu; simp at hu; subst hu; rfl) (by unfold maxLen; omega) (by omega) HB31.out ?_
           intro v5 w5 hown5 hgr hnil hat5
           have HG5 := Lib.hid (HG.out.next HC1.out HV31.out HO31.out ((Off.refl [] w31).alloc _) hgr hown5)
           clear hown5 hgr hnil hat5)
        | (go_at_call 32
           refine (coded_any es A ib io c n c1 wr HN.out (by omega) (HAT.out.off (HO1.out.then HG.out.off (fun x hx => by simp at hx)) (by simp)) (fun h0 => Nat.lt_of_lt_of_le (HIB.out h0) (Nat.le_trans HO1.out.size HG.out.off.size))).mono ?_
           rintro r w31 ⟨v31, rfl, hr31, ho31⟩
           obtain ⟨A', b', c', hv31, _, _⟩ := own_shape hr31
           obtain ⟨n', hn0⟩ : ∃ m, m = (es.filter fun e => e.code == c1).length := ⟨_, rfl⟩
           rw [← hn0] at hv31
           subst hv31
           have HV31 := Lib.hid hr31
           have HO31 := Lib.hid ho31
           have HOWN := Lib.hid (own_off HG.out.own (ho31.alloc (.cells #[.slice A' n' c'] 22)) (fun x _ => by simp))
           have HB31 := Lib.hid (show w1.heap.size ≤ (w31.alloc (.cells #[.slice A' n' c'] 22)).heap.size from Nat.le_trans HG.out.off.size (ho31.alloc _).size)
           clear hr31 ho31 hn0))
      go_roundg (kc - (i + 1))
      case measure => omega
      case rel => exact ⟨i + 1, rfl, by omega, by omega, Lib.hid ⟨_, HG5.out⟩⟩
    · obtain rfl : kc = i := by omega
      obtain ⟨AG, bG, cG, hsh, _, hGA⟩ := own_shape HG.out.own
      have HGA := Lib.hid hGA
      subst hsh
      clear hGA hlt hkx
      go_wp2_with fail
      go_loopg [8, 37] kc (fun kx s8 s37 w2 => ∃ i : Nat, s37 = .int .i64 (i : Int) ∧ i ≤ kc ∧ kc - i ≤ kx ∧ Hid (Off [] wr w2) ∧ Hid (∃ H l, H.map (·.1) = Cs.take i ∧ (∀ p, p ∈ H → Grp ((es.filter fun e => e.code == p.1).map Ent.rw) p.2) ∧ l.map rwE = cflat H ∧ RowR w2 wr.heap.size s8 l ∧ l.length ≤ 20000 * i))
      case atStart => exact ⟨0, rfl, Nat.zero_le _, by omega, Lib.hid (Off.refl _ _), Lib.hid ⟨[], [], rfl, fun p hp => by simp at hp, rfl, World.ownsRow_nil _ _ _ _, Nat.zero_le _⟩⟩
      case round =>
        rename World => w2
        obtain ⟨i, rfl, hik, hkx, HO2, hh⟩ := hrel
        obtain ⟨H, l0, hH1, hH2, hl0, hR0, hll⟩ := hh.out
        have HH1 := Lib.hid hH1
        have HH2 := Lib.hid hH2
        have HL0 := Lib.hid hl0
        have HR0 := Lib.hid hR0
        have HLL := Lib.hid hll
        clear hh hH1 hH2 hl0 hR0 hll
        by_cases hlt : i < kc
        · have hiv : i < Vs.length := by have := HG.out.len; omega
          obtain ⟨hA, hbo, hbl, hcl⟩ := HGA.out (by omega)
          obtain ⟨c1, hc1, hrow⟩ := HG.out.each i hiv
          have hcc := HO2.out.cell (hcl i _ (List.getElem?_eq_getElem hiv)) (by simp)
          obtain ⟨A', ib', c', hv', hA', hE'⟩ := hrow.ents
          rw [hv'] at hcc
          obtain ⟨n', hn0⟩ : ∃ m, m = (es.filter fun e => e.code == c1).length := ⟨_, rfl⟩
          rw [← hn0] at hcc hA'
          have hn' : n' ≤ 100 := by rw [hn0]; exact Nat.le_trans (List.length_filter_le _ _) (by rw [HN.out]; exact hn2)
          have HC1 := Lib.hid hc1
          have HN' := Lib.hid hn0.symm
          have HA' := Lib.hid hA'
          have HE' := Lib.hid (hE'.off HO2.out (by simp))
          have HDG : Hid (∀ e, e ∈ es.filter (fun e => e.code == c1) → e.dg.size ≤ 1000) := Lib.hid (fun e he => by
            have := (HES.out e (List.mem_filter.1 he).1).small
            rw [dg_len2] at this; exact this)
          clear hbo hbl hcl hc1 hrow hv' hA' hE' hn0 hiv
          subst hA
          go_wp2_with (first
            | (go_at_call 34
               refine (widths_any (es.filter fun e => e.code == c1) A' ib' 0 c' n' w3 HN'.out (by omega) HDG.out (HE'.out.off HO3.out (by simp))).mono ?_
               rintro r w4 ⟨vW, outs2, rfl, hnd, hmem, hrow, ho4⟩
               obtain ⟨Ws, hasc, hmem2, hsrt, hlen⟩ := asc_of_outs outs2 hnd
               obtain ⟨AW, bW, cW, rfl, hBb, hints⟩ := intsAt_of_srtI hrow hsrt hlen
               have HO4 := Lib.hid ho4
               have hkw100 : Ws.length ≤ 100 := by
                 have h1 := nodup_lenN Ws ((es.filter fun e => e.code == c1).map fun e => e.dg.size) (nodup_asc hasc) (fun k hk => by
                   obtain ⟨e, he, rfl⟩ := (hmem k).1 ((hmem2 k).1 hk)
                   exact List.mem_map.2 ⟨e, he, rfl⟩)
                 rw [List.length_map, HN'.out] at h1
                 omega
               have HWS := Lib.hid (And.intro hasc (show ∀ k, k ∈ Ws ↔ ∃ e, e ∈ es.filter (fun e => e.code == c1) ∧ e.dg.size = k from fun k => (hmem2 k).trans (hmem k)))
               have HBB := Lib.hid hBb
               have HIN := Lib.hid hints
               obtain ⟨kw, hkw⟩ : ∃ k, k = Ws.length := ⟨_, rfl⟩
               have HKW := Lib.hid hkw
               rw [← hkw] at hkw100 ⊢
               clear hnd hmem hrow ho4 hasc hmem2 hsrt hlen hBb hints hkw)
            | (go_at_call 33
               refine (byDigest_any (es.filter fun e => e.code == c1) A' ib' 0 c' n' w2 HN'.out (by omega) HA'.out HE'.out).mono ?_
               rintro r w3 ⟨g, cap, es', sp, rfl, hp3, hs3, hb3, hg3, ho3⟩
               have HP3 := Lib.hid hp3
               have HS3 := Lib.hid hs3
               have HB3 := Lib.hid hb3
               have HG3 := Lib.hid hg3
               have HO3 := Lib.hid ho3
               clear hp3 hs3 hb3 hg3 ho3))
          have HB4 : Hid (Blk w4 g 27 (entsC es' ++ sp).toArray) := Lib.hid (HB3.out.off HO4.out (by simp))
          obtain ⟨v0, hv0⟩ : ∃ v0, v0 = u8 := ⟨_, rfl⟩
          have HR4 : Hid (Ot w4 v0 wr.heap.size u8 w4 l0 (20000 * i)) := Lib.hid ⟨Off.refl _ _, Or.inl (by rw [hv0]), own_off HR0.out (HO3.out.then HO4.out (fun x hx => by simp at hx)) (fun x _ => by simp), HLL.out⟩
          have HFG : Hid (g ∉ ob v0) := Lib.hid (fun hx => by rw [hv0] at hx; have := own_lt HR0.out _ hx; have := HG3.out; omega)
          have HFW : Hid (0 < Ws.length → bW ∉ ob v0) := Lib.hid (fun h0 hx => by rw [hv0] at hx; have := own_lt HR0.out _ hx; have := HBB.out h0; have := HO3.out.size; omega)
          have HVB : Hid (∀ x, x ∈ ob v0 → wr.heap.size ≤ x) := Lib.hid (by rw [hv0]; exact own_base HR0.out)
          have HN2 : Hid (es'.length = n') := Lib.hid (by rw [HP3.out.length_eq, HN'.out])
          have HBW : Hid (wr.heap.size ≤ w4.heap.size) := Lib.hid (Nat.le_trans HO2.out.size (Nat.le_trans HO3.out.size HO4.out.size))
          have HO24 : Hid (Off [] w2 w4) := Lib.hid (HO3.out.then HO4.out (fun x hx => by simp at hx))
          clear HB3 HG3 HBB HA' HE' HLL HO3 HO4 hv0
          go_loopg [8, 46] kw (fun kx s8 s46 wq => ∃ k : Nat, s46 = .int .i64 (k : Int) ∧ k ≤ kw ∧ kw - k ≤ kx ∧ Hid (Ot w4 v0 wr.heap.size s8 wq (l0 ++ (Ws.take k).flatMap (selW es')) (20000 * i + 100 * k)))
          case atStart => exact ⟨0, rfl, Nat.zero_le _, by omega, Lib.hid (by simpa using HR4.out)⟩
          case round =>
            rename World => wq
            clear HR4
            obtain ⟨k, rfl, hkk, hkx3, HR⟩ := hrel
            by_cases hlt3 : k < kw
            · have hkW : k < Ws.length := by have := HKW.out; omega
              have hints := HIN.out.off HR.out.off HFW.out
              obtain ⟨hA2, hbl2⟩ := hints.1 (by omega)
              have hcW := hints.2 k hkW
              obtain ⟨N1, hN1⟩ : ∃ m, m = Ws[k] := ⟨_, rfl⟩
              rw [← hN1] at hcW
              have HN1 := Lib.hid (show ∃ h : k < Ws.length, N1 = Ws[k] from ⟨hkW, hN1⟩)
              clear hints hN1 hkW
              subst hA2
              go_wp2_with fail
              obtain ⟨lk, hlk⟩ : ∃ lk, lk = l0 ++ (Ws.take k).flatMap (selW es') := ⟨_, rfl⟩
              have HLK := Lib.hid hlk
              rw [← hlk] at HR
              clear hlk
              go_loopg [8, 52] n' (fun kx s8 s52 wz => ∃ j : Nat, s52 = .int .i64 (j : Int) ∧ j ≤ n' ∧ n' - j ≤ kx ∧ Hid (Ot w4 v0 wr.heap.size s8 wz (lk ++ selW (es'.take j) N1) (20000 * i + 100 * k + j)))
              case atStart => exact ⟨0, rfl, Nat.zero_le _, by omega, Lib.hid (by have h := HR.out; rw [List.take_zero]; simpa [selW] using h)⟩
              case round =>
                rename World => wz
                clear HR
                obtain ⟨j, rfl, hjn, hkx4, HR⟩ := hrel
                by_cases hlt4 : j < n'
                · have hje : j < es'.length := by have := HN2.out; omega
                  have hblk := HB4.out.off HR.out.off HFG.out
                  obtain ⟨c0, c1', c2, c3, c4⟩ := (EntsAt.of_blk hblk).cells j hje
                  obtain ⟨ent, hent⟩ : ∃ ent, ent = es'[j] := ⟨_, rfl⟩
                  rw [← hent, Nat.zero_add] at c0 c1' c2 c3 c4
                  have hsz : ent.dg.size ≤ 1000 := HDG.out ent (HP3.out.mem_iff.1 (by rw [hent]; exact List.getElem_mem _))
                  have HTK := Lib.hid (show selW (es'.take (j + 1)) N1 = selW (es'.take j) N1 ++ if ent.dg.size = N1 then [ent] else [] by rw [selW_take es' N1 j hje, hent])
                  clear hblk hent hje
                  by_cases hsn : ent.dg.size = N1
                  · have hq : ((ent.dg.size : Int) == (N1 : Int)) = true := beq_iff_eq.2 (by omega)
                    have HSN := Lib.hid hsn
                    obtain ⟨m, hm⟩ : ∃ m, m = (lk ++ selW (es'.take j) N1).length := ⟨_, rfl⟩
                    have hmle : m ≤ 20000 * 100 + 100 * 100 + 100 := by have := HR.out.len; have : 20000 * i ≤ 20000 * 100 := Nat.mul_le_mul_left _ (by omega); have : 100 * k ≤ 100 * 100 := Nat.mul_le_mul_left _ (by omega); omega
                    have HM := Lib.hid hm
                    clear hsn hm
                    have HOWN : Hid (∀ W, Off [] wz W → W.ownsRow wr.heap.size 54 3 u8 m (rowsC (lk ++ selW (es'.take j) N1))) := Lib.hid (fun W hW => by
                      have h := own_off HR.out.row hW (fun x _ => by simp)
                      rw [← HM.out] at h
                      exact h)
                    have HBZ : Hid (∀ W, Off [] wz W → wr.heap.size ≤ W.heap.size) := Lib.hid (fun W hW => Nat.le_trans HBW.out (Nat.le_trans HR.out.off.size hW.size))
                    go_wp2_with (first
                      | (at_builtin
                         refine wpList_append_own_at _ rfl _ _ 49 rfl wr.heap.size 54 i1 _ 3 32 Tryz.underlying49 hi1 hy0 hy1 hy2 rfl (by decide) u8 m _ rfl (HOWN.out _ ?off1) ⟨wz.heap.size + 1 + 1, 0, none⟩ 1 1 (rowC ent) rfl rfl ?news (rowC_one ent) (by unfold maxLen; omega) (by omega) (HBZ.out _ ?off2) ?_
                         case off1 => exact (((Off.refl [] wz).alloc _).alloc _).alloc _
                         case off2 => exact (((Off.refl [] wz).alloc _).alloc _).alloc _
                         case news => exact new_row _ ent _ _ (by simp)
                         intro v5 w5 hown5 hgr hnil hat5
                         have HT5 := Lib.hid (HR.out.snoc ((((Off.refl [] wz).alloc _).alloc _).alloc _) hgr hat5 HM.out hown5)
                         clear hown5 hgr hnil hat5))
                    go_roundg (n' - (j + 1))
                    case measure => omega
                    case rel => exact ⟨j + 1, rfl, by omega, by omega, Lib.hid (HT5.out.list (by rw [HTK.out, if_pos HSN.out, List.append_assoc]))⟩
                  · have hq : ((ent.dg.size : Int) == (N1 : Int)) = false := beq_eq_false_iff_ne.2 (by omega)
                    have HSN := Lib.hid hsn
                    clear hsn
                    go_wp2_with fail
                    go_roundg (n' - (j + 1))
                    case measure => omega
                    case rel => exact ⟨j + 1, rfl, by omega, by omega, Lib.hid (((HR.out.still ((Off.refl [] wz).alloc _)).more (by omega)).list (by rw [HTK.out, if_neg HSN.out, List.append_nil]))⟩
                · obtain rfl : n' = j := by omega
                  go_wp2_with fail
                  go_roundg (kw - (k + 1))
                  case measure => omega
                  case rel =>
                    refine ⟨k + 1, rfl, by omega, by omega, Lib.hid ((HR.out.more (by omega)).list ?_)⟩
                    obtain ⟨h1, h2⟩ := HN1.out
                    rw [HLK.out, show es'.take n' = es' from List.take_of_length_le (by have := HN2.out; omega), List.take_succ_eq_append_getElem h1, ← h2, List.flatMap_append, List.flatMap_cons, List.flatMap_nil, List.append_nil, List.append_assoc]
            · obtain rfl : kw = k := by omega
              go_wp2_with fail
              go_roundg (kc - (i + 1))
              case measure => omega
              case rel =>
                have hall : (Ws.take kw).flatMap (selW es') = Ws.flatMap (selW es') := by rw [List.take_of_length_le (by have := HKW.out; omega)]
                refine ⟨i + 1, rfl, by omega, by omega, Lib.hid ?_, Lib.hid ⟨H ++ [(c1, Ws.map (grpG es'))], l0 ++ Ws.flatMap (selW es'), ?_, fun p hp => ?_, ?_, ?_, ?_⟩⟩
                · exact (HO2.out.then HO24.out (fun x hx => by simp at hx)).then HR.out.off (fun x hx => Or.inr (HVB.out x hx))
                · rw [List.map_append, HH1.out, List.take_add_one, HC1.out]; rfl
                · rcases List.mem_append.1 hp with hp | hp
                  · exact HH2.out p hp
                  · rw [List.mem_singleton.1 hp]
                    exact grp_sorted _ es' Ws HP3.out HS3.out HWS.out.1 HWS.out.2
                · have e : cflat (H ++ [(c1, Ws.map (grpG es'))]) = cflat H ++ (flat (Ws.map (grpG es'))).map fun r => (c1, r) := by
                    unfold cflat
                    rw [List.flatMap_append]
                    simp only [List.flatMap_cons, List.flatMap_nil, List.append_nil]
                  rw [e, List.map_append, HL0.out, sel_flat es' c1 (fun e he => by
                    have := (List.mem_filter.1 (HP3.out.mem_iff.1 he)).2
                    simpa using this) Ws]
                · exact (HR.out.list (by rw [hall])).row
                · have h := (HR.out.list (show _ = l0 ++ Ws.flatMap (selW es') by rw [hall])).len
                  omega
        · obtain rfl : kc = i := by omega
          go_wp2_with fail
          go_ret
          have hHC : H.map (·.1) = Cs := by rw [HH1.out, List.take_of_length_le (by have := HKC.out; omega)]
          have hO := (HO1.out.then HG.out.off (fun x hx => by simp at hx))
          refine ⟨_, l0, H, rfl, ?_, HL0.out, ⟨HR0.out.1, ?_⟩, hO.then HO2.out (fun x hx => by simp at hx)⟩
          · rw [rws_eq]
            exact cgrp_codes es H (by rw [hHC]; exact HCS.out.1) (by rw [hHC]; exact HCS.out.2) HH2.out
          · rcases id HR0.out.2 with hn | ⟨g, cap, cur, e, hgg, rest⟩
            · exact .inl hn
            · exact .inr ⟨g, cap, cur, e, Nat.le_trans hO.size hgg, rest⟩
end Go.Proofs.YtcgggcjmmphldaaGreatDoor
namespace Go.Proofs.YtcgggcjmmphldaaGreatDoor
open Go.RowKit

def nrmE (e : Ent) : Ent := ⟨0, 0, e.code, e.dg, e.off⟩
theorem eac_rw (e : Ent) : eacE (rwE e) = nrmE e := by
  have h := str_dg e
  simp only [eacE, rwE, nrmE]
  rw [h]
  rfl
theorem enc_len2 {kind : Nat} {es : List Ent} {s : List UInt8} (h : Enc kind (rws es) s) (hes : ∀ e, e ∈ es → e.ok) (hn : es.length ≤ 100) : s.length ≤ 2000000 := h.len (by rw [rws, List.length_map]; omega) (fun r hr => (rws_small es hes r hr).2.1)
theorem ixEach_1025 (es : List Ent) (hes : ∀ e, e ∈ es → e.ok) (hn : es.length ≤ 100) (s : List UInt8) (hs : Enc 1025 (rws es) s) (H : List (Nat × List (Nat × List Rw))) (hH : CGrp (rws es) H) (hU : OneEach 1025 (rws es)) (b : ByteArray) (hb : b = ⟨s.toArray⟩) (l : List Ent) (hl : l.map rwE = cflat H) (w : World) :
    Calls Tryz.prog 22 #[.string b] w fun e w' => ∃ v, e = .returned (.tuple #[v, .bool true]) ∧ RowE w' w.heap.size v (l.map nrmE) ∧ Off [] w w' := by
  have hlen := enc_len2 hs hes hn
  rcases hs with ⟨h, _⟩ | ⟨_, H', hH', he⟩
  · exact absurd h (by decide)
  · obtain rfl : H' = H := cgrp_unique hH' hH (fun x y hx hy hc hd => hU x y hx hy (Or.inr hc) hd)
    have e : (cflat H').map eacE = l.map nrmE := by
      rw [← hl, List.map_map]
      exact List.map_congr_left fun e _ => eac_rw e
    rw [← e]
    refine ixEach_mis (rws es) H' hH' s he (by rw [rws, List.length_map]; omega) (fun r hr => ?_) hlen b (by rw [hb]) w
    obtain ⟨h1, h2, h3⟩ := rws_small es hes r hr
    refine ⟨?_, h2, h3⟩
    obtain ⟨x, hx, rfl⟩ := List.mem_map.1 hr
    have h4 : x.code < 9223372036854775808 := by rcases (hes x hx).ver with ⟨_, _, h, _⟩ | ⟨_, _, h⟩ <;> omega
    exact h4
theorem ixEach_1024 (es : List Ent) (hes : ∀ e, e ∈ es → e.ok) (hn : es.length ≤ 100) (s : List UInt8) (hs : Enc 1024 (rws es) s) (b : ByteArray) (hb : b = ⟨s.toArray⟩) (w : World) :
    Calls Tryz.prog 22 #[.string b] w fun e w' => e = .returned (.tuple #[.slice none 0 0, .bool false]) ∧ Off [] w w' := by
  have hlen := enc_len2 hs hes hn
  rcases hs with ⟨_, G, hG, he⟩ | ⟨h, _⟩
  · refine ixEach_mw _ G hG s he (by rw [List.length_map, rws, List.length_map]; omega) (fun r hr => ?_) hlen b (by rw [hb]) w
    obtain ⟨x, hx, rfl⟩ := List.mem_map.1 hr
    exact (rws_small es hes x hx).2.1
  · exact absurd h (by decide)

theorem rowsC_at : ∀ (l : List Ent) (j : Nat) (e : Ent), l[j]? = some e → ∀ k, k < 3 → (rowsC l)[j * 3 + k]? = (rowC e)[k]?
  | [], j, e, h, k, hk => by simp at h
  | x :: l, 0, e, h, k, hk => by
    obtain rfl : x = e := by simpa using h
    have h1 : rowsC (x :: l) = rowC x ++ rowsC l := rfl
    rw [h1, Nat.zero_mul, Nat.zero_add, List.getElem?_append_left (by simp only [rowC, List.length_cons, List.length_nil]; omega)]
  | x :: l, j + 1, e, h, k, hk => by
    have h1 : rowsC (x :: l) = rowC x ++ rowsC l := rfl
    have h2 := rowsC_at l j e (by simpa using h) k hk
    rw [h1, List.getElem?_append_right (by simp only [rowC, List.length_cons, List.length_nil]; omega), ← h2]
    congr 1
    simp only [rowC, List.length_cons, List.length_nil]
    omega

set_option maxRecDepth 100000 in
set_option maxHeartbeats 4000000 in
theorem each_true (es : List Ent) (A : Option Addr) (ib io c n : Nat) (a : Addr) (w : World) (hn : es.length = n) (hA0 : A = none → n = 0 ∧ c = 0) (hnc : n ≤ c) (hat : EntsAt w A ib io es) (hoff : ∀ e, e ∈ es → e.off < 18446744073709551616)
    (hE : w.cell? ⟨0, 0, none⟩ = some (notF a)) :
    Calls Tryz.prog 7 #[.slice A n c] w fun r w' => r = .returned (.bool true) ∧ Off [] w w' := by
  have HN := Lib.hid hn
  have HAT := Lib.hid hat
  have HE := Lib.hid hE
  have HOFF := Lib.hid hoff
  have HA0 := Lib.hid hA0
  have H1 := Lib.hid (zzFits7_any es A ib io c n w hn hat)
  clear hn hat hE hoff hA0
  obtain ⟨F, hF⟩ : ∃ F, F = fitB es := ⟨_, rfl⟩
  obtain ⟨G, hG⟩ : ∃ G, G = (decide (n ≤ 100) && goodB 1025 es) := ⟨_, rfl⟩
  have HF := Lib.hid hF
  have HG := Lib.hid hG
  clear hF hG
  go_enter Tryz.func7, Tryz.ntmps7
  cases F with
  | false =>
    go_wp2_with (first
      | (go_at_call 8
         refine H1.out.mono ?_
         rintro r w1 ⟨rfl, ho1⟩
         rw [← HF.out]
         have HO1 := Lib.hid ho1
         clear ho1))
    go_ret
    exact ⟨rfl, HO1.out⟩
  | true =>
    cases G with
    | false =>
      go_wp2_with (first
        | (go_at_call 10
           refine (ixGood_all es A ib io c n 1025 w1 HN.out (HAT.out.off HO1.out (by simp))).mono ?_
           rintro r w2 ⟨rfl, ho2⟩
           rw [← HG.out]
           have HO2 := Lib.hid (HO1.out.then ho2 (fun x hx => by simp at hx))
           clear ho2)
        | (go_at_call 8
           refine H1.out.mono ?_
           rintro r w1 ⟨rfl, ho1⟩
           rw [← HF.out]
           have HO1 := Lib.hid ho1
           clear ho1))
      go_ret
      exact ⟨rfl, HO2.out⟩
    | true =>
      have hgg : n ≤ 100 ∧ goodB 1025 es = true := by
        have h := HG.out.symm
        rw [Bool.and_eq_true, decide_eq_true_eq] at h
        exact h
      have hn2 := hgg.1
      obtain ⟨hk, hok⟩ := good_ok hgg.2 HOFF.out
      have HOK := Lib.hid (fun e he => (hok e he).1)
      clear hgg hk hok
      obtain ⟨O, hO⟩ : ∃ O, O = onceB 1025 es := ⟨_, rfl⟩
      have HO := Lib.hid hO
      clear hO
      cases O with
      | false =>
        go_wp2_with (first
          | (go_at_call 15
             refine (once_any es A ib io c n 1025 w2 HN.out (by omega) hnc (HAT.out.off HO2.out (by simp))).mono ?_
             rintro r w3 ⟨rfl, ho3⟩
             rw [← HO.out]
             have HO3 := Lib.hid (HO2.out.then ho3 (fun x hx => by simp at hx))
             clear ho3)
          | (go_at_call 10
             refine (ixGood_all es A ib io c n 1025 w1 HN.out (HAT.out.off HO1.out (by simp))).mono ?_
             rintro r w2 ⟨rfl, ho2⟩
             rw [← HG.out]
             have HO2 := Lib.hid (HO1.out.then ho2 (fun x hx => by simp at hx))
             clear ho2)
          | (go_at_call 8
             refine H1.out.mono ?_
             rintro r w1 ⟨rfl, ho1⟩
             rw [← HF.out]
             have HO1 := Lib.hid ho1
             clear ho1))
        go_ret
        exact ⟨rfl, HO3.out⟩
      | true =>
        have HU := Lib.hid (one_each_of (onceP_of HO.out.symm))
        have HNL := Lib.hid (show es.length ≤ 100 by rw [HN.out]; exact hn2)
        go_wp2_with (first
          | (go_at_call 22
             refine (ixEach_1024 es HOK.out HNL.out s7 HS7.out b7 HB7.out w7).mono ?_
             rintro r w8 ⟨rfl, ho8⟩
             have HO8 := Lib.hid (HO7.out.then ho8 (fun x hx => by simp at hx))
             clear ho8)
          | (go_at_call 16
             refine (indexBytes_any 1024 (Or.inl rfl) es A ib io c n w6 HOK.out HN.out hn2 HA0.out (HAT.out.off (HX6.out.then HO6.out (fun x hx => by simp at hx)) (by simp))).mono ?_
             rintro r w7 ⟨s7, hs7, rfl, ho7⟩
             obtain ⟨b7, hb7⟩ : ∃ b, b = (⟨s7.toArray⟩ : ByteArray) := ⟨_, rfl⟩
             rw [← hb7]
             have HS7 := Lib.hid hs7
             have HB7 := Lib.hid hb7
             have HO7 := Lib.hid (show Off [] w6 w7 from ho7)
             clear hs7 hb7 ho7)
          | (go_at_call 22
             refine (ixEach_1025 es HOK.out HNL.out s5 HS5.out H HH.out HU.out b5 HB5.out l HL.out w5).mono ?_
             rintro r w6 ⟨v6, rfl, hr6, ho6⟩
             obtain ⟨AE, bE, cE, hv6, _, hE6⟩ := hr6.ents
             rw [List.length_map, ← HLN.out] at hv6
             have HE6 := Lib.hid hE6
             have HX6 := Lib.hid HO5.out
             have HO6 := Lib.hid ho6
             subst hv6
             clear hr6 ho6 hE6)
          | (go_at_call 16
             refine (indexBytes_any 1025 (Or.inr rfl) es A ib io c n w4 HOK.out HN.out hn2 HA0.out (HAT.out.off HO4.out (by simp))).mono ?_
             rintro r w5 ⟨s5, hs5, rfl, ho5⟩
             obtain ⟨b5, hb5⟩ : ∃ b, b = (⟨s5.toArray⟩ : ByteArray) := ⟨_, rfl⟩
             rw [← hb5]
             have HS5 := Lib.hid hs5
             have HB5 := Lib.hid hb5
             have HO45 := Lib.hid ho5
             have HO5 := Lib.hid (HO4.out.then ho5 (fun x hx => by simp at hx))
             clear hs5 hb5 ho5)
          | (go_at_call 21
             refine (rows_1025 es A ib io c n w3 HOK.out HN.out hn2 (HAT.out.off HO3.out (by simp))).mono ?_
             rintro r w4 ⟨v4, l, H, rfl, hH, hl, hr4, ho4⟩
             obtain ⟨AR, bR, cR, hv4, _, hR4⟩ := own_shape hr4
             obtain ⟨N, hN⟩ : ∃ N, N = l.length := ⟨_, rfl⟩
             rw [← hN] at hv4 hR4
             have HLN := Lib.hid hN
             have HH := Lib.hid hH
             have HL := Lib.hid hl
             have HR4 := Lib.hid hR4
             have HO4 := Lib.hid (HO3.out.then ho4 (fun x hx => by simp at hx))
             subst hv4
             clear hH hl hr4 hR4 ho4 hN)
          | (go_at_call 15
             refine (once_any es A ib io c n 1025 w2 HN.out (by omega) hnc (HAT.out.off HO2.out (by simp))).mono ?_
             rintro r w3 ⟨rfl, ho3⟩
             rw [← HO.out]
             have HO3 := Lib.hid (HO2.out.then ho3 (fun x hx => by simp at hx))
             clear ho3)
          | (go_at_call 10
             refine (ixGood_all es A ib io c n 1025 w1 HN.out (HAT.out.off HO1.out (by simp))).mono ?_
             rintro r w2 ⟨rfl, ho2⟩
             rw [← HG.out]
             have HO2 := Lib.hid (HO1.out.then ho2 (fun x hx => by simp at hx))
             clear ho2)
          | (go_at_call 8
             refine H1.out.mono ?_
             rintro r w1 ⟨rfl, ho1⟩
             rw [← HF.out]
             have HO1 := Lib.hid ho1
             clear ho1))
        have HO48 : Hid (Off [] w4 w8) := Lib.hid ((HO45.out.then HO6.out (fun x hx => by simp at hx)).then HO8.out (fun x hx => by simp at hx))
        have HW8 : Hid (Off [] w w8) := Lib.hid (HO4.out.then HO48.out (fun x hx => by simp at hx))
        have HE8 : Hid (EntsAt w8 AE bE 0 (l.map nrmE)) := Lib.hid (HE6.out.off HO8.out (by simp))
        have HLE : Hid (∀ j (h : j < N), (l.map nrmE).length = N ∧ ∃ e, (l.map nrmE)[j]? = some (nrmE e) ∧ l[j]? = some e) := Lib.hid (fun j h => by
          have h2 : j < l.length := by have := HLN.out; omega
          exact ⟨by rw [List.length_map, ← HLN.out], l[j], by rw [List.getElem?_map, List.getElem?_eq_getElem h2]; rfl, List.getElem?_eq_getElem h2⟩)
        have hN100 : N ≤ 1000000 := by
          have h1 := congrArg List.length HL.out
          rw [List.length_map, ← HLN.out, HH.out.perm.length_eq, rws, List.length_map] at h1
          have := HNL.out
          omega
        clear HS5 HB5 HS7 HB7 HO7 HX6 HO45 HO6 HO8 HE6 HO5 HU HO HG HF HOK HAT H1 HA0 HOFF
        go_loopg [49] N (fun kx s49 wq => ∃ j : Nat, s49 = .int .i64 (j : Int) ∧ j ≤ N ∧ N - j ≤ kx ∧ Hid (Off [] w8 wq))
        case atStart => exact ⟨0, rfl, Nat.zero_le _, by omega, Lib.hid (Off.refl _ _)⟩
        case round =>
          rename World => wq
          obtain ⟨j, rfl, hjn, hkx, HOQ⟩ := hrel
          by_cases hlt : j < N
          · obtain ⟨hlen, e, he1, he2⟩ := HLE.out j hlt
            have hat := HE8.out.off HOQ.out (by simp)
            obtain ⟨hAE, hbE⟩ := hat.at_ (by omega)
            obtain ⟨c0, c1, c2, c3, c4⟩ := hat.cells j (by omega)
            have hge : (l.map nrmE)[j]'(by omega) = nrmE e := Option.some.inj ((List.getElem?_eq_getElem (by omega)).symm.trans he1)
            rw [hge, Nat.zero_add] at c0 c1 c2 c3 c4
            obtain ⟨hAR, _, hbR, hcR⟩ := HR4.out (by omega)
            have hO4q := HO48.out.then HOQ.out (fun x hx => by simp at hx)
            have hr : ∀ k u, k < 3 → (rowC e)[k]? = some u → wq.cell? ⟨bR, j * 3 + k, none⟩ = some u := fun k u hk hu => hO4q.cell (hcR (j * 3 + k) u (by rw [rowsC_at l j e he2 k hk]; exact hu)) (by simp)
            have r0 : wq.cell? ⟨bR, j * 3, none⟩ = some (.int .u64 (e.code : Int)) := hr 0 _ (by omega) rfl
            have r1 : wq.cell? ⟨bR, j * 3 + 1, none⟩ = some (.string e.dg) := hr 1 _ (by omega) rfl
            have r2 : wq.cell? ⟨bR, j * 3 + 2, none⟩ = some (.int .u64 (e.off : Int)) := hr 2 _ (by omega) rfl
            clear hlen he1 he2 hat hge hcR hO4q hr
            subst hAE
            subst hAR
            simp only [nrmE] at c0 c1 c2 c3 c4
            go_wp2_with fail
            obtain ⟨wx, hwx⟩ : ∃ wx, wx = wq.alloc (.cells #[.int .u64 0, .int .u64 0, .int .u64 (e.code : Int), .string e.dg, .int .u64 (e.off : Int)] 27) := ⟨_, rfl⟩
            have hox : Off [] wq wx := by rw [hwx]; exact (Off.refl [] wq).alloc _
            have hbx : Blk wx wq.heap.size 27 #[.int .u64 0, .int .u64 0, .int .u64 (e.code : Int), .string e.dg, .int .u64 (e.off : Int)] := by rw [hwx]; exact Blk.new _ _ _
            have d2 : wx.cell? ⟨wq.heap.size, 2, none⟩ = some (.int .u64 (e.code : Int)) := hbx.cell 2
            have d3 : wx.cell? ⟨wq.heap.size, 3, none⟩ = some (.string e.dg) := hbx.cell 3
            have d4 : wx.cell? ⟨wq.heap.size, 4, none⟩ = some (.int .u64 (e.off : Int)) := hbx.cell 4
            have q0 := hox.cell r0 (by simp)
            have q1 := hox.cell r1 (by simp)
            have q2 := hox.cell r2 (by simp)
            rw [← hwx]
            have HOX := Lib.hid hox
            clear c0 c1 c2 c3 c4 r0 r1 r2 hwx hox hbx
            go_quiet (fail)
            go_wp2_with fail
            go_roundg (N - (j + 1))
            case measure => omega
            case rel => exact ⟨j + 1, rfl, by omega, by omega, Lib.hid ((HOQ.out.then HOX.out (fun x hx => by simp at hx)).drewN _)⟩
          · obtain rfl : N = j := by omega
            go_wp2_with (first
              | (go_at_call 17
                 refine (ixOne_any 1025 (Or.inr rfl) a wq ((HW8.out.then HOQ.out (fun x hx => by simp at hx)).cell HE.out (by simp))).mono ?_
                 rintro r w9 ⟨rfl, ho9⟩
                 have HO9 := Lib.hid ((HW8.out.then HOQ.out (fun x hx => by simp at hx)).then ho9 (fun x hx => by simp at hx))
                 clear ho9))
            go_ret
            exact ⟨rfl, HO9.out⟩
end Go.Proofs.YtcgggcjmmphldaaGreatDoor
namespace Go.Proofs.YtcgggcjmmphldaaGreatDoor.fnIxEach
open Go.ChangeShapes Go.WideShapes Go.ChangeAt Go.RowKit Go.Joins

section
variable {H : Type} {enc : TypeId × Value → H} {P : Program}
theorem post_of_below {f : Func} {s : ChangeSpec} {apart fresh handsOn again : Bool} {W W' : World} {args : Array Value} {v : Value} {ds gs : List (DataW H)} {before pa pv : List MemPlace}
    (hW : DataW.Whole enc P f.params.toList s.vars apart W args.toList ds gs before)
    (hres : ∀ (b : Nat) (sp : Nat → Bool) (hd : Bool), DataW.TrodAll enc P W' b sp hd f.resultTypes.toList (v.resultList f.resultTypes.size) (s.fn H (ds ++ gs)).results [])
    (hargs : ∀ sp : Nat → Bool, (∀ p ∈ before, sp p.block = true) → DataW.TrodAll enc P W' 0 sp true f.params.toList args.toList (s.fn H (ds ++ gs)).args pa)
    (hvars : ∀ sp : Nat → Bool, (∀ p ∈ before, sp p.block = true) → DataW.TrodVars enc P W' sp s.vars (s.fn H (ds ++ gs)).vars pv)
    (hps : before = pa ++ pv) (hb : Below W.heap.size W W')
    (hok : ∀ (j : Nat) (t : TypeId) (r : Value), f.resultTypes[j]? = some t → (v.resultList f.resultTypes.size)[j]? = some r → Value.okWide P W' .any 0 t r) :
    s.post enc P f apart fresh handsOn again W args v W' := by
  have hlt : ∀ p ∈ before, p.block < W.heap.size := fun p hp => hW.lt p hp
  have hold : ∀ p ∈ before, (fun b => decide (b < W.heap.size)) p.block = true := fun p hp => by simpa using hlt p hp
  refine ⟨ds, gs, before, [], pa, pv, hW, hres _ _ _, hargs _ hold, hvars _ hold, World.keptBut_mono (fun p hp => ⟨hp, ?_⟩) (hb.frame (· ∈ before)), fun _ => ?_⟩
  · rw [hps, List.mem_append] at hp
    exact Or.inr hp
  · obtain ⟨_, _, _, _, _, hz, hn⟩ := hW
    refine ⟨hok, _, _, ([] ++ pa) ++ pv, ⟨[] ++ pa, pv, trodAll_append (hargs _ (fun _ _ => rfl)) (hres _ _ _), hvars _ (fun _ _ => rfl), rfl, ?_, ?_⟩, ?_⟩
    · intro b off hp
      have hin : MemPlace.cell b off ∈ before := by rw [hps]; simpa using hp
      rw [hb.frozen (hlt _ hin)]
      exact hz b off hin
    · intro ha
      have := hn ha
      rw [hps] at this
      simpa using this
    · intro p hp _
      rw [hps]
      simpa using hp
end

theorem own : ownKnob Tryz.prog.godebug = none := by kernel_rfl
theorem gErr : Tryz.prog.globalNamed "pub-droshky/pub/index.ErrNotFound" = some 0 := by kernel_rfl
theorem gErrType : (Tryz.prog.globals[0]?).map (·.type) = some 68 := by kernel_rfl
theorem rowErr (u : TypeId) (h : Tryz.prog.typeName? 3 u = some "*errors.errorString") : u = 173 :=
  typeName_ptr_named (nm := "errors.errorString") (by kernel_rfl) (by kernel_rfl) (by decide) u h
theorem cellsE : Tryz.prog.cellsOf 175 = 1 := by kernel_rfl
theorem cellsS : Tryz.prog.cellsOf 9 = 1 := by kernel_rfl
theorem err_of_laid {W : World} (h : laidMetH Tryz.prog Rows.fnIxEachRow.laid W) : ∃ a : Addr, W.cell? ⟨0, 0, none⟩ = some (notF a) := by
  rw [Go.MakeChecks.laidMetH_plain Tryz.prog Rows.fnIxEachRow.laid W (by kernel_rfl)] at h
  have h1 := laidMet.tail (show laidMet Tryz.prog (_ :: _) W from h)
  have h2 := laidMet.tail (show laidMet Tryz.prog (_ :: _) W from h1)
  have h3 := laidMet.tail (show laidMet Tryz.prog (_ :: _) W from h2)
  have h4 := laidMet.tail (show laidMet Tryz.prog (_ :: _) W from h3)
  have h5 := laidMet.tail (show laidMet Tryz.prog (_ :: _) W from h4)
  have h6 := laidMet.tail (show laidMet Tryz.prog (_ :: _) W from h5)
  have h7 := laidMet.tail (show laidMet Tryz.prog (_ :: _) W from h6)
  have h8 := laidMet.tail (show laidMet Tryz.prog (_ :: _) W from h7)
  have h9 := laidMet.tail (show laidMet Tryz.prog (_ :: _) W from h8)
  obtain ⟨a, s, hv, _⟩ := laid_sentinel (show laidMet Tryz.prog (("pub-droshky/pub/index.ErrNotFound", .iface "*errors.errorString" (.ptr (.agg [.lit (.string [110, 111, 116, 32, 102, 111, 117, 110, 100])]))) :: _) W from h9) gErr gErrType Tryz.underlying68 rowErr Tryz.underlying173 Tryz.underlying175 rfl rfl Tryz.underlying9 cellsE cellsS
  exact ⟨a, by simpa using World.var?_cell gErr hv 0⟩

/-- A world in which the listed variables hold what they list: for the witness. -/
noncomputable def laidWorld (os : Os) : World :=
  let N := (World.settled Tryz.prog os).heap.size
  let w0 := World.holding Tryz.prog os ⟨#[.cells #[.string ⟨#[69, 79, 70]⟩] 175,
    .cells #[.string ⟨#[117, 110, 101, 120, 112, 101, 99, 116, 101, 100, 32, 69, 79, 70]⟩] 175,
    .cells #[.string ⟨#[118, 97, 114, 105, 110, 116, 115, 32, 108, 97, 114, 103, 101, 114, 32, 116, 104, 97, 110, 32, 117, 105, 110, 116, 54, 51, 32, 110, 111, 116, 32, 115, 117, 112, 112, 111, 114, 116, 101, 100]⟩] 175,
    .cells #[.string ⟨#[118, 97, 114, 105, 110, 116, 115, 32, 109, 97, 108, 102, 111, 114, 109, 101, 100, 44, 32, 99, 111, 117, 108, 100, 32, 110, 111, 116, 32, 114, 101, 97, 99, 104, 32, 116, 104, 101, 32, 101, 110, 100]⟩] 175,
    .cells #[.string ⟨#[118, 97, 114, 105, 110, 116, 32, 110, 111, 116, 32, 109, 105, 110, 105, 109, 97, 108, 108, 121, 32, 101, 110, 99, 111, 100, 101, 100]⟩] 175,
    .cells #[.string ⟨#[109, 117, 108, 116, 105, 104, 97, 115, 104, 32, 116, 111, 111, 32, 115, 104, 111, 114, 116, 46, 32, 109, 117, 115, 116, 32, 98, 101, 32, 62, 61, 32, 50, 32, 98, 121, 116, 101, 115]⟩] 175,
    .cells #[.string ⟨#[117, 118, 97, 114, 105, 110, 116, 58, 32, 98, 117, 102, 102, 101, 114, 32, 116, 111, 111, 32, 115, 109, 97, 108, 108]⟩] 175,
    .cells #[.string ⟨#[117, 118, 97, 114, 105, 110, 116, 58, 32, 118, 97, 114, 105, 110, 116, 32, 116, 111, 111, 32, 98, 105, 103, 32, 40, 109, 97, 120, 32, 54, 52, 98, 105, 116, 41]⟩] 175,
    .cells #[.string ⟨#[110, 111, 116, 32, 102, 111, 117, 110, 100]⟩] 175], #[], []⟩
  let put (h : Array Obj) (g : Nat) (cs : Array Value) : Array Obj := h.modify g fun
    | .cells _ t frozen => .cells cs t frozen
    | o => o
  { w0 with heap := (put (put (put (put (put (put (put (put (put w0.heap 1 #[.iface 173 (.pointer (some ⟨N + 0, 0, none⟩))]) 2 #[.iface 173 (.pointer (some ⟨N + 1, 0, none⟩))]) 3 #[.iface 173 (.pointer (some ⟨N + 2, 0, none⟩))]) 11 #[.iface 173 (.pointer (some ⟨N + 3, 0, none⟩))]) 4 #[.iface 173 (.pointer (some ⟨N + 4, 0, none⟩))]) 7 #[.iface 173 (.pointer (some ⟨N + 5, 0, none⟩))]) 8 #[.iface 173 (.pointer (some ⟨N + 6, 0, none⟩))]) 9 #[.iface 173 (.pointer (some ⟨N + 7, 0, none⟩))]) 0 #[.iface 173 (.pointer (some ⟨N + 8, 0, none⟩))]) }

abbrev zeroArgs : Array Value := #[.slice none 0 0]
theorem laid_met (os : Os) : laidMet Tryz.prog Rows.fnIxEachRow.laid ((laidWorld os).forCall (fun _ _ => 0) ⟨#[], zeroArgs, []⟩).memory :=
  laidMet_of_run' 8 (by kernel_rfl) (by kernel_rfl)
theorem reads (os : Os) {H : Type} (enc : TypeId × Value → H) : ∃ places, DataW.whole enc Tryz.prog ((laidWorld os).forCall (fun _ _ => 0) ⟨#[], zeroArgs, []⟩).memory Tryz.f7.params.toList Rows.fnIxEachSpec.vars false zeroArgs.toList 8 = some ([.nil], [], places) :=
  ⟨[], by kernel_rfl⟩

theorem stays {H : Type} {enc : TypeId × Value → H} {t : TypeId} (hr : Tryz.prog.readableRec t = true) (hrow : t < Tryz.prog.types.size) {W W' : World} {sp : Nat → Bool} {v : Value} {d : DataW H} {ps before : List MemPlace} (h : DataW.Trod enc Tryz.prog W 0 (fun _ => true) true t v d ps) (hb : Below W.heap.size W W') (hlt : ∀ x ∈ before, x.block < W.heap.size) (hin : ∀ x ∈ ps, x ∈ before) (hs : ∀ x ∈ before, sp x.block = true) :
    DataW.Trod enc Tryz.prog W' 0 sp true t v d ps :=
  WideElems.Trod_stays (by kernel_rfl) hr hrow h (fun x hx => hb.same (hlt x (hin x hx))) (fun x hx => hs x (hin x hx))

set_option maxRecDepth 100000 in
set_option maxHeartbeats 2000000 in
theorem contract (H : Type) (enc : TypeId × Value → H) (W : World) (base : Nat) (args : Array Value) (ds gs : List (DataW H)) (before : List MemPlace)
    (hval : ∀ (j : Nat) t v, Tryz.f7.params[j]? = some t → args[j]? = some v → Value.okWide Tryz.prog W .any base t v)
    (hW : DataW.Whole enc Tryz.prog Tryz.f7.params.toList Rows.fnIxEachSpec.vars false W args.toList ds gs before) (hE : ∃ a : Addr, W.cell? ⟨0, 0, none⟩ = some (notF a)) :
    Calls Tryz.prog 7 args W fun e W' => ∃ v, e = .returned v ∧ Rows.fnIxEachSpec.post enc Tryz.prog Tryz.f7 false true false false W args v W' := by
  have hW' := hW
  obtain ⟨a, hE⟩ := hE
  obtain ⟨p, q, hA0, hV, rfl, _, _⟩ := hW
  have hA : DataW.TrodAll enc Tryz.prog W 0 (fun _ => true) true Tryz.f7.params.toList args.toList ds p := hA0
  rw [Tryz.params7] at hA hval
  obtain ⟨largs⟩ := args
  obtain ⟨v0, l1, d0, s1, p0, q0, e1, rfl, rfl, t0, hA1⟩ := trodAll_cons hA
  obtain ⟨rfl, rfl, rfl⟩ := trodAll_nil hA1
  have e1' : largs = [v0] := e1
  subst e1'
  obtain ⟨rfl, rfl⟩ := trodVars_none hV
  obtain ⟨A', n', c', rfl⟩ := okWide_slice Tryz.underlying22 (hval 0 22 v0 rfl rfl)
  obtain ⟨fu0, hf0⟩ := id t0
  obtain ⟨es, A, ib, io, n, c, hcs0, hn, hnil, hnc, hat, hoff⟩ := open_ents hf0
  simp [Value.cells] at hcs0
  obtain ⟨rfl, rfl, rfl⟩ := hcs0
  have hlt := hW'.lt
  refine (each_true es A' ib io c' n' a W hn hnil hnc hat hoff hE).mono fun r W' ⟨hr, ho⟩ => ?_
  subst hr
  have hb : Below W.heap.size W W' := ho.below (fun x hx => by simp at hx)
  refine ⟨_, rfl, post_of_below (pa := p0 ++ []) (pv := []) hW' (fun _ _ _ => trodAll_mk1 (shut_bool Tryz.underlying4 _)) (fun sp hsp => ?_) (fun _ _ => rfl) rfl hb (ok_one (by kernel_rfl) rfl (okWide_bool_mk Tryz.underlying4 _))⟩
  rw [Tryz.params7]
  exact trodAll_cons_mk (stays (by kernel_rfl) (of_decide_eq_true (by kernel_rfl)) t0 hb hlt (fun x hx => by simp [hx]) hsp) rfl

set_option maxRecDepth 100000 in
theorem lifted (os : Os) (started : os.Started) (H : Type) (enc : TypeId × Value → H) (F : Stop.Interp) :
    ReturnsInHanded {} Tryz.checked os 7 .any ((OpenSpec.ofChange Rows.fnIxEachSpec).preRow enc Tryz.prog Tryz.f7 Rows.fnIxEachRow.domain false Rows.fnIxEachRow.laid) (((OpenSpec.ofChange Rows.fnIxEachSpec).at F).post enc Tryz.prog Tryz.f7 false true false false) := by
  obtain ⟨places, hx⟩ := reads os enc
  refine returnsInHanded_of_row (C := Tryz.checked) (s := OpenSpec.ofChange Rows.fnIxEachSpec) own started (by kernel_rfl) Tryz.func7
    (witness_row_atRef (enc := enc) (C := Tryz.checked) false (laidWorld os) zeroArgs rfl (by kernel_rfl) (by kernel_rfl) (by kernel_rfl)
      (OpenSpec.preRow_of_cond 8 hx (by kernel_rfl) (fun k hk => by cases hk) (by kernel_rfl) (laid_met os))) ?_
  intro W base args ds gs before hval hW _ _ _ hL _ _
  exact contract H enc W base args ds gs before hval hW (err_of_laid hL)

theorem said : Rows.FnIxEachSaid :=
  OpenClaim.holds_of_cond 7 Tryz.f7 rfl rfl rfl rfl rfl rfl rfl ⟨rfl, rfl, rfl, rfl, rfl⟩ rfl rfl rfl rfl rfl (by kernel_rfl) Tryz.func7 (by kernel_rfl)
    (of_decide_eq_true (by kernel_rfl)) (by unfold Func.isWrapper; first | (rw [if_pos (by decide +kernel)]; kernel_rfl) | (rw [if_neg (by decide +kernel)]; exact ⟨rfl, rfl⟩))
    (fun os started H enc _ F => by rw [OpenClaim.pre_eq_preRow]; exact lifted os started H enc F)

theorem plain (f : FuncId) (fn : Func) (hf : Tryz.pinned.checked.prog.funcNamed "pub-droshky/laws.FnIxEach" = some f) (hfn : Tryz.pinned.checked.prog.funcs[f]? = some fn) :
    true = Tryz.pinned.checked.prog.looks [] ∧ ∀ (j : Nat) t, fn.params[j]? = some t → Tryz.pinned.checked.prog.wantsStandIn t = false := by
  obtain rfl : f = 7 := Option.some.inj ((show Tryz.prog.funcNamed "pub-droshky/laws.FnIxEach" = some 7 by kernel_rfl).symm.trans hf) |>.symm
  obtain rfl : fn = Tryz.f7 := (Option.some.inj (Tryz.func7.symm.trans hfn)).symm
  refine ⟨by kernel_rfl, fun j t ht => ?_⟩
  rw [Tryz.params7] at ht
  have hm := Array.mem_of_getElem? ht
  simp at hm
  subst hm
  exact (show Tryz.prog.wantsStandIn 22 = false by kernel_rfl)

theorem card : Rows.FnIxEachCardSaid :=
  Claim7.holds_tied_plain_at .later [] _ _ _ _ said (fun _ h => by cases h) (by kernel_rfl) (fun _ h => by cases h) fnIxEach_row_tie rfl ⟨rfl, rfl⟩ (by kernel_rfl) rfl plain (by kernel_rfl)

#print axioms card
end Go.Proofs.YtcgggcjmmphldaaGreatDoor.fnIxEach
