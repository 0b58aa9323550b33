/-
  An index by hash functions out of each function's groups, in plain words.
  spec.IndexBody: an index without its code.
  spec.IndexBytes: an index, as the specification writes it.
  (No condition beyond those that each theorem states.)
-/
import Derived.Test.YtcgggcjmmphldaaGreatDoorHk8
import Derived.Test.YtcgggcjmmphldaaGreatDoorHi3
import Derived.Test.YtcgggcjmmphldaaGreatDoorHk9
import Derived.Test.YtcgggcjmmphldaaGreatDoorHj2
import Derived.Deep.RegionWith
namespace Go.Proofs.YtcgggcjmmphldaaGreatDoor
open Go.RowKit

theorem cgrp_codes (es : List Ent) (H : List (Nat × List (Nat × List Rw))) (hasc : (H.map (·.1)).Pairwise (· < ·)) (hC : ∀ c, c ∈ H.map (·.1) ↔ ∃ e, e ∈ es ∧ e.code = c) (hG : ∀ p, p ∈ H → Grp ((es.filter fun e => e.code == p.1).map Ent.rw) p.2) :
    CGrp (es.map fun e => (e.code, e.rw)) H := by
  refine ⟨hasc, fun p hp => (hG p hp).bks, fun p hp => ?_, ?_⟩
  · obtain ⟨e, he, hc⟩ := (hC p.1).1 (List.mem_map.2 ⟨p, hp, rfl⟩)
    intro h0
    have h1 := (hG p hp).perm
    rw [h0] at h1
    have h2 : e.rw ∈ (es.filter fun e => e.code == p.1).map Ent.rw := List.mem_map.2 ⟨e, List.mem_filter.2 ⟨he, by simp [hc]⟩, rfl⟩
    have := h1.mem_iff.2 h2
    simp [flat] at this
  · have h1 : (cflat H).Perm (H.flatMap fun p => ((es.map fun e => (e.code, e.rw)).filter fun r => r.1 == p.1)) := by
      refine perm_flatMap H fun p hp => ?_
      have h2 := (hG p hp).perm.map fun r => (p.1, r)
      refine h2.trans (List.Perm.of_eq ?_)
      rw [List.filter_map, List.map_map]
      refine List.map_congr_left fun e he => ?_
      have := (List.mem_filter.1 he).2
      simp at this
      show (p.1, e.rw) = (e.code, e.rw)
      rw [this]
    refine h1.trans ?_
    have h3 := perm_byKey (fun r : Nat × Rw => r.1) (H.map (·.1)) (es.map fun e => (e.code, e.rw)) (nodup_asc hasc) (fun r hr => by
      obtain ⟨e, he, rfl⟩ := List.mem_map.1 hr
      exact (hC e.code).2 ⟨e, he, rfl⟩)
    rw [List.flatMap_map] at h3
    exact h3
end Go.Proofs.YtcgggcjmmphldaaGreatDoor
namespace Go.Proofs.YtcgggcjmmphldaaGreatDoor
open Go.RowKit Go.Sort

theorem row8_conv {W : World} {B : Nat} {v : Value} {l : List UInt8} (h : Row8 W B v l) (h0 : 0 < l.length) : (convert 46 9 v).run Tryz.prog W = .ok (.string (str l)) W := by
  rcases id h.2 with ⟨rfl, h1⟩ | ⟨g, cap, cur, rfl, hg, hgg, rest⟩
  · have : l.length = 0 := h1
    omega
  · refine run_convert_seg Tryz.underlying46 Tryz.underlying5 Tryz.underlying9 cap (fun i hi => ?_)
    have h2 := World.ownsRow.cells h (g := g) rfl i (.int .u8 (l[i].toNat : Int)) (by simp [Lib.byteCells, List.getElem?_eq_getElem hi])
    rw [add_plain] at h2
    exact h2
theorem coded_len : ∀ (H : List (Nat × List (Nat × List Rw))), (∀ p, p ∈ H → (mwB p.2).length ≤ 102004) → (H.flatMap codedB).length ≤ 102012 * H.length
  | [], _ => by simp
  | p :: H, h => by
    have ih := coded_len H (fun q hq => h q (List.mem_cons_of_mem _ hq))
    have h1 := h p (List.mem_cons_self ..)
    simp only [List.flatMap_cons, List.length_append, List.length_cons, codedB, Lib.leBytes_length]
    omega
theorem dg_len2 (e : Ent) : e.dg.data.toList.length = e.dg.size := by rw [Array.length_toList]; rfl
theorem rows_it (es : List Ent) : (rws es).map (·.2) = es.map Ent.rw := by
  rw [rws, List.map_map]; rfl
theorem rws_eq (es : List Ent) : rws es = es.map fun e => (e.code, e.rw) := rfl

set_option maxRecDepth 100000 in
set_option maxHeartbeats 4000000 in
theorem indexBody_1024 (es : List Ent) (A : Option Addr) (ib io c n : Nat) (w : World) (hes : ∀ e, e ∈ es → e.ok) (hn : es.length = n) (hn2 : n ≤ 100) (hA0 : A = none → n = 0 ∧ c = 0) (hat : EntsAt w A ib io es) :
    Calls Tryz.prog 28 #[.slice A n c, .int .u64 1024] w fun r w' => ∃ l, r = .returned (.string (str l)) ∧ Enc 1024 (rws es) (Lib.uvarint 1024 ++ l) ∧ Off [] w w' := by
  have hsb := sortedBytes_any es A ib io c n (.slice none 0 0) [] w.heap.size w hn hn2 (fun e he => by have := (hes e he).small; rw [dg_len2] at this; exact this) (fun e he => (hes e he).off) hA0 hat (fun _ => by simp [ob, Value.ownBlock]) (World.ownsRow_nil _ _ _ _) (Nat.le_refl _) (by simp)
  have HS := Lib.hid hsb
  clear hsb hat hes
  go_enter Tryz.func28, Tryz.ntmps28
  go_wp2_with (first
    | (go_at_call 48
       refine HS.out.mono ?_
       rintro r w1 ⟨v1, G, rfl, hG, hr1, ho1, hg1⟩
       rw [List.nil_append] at hr1
       have hcv := row8_conv hr1 (by rw [mwB, List.length_append, Lib.leBytes_length]; omega)
       have HG := Lib.hid hG
       have HO1 := Lib.hid ho1
       clear hG hr1 ho1 hg1))
  go_ret
  refine ⟨mwB G, rfl, Or.inl ⟨rfl, G, by rw [rows_it]; exact HG.out, rfl⟩, HO1.out.mono (fun x hx => by simp [ob, Value.ownBlock] at hx)⟩

set_option maxRecDepth 100000 in
set_option maxHeartbeats 4000000 in
theorem indexBody_1025 (es : List Ent) (A : Option Addr) (ib io c n : Nat) (w : World) (hes : ∀ e, e ∈ es → e.ok) (hn : es.length = n) (hn2 : n ≤ 100) (_hA0 : A = none → n = 0 ∧ c = 0) (hat : EntsAt w A ib io es) :
    Calls Tryz.prog 28 #[.slice A n c, .int .u64 1025] w fun r w' => ∃ l, r = .returned (.string (str l)) ∧ Enc 1025 (rws es) (Lib.uvarint 1025 ++ l) ∧ Off [] w w' := by
  have hc64 : ∀ e, e ∈ es → e.code < 18446744073709551616 := fun e he => by rcases (hes e he).ver with ⟨_, _, h, _⟩ | ⟨_, _, h⟩ <;> omega
  have HC := Lib.hid (codes_any es A ib io c n w hn (by omega) hc64 hat)
  have HES := Lib.hid hes
  have HN := Lib.hid hn
  have HAT := Lib.hid hat
  have HIB := Lib.hid (fun h0 : 0 < es.length => (hat.at_ h0).2)
  have HC64 := Lib.hid hc64
  clear hes hn hat hc64 _hA0
  go_enter Tryz.func28, Tryz.ntmps28
  go_wp2_with (first
    | (go_at_call 49
       refine (low_any w1 w1.heap.size kc 4 (.slice none 0 0) [] (World.ownsRow_nil _ _ _ _) (by omega) (by omega) (by simp) (Nat.le_refl _)).mono ?_
       rintro r w2 ⟨v2, rfl, hr2, ho2, hg2⟩
       rw [List.nil_append] at hr2
       have HR2 := Lib.hid hr2
       have HO2 := Lib.hid (show Off [] w1 w2 from ho2.mono (fun x hx => by simp [ob, Value.ownBlock] at hx))
       clear hr2 ho2 hg2)
    | (go_at_call 31
       refine HC.out.mono ?_
       rintro r w1 ⟨vC, outs, rfl, hnd, hmem, hrow, ho1⟩
       obtain ⟨Cs, hasc, hmem2, hsrt, hlen⟩ := asc_of_outs outs hnd
       obtain ⟨AC, bC, oC, cC, rfl, hAC, hcC⟩ := intsAt_of_srt hrow hsrt hlen
       have HO1 := Lib.hid ho1
       have hkle : Cs.length ≤ 100 := by
         have h1 := nodup_lenN Cs (es.map fun e => e.code) (nodup_asc hasc) (fun k hk => by
           obtain ⟨e, he, rfl⟩ := (hmem k).1 ((hmem2 k).1 hk)
           exact List.mem_map.2 ⟨e, he, rfl⟩)
         rw [List.length_map, HN.out] at h1
         omega
       have HCS := Lib.hid (And.intro hasc (show ∀ k, k ∈ Cs ↔ ∃ e, e ∈ es ∧ e.code = k from fun k => (hmem2 k).trans (hmem k)))
       have HAC := Lib.hid hAC
       have HCC := Lib.hid hcC
       obtain ⟨kc, hkc⟩ : ∃ k, k = Cs.length := ⟨_, rfl⟩
       have HKC := Lib.hid hkc
       rw [← hkc] at hkle ⊢
       clear hnd hmem hrow ho1 hasc hmem2 hsrt hlen hAC hcC hkc))
  have HW1 := Lib.hid HO1.out.size
  go_loopg [6, 22] kc (fun kx s6 s22 wr => ∃ i : Nat, s22 = .int .i64 (i : Int) ∧ i ≤ kc ∧ kc - i ≤ kx ∧ Hid (∃ H : List (Nat × List (Nat × List Rw)), H.map (·.1) = Cs.take i ∧ (∀ p, p ∈ H → Grp ((es.filter fun e => e.code == p.1).map Ent.rw) p.2) ∧ Row8 wr w1.heap.size s6 (Lib.leBytes 4 kc ++ H.flatMap codedB) ∧ Off [] w1 wr))
  case atStart => exact ⟨0, rfl, Nat.zero_le _, by omega, Lib.hid ⟨[], rfl, fun p hp => by simp at hp, by simpa using HR2.out, HO2.out⟩⟩
  case round =>
    rename World => wr
    clear HR2 HO2
    obtain ⟨i, rfl, hik, hkx, hh⟩ := hrel
    obtain ⟨H, hH1, hH2, hR, hO⟩ := hh.out
    have hHl : H.length = i := by
      have h1 := congrArg List.length hH1
      rw [List.length_map, List.length_take, ← HKC.out] at h1
      omega
    have hlen : (Lib.leBytes 4 kc ++ H.flatMap codedB).length ≤ 10201204 := by
      have h1 := coded_len H (fun p hp => grp_len (hH2 p hp) (Nat.le_trans (List.length_filter_le _ _) (by rw [HN.out]; exact hn2)) (fun e he => by
        have := (HES.out e (List.mem_filter.1 he).1).small
        rw [dg_len2] at this; exact this))
      rw [List.length_append, Lib.leBytes_length]
      omega
    have HH1 := Lib.hid hH1
    have HH2 := Lib.hid hH2
    have HR := Lib.hid hR
    have HO := Lib.hid hO
    have HLEN := Lib.hid hlen
    clear hh hH1 hH2 hR hO hHl hlen
    by_cases hlt : i < kc
    · have hic : i < Cs.length := by have := HKC.out; omega
      obtain ⟨hA, hbl⟩ := HAC.out (by omega)
      have hcc := HO.out.cell (HCC.out i hic) (by simp)
      obtain ⟨c1, hc1⟩ : ∃ m, m = Cs[i] := ⟨_, rfl⟩
      rw [← hc1] at hcc
      have HC1 := Lib.hid (show ∃ h : i < Cs.length, c1 = Cs[i] from ⟨hic, hc1⟩)
      have hc64 : c1 < 18446744073709551616 := by
        obtain ⟨e, he, hs⟩ := (HCS.out.2 c1).1 (by rw [hc1]; exact List.getElem_mem _)
        have := HC64.out e he
        omega
      clear hc1 hic
      subst hA
      go_wp2_with (first
        | (go_at_call 48
           refine (sortedBytes_any (es.filter fun e => e.code == c1) A' ib' 0 c' n' v28 _ w1.heap.size w31 HN'.out hn' (fun e he => by
             have := (HES.out e (List.mem_filter.1 he).1).small
             rw [dg_len2] at this; exact this) (fun e he => (HES.out e (List.mem_filter.1 he).1).off) HA'.out HE'.out HI'.out (HR28.out.off HO31.out (fun x _ => by simp)) (Nat.le_trans HZ28.out HO31.out.size) (by rw [List.length_append, Lib.leBytes_length]; have := HLEN.out; omega)).mono ?_
           rintro r w32 ⟨v32, G, rfl, hG, hr32, ho32, hg32⟩
           have HG := Lib.hid hG
           have HR32 := Lib.hid hr32
           have HO32 := Lib.hid ho32
           clear hG hr32 ho32 hg32)
        | (go_at_call 32
           refine (coded_any es A ib io c n c1 w28 HN.out (by omega) (HAT28.out) (fun h0 => Nat.lt_of_lt_of_le (HIB.out h0) (Nat.le_trans HW1.out HZ28.out))).mono ?_
           rintro r w31 ⟨v31, rfl, hr31, ho31⟩
           obtain ⟨A', ib', c', rfl, hA', hE'⟩ := hr31.ents
           obtain ⟨n', hn0⟩ : ∃ m, m = (es.filter fun e => e.code == c1).length := ⟨_, rfl⟩
           rw [← hn0]
           rw [← hn0] at hA'
           have hn' : n' ≤ 100 := by rw [hn0]; exact Nat.le_trans (List.length_filter_le _ _) (by rw [HN.out]; exact hn2)
           have HN' := Lib.hid hn0.symm
           have HA' := Lib.hid hA'
           have HE' := Lib.hid hE'
           have HI' : Hid (0 < (es.filter fun e => e.code == c1).length → ib' ∉ ob v28) := Lib.hid (fun h0 hx => by
             have h1 := (hE'.at_ h0).1
             have h2 := hr31.base ib' (by rw [h1]; simp [ob, Value.ownBlock])
             have h3 := row8_lt HR28.out _ hx
             omega)
           have HO31 := Lib.hid ho31
           clear hr31 hA' hE' hn0 ho31)
        | (go_at_call 49
           refine (low_any wr w1.heap.size c1 8 u6 _ HR.out hc64 (by omega) (by have := HLEN.out; omega) HO.out.size).mono ?_
           rintro r w28 ⟨v28, rfl, hr28, ho28, hg28⟩
           have HR28 := Lib.hid hr28
           have HO28 := Lib.hid (show Off [] w1 w28 from HO.out.then ho28 (fun x hx => Or.inr (HR.out.base x hx)))
           have HZ28 := Lib.hid (show w1.heap.size ≤ w28.heap.size from Nat.le_trans HO.out.size ho28.size)
           have HAT28 := Lib.hid (HAT.out.off (HO1.out.then HO28.out (fun x hx => by simp at hx)) (by simp))
           clear hr28 ho28 hg28))
      go_roundg (kc - (i + 1))
      case measure => omega
      case rel =>
        obtain ⟨h1, h2⟩ := HC1.out
        refine ⟨i + 1, rfl, by omega, by omega, Lib.hid ⟨H ++ [(c1, G)], ?_, fun p hp => ?_, ?_, ?_⟩⟩
        · rw [List.map_append, HH1.out, List.take_succ_eq_append_getElem h1, ← h2]; rfl
        · rcases List.mem_append.1 hp with hp | hp
          · exact HH2.out p hp
          · rw [List.mem_singleton.1 hp]; exact HG.out
        · have e : Lib.leBytes 4 kc ++ (H ++ [(c1, G)]).flatMap codedB = Lib.leBytes 4 kc ++ H.flatMap codedB ++ Lib.leBytes 8 c1 ++ mwB G := by
            rw [List.flatMap_append]
            simp only [List.flatMap_cons, List.flatMap_nil, List.append_nil, codedB, List.append_assoc]
          rw [e]
          exact HR32.out
        · exact (HO28.out.then HO31.out (fun x hx => by simp at hx)).then HO32.out (fun x hx => Or.inr (HR28.out.base x hx))
    · obtain rfl : kc = i := by omega
      have hcv := row8_conv HR.out (by rw [List.length_append, Lib.leBytes_length]; omega)
      have hHl : H.length = kc := by
        have h1 := congrArg List.length HH1.out
        rw [List.length_map, List.length_take, ← HKC.out] at h1
        omega
      have HHL := Lib.hid hHl
      clear hHl hlt hkx
      go_wp2_with fail
      go_ret
      have hHC : H.map (·.1) = Cs := by rw [HH1.out, List.take_of_length_le (by have := HKC.out; omega)]
      refine ⟨mhiB H, by rw [mhiB, HHL.out]; rfl, Or.inr ⟨rfl, H, ?_, rfl⟩, HO1.out.then HO.out (fun x hx => by simp at hx)⟩
      rw [rws_eq]
      exact cgrp_codes es H (by rw [hHC]; exact HCS.out.1) (by rw [hHC]; exact HCS.out.2) HH2.out
end Go.Proofs.YtcgggcjmmphldaaGreatDoor
namespace Go.Proofs.YtcgggcjmmphldaaGreatDoor
open Go.RowKit Go.Sort

theorem str_app (a b : List UInt8) : str a ++ str b = ⟨(a ++ b).toArray⟩ := by
  apply ByteArray.ext
  simp [str]

set_option maxRecDepth 100000 in
set_option maxHeartbeats 4000000 in
theorem indexBytes_of (kind : Nat) (es : List Ent) (A : Option Addr) (c n : Nat) (w : World) (hu : 0 < (Lib.uvarint kind).length) (hlen : ∀ s, Enc kind (rws es) s → s.length ≤ 2000000)
    (hV : ∀ W, Calls Tryz.prog 27 #[.int .u64 (kind : Int)] W fun r w' => ∃ v', r = .returned v' ∧ Row8 w' W.heap.size v' (Lib.uvarint kind) ∧ Off [] W w')
    (hB : ∀ W, Off [] w W → Calls Tryz.prog 28 #[.slice A n c, .int .u64 (kind : Int)] W fun r w' => ∃ l, r = .returned (.string (str l)) ∧ Enc kind (rws es) (Lib.uvarint kind ++ l) ∧ Off [] W w') :
    Calls Tryz.prog 16 #[.slice A n c, .int .u64 (kind : Int)] w fun r w' => ∃ s, Enc kind (rws es) s ∧ r = .returned (.string ⟨s.toArray⟩) ∧ Off [] w w' := by
  have HV := Lib.hid hV
  have HB := Lib.hid hB
  have HLEN := Lib.hid hlen
  have D0 : Hid (Off [] w w) := Lib.hid (Off.refl [] w)
  have D1 : Hid (Off [] w w.drew) := Lib.hid (Off.refl [] w).drew
  clear hV hB hlen
  go_enter Tryz.func16, Tryz.ntmps16
  go_wp2_with fail
  go_region_with (first
    | (go_at_call 28
       refine (HB.out _ P0.out).mono ?_
       rintro r w2 ⟨l, rfl, hl, ho2⟩
       obtain ⟨sl, hsl⟩ : ∃ sl, sl = str l := ⟨_, rfl⟩
       rw [← hsl]
       have hll : su.size + sl.size ≤ 2000000 := by
         have h1 := HLEN.out _ hl
         have h2 : su.size = (Lib.uvarint kind).length := by rw [HSU.out]; rfl
         have h3 : sl.size = l.length := by rw [hsl]; rfl
         rw [List.length_append] at h1
         omega
       have hz : ¬ ((9223372036854775807 : Int) < (su.size : Int) + (sl.size : Int)) := by omega
       have hcv3 : (convert 46 9 v1).run Tryz.prog w2 = .ok (.string su) w2 := by rw [HSU.out]; exact row8_conv (HR1.out.off ((Off.refl [] w1).then ho2 (fun x hx => by simp at hx)) (fun x _ => by simp)) hu
       have HL := Lib.hid hl
       have HSL := Lib.hid hsl
       have HO2 := Lib.hid (P0.out.then ho2 (fun x hx => by simp at hx))
       clear hl ho2 hsl hll)
    | (go_at_call 28
       refine (HB.out _ P1.out).mono ?_
       rintro r w2 ⟨l, rfl, hl, ho2⟩
       obtain ⟨sl, hsl⟩ : ∃ sl, sl = str l := ⟨_, rfl⟩
       rw [← hsl]
       have hll : su.size + sl.size ≤ 2000000 := by
         have h1 := HLEN.out _ hl
         have h2 : su.size = (Lib.uvarint kind).length := by rw [HSU.out]; rfl
         have h3 : sl.size = l.length := by rw [hsl]; rfl
         rw [List.length_append] at h1
         omega
       have hz : ¬ ((9223372036854775807 : Int) < (su.size : Int) + (sl.size : Int)) := by omega
       have hcv3 : (convert 46 9 v1).run Tryz.prog w2 = .ok (.string su) w2 := by rw [HSU.out]; exact row8_conv (HR1.out.off ((Off.refl [] w1).drew.then ho2 (fun x hx => by simp at hx)) (fun x _ => by simp)) hu
       have HL := Lib.hid hl
       have HSL := Lib.hid hsl
       have HO2 := Lib.hid (P1.out.then ho2 (fun x hx => by simp at hx))
       clear hl ho2 hsl hll)
    | (go_at_call 27
       refine (HV.out _).mono ?_
       rintro r w1 ⟨v1, rfl, hr1, ho1⟩
       obtain ⟨su, hsu⟩ : ∃ su, su = str (Lib.uvarint kind) := ⟨_, rfl⟩
       have hcv : (convert 46 9 v1).run Tryz.prog w1 = .ok (.string su) w1 := by rw [hsu]; exact row8_conv hr1 hu
       have hcv2 : (convert 46 9 v1).run Tryz.prog w1.drew = .ok (.string su) w1.drew := by rw [hsu]; exact row8_conv (hr1.off (Off.refl [] w1).drew (fun x _ => by simp)) hu
       have HR1 := Lib.hid hr1
       have HSU := Lib.hid hsu
       have P0 := Lib.hid (D1.out.then ho1 (fun x hx => by simp at hx))
       have P1 := Lib.hid (D1.out.then ho1 (fun x hx => by simp at hx)).drew
       clear hr1 ho1 hsu))
  all_goals go_wp2_with fail
  all_goals go_ret
  all_goals exact ⟨_, HL.out, by rw [← str_app, ← HSU.out, ← HSL.out]; rfl, by first | exact HO2.out | exact HO2.out.drew⟩

theorem indexBytes_any (kind : Nat) (hk : kind = 1024 ∨ kind = 1025) (es : List Ent) (A : Option Addr) (ib io c n : Nat) (w : World) (hes : ∀ e, e ∈ es → e.ok) (hn : es.length = n) (hn2 : n ≤ 100) (hA0 : A = none → n = 0 ∧ c = 0) (hat : EntsAt w A ib io es) :
    Calls Tryz.prog 16 #[.slice A n c, .int .u64 (kind : Int)] w fun r w' => ∃ s, Enc kind (rws es) s ∧ r = .returned (.string ⟨s.toArray⟩) ∧ Off [] w w' := by
  have hlen : ∀ s, Enc kind (rws es) s → s.length ≤ 2000000 := fun s h => h.len (by rw [rws, List.length_map]; omega) (fun r hr => (rws_small es hes r hr).2.1)
  rcases hk with rfl | rfl
  · exact indexBytes_of 1024 es A c n w (by rw [uv1024]; omega) hlen varint_1024 (fun W hW => indexBody_1024 es A ib io c n W hes hn hn2 hA0 (hat.off hW (by simp)))
  · exact indexBytes_of 1025 es A c n w (by rw [uv1025]; omega) hlen varint_1025 (fun W hW => indexBody_1025 es A ib io c n W hes hn hn2 hA0 (hat.off hW (by simp)))
end Go.Proofs.YtcgggcjmmphldaaGreatDoor
