/-
  spec.IndexBody: an index without its code.
  The bytes of an index are one, where no two entries of a bucket have one digest. No program is named here.
  spec.Rows, the plain part: rows of spec.Row, groups of entries.
  varint.ReadUvarint over any reader of bytes: a number below 2^63.
  (No condition beyond those that each theorem states.)
-/
import Derived.Test.YtkdbjocchponfaaGreatDoorM33
import Derived.Test.YtkdbjocchponfaaGreatDoorM28
import Derived.Test.YtkdbjocchponfaaGreatDoorM08
import Derived.Test.YtkdbjocchponfaaGreatDoorM05
import Derived.Test.YtkdbjocchponfaaGreatDoorM01
import Derived.LoopTactic
import Derived.LoopN
import Derived.Deep.LoopGhost
namespace Go.Proofs.YtkdbjocchponfaaGreatDoor
open Go.RowKit Go.Sort

theorem row8_conv {W : World} {B : Nat} {v : Value} {l : List UInt8} (h : Row8 W B v l) (h0 : 0 < l.length) : (convert 32 9 v).run Tryz.prog W = .ok (.string (str l)) W := by
  rcases id h.2 with ⟨rfl, h1⟩ | ⟨g, cap, cur, rfl, hg, hgg, rest⟩
  · have : l.length = 0 := h1
    omega
  · refine run_convert_seg Tryz.underlying32 Tryz.underlying5 Tryz.underlying9 cap (fun i hi => ?_)
    have h2 := World.ownsRow.cells h (g := g) rfl i (.int .u8 (l[i].toNat : Int)) (by simp [Lib.byteCells, List.getElem?_eq_getElem hi])
    rw [add_plain] at h2
    exact h2
theorem coded_len : ∀ (H : List (Nat × List (Nat × List Rw))), (∀ p, p ∈ H → (mwB p.2).length ≤ 102004) → (H.flatMap codedB).length ≤ 102012 * H.length
  | [], _ => by simp
  | p :: H, h => by
    have ih := coded_len H (fun q hq => h q (List.mem_cons_of_mem _ hq))
    have h1 := h p (List.mem_cons_self ..)
    simp only [List.flatMap_cons, List.length_append, List.length_cons, codedB, Lib.leBytes_length]
    omega
theorem dg_len2 (e : Ent) : e.dg.data.toList.length = e.dg.size := by rw [Array.length_toList]; rfl
theorem rows_it (es : List Ent) : (rws es).map (·.2) = es.map Ent.rw := by
  rw [rws, List.map_map]; rfl
theorem rws_eq (es : List Ent) : rws es = es.map fun e => (e.code, e.rw) := rfl

set_option maxRecDepth 100000 in
set_option maxHeartbeats 4000000 in
theorem indexBody_1024 (es : List Ent) (A : Option Addr) (ib io c n : Nat) (w : World) (hes : ∀ e, e ∈ es → e.ok) (hn : es.length = n) (hn2 : n ≤ 100) (hA0 : A = none → n = 0 ∧ c = 0) (hat : EntsAt w A ib io es) :
    Calls Tryz.prog 22 #[.slice A n c, .int .u64 1024] w fun r w' => ∃ l, r = .returned (.string (str l)) ∧ Enc 1024 (rws es) (Lib.uvarint 1024 ++ l) ∧ Off [] w w' := by
  have hsb := sortedBytes_any es A ib io c n (.slice none 0 0) [] w.heap.size w hn hn2 (fun e he => by have := (hes e he).small; rw [dg_len2] at this; exact this) (fun e he => (hes e he).off) hA0 hat (fun _ => by simp [ob, Value.ownBlock]) (World.ownsRow_nil _ _ _ _) (Nat.le_refl _) (by simp)
  have HS := Lib.hid hsb
  clear hsb hat hes
  go_enter Tryz.func22, Tryz.ntmps22
  go_wp2_with (first
    | (go_at_call 45
       refine HS.out.mono ?_
       rintro r w1 ⟨v1, G, rfl, hG, hr1, ho1, hg1⟩
       rw [List.nil_append] at hr1
       have hcv := row8_conv hr1 (by rw [mwB, List.length_append, Lib.leBytes_length]; omega)
       have HG := Lib.hid hG
       have HO1 := Lib.hid ho1
       clear hG hr1 ho1 hg1))
  go_ret
  refine ⟨mwB G, rfl, Or.inl ⟨rfl, G, by rw [rows_it]; exact HG.out, rfl⟩, HO1.out.mono (fun x hx => by simp [ob, Value.ownBlock] at hx)⟩

set_option maxRecDepth 100000 in
set_option maxHeartbeats 4000000 in
theorem indexBody_1025 (es : List Ent) (A : Option Addr) (ib io c n : Nat) (w : World) (hes : ∀ e, e ∈ es → e.ok) (hn : es.length = n) (hn2 : n ≤ 100) (_hA0 : A = none → n = 0 ∧ c = 0) (hat : EntsAt w A ib io es) :
    Calls Tryz.prog 22 #[.slice A n c, .int .u64 1025] w fun r w' => ∃ l, r = .returned (.string (str l)) ∧ Enc 1025 (rws es) (Lib.uvarint 1025 ++ l) ∧ Off [] w w' := by
  have hc64 : ∀ e, e ∈ es → e.code < 18446744073709551616 := fun e he => by rcases (hes e he).ver with ⟨_, _, h, _⟩ | ⟨_, _, h⟩ <;> omega
  have HC := Lib.hid (codes_any es A ib io c n w hn (by omega) hc64 hat)
  have HES := Lib.hid hes
  have HN := Lib.hid hn
  have HAT := Lib.hid hat
  have HIB := Lib.hid (fun h0 : 0 < es.length => (hat.at_ h0).2)
  have HC64 := Lib.hid hc64
  clear hes hn hat hc64 _hA0
  go_enter Tryz.func22, Tryz.ntmps22
  go_wp2_with (first
    | (go_at_call 47
       refine (low_any w1 w1.heap.size kc 4 (.slice none 0 0) [] (World.ownsRow_nil _ _ _ _) (by omega) (by omega) (by simp) (Nat.le_refl _)).mono ?_
       rintro r w2 ⟨v2, rfl, hr2, ho2, hg2⟩
       rw [List.nil_append] at hr2
       have HR2 := Lib.hid hr2
       have HO2 := Lib.hid (show Off [] w1 w2 from ho2.mono (fun x hx => by simp [ob, Value.ownBlock] at hx))
       clear hr2 ho2 hg2)
    | (go_at_call 46
       refine HC.out.mono ?_
       rintro r w1 ⟨vC, outs, rfl, hnd, hmem, hrow, ho1⟩
       obtain ⟨Cs, hasc, hmem2, hsrt, hlen⟩ := asc_of_outs outs hnd
       obtain ⟨AC, bC, oC, cC, rfl, hAC, hcC⟩ := intsAt_of_srt hrow hsrt hlen
       have HO1 := Lib.hid ho1
       have hkle : Cs.length ≤ 100 := by
         have h1 := nodup_lenN Cs (es.map fun e => e.code) (nodup_asc hasc) (fun k hk => by
           obtain ⟨e, he, rfl⟩ := (hmem k).1 ((hmem2 k).1 hk)
           exact List.mem_map.2 ⟨e, he, rfl⟩)
         rw [List.length_map, HN.out] at h1
         omega
       have HCS := Lib.hid (And.intro hasc (show ∀ k, k ∈ Cs ↔ ∃ e, e ∈ es ∧ e.code = k from fun k => (hmem2 k).trans (hmem k)))
       have HAC := Lib.hid hAC
       have HCC := Lib.hid hcC
       obtain ⟨kc, hkc⟩ : ∃ k, k = Cs.length := ⟨_, rfl⟩
       have HKC := Lib.hid hkc
       rw [← hkc] at hkle ⊢
       clear hnd hmem hrow ho1 hasc hmem2 hsrt hlen hAC hcC hkc))
  have HW1 := Lib.hid HO1.out.size
  go_loopg [6, 22] kc (fun kx s6 s22 wr => ∃ i : Nat, s22 = .int .i64 (i : Int) ∧ i ≤ kc ∧ kc - i ≤ kx ∧ Hid (∃ H : List (Nat × List (Nat × List Rw)), H.map (·.1) = Cs.take i ∧ (∀ p, p ∈ H → Grp ((es.filter fun e => e.code == p.1).map Ent.rw) p.2) ∧ Row8 wr w1.heap.size s6 (Lib.leBytes 4 kc ++ H.flatMap codedB) ∧ Off [] w1 wr))
  case atStart => exact ⟨0, rfl, Nat.zero_le _, by omega, Lib.hid ⟨[], rfl, fun p hp => by simp at hp, by simpa using HR2.out, HO2.out⟩⟩
  case round =>
    rename World => wr
    clear HR2 HO2
    obtain ⟨i, rfl, hik, hkx, hh⟩ := hrel
    obtain ⟨H, hH1, hH2, hR, hO⟩ := hh.out
    have hHl : H.length = i := by
      have h1 := congrArg List.length hH1
      rw [List.length_map, List.length_take, ← HKC.out] at h1
      omega
    have hlen : (Lib.leBytes 4 kc ++ H.flatMap codedB).length ≤ 10201204 := by
      have h1 := coded_len H (fun p hp => grp_len (hH2 p hp) (Nat.le_trans (List.length_filter_le _ _) (by rw [HN.out]; exact hn2)) (fun e he => by
        have := (HES.out e (List.mem_filter.1 he).1).small
        rw [dg_len2] at this; exact this))
      rw [List.length_append, Lib.leBytes_length]
      omega
    have HH1 := Lib.hid hH1
    have HH2 := Lib.hid hH2
    have HR := Lib.hid hR
    have HO := Lib.hid hO
    have HLEN := Lib.hid hlen
    clear hh hH1 hH2 hR hO hHl hlen
    by_cases hlt : i < kc
    · have hic : i < Cs.length := by have := HKC.out; omega
      obtain ⟨hA, hbl⟩ := HAC.out (by omega)
      have hcc := HO.out.cell (HCC.out i hic) (by simp)
      obtain ⟨c1, hc1⟩ : ∃ m, m = Cs[i] := ⟨_, rfl⟩
      rw [← hc1] at hcc
      have HC1 := Lib.hid (show ∃ h : i < Cs.length, c1 = Cs[i] from ⟨hic, hc1⟩)
      have hc64 : c1 < 18446744073709551616 := by
        obtain ⟨e, he, hs⟩ := (HCS.out.2 c1).1 (by rw [hc1]; exact List.getElem_mem _)
        have := HC64.out e he
        omega
      clear hc1 hic
      subst hA
      go_wp2_with (first
        | (go_at_call 45
           refine (sortedBytes_any (es.filter fun e => e.code == c1) A' ib' 0 c' n' v28 _ w1.heap.size w31 HN'.out hn' (fun e he => by
             have := (HES.out e (List.mem_filter.1 he).1).small
             rw [dg_len2] at this; exact this) (fun e he => (HES.out e (List.mem_filter.1 he).1).off) HA'.out HE'.out HI'.out (HR28.out.off HO31.out (fun x _ => by simp)) (Nat.le_trans HZ28.out HO31.out.size) (by rw [List.length_append, Lib.leBytes_length]; have := HLEN.out; omega)).mono ?_
           rintro r w32 ⟨v32, G, rfl, hG, hr32, ho32, hg32⟩
           have HG := Lib.hid hG
           have HR32 := Lib.hid hr32
           have HO32 := Lib.hid ho32
           clear hG hr32 ho32 hg32)
        | (go_at_call 48
           refine (coded_any es A ib io c n c1 w28 HN.out (by omega) (HAT28.out) (fun h0 => Nat.lt_of_lt_of_le (HIB.out h0) (Nat.le_trans HW1.out HZ28.out))).mono ?_
           rintro r w31 ⟨v31, rfl, hr31, ho31⟩
           obtain ⟨A', ib', c', rfl, hA', hE'⟩ := hr31.ents
           obtain ⟨n', hn0⟩ : ∃ m, m = (es.filter fun e => e.code == c1).length := ⟨_, rfl⟩
           rw [← hn0]
           rw [← hn0] at hA'
           have hn' : n' ≤ 100 := by rw [hn0]; exact Nat.le_trans (List.length_filter_le _ _) (by rw [HN.out]; exact hn2)
           have HN' := Lib.hid hn0.symm
           have HA' := Lib.hid hA'
           have HE' := Lib.hid hE'
           have HI' : Hid (0 < (es.filter fun e => e.code == c1).length → ib' ∉ ob v28) := Lib.hid (fun h0 hx => by
             have h1 := (hE'.at_ h0).1
             have h2 := hr31.base ib' (by rw [h1]; simp [ob, Value.ownBlock])
             have h3 := row8_lt HR28.out _ hx
             omega)
           have HO31 := Lib.hid ho31
           clear hr31 hA' hE' hn0 ho31)
        | (go_at_call 47
           refine (low_any wr w1.heap.size c1 8 u6 _ HR.out hc64 (by omega) (by have := HLEN.out; omega) HO.out.size).mono ?_
           rintro r w28 ⟨v28, rfl, hr28, ho28, hg28⟩
           have HR28 := Lib.hid hr28
           have HO28 := Lib.hid (show Off [] w1 w28 from HO.out.then ho28 (fun x hx => Or.inr (HR.out.base x hx)))
           have HZ28 := Lib.hid (show w1.heap.size ≤ w28.heap.size from Nat.le_trans HO.out.size ho28.size)
           have HAT28 := Lib.hid (HAT.out.off (HO1.out.then HO28.out (fun x hx => by simp at hx)) (by simp))
           clear hr28 ho28 hg28))
      go_roundg (kc - (i + 1))
      case measure => omega
      case rel =>
        obtain ⟨h1, h2⟩ := HC1.out
        refine ⟨i + 1, rfl, by omega, by omega, Lib.hid ⟨H ++ [(c1, G)], ?_, fun p hp => ?_, ?_, ?_⟩⟩
        · rw [List.map_append, HH1.out, List.take_succ_eq_append_getElem h1, ← h2]; rfl
        · rcases List.mem_append.1 hp with hp | hp
          · exact HH2.out p hp
          · rw [List.mem_singleton.1 hp]; exact HG.out
        · have e : Lib.leBytes 4 kc ++ (H ++ [(c1, G)]).flatMap codedB = Lib.leBytes 4 kc ++ H.flatMap codedB ++ Lib.leBytes 8 c1 ++ mwB G := by
            rw [List.flatMap_append]
            simp only [List.flatMap_cons, List.flatMap_nil, List.append_nil, codedB, List.append_assoc]
          rw [e]
          exact HR32.out
        · exact (HO28.out.then HO31.out (fun x hx => by simp at hx)).then HO32.out (fun x hx => Or.inr (HR28.out.base x hx))
    · obtain rfl : kc = i := by omega
      have hcv := row8_conv HR.out (by rw [List.length_append, Lib.leBytes_length]; omega)
      have hHl : H.length = kc := by
        have h1 := congrArg List.length HH1.out
        rw [List.length_map, List.length_take, ← HKC.out] at h1
        omega
      have HHL := Lib.hid hHl
      clear hHl hlt hkx
      go_wp2_with fail
      go_ret
      have hHC : H.map (·.1) = Cs := by rw [HH1.out, List.take_of_length_le (by have := HKC.out; omega)]
      refine ⟨mhiB H, by rw [mhiB, HHL.out]; rfl, Or.inr ⟨rfl, H, ?_, rfl⟩, HO1.out.then HO.out (fun x hx => by simp at hx)⟩
      rw [rws_eq]
      exact cgrp_codes es H (by rw [hHC]; exact HCS.out.1) (by rw [hHC]; exact HCS.out.2) HH2.out
end Go.Proofs.YtkdbjocchponfaaGreatDoor
namespace Go.Proofs.YtkdbjocchponfaaGreatDoor

theorem asc_unique {A B : List Nat} (hA : A.Pairwise (· < ·)) (hB : B.Pairwise (· < ·)) (h : ∀ x, x ∈ A ↔ x ∈ B) : A = B :=
  List.Perm.eq_of_pairwise (le := fun a b => a < b) (fun a b _ _ h1 h2 => by omega) hA hB ((List.perm_ext_iff_of_nodup (nodup_asc hA) (nodup_asc hB)).2 h)

theorem filter_width : ∀ (G : List (Nat × List Rw)), (G.map (·.1)).Nodup → (∀ p, p ∈ G → ∀ r, r ∈ p.2 → r.d.length = p.1) → ∀ p, p ∈ G → ((flat G).filter fun r => r.d.length == p.1) = p.2
  | [], _, _, p, hp => by simp at hp
  | q :: G, hn, hw, p, hp => by
    have hn' : q.1 ∉ G.map (·.1) ∧ (G.map (·.1)).Nodup := by simpa using hn
    have hfl : flat (q :: G) = q.2 ++ flat G := rfl
    rw [hfl, List.filter_append]
    rcases List.mem_cons.1 hp with rfl | hp'
    · have h1 : (p.2.filter fun r => r.d.length == p.1) = p.2 := List.filter_eq_self.2 fun r hr => by simp [hw p (List.mem_cons_self ..) r hr]
      have h0 : ((flat G).filter fun r => r.d.length == p.1) = [] := List.filter_eq_nil_iff.2 fun r hr e => by
        obtain ⟨x, hx, hrx⟩ := mem_flat.1 hr
        rw [beq_iff_eq, hw x (List.mem_cons_of_mem _ hx) r hrx] at e
        exact hn'.1 (List.mem_map.2 ⟨x, hx, e⟩)
      rw [h1, h0, List.append_nil]
    · have h0 : (q.2.filter fun r => r.d.length == p.1) = [] := List.filter_eq_nil_iff.2 fun r hr e => by
        rw [beq_iff_eq, hw q (List.mem_cons_self ..) r hr] at e
        exact hn'.1 (List.mem_map.2 ⟨p, hp', e.symm⟩)
      rw [h0, List.nil_append]
      exact filter_width G hn'.2 (fun x hx => hw x (List.mem_cons_of_mem _ hx)) p hp'

theorem map_unique {β : Type} : ∀ {A B : List (Nat × β)}, A.map (·.1) = B.map (·.1) → (A.map (·.1)).Nodup → (∀ p q, p ∈ A → q ∈ B → p.1 = q.1 → p.2 = q.2) → A = B
  | [], [], _, _, _ => rfl
  | [], _ :: _, h, _, _ => by simp at h
  | _ :: _, [], h, _, _ => by simp at h
  | p :: A, q :: B, h, hn, hp => by
    simp only [List.map_cons, List.cons.injEq] at h
    have e2 := hp p q (List.mem_cons_self ..) (List.mem_cons_self ..) h.1
    have hn' : p.1 ∉ A.map (·.1) ∧ (A.map (·.1)).Nodup := by simpa using hn
    rw [map_unique h.2 hn'.2 (fun x y hx hy => hp x y (List.mem_cons_of_mem _ hx) (List.mem_cons_of_mem _ hy)), show p = q from Prod.ext h.1 e2]

theorem bks_unique {G G' : List (Nat × List Rw)} (h : Bks G) (h' : Bks G') (hp : (flat G).Perm (flat G')) (hU : ∀ x y, x ∈ flat G → y ∈ flat G → x.d = y.d → x = y) : G = G' := by
  have g1 : Grp (flat G) G := ⟨h, List.Perm.refl _⟩
  have g2 : Grp (flat G) G' := ⟨h', hp.symm⟩
  refine map_unique (asc_unique h.asc h'.asc fun n => by rw [g1.widths, g2.widths]) (nodup_asc h.asc) fun p q hpG hqG e => ?_
  have f1 := filter_width G (nodup_asc h.asc) h.wid p hpG
  have f2 := filter_width G' (nodup_asc h'.asc) h'.wid q hqG
  have hpq : p.2.Perm q.2 := by
    rw [← f1, ← f2, ← e]
    exact hp.filter _
  refine List.Perm.eq_of_pairwise (le := fun a b : Rw => ¬ b.d < a.d) (fun a b ha hb h1 h2 => ?_) (h.srt p hpG) (h'.srt q hqG) hpq
  exact hU a b (mem_flat.2 ⟨p, hpG, ha⟩) (mem_flat.2 ⟨p, hpG, hpq.mem_iff.2 hb⟩) (lt_or h2 h1)

theorem filter_code : ∀ (H : List (Nat × List (Nat × List Rw))), (H.map (·.1)).Nodup → ∀ p, p ∈ H → ((cflat H).filter fun r => r.1 == p.1) = (flat p.2).map fun r => (p.1, r)
  | [], _, p, hp => by simp at hp
  | q :: H, hn, p, hp => by
    have hn' : q.1 ∉ H.map (·.1) ∧ (H.map (·.1)).Nodup := by simpa using hn
    have hfl : cflat (q :: H) = (flat q.2).map (fun r => (q.1, r)) ++ cflat H := rfl
    rw [hfl, List.filter_append]
    rcases List.mem_cons.1 hp with rfl | hp'
    · have h1 : (((flat p.2).map fun r => (p.1, r)).filter fun r => r.1 == p.1) = (flat p.2).map fun r => (p.1, r) := List.filter_eq_self.2 fun r hr => by
        obtain ⟨x, _, rfl⟩ := List.mem_map.1 hr
        simp
      have h0 : ((cflat H).filter fun r => r.1 == p.1) = [] := List.filter_eq_nil_iff.2 fun r hr e => by
        obtain ⟨x, hx, hrx⟩ := List.mem_flatMap.1 hr
        obtain ⟨y, _, rfl⟩ := List.mem_map.1 hrx
        rw [beq_iff_eq] at e
        exact hn'.1 (List.mem_map.2 ⟨x, hx, e⟩)
      rw [h1, h0, List.append_nil]
    · have h0 : (((flat q.2).map fun r => (q.1, r)).filter fun r => r.1 == p.1) = [] := List.filter_eq_nil_iff.2 fun r hr e => by
        obtain ⟨y, _, rfl⟩ := List.mem_map.1 hr
        rw [beq_iff_eq] at e
        exact hn'.1 (List.mem_map.2 ⟨p, hp', e.symm⟩)
      rw [h0, List.nil_append]
      exact filter_code H hn'.2 p hp'

theorem cgrp_unique {es : List (Nat × Rw)} {H H' : List (Nat × List (Nat × List Rw))} (h : CGrp es H) (h' : CGrp es H') (hU : ∀ x y, x ∈ es → y ∈ es → x.1 = y.1 → x.2.d = y.2.d → x.2 = y.2) : H = H' := by
  refine map_unique (asc_unique h.asc h'.asc fun c => by rw [h.codes, h'.codes]) (nodup_asc h.asc) fun p q hpH hqH e => ?_
  have f1 := filter_code H (nodup_asc h.asc) p hpH
  have f2 := filter_code H' (nodup_asc h'.asc) q hqH
  have hpq : (flat p.2).Perm (flat q.2) := by
    have h3 : ((cflat H).filter fun r => r.1 == p.1).Perm ((cflat H').filter fun r => r.1 == p.1) := (h.perm.trans h'.perm.symm).filter _
    rw [f1, show ((cflat H').filter fun r => r.1 == p.1) = (flat q.2).map fun r => (q.1, r) by rw [e]; exact f2] at h3
    have h4 := h3.map (·.2)
    simpa [List.map_map, Function.comp_def] using h4
  have hmem : ∀ x, x ∈ flat p.2 → (p.1, x) ∈ es := fun x hx => h.perm.mem_iff.1 (List.mem_flatMap.2 ⟨p, hpH, List.mem_map.2 ⟨x, hx, rfl⟩⟩)
  exact bks_unique (h.bks p hpH) (h'.bks q hqH) hpq fun x y hx hy hd => hU _ _ (hmem x hx) (hmem y hy) rfl hd

theorem grp_unique {l : List Rw} {G G' : List (Nat × List Rw)} (h : Grp l G) (h' : Grp l G') (hU : ∀ x y, x ∈ l → y ∈ l → x.d = y.d → x = y) : G = G' :=
  bks_unique h.bks h'.bks (h.perm.trans h'.perm.symm) fun x y hx hy => hU x y (h.perm.mem_iff.1 hx) (h.perm.mem_iff.1 hy)

/-- No two rows of one digest (in 0x0401 of one hash function). -/
def OneEach (kind : Nat) (es : List (Nat × Rw)) : Prop := ∀ x y, x ∈ es → y ∈ es → (kind = 1024 ∨ x.1 = y.1) → x.2.d = y.2.d → x.2 = y.2

theorem enc_unique {kind : Nat} {es : List (Nat × Rw)} {s s' : List UInt8} (h : Enc kind es s) (h' : Enc kind es s') (hU : OneEach kind es) : s = s' := by
  rcases h with ⟨rfl, G, hG, rfl⟩ | ⟨rfl, H, hH, rfl⟩
  · rcases h' with ⟨_, G', hG', rfl⟩ | ⟨h1, _⟩
    · rw [grp_unique hG hG' fun x y hx hy hd => ?_]
      obtain ⟨a, ha, rfl⟩ := List.mem_map.1 hx
      obtain ⟨b, hb, rfl⟩ := List.mem_map.1 hy
      exact hU a b ha hb (Or.inl rfl) hd
    · omega
  · rcases h' with ⟨h1, _⟩ | ⟨_, H', hH', rfl⟩
    · omega
    · rw [cgrp_unique hH hH' fun x y hx hy hc hd => hU x y hx hy (Or.inr hc) hd]
end Go.Proofs.YtkdbjocchponfaaGreatDoor
namespace Go.Proofs.YtkdbjocchponfaaGreatDoor
open Go.RowKit Go.Sort

theorem own_off {w w' : World} {B e s n : Nat} {v : Value} {xs : List Value} {S : List Nat} (h : w.ownsRow B e s v n xs) (ho : Off S w w') (hS : ∀ x, x ∈ ob v → x ∉ S) : w'.ownsRow B e s v n xs := by
  refine ⟨h.1, ?_⟩
  rcases id h.2 with hn | ⟨g, cap, cur, rfl, hg, hgg, rest⟩
  · exact .inl hn
  · exact .inr ⟨g, cap, cur, rfl, hg, by rw [ho.block g (Array.getElem?_eq_some_iff.1 hgg).1 (hS g (by simp [ob, Value.ownBlock]))]; exact hgg, rest⟩
theorem own_base {w : World} {B e s n : Nat} {v : Value} {xs : List Value} (h : w.ownsRow B e s v n xs) : ∀ x, x ∈ ob v → B ≤ x := fun x hx => by
  rcases id h.2 with ⟨rfl, _⟩ | ⟨g, cap, cur, rfl, hg, hgg, rest⟩
  · simp [ob, Value.ownBlock] at hx
  · simp [ob, Value.ownBlock] at hx
    omega
/-- Blocks of different types are two. -/
theorem own_ne_blk {w : World} {B e s n : Nat} {v : Value} {xs : List Value} {g : Nat} {t : TypeId} {cs : Array Value} (h : w.ownsRow B e s v n xs) (hb : Blk w g t cs) (ht : t ≠ e) : g ∉ ob v := fun hx => by
  rcases id h.2 with ⟨rfl, _⟩ | ⟨k, cap, cur, rfl, hg, hgg, rest⟩
  · simp [ob, Value.ownBlock] at hx
  · simp [ob, Value.ownBlock] at hx
    subst hx
    have e := Option.some.inj (hgg.symm.trans hb)
    injection e with _ e2 _
    exact ht e2.symm
theorem own_shape {w : World} {B e size n : Nat} {v : Value} {xs : List Value} (h : w.ownsRow B e size v n xs) : ∃ A b c, v = .slice A n c ∧ (A = none → n = 0 ∧ c = 0) ∧ (0 < n → A = some ⟨b, 0, none⟩ ∧ b ∈ ob v ∧ b < w.heap.size ∧ ∀ j u, xs[j]? = some u → w.cell? ⟨b, j, none⟩ = some u) := by
  rcases id h.2 with ⟨rfl, h0⟩ | ⟨g, cap, cur, rfl, hg, hgg, rest⟩
  · exact ⟨none, 0, 0, by rw [h0], fun _ => ⟨h0, rfl⟩, fun hn => by omega⟩
  · refine ⟨some ⟨g, 0, none⟩, g, cap, rfl, (fun h => by cases h), fun _ => ⟨rfl, by simp [ob, Value.ownBlock], (Array.getElem?_eq_some_iff.1 hgg).1, fun j u hu => ?_⟩⟩
    have h2 := World.ownsRow.cells h (g := g) rfl j u hu
    rw [add_plain, Nat.zero_add] at h2
    exact h2

end Go.Proofs.YtkdbjocchponfaaGreatDoor
namespace Go.Proofs.YtkdbjocchponfaaGreatDoor
open Go.RowKit

theorem ret2w {a a' : Int} {k : IntKind} {v : Value} (h : a = a') : Ending.returned (.tuple #[.int k a, v]) = Ending.returned (.tuple #[.int k a', v]) := by rw [h]

set_option maxRecDepth 100000 in
set_option maxHeartbeats 2000000 in
theorem readUvarint_gen (ty f : Nat) (a : Addr) (x : Nat) (hx : x < 9223372036854775808) (St : Nat → World → Prop)
    (he : ∀ args W, (callFunc f args).run Tryz.prog W = .ok (.enter f args) W)
    (hm : ∀ W, (method 513 ty (.pointer (some a)) "ReadByte").run Tryz.prog W = .ok (f, .pointer (some a)) W)
    (hb : ∀ (j c : Nat) W, St j W → ((Lib.uvarint x)[j]?).map (·.toNat) = some c → Calls Tryz.prog f #[.pointer (some a)] W fun e w' => e = .returned (.tuple #[.int .u8 (c : Int), .nilIface]) ∧ St (j + 1) w')
    (w : World) (h0 : St 0 w) :
    Calls Tryz.prog 56 #[.iface ty (.pointer (some a))] w fun e w' => e = .returned (.tuple #[.int .u64 (x : Int), .nilIface]) ∧ St (Lib.uvarint x).length w' := by
  have HX := Lib.hid hx
  have HB := Lib.hid hb
  have H0 := Lib.hid h0
  clear hx hb h0
  go_enter Tryz.func56, Tryz.ntmps56
  go_wp2_with fail
  go_loopg [4, 5] 10 (fun kx s4 s5 wr => ∃ (j y acc : Nat) (pre : List UInt8), 9 - j ≤ kx ∧ Hid (pre.length = j ∧ Lib.uvarint x = pre ++ Lib.uvarint y ∧ x = acc + y * 2 ^ (7 * j) ∧ acc < 2 ^ (7 * j) ∧ (0 < j → 0 < y)) ∧
      s4 = .int .u64 acc ∧ s5 = .int .u64 ((7 * j : Nat) : Int) ∧ Hid (St j wr))
  case atStart => exact ⟨0, x, 0, [], by omega, Lib.hid ⟨rfl, rfl, by simp, by simp, by omega⟩, rfl, rfl, H0⟩
  case round =>
    rename World => wr
    obtain ⟨j, y, acc, pre, hkx, hh, rfl, rfl, HS⟩ := hrel
    obtain ⟨hpl, hsp, hxe, hacc, hy0⟩ := hh.out
    have hul := congrArg List.length hsp
    rw [List.length_append] at hul
    have hyp := Lib.uvarint_pos y
    have hx := HX.out
    have hget : (Lib.uvarint x)[j]? = (Lib.uvarint y)[0]? := by rw [hsp, List.getElem?_append_right (by omega)]; simp [hpl]
    have hi8 : j ≤ 8 := by
      rcases Nat.lt_or_ge j 9 with h | h
      · omega
      · exfalso
        have h1 : 2 ^ 63 ≤ 2 ^ (7 * j) := Nat.pow_le_pow_right (by omega) (by omega)
        have h2 := Nat.le_mul_of_pos_left (2 ^ (7 * j)) (hy0 (by omega))
        omega
    by_cases h128 : 128 ≤ y
    · have hb := Lib.uvarint_big h128
      have hmm := Lib.toUInt8_toNat (a := y % 128 + 128) (by omega)
      have hi7 : j ≤ 7 := by
        rcases Nat.lt_or_ge j 8 with h | h
        · omega
        · exfalso
          have h1 : 2 ^ 56 ≤ 2 ^ (7 * j) := Nat.pow_le_pow_right (by omega) (by omega)
          have h2 := Nat.mul_le_mul h128 h1
          omega
      have hby : ((Lib.uvarint x)[j]?).map (·.toNat) = some (y % 128 + 128) := by rw [hget, hb, List.getElem?_cons_zero, Option.map_some, hmm]
      have HC := Lib.hid (HB.out j (y % 128 + 128) wr HS.out hby)
      have HH := Lib.hid (And.intro hsp (And.intro hxe (And.intro hacc (And.intro hpl (And.intro hb hul)))))
      obtain ⟨c, hc⟩ : ∃ c, c = y % 128 + 128 := ⟨_, rfl⟩
      rw [← hc] at HC
      have hc1 : 128 ≤ c := by omega
      have hc2 : c < 256 := by omega
      have q1 : (((7 * j : Nat) : Int) == 56) = false := beq_eq_false_iff_ne.2 (by omega)
      have q2 : ¬ (63 : Int) ≤ ((7 * j : Nat) : Int) := by omega
      have q3 : (128 : Int) ≤ (c : Int) := by omega
      have q4 : ¬ ((c : Int) < 128) := by omega
      have HCE := Lib.hid hc
      clear hsp hxe hacc hpl hb hul hx hy0 hmm hyp hget hby hh hc
      go_wp2_with fail
      refine HC.out.mono ?_
      rintro e w1 ⟨rfl, hs1⟩
      have HS1 := Lib.hid hs1
      clear hs1
      go_wp2_with fail
      go_roundg (gk - 1)
      case measure => omega
      case rel =>
        obtain ⟨hsp, hxe, hacc, hpl, hb, hul⟩ := HH.out
        have hx := HX.out
        have hpw : 2 ^ (7 * (j + 1)) = 128 * 2 ^ (7 * j) := by rw [show 7 * (j + 1) = 7 + 7 * j from by omega, Nat.pow_add]
        have hdm : y * 2 ^ (7 * j) = y % 128 * 2 ^ (7 * j) + y / 128 * (128 * 2 ^ (7 * j)) := by
          rw [← Nat.mul_assoc, ← Nat.add_mul]; congr 1; omega
        have hlt : y % 128 * 2 ^ (7 * j) + 2 ^ (7 * j) ≤ 128 * 2 ^ (7 * j) := by
          rw [← Nat.succ_mul]; exact Nat.mul_le_mul_right _ (by omega)
        refine ⟨j + 1, y / 128, acc + y % 128 * 2 ^ (7 * j), pre ++ [(y % 128 + 128).toUInt8], by omega, Lib.hid ⟨by simp [hpl], by rw [hsp, hb]; simp, by rw [hpw]; omega, by rw [hpw]; omega, by omega⟩, ?_, by go_num, HS1⟩
        have ea : bits .and .u8 (c : Int) 127 = ((y % 128 : Nat) : Int) := by rw [HCE.out, u8_and127 (x := ((y % 128 + 128 : Nat) : Int)) (by omega) (by omega)]; omega
        have ew : IntKind.u64.wrap ((y % 128 : Nat) : Int) = ((y % 128 : Nat) : Int) := by rw [IntKind.wrap_u64, Int.emod_eq_of_lt (by omega) (by omega)]
        rw [ea, ew, or_join_w j acc (y % 128) hacc (by omega)]
    · have hb := Lib.uvarint_small (x := y) (by omega)
      have hmm := Lib.toUInt8_toNat (a := y) (by omega)
      have hby : ((Lib.uvarint x)[j]?).map (·.toNat) = some y := by rw [hget, hb, List.getElem?_cons_zero, Option.map_some, hmm]
      have HC := Lib.hid (HB.out j y wr HS.out hby)
      have HH := Lib.hid (And.intro hsp (And.intro hxe (And.intro hacc (And.intro hpl (And.intro hb hul)))))
      have q2 : ¬ (63 : Int) ≤ ((7 * j : Nat) : Int) := by omega
      have q3 : ¬ (128 : Int) ≤ (y : Int) := by omega
      have q4 : ((y : Int) < 128) := by omega
      have q5 : (y = 0 ∧ j = 0) ∨ ¬ y = 0 := by omega
      have HH0 := Lib.hid (And.intro q5 hy0)
      clear hsp hxe hacc hpl hb hul hx hy0 hmm hyp hget hby hh q5
      go_wp2_with fail
      refine HC.out.mono ?_
      rintro e w1 ⟨rfl, hs1⟩
      have HS1 := Lib.hid hs1
      clear hs1
      have hlast : Hid ((Lib.uvarint x).length = j + 1) := Lib.hid (by
        obtain ⟨_, _, _, hpl, hb, hul⟩ := HH.out
        rw [hb] at hul; simp at hul; omega)
      by_cases hz : y = 0
      · subst hz
        have hj0 : j = 0 := by have := HH0.out.2; omega
        subst hj0
        go_wp2_with fail
        go_ret2
        obtain ⟨hsp, hxe, hacc, hpl, hb, hul⟩ := HH.out
        refine ⟨ret2w ?_, by rw [hlast.out]; exact HS1.out⟩
        have ha : acc = 0 := by simpa using hacc
        subst ha
        rw [hxe]; rfl
      · have q6 : ((y : Int) == 0) = false := beq_eq_false_iff_ne.2 (by omega)
        go_wp2_with fail
        all_goals (try go_ret2)
        all_goals
          obtain ⟨hsp, hxe, hacc, hpl, hb, hul⟩ := HH.out
          have hx := HX.out
          refine ⟨ret2w ?_, by rw [hlast.out]; exact HS1.out⟩
          first
          | (rw [or_join_w j acc y hacc (by rw [← hxe]; omega), ← hxe]; done)
          | (have h0 : j = 8 := by clear hxe hacc; omega
             subst h0
             have hj := or_join_w 8 acc y hacc (by rw [← hxe]; omega)
             rw [← hxe] at hj
             have e : IntKind.u64.wrap ((y : Int) * 2 ^ (7 * 8)) = (y : Int) * 72057594037927936 := by rw [IntKind.wrap_u64, Int.emod_eq_of_lt (by omega) (by omega)]; rfl
             rw [e] at hj
             exact hj)
end Go.Proofs.YtkdbjocchponfaaGreatDoor
