/-
  laws.FnIxMakeZero: an index is made of a file with zero bytes behind it just if a length of zero is taken for the end.
  (No condition beyond those that each theorem states.)
-/
import Derived.Test.YtkdbjocchponfaaGreatDoorM45
import Derived.Test.YtkdbjocchponfaaGreatDoorM46
import Derived.Test.YtkdbjocchponfaaGreatDoorM39
import Derived.Test.YtkdbjocchponfaaGreatDoorM34
import Derived.Deep.RegionWith
namespace Go.Proofs.YtkdbjocchponfaaGreatDoor
open Go.RowKit

theorem one_each_z {kind : Nat} {es : List Ent} (h : onceP kind es) : OneEach kind (rws es) := fun x y hx hy hk hd => by
  obtain ⟨e1, h1, rfl⟩ := List.mem_map.1 hx
  obtain ⟨e2, h2, rfl⟩ := List.mem_map.1 hy
  obtain ⟨p, hp, rfl⟩ := List.getElem_of_mem h1
  obtain ⟨q, hq, rfl⟩ := List.getElem_of_mem h2
  have hdg : es[p].dg = es[q].dg := ByteArray.ext (Array.toList_inj.1 hd)
  have hk' : kind = 1024 ∨ es[p].code = es[q].code := hk
  rcases Nat.lt_trichotomy p q with hpq | rfl | hpq
  · exact absurd ⟨hdg.symm, hk'.imp id Eq.symm⟩ (h q p hq hpq)
  · rfl
  · exact absurd ⟨hdg, hk'⟩ (h p q hp hpq)
theorem RowE.ents2 {w : World} {B : Nat} {v : Value} {es : List Ent} (h : RowE w B v es) : ∃ A ib c, v = .slice A es.length c ∧ (A = none → es.length = 0 ∧ c = 0) ∧ es.length ≤ c ∧ EntsAt w A ib 0 es := by
  obtain ⟨A, ib, c, h1, h2, h3⟩ := h.ents
  refine ⟨A, ib, c, h1, h2, ?_, h3⟩
  rcases id h.2 with ⟨h4, h0⟩ | ⟨g, cap, cur, h4, hg, hgg, hnc, hcm, hcs, htake⟩
  · have h0' : es.length = 0 := h0
    omega
  · rw [h1] at h4
    injection h4 with _ _ h5
    omega
theorem run_makeZ (k : Nat) (hk : k ≤ 200) (W : World) : (Instr.makeSlice 32 (.int .u8 (k : Int)) (.int .u8 (k : Int))).run Tryz.prog W = .ok (.slice (some ⟨W.heap.size, 0, none⟩) k k) (W.alloc (.cells (zeroBytes k).toArray 5)) := by
  obtain ⟨i, hi, hz, hs, hb⟩ := info_parts Tryz.infoByte
  have hr := run_make (P := Tryz.prog) W 32 5 i (.int .u8 0) Tryz.underlying32 hi hz .u8 .u8 (k : Int) (k : Int) (by omega) (by omega) (by rw [hb]; omega) (by omega)
  simp only [Int.toNat_natCast, hs, Nat.mul_one, madeCells_bytes] at hr
  exact hr
theorem conv_z (k : Nat) (W : World) (b : Nat) (h : Seg W b 0 (List.replicate k 0)) : (convert 32 9 (.slice (some ⟨b, 0, none⟩) k k)).run Tryz.prog W = .ok (.string (str (List.replicate k 0))) W := by
  have hcv := run_convert_seg (P := Tryz.prog) (src := 32) (e := 5) (dst := 9) Tryz.underlying32 Tryz.underlying5 Tryz.underlying9 k h
  rw [List.length_replicate] at hcv
  exact hcv
theorem seg_z (k : Nat) (W : World) : Seg (W.alloc (.cells (zeroBytes k).toArray 5)) W.heap.size 0 (List.replicate k 0) := (Blk.new W 5 (zeroBytes k).toArray).seg'

set_option maxRecDepth 100000 in
set_option maxHeartbeats 4000000 in
theorem makeZero_true (rs : List Ent) (bs : List Bk) (A B : Option Addr) (ib io jb jo c c2 n m k : Nat) (w : World) (hn : rs.length = n) (hm : bs.length = m) (hat : CidsAt w A ib io rs) (hbt : BlosAt w B jb jo bs) (hr0 : ∀ e, e ∈ rs → e.off = 0) (hb0 : ∀ b, b ∈ bs → b.1.off = 0) (hE : Eof w) :
    Calls Tryz.prog 3 #[.agg #[.slice A n c, .slice B m c2], .int .u8 (k : Int)] w fun r w' => r = .returned (.bool true) ∧ Off [] w w' := by
  have hA : Off [] w (w.alloc (.cells #[.slice A n c, .slice B m c2] 25)) := (Off.refl [] w).alloc _
  have hB := Blk.new w 25 #[.slice A n c, .slice B m c2]
  have H4 := Lib.hid (fun W (h : Off [] w W) => zzFits4_any rs bs A B ib io jb jo c c2 n m W hn hm (hat.off h (by simp)) (hbt.off h (by simp)))
  have HG := Lib.hid (fun W (h : Off [] w W) => wrGood_any rs bs A B ib io jb jo c c2 n m W hn hm (hat.off h (by simp)) (hbt.off h (by simp)))
  obtain ⟨F, hF⟩ : ∃ F, F = (fitC rs && fitK bs) := ⟨_, rfl⟩
  obtain ⟨G, hG⟩ : ∃ G, G = wrB rs bs := ⟨_, rfl⟩
  rw [← hF] at H4
  rw [← hG] at HG
  have HB := Lib.hid hB
  have HA := Lib.hid hA
  have HGG := Lib.hid hG
  have HAT := Lib.hid (And.intro hn (And.intro hm (And.intro hat hbt)))
  have HOF := Lib.hid (And.intro hr0 hb0)
  have HE := Lib.hid hE
  clear hA hB hF hG hn hm hat hbt hr0 hb0 hE
  go_enter Tryz.func3, Tryz.ntmps3
  go_wp2_with fail
  refine (H4.out _ HA.out).mono ?_
  rintro r w1 ⟨rfl, ho1⟩
  have HO1 := Lib.hid (HA.out.then ho1 (fun x hx => by simp at hx))
  have HB1 := Lib.hid (ho1.blk HB.out (by simp))
  clear ho1
  cases F with
  | false =>
    go_wp2_with fail
    go_ret
    exact ⟨rfl, HO1.out⟩
  | true =>
    have c0 : w1.cell? ⟨w.heap.size, 0, none⟩ = some (.slice A n c) := HB1.out.cell 0
    have c1 : w1.cell? ⟨w.heap.size, 1, none⟩ = some (.slice B m c2) := HB1.out.cell 1
    go_wp2_with fail
    refine (HG.out _ HO1.out).mono ?_
    rintro r w2 ⟨rfl, ho2⟩
    have HO2 := Lib.hid (HO1.out.then ho2 (fun x hx => by simp at hx))
    have HB2 := Lib.hid (ho2.blk HB1.out (by simp))
    clear ho2 c0 c1
    cases G with
    | false =>
      go_wp2_with fail
      go_ret
      exact ⟨rfl, HO2.out⟩
    | true =>
      by_cases hk0 : k = 0
      · have hkz : ((k : Int) == 0) = true := by simp [hk0]
        clear hk0
        go_wp2_with fail
        go_ret
        exact ⟨rfl, HO2.out⟩
      · have hkz : ((k : Int) == 0) = false := beq_eq_false_iff_ne.2 (by omega)
        have HK0 := Lib.hid hk0
        clear hk0
        by_cases hk2 : k ≤ 200
        · have hkb : (k : Int) ≤ 200 := by omega
          obtain ⟨hn2, hm2, hrs, hbs⟩ := wrB_ok HGG.out.symm HOF.out.1 HOF.out.2
          obtain ⟨hn, hm, hat, hbt⟩ := HAT.out
          obtain ⟨a, ha⟩ : ∃ a, a = (hdrB (rs.map cidB) 1).length := ⟨_, rfl⟩
          have ha2 : a ≤ 13000 := by rw [ha]; exact hdrB_len rs hrs hn2
          have hsec : (secs bs).length ≤ 33100 * bs.length := by
            clear hm hbt hm2 HGG HOF HAT HG H4 HB HA
            induction bs with
            | nil => simp [secs]
            | cons b bs ih =>
              have h1 := secB_len (hbs b List.mem_cons_self)
              have h2 := ih (fun x hx => hbs x (List.mem_cons_of_mem _ hx))
              have hs : (secs (b :: bs)).length = (secB (cidB b.1) b.2.data.toList).length + (secs bs).length := by
                unfold secs
                rw [List.map_cons, List.flatMap_cons, List.length_append]
                rfl
              rw [hs, List.length_cons]
              omega
          obtain ⟨es, hes⟩ : ∃ es, es = genE a bs := ⟨_, rfl⟩
          have heo : ∀ e, e ∈ es → e.ok := by rw [hes]; exact genE_ok bs a hbs (by omega)
          have hel : es.length ≤ 50 := by rw [hes]; exact Nat.le_trans (genE_len a bs) hm2
          have HGE := Lib.hid (fun W (h : Off [] w W) => generated_any rs bs A B ib io c n jb jo c2 m W hrs hbs hn (by omega) hm (by omega) (hat.off h (by simp)) (hbt.off h (by simp)))
          have HC1 := Lib.hid (fun W (h : Off [] w W) => car1_any rs bs A B ib io c n jb jo c2 m W hrs hbs hn (by omega) hm (by omega) (hat.off h (by simp)) (hbt.off h (by simp)))
          rw [← ha, ← hes] at HGE
          obtain ⟨sc, hsc⟩ : ∃ sc, sc = str (car1B (rs.map cidB) (bs.map Bk.b)) := ⟨_, rfl⟩
          obtain ⟨sz, hsz⟩ : ∃ sz, sz = str (List.replicate k 0) := ⟨_, rfl⟩
          rw [← hsc] at HC1
          obtain ⟨s, hs⟩ : ∃ s, s = sc ++ sz := ⟨_, rfl⟩
          have hsl : s.data.toList = hdrB (rs.map cidB) 1 ++ (secs bs ++ (0 :: List.replicate (k - 1) 0)) := by
            have h1 : s = str (car1B (rs.map cidB) (bs.map Bk.b) ++ List.replicate k 0) := by rw [hs, hsc, hsz]; exact str_app _ _
            rw [h1]
            show (car1B (rs.map cidB) (bs.map Bk.b) ++ List.replicate k 0) = _
            have h2 : List.replicate k (0 : UInt8) = 0 :: List.replicate (k - 1) 0 := by
              obtain ⟨k', rfl⟩ : ∃ k', k = k' + 1 := ⟨k - 1, by have := HK0.out; omega⟩
              rfl
            rw [h2, car1B, List.append_assoc]
            rfl
          have hss : s.size ≤ 2147483700 := by
            have h1 : s.data.toList.length = s.size := by simp
            have h2 := congrArg List.length hsl
            rw [List.length_append, List.length_append, List.length_cons, List.length_replicate, ← ha, h1] at h2
            omega
          have hssum : sc.size + sz.size ≤ 2147483700 := by rw [hs] at hss; simpa using hss
          have hszz : sz.size ≤ 2147483700 := by omega
          have HI1 := Lib.hid (fun W (h : Eof W) => ixMake_true rs bs (List.replicate (k - 1) 0) s W hrs hbs hn2 hm2 hss hsl h true rfl)
          have HI2 := Lib.hid (fun W (h : Eof W) => ixMake_false rs bs (List.replicate (k - 1) 0) s W hrs hbs hn2 hm2 hss hsl h false rfl)
          rw [← ha, ← hes] at HI1
          have HEO := Lib.hid heo
          have hmk := run_makeZ k hk2
          have HSZ := Lib.hid hsz
          rw [hs] at HI1 HI2
          unfold zOpt at HI1 HI2
          have hbig : ¬ ((9223372036854775807 : Int) < (sc.size : Int) + (sz.size : Int)) := by omega
          clear hn hm hat hbt hn2 hm2 hrs hbs ha ha2 hsec hes heo hsc hsz hsl hss hs
          have c0 : w2.cell? ⟨w.heap.size, 0, none⟩ = some (.slice A n c) := HB2.out.cell 0
          have c1 : w2.cell? ⟨w.heap.size, 1, none⟩ = some (.slice B m c2) := HB2.out.cell 1
          go_wp2_with fail
          refine (HGE.out _ HO2.out).mono ?_
          rintro r w3 ⟨v, rfl, hre, ho3⟩
          obtain ⟨A3, ib3, c3, rfl, hA3, hnc3, hat3⟩ := hre.ents2
          have HO3 := Lib.hid (HO2.out.then ho3 (fun x hx => by simp at hx))
          have HB3 := Lib.hid (ho3.blk HB2.out (by simp))
          obtain ⟨q, hq⟩ : ∃ q, q = es.length := ⟨_, rfl⟩
          have HON := Lib.hid (once_any es A3 ib3 0 c3 es.length 1025 w3 rfl (by omega) hnc3 hat3)
          rw [← hq] at hA3 hnc3 HON ⊢
          have HAT3 := Lib.hid hat3
          have HA3 := Lib.hid hA3
          have HQ := Lib.hid hq
          have hq50 : q ≤ 50 := by omega
          obtain ⟨O, hO⟩ : ∃ O, O = onceB 1025 es := ⟨_, rfl⟩
          rw [← hO] at HON
          have HOO := Lib.hid hO
          clear hre ho3 hat3 hA3 hq hO c0 c1 hel
          go_wp2_with fail
          refine HON.out.mono ?_
          rintro r w4 ⟨rfl, ho4⟩
          have HO4 := Lib.hid (HO3.out.then ho4 (fun x hx => by simp at hx))
          have HB4 := Lib.hid (ho4.blk HB3.out (by simp))
          have HO34 := Lib.hid ho4
          clear ho4
          cases O with
          | false =>
            go_wp2_with fail
            go_ret
            exact ⟨rfl, HO4.out⟩
          | true =>
            have c0 : w4.cell? ⟨w.heap.size, 0, none⟩ = some (.slice A n c) := HB4.out.cell 0
            have c1 : w4.cell? ⟨w.heap.size, 1, none⟩ = some (.slice B m c2) := HB4.out.cell 1
            have hcz : ∀ W : World, (convert 32 9 (.slice (some ⟨W.heap.size, 0, none⟩) k k)).run Tryz.prog (W.alloc (.cells (zeroBytes k).toArray 5)) = .ok (.string sz) (W.alloc (.cells (zeroBytes k).toArray 5)) := fun W => by
              rw [HSZ.out]
              exact conv_z k _ _ (seg_z k W)
            have hczd : ∀ W : World, (convert 32 9 (.slice (some ⟨W.heap.size, 0, none⟩) k k)).run Tryz.prog (W.alloc (.cells (zeroBytes k).toArray 5)).drew = .ok (.string sz) (W.alloc (.cells (zeroBytes k).toArray 5)).drew := fun W => by
              rw [HSZ.out]
              exact conv_z k _ _ ((seg_z k W).drew)
            go_wp2_with fail
            go_region_held (fun w' => w'.cell? ⟨w.heap.size, 0, none⟩ = some (.slice A n c) ∧ w'.cell? ⟨w.heap.size, 1, none⟩ = some (.slice B m c2)) (first | exact ⟨HB4.out.cell 0, HB4.out.cell 1⟩ | exact ⟨(HB4.out.alloc _).cell 0, (HB4.out.alloc _).cell 1⟩ | exact ⟨HB5.out.cell 0, HB5.out.cell 1⟩ | exact ⟨(HB5.out.alloc _).cell 0, (HB5.out.alloc _).cell 1⟩) (first
              | (go_at_call 8
                 refine (HC1.out _ HO4.out).mono ?_
                 rintro r w5 ⟨rfl, ho5⟩
                 have HO5 := Lib.hid ((Off.refl [] w4).then ho5 (fun x hx => by simp at hx))
                 have HB5 := Lib.hid (ho5.blk HB4.out (by simp))
                 clear ho5)
              | (go_at_call 8
                 refine (HC1.out _ HO4.out.drew).mono ?_
                 rintro r w5 ⟨rfl, ho5⟩
                 have HO5 := Lib.hid ((Off.refl [] w4).drew.then ho5 (fun x hx => by simp at hx))
                 have HB5 := Lib.hid (ho5.blk HB4.out (by simp))
                 clear ho5)
              | (go_at_call 8
                 refine (HC1.out _ (HO4.out.alloc _)).mono ?_
                 rintro r w5 ⟨rfl, ho5⟩
                 have hc5 : (convert 32 9 (.slice (some ⟨w4.heap.size, 0, none⟩) k k)).run Tryz.prog w5 = .ok (.string sz) w5 := by rw [HSZ.out]; exact conv_z k _ _ (ho5.seg (seg_z k w4) (by simp))
                 have hc5d : (convert 32 9 (.slice (some ⟨w4.heap.size, 0, none⟩) k k)).run Tryz.prog w5.drew = .ok (.string sz) w5.drew := by rw [HSZ.out]; exact conv_z k _ _ (ho5.seg (seg_z k w4) (by simp)).drew
                 have HO5 := Lib.hid (((Off.refl [] w4).alloc _).then ho5 (fun x hx => by simp at hx))
                 have HB5 := Lib.hid (ho5.blk (HB4.out.alloc _) (by simp))
                 clear ho5)
              | (go_at_call 8
                 refine (HC1.out _ (HO4.out.alloc _).drew).mono ?_
                 rintro r w5 ⟨rfl, ho5⟩
                 have hc5 : (convert 32 9 (.slice (some ⟨w4.heap.size, 0, none⟩) k k)).run Tryz.prog w5 = .ok (.string sz) w5 := by rw [HSZ.out]; exact conv_z k _ _ (ho5.seg (seg_z k w4).drew (by simp))
                 have hc5d : (convert 32 9 (.slice (some ⟨w4.heap.size, 0, none⟩) k k)).run Tryz.prog w5.drew = .ok (.string sz) w5.drew := by rw [HSZ.out]; exact conv_z k _ _ (ho5.seg (seg_z k w4).drew (by simp)).drew
                 have HO5 := Lib.hid (((Off.refl [] w4).alloc _).drew.then ho5 (fun x hx => by simp at hx))
                 have HB5 := Lib.hid (ho5.blk (HB4.out.alloc _) (by simp))
                 clear ho5))
            all_goals
              go_wp2_with fail
              refine (HI1.out _ (HE.out.off (S := []) (HO4.out.then (show Off [] w4 _ from (by first | exact HO5.out | exact HO5.out.alloc _)) (fun x hx => by simp at hx)) (by simp))).mono ?_
              rintro r w6 ⟨ho6, s2, he2, rfl⟩
              have HO6 : Hid (Off [] w4 w6) := Lib.hid ((show Off [] w4 _ from (by first | exact HO5.out | exact HO5.out.alloc _)).then ho6 (fun x hx => by simp at hx))
              obtain ⟨b2, hb2⟩ : ∃ b, b = (⟨s2.toArray⟩ : ByteArray) := ⟨_, rfl⟩
              rw [← hb2]
              have HB2 := Lib.hid hb2
              have HS2 := Lib.hid he2
              clear hb2 he2 ho6
              go_wp2_with fail
              refine (HI2.out _ (HE.out.off (S := []) (HO4.out.then HO6.out (fun x hx => by simp at hx)) (by simp))).mono ?_
              rintro r w7 ⟨ho7, rfl⟩
              have HO7 : Hid (Off [] w4 w7) := Lib.hid (HO6.out.then ho7 (fun x hx => by simp at hx))
              clear ho7
              go_wp2_with fail
              refine (indexBytes_any 1025 (Or.inr rfl) es A3 ib3 0 c3 q w7 HEO.out HQ.out.symm (by omega) HA3.out (HAT3.out.off (HO34.out.then HO7.out (fun x hx => by simp at hx)) (by simp))).mono ?_
              rintro r w8 ⟨s5, hs5, rfl, ho8⟩
              obtain ⟨b5, hb5⟩ : ∃ b, b = (⟨s5.toArray⟩ : ByteArray) := ⟨_, rfl⟩
              rw [← hb5]
              have heq : b2 = b5 := by rw [HB2.out, hb5, enc_unique HS2.out hs5 (one_each_z (onceP_of HOO.out.symm))]
              have HO8 := Lib.hid ((HO4.out.then HO7.out (fun x hx => by simp at hx)).then ho8 (fun x hx => by simp at hx))
              clear hs5 hb5 ho8
              subst heq
              go_wp2_with fail
              go_ret
              exact ⟨rfl, HO8.out⟩
        · have hkb : ¬ (k : Int) ≤ 200 := by omega
          clear hk2
          go_wp2_with fail
          go_ret
          exact ⟨rfl, HO2.out⟩
end Go.Proofs.YtkdbjocchponfaaGreatDoor
