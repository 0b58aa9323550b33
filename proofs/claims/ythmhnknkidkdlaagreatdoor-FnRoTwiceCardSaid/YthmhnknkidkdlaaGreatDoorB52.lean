/-
  laws.FnRoTwice: a file of version 1 that is wrapped, extracted and wrapped again is the wrapped file each time, and the file itself.
  (No condition beyond those that each theorem states.)
-/
import Derived.Test.YthmhnknkidkdlaaGreatDoorB51
import Derived.Test.YthmhnknkidkdlaaGreatDoorB12
import Derived.Test.YthmhnknkidkdlaaGreatDoorB44
import Derived.Test.YthmhnknkidkdlaaGreatDoorB45
namespace Go.Proofs.YthmhnknkidkdlaaGreatDoor
open Go.RowKit Go.Maps

theorem opt_infoR (kd : Nat) : (Tryz.prog.info? 32).map (·.size) = some (kOpt kd).size := by kernel_rfl
theorem opt_allR (kd : Nat) : (kOpt kd).all (·.oneCell') = true := by kernel_rfl
theorem zeroStr (w : World) : (zeroValue 9).run Tryz.prog w = .ok (.string ByteArray.empty) w := by kernel_rfl
/-- What a wrapped file of the kind kd is. -/
def Wrapped (es : List Ent) (l : List UInt8) (k : Int) (v : Value) : Prop := ∃ (kd : Nat) (X : List UInt8), k = (kd : Int) ∧ IdxF kd es X ∧ v = .string (str (pragB ++ headB 0 0 51 l.length (51 + l.length) ++ l ++ X))
/-- What was wrapped so far: block mb is the map of it. -/
structure Done (w wr : World) (mb j : Nat) (es : List Ent) (l : List UInt8) : Prop where
  off : Off [] w wr
  ex : ∃ (Ks : List Int) (V : Int → Value), Mp Tryz.prog 30 .u64 wr mb j Ks V ∧ ∀ x, x ∈ Ks → Wrapped es l x (V x)
  hmb : w.heap.size ≤ mb

set_option maxRecDepth 100000 in
set_option maxHeartbeats 8000000 in
theorem twice_true (rs : List Ent) (bs : List Bk) (ks : List Bool) (A B K : Option Addr) (ib io jb jo kb ko c c2 c3 n m q : Nat) (w : World) (hn : rs.length = n) (hm : bs.length = m) (hq : ks.length = q) (hat : CidsAt w A ib io rs) (hbt : BlosAt w B jb jo bs) (hkt : BolAt w K kb ko ks) (hr0 : ∀ e, e ∈ rs → e.off = 0) (hb0 : ∀ b, b ∈ bs → b.1.off = 0) (qe : Addr) (hE : EofA qe w) (hAl : Alr w) :
    Calls Tryz.prog 3 #[.agg #[.slice A n c, .slice B m c2], .slice K q c3] w fun r w' => r = .returned (.bool true) ∧ Off [] w w' := by
  have hA : Off [] w (w.alloc (.cells #[.slice A n c, .slice B m c2] 25)) := (Off.refl [] w).alloc _
  have hB := Blk.new w 25 #[.slice A n c, .slice B m c2]
  have H4 := Lib.hid (fun W (h : Off [] w W) => zzFits4_any rs bs A B ib io jb jo c c2 n m W hn hm (hat.off h (by simp)) (hbt.off h (by simp)))
  have HG := Lib.hid (fun W (h : Off [] w W) => wrGood_any rs bs A B ib io jb jo c c2 n m W hn hm (hat.off h (by simp)) (hbt.off h (by simp)))
  obtain ⟨F, hF⟩ : ∃ F, F = (fitC rs && fitK bs) := ⟨_, rfl⟩
  obtain ⟨G, hG⟩ : ∃ G, G = wrB rs bs := ⟨_, rfl⟩
  rw [← hF] at H4
  rw [← hG] at HG
  have HB := Lib.hid hB
  have HA := Lib.hid hA
  have HGG := Lib.hid hG
  have HAT := Lib.hid (And.intro hn (And.intro hm (And.intro hat hbt)))
  have HKT := Lib.hid (And.intro hq hkt)
  have HOF := Lib.hid (And.intro hr0 hb0)
  have HE := Lib.hid hE
  have HAL := Lib.hid hAl
  clear hA hB hF hG hn hm hq hat hbt hkt hr0 hb0 hE hAl
  go_enter Tryz.func3, Tryz.ntmps3
  go_wp2_with fail
  refine (H4.out _ HA.out).mono ?_
  rintro r w1 ⟨rfl, ho1⟩
  have HO1 := Lib.hid (HA.out.then ho1 (fun x hx => by simp at hx))
  have HB1 := Lib.hid (ho1.blk HB.out (by simp))
  clear ho1
  cases F with
  | false =>
    go_wp2_with fail
    go_ret
    exact ⟨rfl, HO1.out⟩
  | true =>
    have c0 : w1.cell? ⟨w.heap.size, 0, none⟩ = some (.slice A n c) := HB1.out.cell 0
    have c1 : w1.cell? ⟨w.heap.size, 1, none⟩ = some (.slice B m c2) := HB1.out.cell 1
    by_cases hq1 : (2147483647 : Int) < (q : Int)
    · go_wp2_with fail
      go_ret
      exact ⟨rfl, HO1.out⟩
    go_wp2_with fail
    refine (HG.out _ HO1.out).mono ?_
    rintro r w2 ⟨rfl, ho2⟩
    have HO2 := Lib.hid (HO1.out.then ho2 (fun x hx => by simp at hx))
    have HB2 := Lib.hid (ho2.blk HB1.out (by simp))
    clear ho2 c0 c1
    cases G with
    | false =>
      go_wp2_with fail
      go_ret
      exact ⟨rfl, HO2.out⟩
    | true =>
      by_cases hq0 : q = 0
      · have hq0z : ((q : Int) == 0) = true := by rw [hq0]; rfl
        go_wp2_with fail
        go_ret
        exact ⟨rfl, HO2.out⟩
      have hq0z : ((q : Int) == 0) = false := beq_eq_false_iff_ne.2 (by omega)
      by_cases hq8 : (8 : Int) < (q : Int)
      · go_wp2_with fail
        go_ret
        exact ⟨rfl, HO2.out⟩
      obtain ⟨hn2, hm2, hrs, hbs⟩ := wrB_ok HGG.out.symm HOF.out.1 HOF.out.2
      obtain ⟨hn, hm, hat, hbt⟩ := HAT.out
      obtain ⟨hq, hkt⟩ := HKT.out
      obtain ⟨hK, hkl⟩ := hkt.at_ (by omega)
      subst hK
      have ha2 := hdrB_len rs hrs hn2
      have hsec := secsLen bs hbs
      obtain ⟨l, hl⟩ : ∃ l, l = car1B (rs.map cidB) (bs.map Bk.b) := ⟨_, rfl⟩
      have hl' : l = hdrB (rs.map cidB) 1 ++ secs bs := by rw [hl]; exact car1Eq rs bs
      have hll : l.length ≤ 10000000 := by rw [hl', List.length_append]; omega
      have hl0 : 0 < l.length := by
        have := Lib.uvarint_pos (hdrBody (rs.map cidB) 1).length
        rw [hl', hdrB, List.length_append, List.length_append]; omega
      obtain ⟨s, hs⟩ : ∃ s, s = str l := ⟨_, rfl⟩
      have hsd : s.data.toList = l := by rw [hs]
      have hssz : s.size = l.length := by rw [hs, strSize]
      have HC := Lib.hid (fun W (h : Off [] w W) => car1_any rs bs A B ib io c n jb jo c2 m W hrs hbs hn (by omega) hm (by omega) (hat.off h (by simp)) (hbt.off h (by simp)))
      rw [← hl, ← hs] at HC
      obtain ⟨es, hes⟩ : ∃ es, es = genE (hdrB (rs.map cidB) 1).length bs := ⟨_, rfl⟩
      have hw4 := fun W (h : Off [] w W) => wrWrap_k knd_mw (by omega) (by omega) rs bs l s hsd W hrs hbs hn2 hm2 hl' hll qe (HE.out.off h (by simp))
      have hw5 := fun W (h : Off [] w W) => wrWrap_k knd_mis (by omega) (by omega) rs bs l s hsd W hrs hbs hn2 hm2 hl' hll qe (HE.out.off h (by simp))
      rw [← hes] at hw4 hw5
      have HW4 := Lib.hid hw4
      have HW5 := Lib.hid hw5
      have hxx : ∀ (X : List UInt8) (S : ByteArray) W, S = str (pragB ++ headB 0 0 51 l.length (51 + l.length) ++ l ++ X) → X.length ≤ 26030614 → Off [] w W → Calls Tryz.prog 8 #[.string S, .string s, .agg (zOpt false)] W fun e w' => e = .returned (.tuple #[.string s, .int .u8 0]) ∧ Off [] W w' := fun X S W hS hX h => by
        obtain ⟨fp1, fp2, fp3⟩ := filePart (headB 0 0 51 l.length (51 + l.length)) l X (headB_len _ _ _ _ _)
        obtain ⟨fl, hfl⟩ : ∃ fl, fl = pragB ++ headB 0 0 51 l.length (51 + l.length) ++ l ++ X := ⟨_, rfl⟩
        rw [← hfl] at hS fp1 fp2 fp3
        have hfll : fl.length ≤ 100000000 := by rw [hfl]; simp only [List.length_append, pragB_len, headB_len]; omega
        have h9 := wrExtract_in 0 0 51 l.length (51 + l.length) S s fl (headB 0 0 51 l.length (51 + l.length) ++ l ++ X) (by rw [hS]) (by rw [fp2, hsd]) hssz W (by rw [hS, strSize]; omega) (by rw [hfl]; simp only [List.append_assoc]) fp1 (by omega) (by omega) (by omega) (by omega) (by omega) fp3 (by omega) qe (HE.out.off h (by simp)) (HAL.out.off h (by simp))
        rw [fp2, ← hs] at h9
        exact h9
      have HXX := Lib.hid hxx
      have HQ := Lib.hid (And.intro hq hkt)
      have c0 : w2.cell? ⟨w.heap.size, 0, none⟩ = some (.slice A n c) := HB2.out.cell 0
      have c1 : w2.cell? ⟨w.heap.size, 1, none⟩ = some (.slice B m c2) := HB2.out.cell 1
      have hmkm := @run_makeMap Tryz.prog
      clear hn2 hm2 hrs hbs hn hm hat hbt ha2 hsec hl hl' hll hl0 hs hsd hssz hes hw4 hw5 hxx hq hkt
      go_wp2_with (go_at_call 6; refine (HC.out _ HO2.out).mono ?_; rintro r w3 ⟨rfl, ho3⟩
                   have HO3 := Lib.hid (HO2.out.then ho3 (fun x hx => by simp at hx))
                   clear ho3)
      have hws : w.heap.size ≤ w3.heap.size := HO3.out.size
      go_loopg [6, 44] q (fun kx s6 s44 wr => ∃ j : Nat, s6 = .string s ∧ s44 = .int .i64 (j : Int) ∧ j ≤ q ∧ q - j ≤ kx ∧ Hid (Done w wr w3.heap.size j es l))
      case atStart => exact ⟨0, rfl, rfl, Nat.zero_le _, by omega, Lib.hid ⟨HO3.out.alloc _, ⟨[], fun _ => undef, Mp.made w3 _ _ _ _, fun x hx => by simp at hx⟩, hws⟩⟩
      case round =>
        rename World => wr
        obtain ⟨j, rfl, rfl, hjq, hkx, HD⟩ := hrel
        by_cases hjlt : j < q
        · have hjz : (j : Int) < (q : Int) := by omega
          have hj0 : (0 : Int) ≤ (j : Int) := by omega
          obtain ⟨bv, hbv⟩ : ∃ bv, bv = ks[j]'(by rw [HQ.out.1]; exact hjlt) := ⟨_, rfl⟩
          have hkc : wr.cell? ⟨kb, ko + j, none⟩ = some (.bool bv) := by rw [hbv]; exact (HQ.out.2.off HD.out.off).cells j (by rw [HQ.out.1]; exact hjlt)
          clear hbv
          obtain ⟨Ks, V, hmp, hwr⟩ := HD.out.ex
          cases bv with
          | true =>
            by_cases hmem : (1024 : Int) ∈ Ks
            · have hSTB : Blk ((wr.alloc (.cells #[.bool false, .bool false, .bool false, .bool false, .bool false, .bool false, .int .u64 0, .int .u64 0, .int .u64 0, .int .u64 0, .int .u64 0, .int .u64 0] 32)).setRow wr.heap.size #[.bool false, .bool false, .bool false, .bool false, .bool false, .bool false, .int .u64 0, .int .u64 0, .int .u64 1025, .int .u64 0, .int .u64 0, .int .u64 0]) wr.heap.size 32 #[.bool false, .bool false, .bool false, .bool false, .bool false, .bool false, .int .u64 0, .int .u64 0, .int .u64 1025, .int .u64 0, .int .u64 0, .int .u64 0] := setRow_heap _ _ _ _ _ _ (Blk.new wr _ _)
              have hoff2 : Off [] wr ((wr.alloc (.cells #[.bool false, .bool false, .bool false, .bool false, .bool false, .bool false, .int .u64 0, .int .u64 0, .int .u64 0, .int .u64 0, .int .u64 0, .int .u64 0] 32)).setRow wr.heap.size #[.bool false, .bool false, .bool false, .bool false, .bool false, .bool false, .int .u64 0, .int .u64 0, .int .u64 1025, .int .u64 0, .int .u64 0, .int .u64 0]) := ((Off.refl [] wr).alloc _).then (off_setRow (Blk.new wr _ _) _) (fun x h => by simp at h; right; omega)
              obtain ⟨w5, hw5⟩ : ∃ w5, w5 = (wr.alloc (.cells #[.bool false, .bool false, .bool false, .bool false, .bool false, .bool false, .int .u64 0, .int .u64 0, .int .u64 0, .int .u64 0, .int .u64 0, .int .u64 0] 32)).setRow wr.heap.size #[.bool false, .bool false, .bool false, .bool false, .bool false, .bool false, .int .u64 0, .int .u64 0, .int .u64 1025, .int .u64 0, .int .u64 0, .int .u64 0] := ⟨_, rfl⟩
              rw [← hw5] at hSTB hoff2
              have W5 := Lib.hid hw5
              clear hw5
              have hc8 : w5.cell? ⟨wr.heap.size, 8, none⟩ = some (.int .u64 1025) := hSTB.cell 8
              have hf8 := hSTB.frozen 8
              have hB6 : Blk (w5.setCell ⟨wr.heap.size, 8, none⟩ (.int .u64 1024)) wr.heap.size 32 #[.bool false, .bool false, .bool false, .bool false, .bool false, .bool false, .int .u64 0, .int .u64 0, .int .u64 1024, .int .u64 0, .int .u64 0, .int .u64 0] := Blk.eq (hSTB.set_ 8 _) rfl
              have hO6 : Off [] w (w5.setCell ⟨wr.heap.size, 8, none⟩ (.int .u64 1024)) := (HD.out.off.then hoff2 (fun x hx => by simp at hx)).then ((Off.refl [wr.heap.size] w5).setCell (p := ⟨wr.heap.size, 8, none⟩) (Or.inl (by simp)) _) (fun x hx => by simp at hx; right; have := HD.out.off.size; omega)
              have hO56 : Off [] wr (w5.setCell ⟨wr.heap.size, 8, none⟩ (.int .u64 1024)) := hoff2.then ((Off.refl [wr.heap.size] w5).setCell (p := ⟨wr.heap.size, 8, none⟩) (Or.inl (by simp)) _) (fun x hx => by simp at hx; right; omega)
              have d0 : (w5.setCell ⟨wr.heap.size, 8, none⟩ (.int .u64 1024)).cell? ⟨wr.heap.size, 0, none⟩ = some (.bool false) := hB6.cell 0
              have d1 : (w5.setCell ⟨wr.heap.size, 8, none⟩ (.int .u64 1024)).cell? ⟨wr.heap.size, 1, none⟩ = some (.bool false) := hB6.cell 1
              have d2 : (w5.setCell ⟨wr.heap.size, 8, none⟩ (.int .u64 1024)).cell? ⟨wr.heap.size, 2, none⟩ = some (.bool false) := hB6.cell 2
              have d3 : (w5.setCell ⟨wr.heap.size, 8, none⟩ (.int .u64 1024)).cell? ⟨wr.heap.size, 3, none⟩ = some (.bool false) := hB6.cell 3
              have d4 : (w5.setCell ⟨wr.heap.size, 8, none⟩ (.int .u64 1024)).cell? ⟨wr.heap.size, 4, none⟩ = some (.bool false) := hB6.cell 4
              have d5 : (w5.setCell ⟨wr.heap.size, 8, none⟩ (.int .u64 1024)).cell? ⟨wr.heap.size, 5, none⟩ = some (.bool false) := hB6.cell 5
              have d6 : (w5.setCell ⟨wr.heap.size, 8, none⟩ (.int .u64 1024)).cell? ⟨wr.heap.size, 6, none⟩ = some (.int .u64 0) := hB6.cell 6
              have d7 : (w5.setCell ⟨wr.heap.size, 8, none⟩ (.int .u64 1024)).cell? ⟨wr.heap.size, 7, none⟩ = some (.int .u64 0) := hB6.cell 7
              have d8 : (w5.setCell ⟨wr.heap.size, 8, none⟩ (.int .u64 1024)).cell? ⟨wr.heap.size, 8, none⟩ = some (.int .u64 1024) := hB6.cell 8
              have d9 : (w5.setCell ⟨wr.heap.size, 8, none⟩ (.int .u64 1024)).cell? ⟨wr.heap.size, 9, none⟩ = some (.int .u64 0) := hB6.cell 9
              have d10 : (w5.setCell ⟨wr.heap.size, 8, none⟩ (.int .u64 1024)).cell? ⟨wr.heap.size, 10, none⟩ = some (.int .u64 0) := hB6.cell 10
              have d11 : (w5.setCell ⟨wr.heap.size, 8, none⟩ (.int .u64 1024)).cell? ⟨wr.heap.size, 11, none⟩ = some (.int .u64 0) := hB6.cell 11
              have hv := HW4.out _ hO6
              unfold kOpt at hv
              rw [show (((1024 : Nat)) : Int) = 1024 from rfl] at hv
              have HV := Lib.hid hv
              have HB6 := Lib.hid hB6
              have HO6 := Lib.hid hO6
              have HO56 := Lib.hid hO56
              have HMP := Lib.hid hmp
              have HWR := Lib.hid hwr
              have hwf : (Lit.int .u64 1024).wf = true := by decide
              clear hSTB hoff2 hB6 hO6 hO56 hv hmp hwr
              go_wp2_with (first
              | ((with_reducible show wpList _ _ _ _ _ _); refine wpList_store_row rfl 32 (.tmp 10) (.tmp 48) rfl wr.heap.size #[.bool false, .bool false, .bool false, .bool false, .bool false, .bool false, .int .u64 0, .int .u64 0, .int .u64 1025, .int .u64 0, .int .u64 0, .int .u64 0] rfl rfl 32 _ (Blk.new wr _ _) (opt_infoR 1025) rfl (opt_allR 1025) ?_; rw [← W5.out])
              | (go_at_call 7; refine HV.out.mono ?_; rintro r w7 ⟨X, hX, hr, ho7⟩
                 obtain ⟨S, hS⟩ : ∃ S, S = str (pragB ++ headB 0 0 51 l.length (51 + l.length) ++ l ++ X) := ⟨_, rfl⟩
                 rw [← hS] at hr
                 subst hr
                 have hVS : V 1024 = .string S := (by
                   obtain ⟨kd', X', e1, e2, e3⟩ := HWR.out 1024 hmem
                   have e4 : kd' = 1024 := by omega
                   subst e4
                   rw [e3, hS, e2.unique hX.1])
                 have ho := HO6.out.then ho7 (fun x hx => by simp at hx)
                 have hx7 := HXX.out X S w7 hS hX.2 ho
                 unfold zOpt at hx7
                 have HX7 := Lib.hid hx7
                 have HO7 := Lib.hid ho
                 have HO57 := Lib.hid (HO56.out.then ho7 (fun x hx => by simp at hx))
                 have HB7 := Lib.hid (ho7.blk HB6.out (by simp))
                 have HXS := Lib.hid (And.intro hX.1 hS)
                 have HVS := Lib.hid hVS
                 clear hVS
                 clear ho7 ho hx7 hX hS)
              | (go_at_call 8; refine HX7.out.mono ?_; rintro r w8 ⟨rfl, ho8⟩
                 have hb8 := ho8.blk HB7.out (by simp)
                 have g8 : w8.cell? ⟨wr.heap.size, 8, none⟩ = some (.int .u64 1024) := hb8.cell 8
                 have hM8 := (HMP.out.off HO57.out (by simp)).off ho8 (by simp)
                 have hl8 := (Mp.look hM8 Tryz.underlying30 Tryz.underlying29 (zeroStr w8) 1024 hwf).1
                 have hVS := HVS.out
                 rw [if_pos hmem, decide_eq_true hmem, hVS] at hl8
                 have HM8 := Lib.hid hM8
                 have HO8 := Lib.hid (HO7.out.then ho8 (fun x hx => by simp at hx))
                 clear ho8 hb8 hM8 hVS)
              | (at_mapUpdate; refine wpList_mapUpdate_mp rfl _ _ _ 29 rfl Tryz.underlying30 Tryz.underlying29 HM8.out rfl (by unfold maxLen; omega) 1024 rfl hwf (.string S) rfl ?_
                 intro w9 hm9 ho9 hs9))
              go_roundg (q - (j + 1))
              case measure => omega
              case rel =>
              refine ⟨j + 1, rfl, by go_num, by omega, Nat.le_refl _, Lib.hid ⟨HO8.out.then ho9.out (fun x hx => by simp at hx; right; omega), ⟨_, _, hm9.out, fun x hx => ?_⟩, hws⟩⟩
              by_cases he : x = 1024
              · rw [if_pos he]; exact ⟨1024, X, he, HXS.out.1, by rw [HXS.out.2]⟩
              · rw [if_neg he]
                rw [if_pos hmem] at hx; exact HWR.out x hx
            · have hSTB : Blk ((wr.alloc (.cells #[.bool false, .bool false, .bool false, .bool false, .bool false, .bool false, .int .u64 0, .int .u64 0, .int .u64 0, .int .u64 0, .int .u64 0, .int .u64 0] 32)).setRow wr.heap.size #[.bool false, .bool false, .bool false, .bool false, .bool false, .bool false, .int .u64 0, .int .u64 0, .int .u64 1025, .int .u64 0, .int .u64 0, .int .u64 0]) wr.heap.size 32 #[.bool false, .bool false, .bool false, .bool false, .bool false, .bool false, .int .u64 0, .int .u64 0, .int .u64 1025, .int .u64 0, .int .u64 0, .int .u64 0] := setRow_heap _ _ _ _ _ _ (Blk.new wr _ _)
              have hoff2 : Off [] wr ((wr.alloc (.cells #[.bool false, .bool false, .bool false, .bool false, .bool false, .bool false, .int .u64 0, .int .u64 0, .int .u64 0, .int .u64 0, .int .u64 0, .int .u64 0] 32)).setRow wr.heap.size #[.bool false, .bool false, .bool false, .bool false, .bool false, .bool false, .int .u64 0, .int .u64 0, .int .u64 1025, .int .u64 0, .int .u64 0, .int .u64 0]) := ((Off.refl [] wr).alloc _).then (off_setRow (Blk.new wr _ _) _) (fun x h => by simp at h; right; omega)
              obtain ⟨w5, hw5⟩ : ∃ w5, w5 = (wr.alloc (.cells #[.bool false, .bool false, .bool false, .bool false, .bool false, .bool false, .int .u64 0, .int .u64 0, .int .u64 0, .int .u64 0, .int .u64 0, .int .u64 0] 32)).setRow wr.heap.size #[.bool false, .bool false, .bool false, .bool false, .bool false, .bool false, .int .u64 0, .int .u64 0, .int .u64 1025, .int .u64 0, .int .u64 0, .int .u64 0] := ⟨_, rfl⟩
              rw [← hw5] at hSTB hoff2
              have W5 := Lib.hid hw5
              clear hw5
              have hc8 : w5.cell? ⟨wr.heap.size, 8, none⟩ = some (.int .u64 1025) := hSTB.cell 8
              have hf8 := hSTB.frozen 8
              have hB6 : Blk (w5.setCell ⟨wr.heap.size, 8, none⟩ (.int .u64 1024)) wr.heap.size 32 #[.bool false, .bool false, .bool false, .bool false, .bool false, .bool false, .int .u64 0, .int .u64 0, .int .u64 1024, .int .u64 0, .int .u64 0, .int .u64 0] := Blk.eq (hSTB.set_ 8 _) rfl
              have hO6 : Off [] w (w5.setCell ⟨wr.heap.size, 8, none⟩ (.int .u64 1024)) := (HD.out.off.then hoff2 (fun x hx => by simp at hx)).then ((Off.refl [wr.heap.size] w5).setCell (p := ⟨wr.heap.size, 8, none⟩) (Or.inl (by simp)) _) (fun x hx => by simp at hx; right; have := HD.out.off.size; omega)
              have hO56 : Off [] wr (w5.setCell ⟨wr.heap.size, 8, none⟩ (.int .u64 1024)) := hoff2.then ((Off.refl [wr.heap.size] w5).setCell (p := ⟨wr.heap.size, 8, none⟩) (Or.inl (by simp)) _) (fun x hx => by simp at hx; right; omega)
              have d0 : (w5.setCell ⟨wr.heap.size, 8, none⟩ (.int .u64 1024)).cell? ⟨wr.heap.size, 0, none⟩ = some (.bool false) := hB6.cell 0
              have d1 : (w5.setCell ⟨wr.heap.size, 8, none⟩ (.int .u64 1024)).cell? ⟨wr.heap.size, 1, none⟩ = some (.bool false) := hB6.cell 1
              have d2 : (w5.setCell ⟨wr.heap.size, 8, none⟩ (.int .u64 1024)).cell? ⟨wr.heap.size, 2, none⟩ = some (.bool false) := hB6.cell 2
              have d3 : (w5.setCell ⟨wr.heap.size, 8, none⟩ (.int .u64 1024)).cell? ⟨wr.heap.size, 3, none⟩ = some (.bool false) := hB6.cell 3
              have d4 : (w5.setCell ⟨wr.heap.size, 8, none⟩ (.int .u64 1024)).cell? ⟨wr.heap.size, 4, none⟩ = some (.bool false) := hB6.cell 4
              have d5 : (w5.setCell ⟨wr.heap.size, 8, none⟩ (.int .u64 1024)).cell? ⟨wr.heap.size, 5, none⟩ = some (.bool false) := hB6.cell 5
              have d6 : (w5.setCell ⟨wr.heap.size, 8, none⟩ (.int .u64 1024)).cell? ⟨wr.heap.size, 6, none⟩ = some (.int .u64 0) := hB6.cell 6
              have d7 : (w5.setCell ⟨wr.heap.size, 8, none⟩ (.int .u64 1024)).cell? ⟨wr.heap.size, 7, none⟩ = some (.int .u64 0) := hB6.cell 7
              have d8 : (w5.setCell ⟨wr.heap.size, 8, none⟩ (.int .u64 1024)).cell? ⟨wr.heap.size, 8, none⟩ = some (.int .u64 1024) := hB6.cell 8
              have d9 : (w5.setCell ⟨wr.heap.size, 8, none⟩ (.int .u64 1024)).cell? ⟨wr.heap.size, 9, none⟩ = some (.int .u64 0) := hB6.cell 9
              have d10 : (w5.setCell ⟨wr.heap.size, 8, none⟩ (.int .u64 1024)).cell? ⟨wr.heap.size, 10, none⟩ = some (.int .u64 0) := hB6.cell 10
              have d11 : (w5.setCell ⟨wr.heap.size, 8, none⟩ (.int .u64 1024)).cell? ⟨wr.heap.size, 11, none⟩ = some (.int .u64 0) := hB6.cell 11
              have hv := HW4.out _ hO6
              unfold kOpt at hv
              rw [show (((1024 : Nat)) : Int) = 1024 from rfl] at hv
              have HV := Lib.hid hv
              have HB6 := Lib.hid hB6
              have HO6 := Lib.hid hO6
              have HO56 := Lib.hid hO56
              have HMP := Lib.hid hmp
              have HWR := Lib.hid hwr
              have hwf : (Lit.int .u64 1024).wf = true := by decide
              clear hSTB hoff2 hB6 hO6 hO56 hv hmp hwr
              go_wp2_with (first
              | ((with_reducible show wpList _ _ _ _ _ _); refine wpList_store_row rfl 32 (.tmp 10) (.tmp 48) rfl wr.heap.size #[.bool false, .bool false, .bool false, .bool false, .bool false, .bool false, .int .u64 0, .int .u64 0, .int .u64 1025, .int .u64 0, .int .u64 0, .int .u64 0] rfl rfl 32 _ (Blk.new wr _ _) (opt_infoR 1025) rfl (opt_allR 1025) ?_; rw [← W5.out])
              | (go_at_call 7; refine HV.out.mono ?_; rintro r w7 ⟨X, hX, hr, ho7⟩
                 obtain ⟨S, hS⟩ : ∃ S, S = str (pragB ++ headB 0 0 51 l.length (51 + l.length) ++ l ++ X) := ⟨_, rfl⟩
                 rw [← hS] at hr
                 subst hr
                 have ho := HO6.out.then ho7 (fun x hx => by simp at hx)
                 have hx7 := HXX.out X S w7 hS hX.2 ho
                 unfold zOpt at hx7
                 have HX7 := Lib.hid hx7
                 have HO7 := Lib.hid ho
                 have HO57 := Lib.hid (HO56.out.then ho7 (fun x hx => by simp at hx))
                 have HB7 := Lib.hid (ho7.blk HB6.out (by simp))
                 have HXS := Lib.hid (And.intro hX.1 hS)
                 
                 clear ho7 ho hx7 hX hS)
              | (go_at_call 8; refine HX7.out.mono ?_; rintro r w8 ⟨rfl, ho8⟩
                 have hb8 := ho8.blk HB7.out (by simp)
                 have g8 : w8.cell? ⟨wr.heap.size, 8, none⟩ = some (.int .u64 1024) := hb8.cell 8
                 have hM8 := (HMP.out.off HO57.out (by simp)).off ho8 (by simp)
                 have hl8 := (Mp.look hM8 Tryz.underlying30 Tryz.underlying29 (zeroStr w8) 1024 hwf).1
                 
                 rw [if_neg hmem, decide_eq_false hmem] at hl8
                 have HM8 := Lib.hid hM8
                 have HO8 := Lib.hid (HO7.out.then ho8 (fun x hx => by simp at hx))
                 clear ho8 hb8 hM8)
              | (at_mapUpdate; refine wpList_mapUpdate_mp rfl _ _ _ 29 rfl Tryz.underlying30 Tryz.underlying29 HM8.out rfl (by unfold maxLen; omega) 1024 rfl hwf (.string S) rfl ?_
                 intro w9 hm9 ho9 hs9))
              go_roundg (q - (j + 1))
              case measure => omega
              case rel =>
              refine ⟨j + 1, rfl, by go_num, by omega, Nat.le_refl _, Lib.hid ⟨HO8.out.then ho9.out (fun x hx => by simp at hx; right; omega), ⟨_, _, hm9.out, fun x hx => ?_⟩, hws⟩⟩
              by_cases he : x = 1024
              · rw [if_pos he]; exact ⟨1024, X, he, HXS.out.1, by rw [HXS.out.2]⟩
              · rw [if_neg he]
                rw [if_neg hmem] at hx; rcases List.mem_append.1 hx with h1 | h1; exact HWR.out x h1; simp at h1; exact absurd h1 he
          | false =>
            by_cases hmem : (1025 : Int) ∈ Ks
            · have hSTB : Blk ((wr.alloc (.cells #[.bool false, .bool false, .bool false, .bool false, .bool false, .bool false, .int .u64 0, .int .u64 0, .int .u64 0, .int .u64 0, .int .u64 0, .int .u64 0] 32)).setRow wr.heap.size #[.bool false, .bool false, .bool false, .bool false, .bool false, .bool false, .int .u64 0, .int .u64 0, .int .u64 1025, .int .u64 0, .int .u64 0, .int .u64 0]) wr.heap.size 32 #[.bool false, .bool false, .bool false, .bool false, .bool false, .bool false, .int .u64 0, .int .u64 0, .int .u64 1025, .int .u64 0, .int .u64 0, .int .u64 0] := setRow_heap _ _ _ _ _ _ (Blk.new wr _ _)
              have hoff2 : Off [] wr ((wr.alloc (.cells #[.bool false, .bool false, .bool false, .bool false, .bool false, .bool false, .int .u64 0, .int .u64 0, .int .u64 0, .int .u64 0, .int .u64 0, .int .u64 0] 32)).setRow wr.heap.size #[.bool false, .bool false, .bool false, .bool false, .bool false, .bool false, .int .u64 0, .int .u64 0, .int .u64 1025, .int .u64 0, .int .u64 0, .int .u64 0]) := ((Off.refl [] wr).alloc _).then (off_setRow (Blk.new wr _ _) _) (fun x h => by simp at h; right; omega)
              obtain ⟨w5, hw5⟩ : ∃ w5, w5 = (wr.alloc (.cells #[.bool false, .bool false, .bool false, .bool false, .bool false, .bool false, .int .u64 0, .int .u64 0, .int .u64 0, .int .u64 0, .int .u64 0, .int .u64 0] 32)).setRow wr.heap.size #[.bool false, .bool false, .bool false, .bool false, .bool false, .bool false, .int .u64 0, .int .u64 0, .int .u64 1025, .int .u64 0, .int .u64 0, .int .u64 0] := ⟨_, rfl⟩
              rw [← hw5] at hSTB hoff2
              have W5 := Lib.hid hw5
              clear hw5
              have hc8 : w5.cell? ⟨wr.heap.size, 8, none⟩ = some (.int .u64 1025) := hSTB.cell 8
              have hf8 := hSTB.frozen 8
              have hB6 : Blk w5 wr.heap.size 32 #[.bool false, .bool false, .bool false, .bool false, .bool false, .bool false, .int .u64 0, .int .u64 0, .int .u64 1025, .int .u64 0, .int .u64 0, .int .u64 0] := hSTB
              have hO6 : Off [] w w5 := HD.out.off.then hoff2 (fun x hx => by simp at hx)
              have hO56 : Off [] wr w5 := hoff2
              have d0 : w5.cell? ⟨wr.heap.size, 0, none⟩ = some (.bool false) := hB6.cell 0
              have d1 : w5.cell? ⟨wr.heap.size, 1, none⟩ = some (.bool false) := hB6.cell 1
              have d2 : w5.cell? ⟨wr.heap.size, 2, none⟩ = some (.bool false) := hB6.cell 2
              have d3 : w5.cell? ⟨wr.heap.size, 3, none⟩ = some (.bool false) := hB6.cell 3
              have d4 : w5.cell? ⟨wr.heap.size, 4, none⟩ = some (.bool false) := hB6.cell 4
              have d5 : w5.cell? ⟨wr.heap.size, 5, none⟩ = some (.bool false) := hB6.cell 5
              have d6 : w5.cell? ⟨wr.heap.size, 6, none⟩ = some (.int .u64 0) := hB6.cell 6
              have d7 : w5.cell? ⟨wr.heap.size, 7, none⟩ = some (.int .u64 0) := hB6.cell 7
              have d8 : w5.cell? ⟨wr.heap.size, 8, none⟩ = some (.int .u64 1025) := hB6.cell 8
              have d9 : w5.cell? ⟨wr.heap.size, 9, none⟩ = some (.int .u64 0) := hB6.cell 9
              have d10 : w5.cell? ⟨wr.heap.size, 10, none⟩ = some (.int .u64 0) := hB6.cell 10
              have d11 : w5.cell? ⟨wr.heap.size, 11, none⟩ = some (.int .u64 0) := hB6.cell 11
              have hv := HW5.out _ hO6
              unfold kOpt at hv
              rw [show (((1025 : Nat)) : Int) = 1025 from rfl] at hv
              have HV := Lib.hid hv
              have HB6 := Lib.hid hB6
              have HO6 := Lib.hid hO6
              have HO56 := Lib.hid hO56
              have HMP := Lib.hid hmp
              have HWR := Lib.hid hwr
              have hwf : (Lit.int .u64 1025).wf = true := by decide
              clear hSTB hoff2 hB6 hO6 hO56 hv hmp hwr
              go_wp2_with (first
              | ((with_reducible show wpList _ _ _ _ _ _); refine wpList_store_row rfl 32 (.tmp 10) (.tmp 48) rfl wr.heap.size #[.bool false, .bool false, .bool false, .bool false, .bool false, .bool false, .int .u64 0, .int .u64 0, .int .u64 1025, .int .u64 0, .int .u64 0, .int .u64 0] rfl rfl 32 _ (Blk.new wr _ _) (opt_infoR 1025) rfl (opt_allR 1025) ?_; rw [← W5.out])
              | (go_at_call 7; refine HV.out.mono ?_; rintro r w7 ⟨X, hX, hr, ho7⟩
                 obtain ⟨S, hS⟩ : ∃ S, S = str (pragB ++ headB 0 0 51 l.length (51 + l.length) ++ l ++ X) := ⟨_, rfl⟩
                 rw [← hS] at hr
                 subst hr
                 have hVS : V 1025 = .string S := (by
                   obtain ⟨kd', X', e1, e2, e3⟩ := HWR.out 1025 hmem
                   have e4 : kd' = 1025 := by omega
                   subst e4
                   rw [e3, hS, e2.unique hX.1])
                 have ho := HO6.out.then ho7 (fun x hx => by simp at hx)
                 have hx7 := HXX.out X S w7 hS hX.2 ho
                 unfold zOpt at hx7
                 have HX7 := Lib.hid hx7
                 have HO7 := Lib.hid ho
                 have HO57 := Lib.hid (HO56.out.then ho7 (fun x hx => by simp at hx))
                 have HB7 := Lib.hid (ho7.blk HB6.out (by simp))
                 have HXS := Lib.hid (And.intro hX.1 hS)
                 have HVS := Lib.hid hVS
                 clear hVS
                 clear ho7 ho hx7 hX hS)
              | (go_at_call 8; refine HX7.out.mono ?_; rintro r w8 ⟨rfl, ho8⟩
                 have hb8 := ho8.blk HB7.out (by simp)
                 have g8 : w8.cell? ⟨wr.heap.size, 8, none⟩ = some (.int .u64 1025) := hb8.cell 8
                 have hM8 := (HMP.out.off HO57.out (by simp)).off ho8 (by simp)
                 have hl8 := (Mp.look hM8 Tryz.underlying30 Tryz.underlying29 (zeroStr w8) 1025 hwf).1
                 have hVS := HVS.out
                 rw [if_pos hmem, decide_eq_true hmem, hVS] at hl8
                 have HM8 := Lib.hid hM8
                 have HO8 := Lib.hid (HO7.out.then ho8 (fun x hx => by simp at hx))
                 clear ho8 hb8 hM8 hVS)
              | (at_mapUpdate; refine wpList_mapUpdate_mp rfl _ _ _ 29 rfl Tryz.underlying30 Tryz.underlying29 HM8.out rfl (by unfold maxLen; omega) 1025 rfl hwf (.string S) rfl ?_
                 intro w9 hm9 ho9 hs9))
              go_roundg (q - (j + 1))
              case measure => omega
              case rel =>
              refine ⟨j + 1, rfl, by go_num, by omega, Nat.le_refl _, Lib.hid ⟨HO8.out.then ho9.out (fun x hx => by simp at hx; right; omega), ⟨_, _, hm9.out, fun x hx => ?_⟩, hws⟩⟩
              by_cases he : x = 1025
              · rw [if_pos he]; exact ⟨1025, X, he, HXS.out.1, by rw [HXS.out.2]⟩
              · rw [if_neg he]
                rw [if_pos hmem] at hx; exact HWR.out x hx
            · have hSTB : Blk ((wr.alloc (.cells #[.bool false, .bool false, .bool false, .bool false, .bool false, .bool false, .int .u64 0, .int .u64 0, .int .u64 0, .int .u64 0, .int .u64 0, .int .u64 0] 32)).setRow wr.heap.size #[.bool false, .bool false, .bool false, .bool false, .bool false, .bool false, .int .u64 0, .int .u64 0, .int .u64 1025, .int .u64 0, .int .u64 0, .int .u64 0]) wr.heap.size 32 #[.bool false, .bool false, .bool false, .bool false, .bool false, .bool false, .int .u64 0, .int .u64 0, .int .u64 1025, .int .u64 0, .int .u64 0, .int .u64 0] := setRow_heap _ _ _ _ _ _ (Blk.new wr _ _)
              have hoff2 : Off [] wr ((wr.alloc (.cells #[.bool false, .bool false, .bool false, .bool false, .bool false, .bool false, .int .u64 0, .int .u64 0, .int .u64 0, .int .u64 0, .int .u64 0, .int .u64 0] 32)).setRow wr.heap.size #[.bool false, .bool false, .bool false, .bool false, .bool false, .bool false, .int .u64 0, .int .u64 0, .int .u64 1025, .int .u64 0, .int .u64 0, .int .u64 0]) := ((Off.refl [] wr).alloc _).then (off_setRow (Blk.new wr _ _) _) (fun x h => by simp at h; right; omega)
              obtain ⟨w5, hw5⟩ : ∃ w5, w5 = (wr.alloc (.cells #[.bool false, .bool false, .bool false, .bool false, .bool false, .bool false, .int .u64 0, .int .u64 0, .int .u64 0, .int .u64 0, .int .u64 0, .int .u64 0] 32)).setRow wr.heap.size #[.bool false, .bool false, .bool false, .bool false, .bool false, .bool false, .int .u64 0, .int .u64 0, .int .u64 1025, .int .u64 0, .int .u64 0, .int .u64 0] := ⟨_, rfl⟩
              rw [← hw5] at hSTB hoff2
              have W5 := Lib.hid hw5
              clear hw5
              have hc8 : w5.cell? ⟨wr.heap.size, 8, none⟩ = some (.int .u64 1025) := hSTB.cell 8
              have hf8 := hSTB.frozen 8
              have hB6 : Blk w5 wr.heap.size 32 #[.bool false, .bool false, .bool false, .bool false, .bool false, .bool false, .int .u64 0, .int .u64 0, .int .u64 1025, .int .u64 0, .int .u64 0, .int .u64 0] := hSTB
              have hO6 : Off [] w w5 := HD.out.off.then hoff2 (fun x hx => by simp at hx)
              have hO56 : Off [] wr w5 := hoff2
              have d0 : w5.cell? ⟨wr.heap.size, 0, none⟩ = some (.bool false) := hB6.cell 0
              have d1 : w5.cell? ⟨wr.heap.size, 1, none⟩ = some (.bool false) := hB6.cell 1
              have d2 : w5.cell? ⟨wr.heap.size, 2, none⟩ = some (.bool false) := hB6.cell 2
              have d3 : w5.cell? ⟨wr.heap.size, 3, none⟩ = some (.bool false) := hB6.cell 3
              have d4 : w5.cell? ⟨wr.heap.size, 4, none⟩ = some (.bool false) := hB6.cell 4
              have d5 : w5.cell? ⟨wr.heap.size, 5, none⟩ = some (.bool false) := hB6.cell 5
              have d6 : w5.cell? ⟨wr.heap.size, 6, none⟩ = some (.int .u64 0) := hB6.cell 6
              have d7 : w5.cell? ⟨wr.heap.size, 7, none⟩ = some (.int .u64 0) := hB6.cell 7
              have d8 : w5.cell? ⟨wr.heap.size, 8, none⟩ = some (.int .u64 1025) := hB6.cell 8
              have d9 : w5.cell? ⟨wr.heap.size, 9, none⟩ = some (.int .u64 0) := hB6.cell 9
              have d10 : w5.cell? ⟨wr.heap.size, 10, none⟩ = some (.int .u64 0) := hB6.cell 10
              have d11 : w5.cell? ⟨wr.heap.size, 11, none⟩ = some (.int .u64 0) := hB6.cell 11
              have hv := HW5.out _ hO6
              unfold kOpt at hv
              rw [show (((1025 : Nat)) : Int) = 1025 from rfl] at hv
              have HV := Lib.hid hv
              have HB6 := Lib.hid hB6
              have HO6 := Lib.hid hO6
              have HO56 := Lib.hid hO56
              have HMP := Lib.hid hmp
              have HWR := Lib.hid hwr
              have hwf : (Lit.int .u64 1025).wf = true := by decide
              clear hSTB hoff2 hB6 hO6 hO56 hv hmp hwr
              go_wp2_with (first
              | ((with_reducible show wpList _ _ _ _ _ _); refine wpList_store_row rfl 32 (.tmp 10) (.tmp 48) rfl wr.heap.size #[.bool false, .bool false, .bool false, .bool false, .bool false, .bool false, .int .u64 0, .int .u64 0, .int .u64 1025, .int .u64 0, .int .u64 0, .int .u64 0] rfl rfl 32 _ (Blk.new wr _ _) (opt_infoR 1025) rfl (opt_allR 1025) ?_; rw [← W5.out])
              | (go_at_call 7; refine HV.out.mono ?_; rintro r w7 ⟨X, hX, hr, ho7⟩
                 obtain ⟨S, hS⟩ : ∃ S, S = str (pragB ++ headB 0 0 51 l.length (51 + l.length) ++ l ++ X) := ⟨_, rfl⟩
                 rw [← hS] at hr
                 subst hr
                 have ho := HO6.out.then ho7 (fun x hx => by simp at hx)
                 have hx7 := HXX.out X S w7 hS hX.2 ho
                 unfold zOpt at hx7
                 have HX7 := Lib.hid hx7
                 have HO7 := Lib.hid ho
                 have HO57 := Lib.hid (HO56.out.then ho7 (fun x hx => by simp at hx))
                 have HB7 := Lib.hid (ho7.blk HB6.out (by simp))
                 have HXS := Lib.hid (And.intro hX.1 hS)
                 
                 clear ho7 ho hx7 hX hS)
              | (go_at_call 8; refine HX7.out.mono ?_; rintro r w8 ⟨rfl, ho8⟩
                 have hb8 := ho8.blk HB7.out (by simp)
                 have g8 : w8.cell? ⟨wr.heap.size, 8, none⟩ = some (.int .u64 1025) := hb8.cell 8
                 have hM8 := (HMP.out.off HO57.out (by simp)).off ho8 (by simp)
                 have hl8 := (Mp.look hM8 Tryz.underlying30 Tryz.underlying29 (zeroStr w8) 1025 hwf).1
                 
                 rw [if_neg hmem, decide_eq_false hmem] at hl8
                 have HM8 := Lib.hid hM8
                 have HO8 := Lib.hid (HO7.out.then ho8 (fun x hx => by simp at hx))
                 clear ho8 hb8 hM8)
              | (at_mapUpdate; refine wpList_mapUpdate_mp rfl _ _ _ 29 rfl Tryz.underlying30 Tryz.underlying29 HM8.out rfl (by unfold maxLen; omega) 1025 rfl hwf (.string S) rfl ?_
                 intro w9 hm9 ho9 hs9))
              go_roundg (q - (j + 1))
              case measure => omega
              case rel =>
              refine ⟨j + 1, rfl, by go_num, by omega, Nat.le_refl _, Lib.hid ⟨HO8.out.then ho9.out (fun x hx => by simp at hx; right; omega), ⟨_, _, hm9.out, fun x hx => ?_⟩, hws⟩⟩
              by_cases he : x = 1025
              · rw [if_pos he]; exact ⟨1025, X, he, HXS.out.1, by rw [HXS.out.2]⟩
              · rw [if_neg he]
                rw [if_neg hmem] at hx; rcases List.mem_append.1 hx with h1 | h1; exact HWR.out x h1; simp at h1; exact absurd h1 he
        · have hjz : ¬ (j : Int) < (q : Int) := by omega
          go_wp2_with fail
          go_ret
          exact ⟨rfl, HD.out.off⟩
end Go.Proofs.YthmhnknkidkdlaaGreatDoor
