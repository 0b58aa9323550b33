/-
  laws.FnWrBack: what is extracted of a wrapped file of version 1 is that file.
  Entries as a statement's arguments: opened to memory.
  An identifier as a statement's argument: opened.
  A file of roots and blocks as a statement's argument: opened.
  (No condition beyond those that each theorem states.)
-/
import Derived.Test.YthedhibdbgcgoaaGreatDoorB44
import Derived.Test.YthedhibdbgcgoaaGreatDoorB03
import Derived.Deep.Slices
import Derived.ChangeSame
import Derived.Shelf.Bytes.SlIndexWhole
import Derived.Test.YthedhibdbgcgoaaGreatDoorB35
namespace Go.Proofs.YthedhibdbgcgoaaGreatDoor
open Go.RowKit

theorem secs_len : ∀ (bs : List Bk), (∀ b, b ∈ bs → b.ok) → (secs bs).length ≤ 33100 * bs.length
  | [], _ => by simp [secs]
  | b :: bs, h => by
    have h1 := secB_len (h b List.mem_cons_self)
    have h2 := secs_len bs (fun x hx => h x (List.mem_cons_of_mem _ hx))
    have hs : (secs (b :: bs)).length = (secB (cidB b.1) b.2.data.toList).length + (secs bs).length := by
      unfold secs
      rw [List.map_cons, List.flatMap_cons, List.length_append]
      rfl
    rw [hs, List.length_cons]
    omega

set_option maxRecDepth 100000 in
set_option maxHeartbeats 4000000 in
theorem back_true (rs : List Ent) (bs : List Bk) (A B : Option Addr) (ib io jb jo c c2 n m : Nat) (w : World) (hn : rs.length = n) (hm : bs.length = m) (hat : CidsAt w A ib io rs) (hbt : BlosAt w B jb jo bs) (hr0 : ∀ e, e ∈ rs → e.off = 0) (hb0 : ∀ b, b ∈ bs → b.1.off = 0) (qe : Addr) (hE : EofA qe w) (hAl : Alr w) :
    Calls Tryz.prog 3 #[.agg #[.slice A n c, .slice B m c2]] w fun r w' => r = .returned (.bool true) ∧ Off [] w w' := by
  have hA : Off [] w (w.alloc (.cells #[.slice A n c, .slice B m c2] 25)) := (Off.refl [] w).alloc _
  have hB := Blk.new w 25 #[.slice A n c, .slice B m c2]
  have H4 := Lib.hid (fun W (h : Off [] w W) => zzFits4_any rs bs A B ib io jb jo c c2 n m W hn hm (hat.off h (by simp)) (hbt.off h (by simp)))
  have HG := Lib.hid (fun W (h : Off [] w W) => wrGood_any rs bs A B ib io jb jo c c2 n m W hn hm (hat.off h (by simp)) (hbt.off h (by simp)))
  obtain ⟨F, hF⟩ : ∃ F, F = (fitC rs && fitK bs) := ⟨_, rfl⟩
  obtain ⟨G, hG⟩ : ∃ G, G = wrB rs bs := ⟨_, rfl⟩
  rw [← hF] at H4
  rw [← hG] at HG
  have HB := Lib.hid hB
  have HA := Lib.hid hA
  have HGG := Lib.hid hG
  have HAT := Lib.hid (And.intro hn (And.intro hm (And.intro hat hbt)))
  have HOF := Lib.hid (And.intro hr0 hb0)
  have HE := Lib.hid hE
  have HAL := Lib.hid hAl
  clear hA hB hF hG hn hm hat hbt hr0 hb0 hE hAl
  go_enter Tryz.func3, Tryz.ntmps3
  go_wp2_with fail
  refine (H4.out _ HA.out).mono ?_
  rintro r w1 ⟨rfl, ho1⟩
  have HO1 := Lib.hid (HA.out.then ho1 (fun x hx => by simp at hx))
  have HB1 := Lib.hid (ho1.blk HB.out (by simp))
  clear ho1
  cases F with
  | false =>
    go_wp2_with fail
    go_ret
    exact ⟨rfl, HO1.out⟩
  | true =>
    have c0 : w1.cell? ⟨w.heap.size, 0, none⟩ = some (.slice A n c) := HB1.out.cell 0
    have c1 : w1.cell? ⟨w.heap.size, 1, none⟩ = some (.slice B m c2) := HB1.out.cell 1
    go_wp2_with fail
    refine (HG.out _ HO1.out).mono ?_
    rintro r w2 ⟨rfl, ho2⟩
    have HO2 := Lib.hid (HO1.out.then ho2 (fun x hx => by simp at hx))
    have HB2 := Lib.hid (ho2.blk HB1.out (by simp))
    clear ho2 c0 c1
    cases G with
    | false =>
      go_wp2_with fail
      go_ret
      exact ⟨rfl, HO2.out⟩
    | true =>
      obtain ⟨hn2, hm2, hrs, hbs⟩ := wrB_ok HGG.out.symm HOF.out.1 HOF.out.2
      obtain ⟨hn, hm, hat, hbt⟩ := HAT.out
      have ha2 := hdrB_len rs hrs hn2
      have hsec := secs_len bs hbs
      obtain ⟨l, hl⟩ : ∃ l, l = car1B (rs.map cidB) (bs.map Bk.b) := ⟨_, rfl⟩
      have hl' : l = hdrB (rs.map cidB) 1 ++ secs bs := by rw [hl]; exact car1_eq rs bs
      have hll : l.length ≤ 10000000 := by rw [hl', List.length_append]; omega
      have hl0 : 0 < l.length := by
        have := Lib.uvarint_pos (hdrBody (rs.map cidB) 1).length
        rw [hl', hdrB, List.length_append, List.length_append]; omega
      obtain ⟨s, hs⟩ : ∃ s, s = str l := ⟨_, rfl⟩
      have hsd : s.data.toList = l := by rw [hs]
      have HC := Lib.hid (fun W (h : Off [] w W) => car1_any rs bs A B ib io c n jb jo c2 m W hrs hbs hn (by omega) hm (by omega) (hat.off h (by simp)) (hbt.off h (by simp)))
      rw [← hl, ← hs] at HC
      have hww := fun W (h : Off [] w W) => wrWrap_any rs bs l s hsd W hrs hbs hn2 hm2 hl' hll qe (HE.out.off h (by simp))
      obtain ⟨N, hN⟩ : ∃ N, N = l.length := ⟨_, rfl⟩
      rw [← hN] at hww
      have HWW := Lib.hid hww
      have hxx : ∀ (X : List UInt8) (S : ByteArray) W, S = str (pragB ++ headB 0 0 51 N (51 + N) ++ l ++ X) → X.length ≤ 26030614 → Off [] w W → Calls Tryz.prog 8 #[.string S, .string ⟨#[]⟩, .agg (zOpt false)] W fun e w' => e = .returned (.tuple #[.string s, .int .u8 0]) ∧ Off [] W w' := fun X S W hS hX h => by
        obtain ⟨fp1, fp2, fp3⟩ := file_parts (headB 0 0 51 N (51 + N)) l X 0 (headB_len _ _ _ _ _)
        rw [List.replicate_zero, List.append_nil] at fp1 fp2 fp3
        rw [← hN] at fp2 fp3
        obtain ⟨fl, hfl⟩ : ∃ fl, fl = pragB ++ headB 0 0 51 N (51 + N) ++ l ++ X := ⟨_, rfl⟩
        rw [← hfl] at hS fp1 fp2 fp3
        have hfll : fl.length ≤ 100000000 := by rw [hfl]; simp only [List.length_append, pragB_len, headB_len]; omega
        have h9 := wrExtract_any 0 0 51 N (51 + N) S fl (headB 0 0 51 N (51 + N) ++ l ++ X) (by rw [hS]) W (by rw [hS, str_size]; omega) (by rw [hfl]; simp only [List.append_assoc]) fp1 (by omega) (by omega) (by omega) (by omega) (by omega) fp3 (by omega) qe (HE.out.off h (by simp)) (HAL.out.off h (by simp))
        rw [fp2, ← hs] at h9
        exact h9
      have HXX := Lib.hid hxx
      have HON := Lib.hid (fun W (h : Off [] w W) => wrOne_any W qe (HE.out.off h (by simp)) (HAL.out.off h (by simp)))
      have c0 : w2.cell? ⟨w.heap.size, 0, none⟩ = some (.slice A n c) := HB2.out.cell 0
      have c1 : w2.cell? ⟨w.heap.size, 1, none⟩ = some (.slice B m c2) := HB2.out.cell 1
      clear hn2 hm2 hrs hbs hn hm hat hbt ha2 hsec hl hl' hll hl0 hs hsd hww hN hxx
      go_wp2_with (first
        | (go_at_call 6; refine (HC.out _ HO2.out).mono ?_; rintro r w3 ⟨rfl, ho3⟩
           have ho := HO2.out.then ho3 (fun x hx => by simp at hx)
           have hw3 := HWW.out w3 ho
           unfold zOpt at hw3
           have HW3 := Lib.hid hw3
           have HO3 := Lib.hid ho
           clear ho3 ho hw3)
        | (go_at_call 7; refine HW3.out.mono ?_; rintro r w4 ⟨X, hX, hr, ho4⟩
           obtain ⟨S, hS⟩ : ∃ S, S = str (pragB ++ headB 0 0 51 N (51 + N) ++ l ++ X) := ⟨_, rfl⟩
           rw [← hS] at hr
           subst hr
           have ho := HO3.out.then ho4 (fun x hx => by simp at hx)
           have hx4 := HXX.out X S w4 hS hX ho
           unfold zOpt at hx4
           have HX4 := Lib.hid hx4
           have HO4 := Lib.hid ho
           clear ho4 ho hx4 hS hX)
        | (go_at_call 8; refine HX4.out.mono ?_; rintro r w5 ⟨rfl, ho5⟩
           have ho := HO4.out.then ho5 (fun x hx => by simp at hx)
           have HN5 := Lib.hid (HON.out w5 ho)
           have HO5 := Lib.hid ho
           clear ho5 ho))
      refine HN5.out.mono ?_
      rintro r w6 ⟨rfl, ho6⟩
      have HO6 := Lib.hid (HO5.out.then ho6 (fun x hx => by simp at hx))
      clear ho6
      go_wp2_with fail
      go_ret
      exact ⟨rfl, HO6.out⟩
end Go.Proofs.YthedhibdbgcgoaaGreatDoor
namespace Go.Proofs.YthedhibdbgcgoaaGreatDoor
open Go.ChangeShapes Go.WideShapes Go.Deep Go.RowKit

section
variable {H : Type} {enc : TypeId × Value → H} {w : World} {base : Nat} {spare : Nat → Bool} {held : Bool}
theorem u64_of_wf {n : Int} (h : (Lit.int .u64 n).wf = true) : ∃ m : Nat, n = (m : Int) ∧ m < 18446744073709551616 := by
  simp [Lit.wf, IntKind.min, IntKind.max, IntKind.bits, IntKind.signed] at h
  exact ⟨n.toNat, by omega, by omega⟩
theorem add_of_plain {a : Addr} (h : a = ⟨a.block, a.off, none⟩) (k : Nat) : a.add k = ⟨a.block, a.off + k, none⟩ := by
  obtain ⟨b, o, s⟩ := a
  injection h with _ _ h
  subst h
  unfold Addr.add
  split
  · rename_i h0; subst h0; rfl
  · rfl
theorem cid_cells : Tryz.prog.cellsOf 39 = 4 := by kernel_rfl
theorem u64_cells : Tryz.prog.cellsOf 30 = 1 := by kernel_rfl
theorem str_cells : Tryz.prog.cellsOf 9 = 1 := by kernel_rfl
end
end Go.Proofs.YthedhibdbgcgoaaGreatDoor
namespace Go.Proofs.YthedhibdbgcgoaaGreatDoor
open Go.ChangeShapes Go.WideShapes Go.Deep Go.RowKit

section
variable {H : Type} {enc : TypeId × Value → H} {w : World} {base : Nat} {spare : Nat → Bool} {held : Bool}
set_option maxRecDepth 100000 in
theorem open_cid {fuel : Nat} {cs : List Value} {x : DataW H × List MemPlace} (h : DataW.trod enc Tryz.prog w base spare held fuel 39 cs = some x) :
    ∃ e : Ent, cs = [.int .u64 (e.ver : Int), .int .u64 (e.codec : Int), .int .u64 (e.code : Int), .string e.dg] ∧ e.off = 0 := by
  obtain ⟨ys, m, hm, hy, hyl, hylen, hf⟩ := DataW.trod_struct Tryz.underlying39 h
  have g0 := hf 0 _ rfl
  have g1 := hf 1 _ rfl
  have g2 := hf 2 _ rfl
  have g3 := hf 3 _ rfl
  rw [cid_cells] at hyl
  match cs, hyl, ys, hylen with
  | [c0, c1, c2, c3], _, [z0, z1, z2, z3], _ =>
    have k0 : DataW.trod enc Tryz.prog w base spare held m 30 [c0] = some z0 := by
      have e : (([c0, c1, c2, c3] : List Value).drop 0).take (Tryz.prog.cellsOf 30) = [c0] := by rw [u64_cells]; rfl
      rw [← e]; exact g0
    have k1 : DataW.trod enc Tryz.prog w base spare held m 30 [c1] = some z1 := by
      have e : (([c0, c1, c2, c3] : List Value).drop 1).take (Tryz.prog.cellsOf 30) = [c1] := by rw [u64_cells]; rfl
      rw [← e]; exact g1
    have k2 : DataW.trod enc Tryz.prog w base spare held m 30 [c2] = some z2 := by
      have e : (([c0, c1, c2, c3] : List Value).drop 2).take (Tryz.prog.cellsOf 30) = [c2] := by rw [u64_cells]; rfl
      rw [← e]; exact g2
    have k3 : DataW.trod enc Tryz.prog w base spare held m 9 [c3] = some z3 := by
      have e : (([c0, c1, c2, c3] : List Value).drop 3).take (Tryz.prog.cellsOf 9) = [c3] := by rw [str_cells]; rfl
      rw [← e]; exact g3
    obtain ⟨n0, q0, _, w0⟩ := DataW.trod_int Tryz.underlying30 k0
    obtain ⟨n1, q1, _, w1⟩ := DataW.trod_int Tryz.underlying30 k1
    obtain ⟨n2, q2, _, w2⟩ := DataW.trod_int Tryz.underlying30 k2
    obtain ⟨s3, q3, _, w3⟩ := DataW.trod_string Tryz.underlying9 k3
    obtain ⟨m0, rfl, _⟩ := u64_of_wf w0
    obtain ⟨m1, rfl, _⟩ := u64_of_wf w1
    obtain ⟨m2, rfl, _⟩ := u64_of_wf w2
    injection q0 with q0 _
    injection q1 with q1 _
    injection q2 with q2 _
    injection q3 with q3 _
    subst q0 q1 q2 q3
    exact ⟨⟨m0, m1, m2, s3, 0⟩, rfl, rfl⟩
end
end Go.Proofs.YthedhibdbgcgoaaGreatDoor
namespace Go.Proofs.YthedhibdbgcgoaaGreatDoor
open Go.ChangeShapes Go.WideShapes Go.Deep Go.RowKit

theorem blk_cells : Tryz.prog.cellsOf 42 = 5 := by kernel_rfl
theorem cids_cells : Tryz.prog.cellsOf 22 = 1 := by kernel_rfl
theorem blks_cells : Tryz.prog.cellsOf 23 = 1 := by kernel_rfl
theorem car_cells : Tryz.prog.cellsOf 25 = 2 := by kernel_rfl
section
variable {H : Type} {enc : TypeId × Value → H} {w : World} {base : Nat} {spare : Nat → Bool} {held : Bool}
set_option maxRecDepth 100000 in
theorem open_blk {fuel : Nat} {cs : List Value} {x : DataW H × List MemPlace} (h : DataW.trod enc Tryz.prog w base spare held fuel 42 cs = some x) : ∃ b : Bk, cs = bkC b ∧ b.1.off = 0 := by
  obtain ⟨y0, y1, n, hx, hl, h0, h1⟩ := trod_struct2 Tryz.underlying42 h
  rw [blk_cells] at hl
  match cs, hl with
  | [c0, c1, c2, c3, c4], _ =>
    have h0' : DataW.trod enc Tryz.prog w base spare held n 39 [c0, c1, c2, c3] = some y0 := by
      have e : (([c0, c1, c2, c3, c4] : List Value).drop 0).take (Tryz.prog.cellsOf 39) = [c0, c1, c2, c3] := by rw [cid_cells]; rfl
      rw [← e]; exact h0
    have h1' : DataW.trod enc Tryz.prog w base spare held n 9 [c4] = some y1 := by
      have e : (([c0, c1, c2, c3, c4] : List Value).drop 4).take (Tryz.prog.cellsOf 9) = [c4] := by rw [str_cells]; rfl
      rw [← e]; exact h1
    obtain ⟨e, he, ho⟩ := open_cid h0'
    obtain ⟨s4, q4, _, w4⟩ := DataW.trod_string Tryz.underlying9 h1'
    injection he with e0 he
    injection he with e1 he
    injection he with e2 he
    injection he with e3 he
    injection q4 with q4 _
    subst e0 e1 e2 e3 q4
    exact ⟨(e, s4), rfl, ho⟩

set_option maxRecDepth 100000 in
theorem open_cids {fuel : Nat} {cs : List Value} {x : DataW H × List MemPlace} (h : DataW.trod enc Tryz.prog w base spare held fuel 22 cs = some x) :
    ∃ (es : List Ent) (A : Option Addr) (ib io n c : Nat), cs = [.slice A n c] ∧ es.length = n ∧ (A = none → n = 0 ∧ c = 0) ∧ n ≤ c ∧ CidsAt w A ib io es ∧ ∀ e, e ∈ es → e.off = 0 := by
  rcases open_slice Tryz.underlying22 h with ⟨h0, _⟩ | ⟨a, len, cap, m, n, D, Pl, hcs, hb, hl, hm, hmm, hx, hi⟩
  · exact ⟨[], none, 0, 0, 0, 0, h0, rfl, fun _ => ⟨rfl, rfl⟩, Nat.le_refl _, ⟨fun h => absurd h (by simp), fun i hi => absurd hi (by simp)⟩, fun e he => absurd he (by simp)⟩
  · have hex : ∀ i, ∃ e : Ent, i < len → w.cells? base (a.add (i * 4)) 4 = some [.int .u64 (e.ver : Int), .int .u64 (e.codec : Int), .int .u64 (e.code : Int), .string e.dg] ∧ e.off = 0 := fun i => by
      by_cases hil : i < len
      · have him : i < m := by rw [hmm]; split <;> omega
        obtain ⟨cs', h1, h2⟩ := hi i him
        rw [cid_cells] at h1
        obtain ⟨e, rfl, he⟩ := open_cid h2
        exact ⟨e, fun _ => ⟨h1, he⟩⟩
      · exact ⟨⟨0, 0, 0, ByteArray.empty, 0⟩, fun h => absurd h hil⟩
    obtain ⟨f, hf⟩ := Classical.skolem.1 hex
    have hpl : 0 < len → a = ⟨a.block, a.off, none⟩ := fun h0 => by
      obtain ⟨_, _, hc⟩ := World.cells?_some (hf 0 h0).1
      have := hc 0 (by omega)
      exact Lib.plain_of_cell (v := .int .u64 ((f 0).ver : Int)) (by simpa [Addr.add] using this)
    refine ⟨(List.range len).map f, some a, a.block, a.off, len, cap, hcs, by simp, (fun h => by cases h), hl, ⟨fun h0 => ?_, fun i hi => ?_⟩, fun e he => ?_⟩
    · have h0' : 0 < len := by simpa using h0
      refine ⟨by rw [← hpl h0'], ?_⟩
      obtain ⟨_, _, hc⟩ := World.cells?_some (hf 0 h0').1
      have := hc 0 (by omega)
      have h2 := World.block_lt_of_cell? (a := (a.add (0 * 4)).add 0) (u := .int .u64 ((f 0).ver : Int)) w (by simpa using this)
      simpa [Addr.add] using h2
    · have hil : i < len := by simpa using hi
      have hp := hpl (by omega)
      obtain ⟨_, _, hc⟩ := World.cells?_some (hf i hil).1
      have hadd : ∀ j, (a.add (i * 4)).add j = ⟨a.block, a.off + i * 4 + j, none⟩ := fun j => by
        rw [Go.Deep.add_add, Nat.add_assoc]
        exact add_of_plain hp _
      have hg : ((List.range len).map f)[i] = f i := by simp
      rw [hg]
      have c0 := hc 0 (by omega)
      have c1 := hc 1 (by omega)
      have c2 := hc 2 (by omega)
      have c3 := hc 3 (by omega)
      rw [hadd] at c0 c1 c2 c3
      exact ⟨c0, c1, c2, c3⟩
    · obtain ⟨i, hi, rfl⟩ := List.mem_map.1 he
      exact (hf i (by simpa using hi)).2

set_option maxRecDepth 100000 in
theorem open_blos {fuel : Nat} {cs : List Value} {x : DataW H × List MemPlace} (h : DataW.trod enc Tryz.prog w base spare held fuel 23 cs = some x) :
    ∃ (es : List Bk) (A : Option Addr) (ib io n c : Nat), cs = [.slice A n c] ∧ es.length = n ∧ (A = none → n = 0 ∧ c = 0) ∧ n ≤ c ∧ BlosAt w A ib io es ∧ ∀ e, e ∈ es → e.1.off = 0 := by
  rcases open_slice Tryz.underlying23 h with ⟨h0, _⟩ | ⟨a, len, cap, m, n, D, Pl, hcs, hb, hl, hm, hmm, hx, hi⟩
  · exact ⟨[], none, 0, 0, 0, 0, h0, rfl, fun _ => ⟨rfl, rfl⟩, Nat.le_refl _, ⟨fun h => absurd h (by simp), fun i hi => absurd hi (by simp)⟩, fun e he => absurd he (by simp)⟩
  · have hex : ∀ i, ∃ e : Bk, i < len → w.cells? base (a.add (i * 5)) 5 = some (bkC e) ∧ e.1.off = 0 := fun i => by
      by_cases hil : i < len
      · have him : i < m := by rw [hmm]; split <;> omega
        obtain ⟨cs', h1, h2⟩ := hi i him
        rw [blk_cells] at h1
        obtain ⟨e, rfl, he⟩ := open_blk h2
        exact ⟨e, fun _ => ⟨h1, he⟩⟩
      · exact ⟨(⟨0, 0, 0, ByteArray.empty, 0⟩, ByteArray.empty), fun h => absurd h hil⟩
    obtain ⟨f, hf⟩ := Classical.skolem.1 hex
    have hpl : 0 < len → a = ⟨a.block, a.off, none⟩ := fun h0 => by
      obtain ⟨_, _, hc⟩ := World.cells?_some (hf 0 h0).1
      have := hc 0 (by omega)
      exact Lib.plain_of_cell (v := .int .u64 ((f 0).1.ver : Int)) (by simpa [Addr.add, bkC] using this)
    refine ⟨(List.range len).map f, some a, a.block, a.off, len, cap, hcs, by simp, (fun h => by cases h), hl, ⟨fun h0 => ?_, fun i hi => ?_⟩, fun e he => ?_⟩
    · have h0' : 0 < len := by simpa using h0
      refine ⟨by rw [← hpl h0'], ?_⟩
      obtain ⟨_, _, hc⟩ := World.cells?_some (hf 0 h0').1
      have := hc 0 (by omega)
      have h2 := World.block_lt_of_cell? (a := (a.add (0 * 5)).add 0) (u := .int .u64 ((f 0).1.ver : Int)) w (by simpa [bkC] using this)
      simpa [Addr.add] using h2
    · have hil : i < len := by simpa using hi
      have hp := hpl (by omega)
      obtain ⟨_, _, hc⟩ := World.cells?_some (hf i hil).1
      have hadd : ∀ j, (a.add (i * 5)).add j = ⟨a.block, a.off + i * 5 + j, none⟩ := fun j => by
        rw [Go.Deep.add_add, Nat.add_assoc]
        exact add_of_plain hp _
      have hg : ((List.range len).map f)[i] = f i := by simp
      rw [hg]
      have c0 := hc 0 (by omega)
      have c1 := hc 1 (by omega)
      have c2 := hc 2 (by omega)
      have c3 := hc 3 (by omega)
      have c4 := hc 4 (by omega)
      rw [hadd] at c0 c1 c2 c3 c4
      exact ⟨c0, c1, c2, c3, c4⟩
    · obtain ⟨i, hi, rfl⟩ := List.mem_map.1 he
      exact (hf i (by simpa using hi)).2

set_option maxRecDepth 100000 in
theorem open_car {fuel : Nat} {cs : List Value} {x : DataW H × List MemPlace} (h : DataW.trod enc Tryz.prog w base spare held fuel 25 cs = some x) :
    ∃ (rs : List Ent) (bs : List Bk) (A B : Option Addr) (ib io n c jb jo m c2 : Nat), cs = [.slice A n c, .slice B m c2] ∧ rs.length = n ∧ bs.length = m ∧ CidsAt w A ib io rs ∧ BlosAt w B jb jo bs ∧ (∀ e, e ∈ rs → e.off = 0) ∧ ∀ b, b ∈ bs → b.1.off = 0 := by
  obtain ⟨y0, y1, n, hx, hl, h0, h1⟩ := trod_struct2 Tryz.underlying25 h
  rw [car_cells] at hl
  match cs, hl with
  | [c0, c1], _ =>
    have h0' : DataW.trod enc Tryz.prog w base spare held n 22 [c0] = some y0 := by
      have e : (([c0, c1] : List Value).drop 0).take (Tryz.prog.cellsOf 22) = [c0] := by rw [cids_cells]; rfl
      rw [← e]; exact h0
    have h1' : DataW.trod enc Tryz.prog w base spare held n 23 [c1] = some y1 := by
      have e : (([c0, c1] : List Value).drop 1).take (Tryz.prog.cellsOf 23) = [c1] := by rw [blks_cells]; rfl
      rw [← e]; exact h1
    obtain ⟨rs, A, ib, io, n1, c, k0, k1, _, _, k2, k3⟩ := open_cids h0'
    obtain ⟨bs, B, jb, jo, m, c2, j0, j1, _, _, j2, j3⟩ := open_blos h1'
    injection k0 with k0 _
    injection j0 with j0 _
    subst k0 j0
    exact ⟨rs, bs, A, B, ib, io, n1, c, jb, jo, m, c2, rfl, k1, j1, k2, j2, k3, j3⟩
end
end Go.Proofs.YthedhibdbgcgoaaGreatDoor
