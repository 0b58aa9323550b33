/-
  car.WrapV1 into a bytes.Buffer; impl.WrWrap.
  impl.WrWrap over a file of version 1 in memory.
  spec.Sum and spec.Fitting at the identity hash.
  laws.wrFile without an index.
  (No condition beyond those that each theorem states.)
-/
import Derived.Test.YthedhibdbgcgoaaGreatDoorB39
import Derived.Test.YthedhibdbgcgoaaGreatDoorB41
import Derived.Test.YthedhibdbgcgoaaGreatDoorB04
import Derived.Test.YthedhibdbgcgoaaGreatDoorB42
import Derived.Test.YthedhibdbgcgoaaGreatDoorB11
import Derived.Test.YthedhibdbgcgoaaGreatDoorB31
import Derived.Test.YthedhibdbgcgoaaGreatDoorB02
import Derived.Test.YthedhibdbgcgoaaGreatDoorB05
import Derived.Test.YthedhibdbgcgoaaGreatDoorB12
import Derived.Test.YthedhibdbgcgoaaGreatDoorB35
namespace Go.Proofs.YthedhibdbgcgoaaGreatDoor
open Go.RowKit

set_option maxRecDepth 100000 in
theorem pragma_any (w : World) : Calls Tryz.prog 32 #[] w fun e w' => e = .returned (.slice (some ⟨w.heap.size, 0, none⟩) 11 11) ∧ Blk w' w.heap.size 5 (Lib.byteCells pragB).toArray ∧ Off [] w w' := by
  go_enter Tryz.func32, Tryz.ntmps32
  go_wp2_with fail
  go_ret
  exact ⟨rfl, Blk.new w _ _, (Off.refl [] w).alloc _⟩

/-- index.WriteTo of an index of few entries. -/
theorem misWrite_G {EX : List Nat} {B0 b : Nat} {w0 w : World} {l : List UInt8} (h : WrG EX B0 b w0 l w) (pb mm : Nat) (Cs : List Nat) (D : Nat → List Nat) (S : Nat → Nat → List Rw) (hp : w0.cell? ⟨pb, 0, none⟩ = some (.map (some mm))) (hmi : MisAt B0 w0 mm Cs D S) (hpE : pb ∉ EX) (hmE : mm ∉ EX)
    (hC : Cs.length ≤ 50) (hc64 : ∀ c, c ∈ Cs → c < 18446744073709551616) (hD : ∀ c, c ∈ Cs → (D c).length ≤ 50 ∧ ∀ n, n ∈ D c → n ≤ 200 ∧ (S c n).length ≤ 50) (hlim : l.length ≤ 900000000) :
    Calls Tryz.prog 35 #[.iface 123 (.pointer (some ⟨pb, 0, none⟩)), .iface 55 (.pointer (some ⟨b, 0, none⟩))] w fun e w' => ∃ (X : List UInt8) (n : Int), X.length ≤ 26030614 ∧ e = .returned (.tuple #[.int .u64 n, .nilIface]) ∧ WrG EX B0 b w0 (l ++ X) w' := by
  refine (writeTo_G h pb (fun X => X.length ≤ 26030604) hlim (fun W l' hW hl' => ?_)).mono ?_
  · refine (misMarshal_G hW pb mm Cs D S hp hmi hpE hmE (by omega) hc64 (fun c hc => ⟨by have := (hD c hc).1; omega, fun n hn => ⟨by have := ((hD c hc).2 n hn).1; omega, by have := ((hD c hc).2 n hn).2; omega⟩⟩) hl').mono ?_
    rintro e w' ⟨H, h1, he, h2, _⟩
    exact ⟨mhiB H, _, mhiB_len h1 hmi.wid hC hD, he, h2⟩
  · rintro e w' ⟨X, n, hX, he, h2⟩
    refine ⟨_, n, ?_, he, h2⟩
    have := Lib.uvarint_length64 (x := 1025) (by omega)
    rw [List.length_append]
    omega

/-- BufW at a lower bound. -/
theorem BufW.mono {b lo lo' : Nat} {l : List UInt8} {w : World} (h : BufW b lo l w) (hl : lo' ≤ lo) : BufW b lo' l w := by
  rcases h with h | ⟨g, cap, sp, h1, h2⟩
  · exact Or.inl h
  · exact Or.inr ⟨g, cap, sp, Nat.le_trans hl h1, h2⟩

set_option maxRecDepth 100000 in
set_option maxHeartbeats 4000000 in
theorem wrapV1_any (rs : List Ent) (bs : List Bk) (l : List UInt8) (g p1 p2 p3 p4 p5 p6 p7 p8 R rb cap b : Nat) (w : World) (hrs : ∀ e, e ∈ rs → e.ok ∧ e.dg.size ≤ 200) (hbs : ∀ b, b ∈ bs → b.ok) (hn2 : rs.length ≤ 50) (hm2 : bs.length ≤ 50) (ho : OptsZ false w g p1 p2 p3 p4 p5 p6 p7 p8) (h : RAt R rb cap l 0 w) (hrbl : rb < w.heap.size) (hl : l = hdrB (rs.map cidB) 1 ++ secs bs) (hll : l.length ≤ 10000000)
    (qe : Addr) (hE : EofA qe w) (hER : 1 < R) (hEb : 1 < b) (hb : BufN b w) (hbR : b ≠ R) (hbr : b ≠ rb) :
    Calls Tryz.prog 15 #[.iface 53 (.pointer (some ⟨R, 0, none⟩)), .iface 55 (.pointer (some ⟨b, 0, none⟩)), .slice (some ⟨g, 0, none⟩) 8 8] w fun e w' => e = .returned .nilIface ∧ ∃ X, X.length ≤ 26030614 ∧ BufW b w.heap.size (pragB ++ headB 0 0 51 l.length (51 + l.length) ++ l ++ X) w' ∧ Off [R, b] w w' := by
  have hRl := h.lt
  have hbl : b < w.heap.size := by obtain ⟨lr, hq⟩ := hb; exact hq.lt
  have HLI := Lib.hid (fun (pb mm : Nat) (W : World) (k1 : OptsZ false W g p1 p2 p3 p4 p5 p6 p7 p8) (k2 : RAt R rb cap l 0 W) (k3 : EofA qe W) (k4 : W.cell? ⟨pb, 0, none⟩ = some (.map (some mm))) (k5 : Mp Tryz.prog 30 .u64 W mm 0 [] (fun _ => undef)) (k6 : pb ≠ mm) (k7 : pb ≠ R) (k8 : mm ≠ R) (k9 : mm ≠ rb) => loadIndex_e rs bs l g p1 p2 p3 p4 p5 p6 p7 p8 R rb cap pb mm W hrs hbs hn2 hm2 k1 k2 hl qe k3 hER k4 k5 k6 k7 k8 k9)
  have HA0 := Lib.hid (applyOptions_z false g p1 p2 p3 p4 p5 p6 p7 p8 w ho)
  have HOP := Lib.hid ho
  have HRA := Lib.hid h
  have HE := Lib.hid hE
  have HBN := Lib.hid hb
  have hmS := method_seek
  have hmW := method_bufWrite
  have hnW := nil_bufWrite
  obtain ⟨n, hn⟩ : ∃ n, n = l.length := ⟨_, rfl⟩
  rw [← hn] at hll
  have HN := Lib.hid hn
  obtain ⟨x, hx⟩ : ∃ x, x = 51 + n := ⟨_, rfl⟩
  have hxl : x ≤ 10000051 := by omega
  have HX9 := Lib.hid hx
  clear hx
  have hEl : 1 < w.heap.size := by omega
  have hwn : IntKind.u64.wrap (n : Int) = (n : Int) := by rw [IntKind.wrap_u64]; omega
  clear hrs hbs hn2 hm2 ho h hl hE hb hn
  go_enter Tryz.func15, Tryz.ntmps15
  go_wp2_with fail
  refine HA0.out.mono ?_
  rintro e w1 ⟨rfl, hO1⟩
  have hz1' := hO1.size
  have hrow : Blk ((w1.alloc (.cells zeroOptsZ 75)).setRow w1.heap.size (optCellsZ false 1025 2048)) w1.heap.size 75 (optCellsZ false 1025 2048) := setRow_heap _ _ _ _ _ _ (Blk.new w1 _ zeroOptsZ)
  have hoff : Off [] w ((w1.alloc (.cells zeroOptsZ 75)).setRow w1.heap.size (optCellsZ false 1025 2048)) := (hO1.alloc (.cells zeroOptsZ 75)).then (off_setRow (Blk.new w1 _ zeroOptsZ) _) (fun x h => by simp at h; right; omega)
  obtain ⟨w2, hw2⟩ : ∃ w2, w2 = (w1.alloc (.cells zeroOptsZ 75)).setRow w1.heap.size (optCellsZ false 1025 2048) := ⟨_, rfl⟩
  rw [← hw2] at hrow hoff
  have c2 : w2.cell? ⟨w1.heap.size, 2, none⟩ = some (.int .u64 1025) := hrow.cell 2
  have hsz2 := hoff.size
  have HOFF := Lib.hid hoff
  have HW2 := Lib.hid hw2
  have HNW := Lib.hid (new_mis w2)
  clear hrow hoff hw2 hO1
  unfold zeroOptsZ at HW2
  go_wp2_with (first
    | ((with_reducible show wpList _ _ _ _ _ _); refine wpList_store_row rfl 75 (.tmp 7) (.tmp 24) rfl w1.heap.size (optCellsZ false 1025 2048) rfl rfl 75 _ (Blk.new w1 _ _) (opt_infoZ false) rfl (opt_allZ false) ?_; rw [← HW2.out])
    | (go_at_call 29; refine HNW.out.mono ?_; rintro e w3 ⟨pb, mm, rfl, hp1, hm1', ho1, hpb, hmm, hpm⟩
       have hO3 : Off [] w w3 := HOFF.out.then ho1 (fun x hx => by simp at hx)
       have HL := Lib.hid (HLI.out pb mm w3 (HOP.out.off hO3 (fun x hx => by simp at hx)) (HRA.out.off hO3 (by simp) (by simp)) (HE.out.off hO3 (by simp)) hp1 hm1' hpm (by omega) (by omega) (by omega))
       have HP3 := Lib.hid hp1
       have HO3 := Lib.hid hO3
       have hpbw : w.heap.size ≤ pb := by omega
       have hmmw : w.heap.size ≤ mm := by omega
       clear hp1 hm1' ho1 hpb hmm hO3)
    | (go_at_call 30; refine HL.out.mono ?_; rintro e w4 ⟨rfl, hLo, i4, hR4⟩; have HLO := Lib.hid hLo; have hsk1 := seek_end hR4; rw [← HN.out] at hsk1; have HSK1 := Lib.hid hsk1; clear hLo hR4 hsk1)
    | (go_at_call 244; refine HSK2.out.mono ?_; rintro e w6 ⟨rfl, hR6, hO6⟩; have HR6 := Lib.hid hR6; have HO6 := Lib.hid hO6; have hnh := newHeader_any n (by omega) w6; rw [← HX9.out] at hnh; have HNH := Lib.hid hnh; clear hR6 hO6 hnh)
    | (go_at_call 244; refine HSK1.out.mono ?_; rintro e w5 ⟨rfl, hR5, hO5⟩; have HO5 := Lib.hid hO5; have HSK2 := Lib.hid (seek_to hR5 0 (Nat.zero_le _)); clear hR5 hO5)
    | (go_at_call 31; refine HNH.out.mono ?_; rintro e w7 ⟨rfl, hO7⟩; have HO7 := Lib.hid hO7; clear hO7))
  obtain ⟨w8, hw8⟩ : ∃ w8, w8 = w7.alloc (.cells #[.int .u64 0, .int .u64 0, .int .u64 51, .int .u64 (n : Int), .int .u64 (x : Int)] 87) := ⟨_, rfl⟩
  rw [← hw8]
  obtain ⟨hOL, B0, Cs, D, S, hB0, hMis, hC, hc64, hD⟩ := HLO.out
  have hO68 : Off [] w6 w8 := by rw [hw8]; exact HO7.out.alloc _
  have hO48 : Off [R] w4 w8 := (HO5.out.then HO6.out (fun x hx => Or.inl hx)).then hO68 (fun x hx => by simp at hx)
  have hO38 : Off [R, mm] w3 w8 := hOL.then hO48 (fun x hx => by simp at hx; left; simp [hx])
  have hO08 : Off [R, mm] w w8 := (HO3.out.mono (S' := [R, mm]) (fun x hx => by simp at hx)).then hO38 (fun x hx => Or.inl hx)
  have hs3 := HO3.out.size
  have hbm : b ≠ mm := by omega
  have hBN8 : BufN b w8 := by
    obtain ⟨lr, hq⟩ := HBN.out
    exact ⟨lr, hO08.blk hq (ni2 hbR hbm)⟩
  have hR8 : RAt R rb cap l 0 w8 := HR6.out.off hO68 (by simp) (by simp)
  have hE8 : EofA qe w8 := HE.out.off hO08 (ni2 (by omega) (by omega))
  have hp8 : w8.cell? ⟨pb, 0, none⟩ = some (.map (some mm)) := hO38.cell HP3.out (ni2 (by show pb ≠ R; omega) (by show pb ≠ mm; exact hpm))
  have hM8 : MisAt B0 w8 mm Cs D S := hMis.off hO48 (ni1 (by omega)) (fun x hx => by simp at hx; left; omega)
  have hs8 := hO08.size
  have hbl8 : rb < w8.heap.size := by omega
  have hH8 : Blk w8 w7.heap.size 87 #[.int .u64 0, .int .u64 0, .int .u64 51, .int .u64 (n : Int), .int .u64 (x : Int)] := by rw [hw8]; exact Blk.new w7 _ _
  have hWG : ∀ W, Off [] w8 W → WrG [b, R] B0 b w8 [] W := fun W hW => ⟨by simp, fun x hx => by simp at hx; rcases hx with rfl | rfl <;> omega, Or.inl ⟨rfl, by obtain ⟨lr, hq⟩ := hBN8; exact ⟨lr, hW.blk hq (by simp)⟩⟩, hW.mono (fun x hx => by simp at hx)⟩
  have hrbE : rb ∉ [b, R] := ni2 (Ne.symm hbr) (Ne.symm hR8.ne)
  have hpbE : pb ∉ [b, R] := ni2 (by omega) (by omega)
  have hmmE : mm ∉ [b, R] := ni2 (by omega) (by omega)
  have hEE : 1 ∉ [b, R] := ni2 (by omega) (by omega)
  have HWG := Lib.hid hWG
  have HR8 := Lib.hid hR8
  have HS8 := Lib.hid hR8.seg
  have HE8 := Lib.hid hE8
  have HP8 := Lib.hid hp8
  have HM8 := Lib.hid hM8
  have HH8 := Lib.hid hH8
  have HMI := Lib.hid (And.intro hC (And.intro hc64 hD))
  have HO08 := Lib.hid hO08
  have HEX := Lib.hid (And.intro hrbE (And.intro hpbE (And.intro hmmE hEE)))
  have HPR := Lib.hid pragma_any
  have hb8 : b < w8.heap.size := by omega
  have hh8 : w7.heap.size ≠ b := by have := HO7.out.size; have := HO6.out.size; have := HO5.out.size; have := hOL.size; omega
  obtain ⟨hk, hhk⟩ : ∃ hk, hk = w7.heap.size := ⟨_, rfl⟩
  rw [← hhk] at HH8 hh8
  rw [← hhk]
  clear hhk hw8 hOL hMis hC hc64 hD hO68 hO48 hO38 hO08 hBN8 hR8 hE8 hp8 hM8 hH8 hWG hrbE hpbE hmmE hEE
  go_region_held3 (fun w' => True) (exact trivial) (first
    | (go_at_call 32; refine (HPR.out _).mono ?_; rintro e wa ⟨rfl, hb1, ho1⟩
       have ho1' : Off [] w8 wa := (by first | exact ho1 | exact (Off.refl [] w8).drew.then ho1 (fun x hx => by simp at hx))
       have HWR := Lib.hid (fun W (hD : Drew wa W) => bufWrite_G ((HWG.out wa ho1').ofDrew hD) w8.heap.size 0 11 11 pragB (hD.seg (by exact hb1.seg')) rfl (by omega) (Or.inl (by omega)) (by simp))
       have HHa := Lib.hid (ho1'.blk HH8.out (by simp))
       have HRa := Lib.hid (HR8.out.off ho1' (by simp) (by simp))
       clear hb1 ho1 ho1')
    | (go_at_call 250; refine (HWR.out _ (by repeat' (first | exact Drew.refl _ | exact Drew.one _ | refine Drew.more ?_ 1))).mono ?_; rintro e wb ⟨rfl, hw1, hk1⟩
       rw [List.nil_append] at hw1
       have hhb := kept_blk hk1 (by exact HHa.out) hh8 (by decide)
       have e0 : wb.cell? ⟨hk, 0, none⟩ = some (.int .u64 0) := hhb.cell 0
       have e1 : wb.cell? ⟨hk, 1, none⟩ = some (.int .u64 0) := hhb.cell 1
       have e2 : wb.cell? ⟨hk, 2, none⟩ = some (.int .u64 51) := hhb.cell 2
       have e3 : wb.cell? ⟨hk, 3, none⟩ = some (.int .u64 (n : Int)) := hhb.cell 3
       have e4 : wb.cell? ⟨hk, 4, none⟩ = some (.int .u64 (x : Int)) := hhb.cell 4
       have hra : RAt R rb cap l 0 wb := RAt.keptB (by exact HRa.out) hw1 hk1 HS8.out HEX.out.1 (Ne.symm hbR)
       have HHW := Lib.hid (headWrite_any hw1 0 0 51 n x (by omega) (by omega) (by omega) (by omega) (by omega) (by rw [pragB_len]; omega))
       have HRb := Lib.hid hra
       clear hw1 hk1 hhb hra))
  all_goals go_wp2_with (first
    | (go_at_call 33; refine HHW.out.mono ?_; rintro e wc ⟨rfl, hw2, hk2⟩
       have hra : RAt R rb cap l 0 wc := RAt.keptB (by exact HRb.out) hw2 hk2 HS8.out HEX.out.1 (Ne.symm hbR)
       have hcp := zzCopy_buf hw2 R rb cap l hra (by simp) (Ne.symm hbR) HS8.out HEX.out.1 (by have := hw2.off.size; omega) qe HE8.out HEX.out.2.2.2 (by rw [List.length_append, pragB_len, headB_len, ← HN.out]; omega)
       rw [← HN.out] at hcp
       have HCP := Lib.hid hcp
       clear hw2 hk2 hra hcp)
    | (go_at_call 34; refine HCP.out.mono ?_; rintro e wd ⟨rfl, hw3⟩
       have HWT := Lib.hid (misWrite_G hw3 pb mm Cs D S HP8.out HM8.out HEX.out.2.1 HEX.out.2.2.1 HMI.out.1 HMI.out.2.1 HMI.out.2.2 (by rw [List.length_append, List.length_append, pragB_len, headB_len, ← HN.out]; omega))
       clear hw3)
    | (go_at_call 35; refine HWT.out.mono ?_; rintro e we ⟨X, nx, hX, rfl, hw4⟩; have HXX := Lib.hid hX; have HW4 := Lib.hid hw4; clear hX hw4))
  all_goals go_ret
  all_goals (
    refine ⟨rfl, X, HXX.out, ?_, ?_⟩
    · have h9 := HW4.out.buf.mono (lo' := w.heap.size) hs8
      rw [HX9.out, HN.out] at h9
      exact h9
    · exact (HO08.out.mono (S' := [R, b]) (fun y hy => by simp at hy; rcases hy with rfl | rfl; exact Or.inl (by simp); exact Or.inr hmmw)).then HW4.out.off (fun y hy => by simp at hy; left; rcases hy with rfl | rfl <;> simp))
end Go.Proofs.YthedhibdbgcgoaaGreatDoor
namespace Go.Proofs.YthedhibdbgcgoaaGreatDoor
open Go.RowKit

theorem seg_conv (W : World) (s : ByteArray) (C : Nat) (t : TypeId) (fr : Nat × Nat) : Seg (W.alloc (.cells (bytesRow s C) t fr)) W.heap.size 0 s.data.toList := by
  have hh := heap_alloc_new W (.cells (bytesRow s C) t fr)
  rw [← bytesRow_list] at hh
  have hs := Seg.of_bytes hh
  rw [bytesRow_list] at hs
  exact hs
theorem BufW.is {b lo : Nat} {l : List UInt8} {w : World} (h : BufW b lo l w) : Lib.IsBuffer 49 5 0 b (Lib.byteCells l) w := by
  rcases h with ⟨rfl, h⟩ | ⟨_, _, _, _, h⟩
  · exact h.is
  · exact h.is

set_option maxRecDepth 100000 in
set_option maxHeartbeats 4000000 in
theorem wrWrap_any (rs : List Ent) (bs : List Bk) (l : List UInt8) (s : ByteArray) (hs : s.data.toList = l) (w : World) (hrs : ∀ e, e ∈ rs → e.ok ∧ e.dg.size ≤ 200) (hbs : ∀ b, b ∈ bs → b.ok) (hn2 : rs.length ≤ 50) (hm2 : bs.length ≤ 50) (hl : l = hdrB (rs.map cidB) 1 ++ secs bs) (hll : l.length ≤ 10000000)
    (qe : Addr) (hE : EofA qe w) :
    Calls Tryz.prog 7 #[.string s, .agg (zOpt false)] w fun e w' => ∃ X, X.length ≤ 26030614 ∧ e = .returned (.tuple #[.string (str (pragB ++ headB 0 0 51 l.length (51 + l.length) ++ l ++ X)), .bool true]) ∧ Off [] w w' := by
  obtain ⟨C, hC⟩ : ∃ C, grownCap (((w.alloc (.cells #[.bool false, .bool false, .bool false, .bool false, .bool false, .bool false, .int .u64 0, .int .u64 0, .int .u64 0, .int .u64 0, .int .u64 0, .int .u64 0] 32)).alloc (.cells #[.slice none 0 0, .int .i64 0, .int .i8 0] 49))).drew s.size 0 5 = C := ⟨_, rfl⟩
  have hCs : s.size ≤ C := by rw [← hC]; exact grownCap_ge _ _ _ _
  have hcv := run_bytes_of_string (P := Tryz.prog) (((w.alloc (.cells #[.bool false, .bool false, .bool false, .bool false, .bool false, .bool false, .int .u64 0, .int .u64 0, .int .u64 0, .int .u64 0, .int .u64 0, .int .u64 0] 32)).alloc (.cells #[.slice none 0 0, .int .i64 0, .int .i8 0] 49))).drew 9 45 5 s Tryz.underlying9 Tryz.underlying45 Tryz.underlying5
  rw [hC] at hcv
  have hof : Off [] w ((((w.alloc (.cells #[.bool false, .bool false, .bool false, .bool false, .bool false, .bool false, .int .u64 0, .int .u64 0, .int .u64 0, .int .u64 0, .int .u64 0, .int .u64 0] 32)).alloc (.cells #[.slice none 0 0, .int .i64 0, .int .i8 0] 49))).alloc (.cells (bytesRow s C) 5 ((bytesRow s C).size, (bytesRow s C).size + 1))) := (((Off.refl [] w).alloc _).alloc _).alloc _
  have hbo : Blk (((w.alloc (.cells #[.bool false, .bool false, .bool false, .bool false, .bool false, .bool false, .int .u64 0, .int .u64 0, .int .u64 0, .int .u64 0, .int .u64 0, .int .u64 0] 32)).alloc (.cells #[.slice none 0 0, .int .i64 0, .int .i8 0] 49))) w.heap.size 32 (zOpt false) := (Blk.new w 32 (zOpt false)).alloc _
  have hsz : (((w.alloc (.cells #[.bool false, .bool false, .bool false, .bool false, .bool false, .bool false, .int .u64 0, .int .u64 0, .int .u64 0, .int .u64 0, .int .u64 0, .int .u64 0] 32)).alloc (.cells #[.slice none 0 0, .int .i64 0, .int .i8 0] 49))).heap.size = w.heap.size + 2 := by simp
  have hbn : BufN (w.heap.size + 1) ((((w.alloc (.cells #[.bool false, .bool false, .bool false, .bool false, .bool false, .bool false, .int .u64 0, .int .u64 0, .int .u64 0, .int .u64 0, .int .u64 0, .int .u64 0] 32)).alloc (.cells #[.slice none 0 0, .int .i64 0, .int .i8 0] 49))).alloc (.cells (bytesRow s C) 5 ((bytesRow s C).size, (bytesRow s C).size + 1))) := ⟨0, (Blk.new' (w.alloc (.cells #[.bool false, .bool false, .bool false, .bool false, .bool false, .bool false, .int .u64 0, .int .u64 0, .int .u64 0, .int .u64 0, .int .u64 0, .int .u64 0] 32)) 49 #[.slice none 0 0, .int .i64 0, .int .i8 0] (g := w.heap.size + 1) (by simp)).alloc _⟩
  have hse : Seg ((((w.alloc (.cells #[.bool false, .bool false, .bool false, .bool false, .bool false, .bool false, .int .u64 0, .int .u64 0, .int .u64 0, .int .u64 0, .int .u64 0, .int .u64 0] 32)).alloc (.cells #[.slice none 0 0, .int .i64 0, .int .i8 0] 49))).alloc (.cells (bytesRow s C) 5 ((bytesRow s C).size, (bytesRow s C).size + 1))) (w.heap.size + 2) 0 l := by
    have h1 := seg_conv (((w.alloc (.cells #[.bool false, .bool false, .bool false, .bool false, .bool false, .bool false, .int .u64 0, .int .u64 0, .int .u64 0, .int .u64 0, .int .u64 0, .int .u64 0] 32)).alloc (.cells #[.slice none 0 0, .int .i64 0, .int .i8 0] 49))) s C 5 ((bytesRow s C).size, (bytesRow s C).size + 1)
    rw [hsz, hs] at h1
    exact h1
  have hsl : s.data.toList.length = s.size := by simp
  rw [hs] at hsl
  have HX := Lib.hid (fun (g p1 p2 p3 p4 p5 p6 p7 p8 : Nat) W (k0 : w.heap.size + 4 ≤ W.heap.size) (k1 : BufN (w.heap.size + 1) W) (k2 : RAt (w.heap.size + 3) (w.heap.size + 2) C l 0 W) (k3 : EofA qe W) (k5 : 1 < w.heap.size) (k6 : OptsZ false W g p1 p2 p3 p4 p5 p6 p7 p8) => wrapV1_any rs bs l g p1 p2 p3 p4 p5 p6 p7 p8 (w.heap.size + 3) (w.heap.size + 2) C (w.heap.size + 1) W hrs hbs hn2 hm2 k6 k2 (by omega) hl hll qe k3 (by omega) (by omega) k1 (by omega) (by omega))
  have hST := fun (W : World) (L : List UInt8) (k : BufW (w.heap.size + 1) 0 L W) => Tryz.Buffer_String 0 (w.heap.size + 1) L W k.is
  have HST := Lib.hid hST
  have hEl : 1 < w.heap.size := World.block_lt_of_cell? _ _ hE
  have HE := Lib.hid (hE.off hof (by simp))
  have HOF := Lib.hid hof
  have HB := Lib.hid hbo
  have HSE := Lib.hid hse
  have HBN := Lib.hid hbn
  have HSZ := Lib.hid hsz
  have HSL := Lib.hid hsl
  clear hE hof hbo hse hbn hsz hC hsl hs hrs hbs hn2 hm2 hl hST
  unfold zOpt
  go_enter Tryz.func7, Tryz.ntmps7
  go_wp2_with fail
  go_region_held (fun w' => Blk w' w.heap.size 32 (zOpt false) ∧ w'.cell? ⟨w.heap.size, 0, none⟩ = some (.bool false) ∧ w'.cell? ⟨w.heap.size, 1, none⟩ = some (.bool false) ∧ w'.cell? ⟨w.heap.size, 2, none⟩ = some (.bool false) ∧ w'.cell? ⟨w.heap.size, 3, none⟩ = some (.bool false) ∧ w'.cell? ⟨w.heap.size, 4, none⟩ = some (.bool false) ∧ w'.cell? ⟨w.heap.size, 5, none⟩ = some (.bool false) ∧ w'.cell? ⟨w.heap.size, 6, none⟩ = some (.int .u64 0) ∧ w'.cell? ⟨w.heap.size, 7, none⟩ = some (.int .u64 0) ∧ w'.cell? ⟨w.heap.size, 8, none⟩ = some (.int .u64 0) ∧ w'.cell? ⟨w.heap.size, 9, none⟩ = some (.int .u64 0) ∧ w'.cell? ⟨w.heap.size, 10, none⟩ = some (.int .u64 0) ∧ w'.cell? ⟨w.heap.size, 11, none⟩ = some (.int .u64 0)) (first | exact ⟨HB.out, (HB.out).cell 0, (HB.out).cell 1, (HB.out).cell 2, (HB.out).cell 3, (HB.out).cell 4, (HB.out).cell 5, (HB.out).cell 6, (HB.out).cell 7, (HB.out).cell 8, (HB.out).cell 9, (HB.out).cell 10, (HB.out).cell 11⟩ | exact ⟨HB.out.alloc _, (HB.out.alloc _).cell 0, (HB.out.alloc _).cell 1, (HB.out.alloc _).cell 2, (HB.out.alloc _).cell 3, (HB.out.alloc _).cell 4, (HB.out.alloc _).cell 5, (HB.out.alloc _).cell 6, (HB.out.alloc _).cell 7, (HB.out.alloc _).cell 8, (HB.out.alloc _).cell 9, (HB.out.alloc _).cell 10, (HB.out.alloc _).cell 11⟩ | exact ⟨K1.out, (K1.out).cell 0, (K1.out).cell 1, (K1.out).cell 2, (K1.out).cell 3, (K1.out).cell 4, (K1.out).cell 5, (K1.out).cell 6, (K1.out).cell 7, (K1.out).cell 8, (K1.out).cell 9, (K1.out).cell 10, (K1.out).cell 11⟩ | exact ⟨K2.out, (K2.out).cell 0, (K2.out).cell 1, (K2.out).cell 2, (K2.out).cell 3, (K2.out).cell 4, (K2.out).cell 5, (K2.out).cell 6, (K2.out).cell 7, (K2.out).cell 8, (K2.out).cell 9, (K2.out).cell 10, (K2.out).cell 11⟩ | exact ⟨K3.out, (K3.out).cell 0, (K3.out).cell 1, (K3.out).cell 2, (K3.out).cell 3, (K3.out).cell 4, (K3.out).cell 5, (K3.out).cell 6, (K3.out).cell 7, (K3.out).cell 8, (K3.out).cell 9, (K3.out).cell 10, (K3.out).cell 11⟩) (first
    | (go_at_call 16; refine (newBr_ok _ _ _ _).mono ?_; rintro e w1 ⟨rfl, r1, o1, z1⟩; have P1 : Off [] ((((w.alloc (.cells #[.bool false, .bool false, .bool false, .bool false, .bool false, .bool false, .int .u64 0, .int .u64 0, .int .u64 0, .int .u64 0, .int .u64 0, .int .u64 0] 32)).alloc (.cells #[.slice none 0 0, .int .i64 0, .int .i8 0] 49))).alloc (.cells (bytesRow s C) 5 ((bytesRow s C).size, (bytesRow s C).size + 1))) w1 := (Off.refl [] _).next o1 ⟨rfl, rfl, rfl, rfl⟩ (by simp); have k1 : Blk w1 w.heap.size 32 (zOpt false) := P1.blk (HB.out.alloc _) (by simp); have K1 := Lib.hid k1; have HR1 := Lib.hid (Blk.at (g' := w.heap.size + 3) r1 (by simp [World.drew])); have HM1 : Hid (BufN (w.heap.size + 1) w1) := Lib.hid (by obtain ⟨lr, hq⟩ := HBN.out; exact ⟨lr, P1.blk hq (by simp)⟩); have HE1 := Lib.hid (HE.out.off P1 (by simp)); have HS1 := Lib.hid (HSE.out.off P1 (by simp)); have HO1 := Lib.hid (HOF.out.then P1 (by simp)); clear k1 r1 o1 z1 P1)
    | (go_at_call 17; refine (options_z false _).mono ?_; rintro e w2 ⟨g, p1, p2, p3, p4, p5, p6, p7, p8, rfl, oa, o2⟩; have k2 := o2.blk K1.out (by simp); have hr2 : RdC w2 (w.heap.size + 3) (w.heap.size + 2) s.size C 0 (-1) := o2.blk HR1.out (by simp); have HM2 : BufN (w.heap.size + 1) w2 := (by obtain ⟨lr, hq⟩ := HM1.out; exact ⟨lr, o2.blk hq (by simp)⟩); have HE2 := HE1.out.off o2 (by simp); have HS2 := HS1.out.off o2 (by simp); have HO2 := Lib.hid (HO1.out.then o2 (by simp)); have hlt2 := Blk.lt hr2; have HV := Lib.hid (HX.out g p1 p2 p3 p4 p5 p6 p7 p8 w2 (by omega) HM2 ⟨⟨-1, by rw [HSL.out]; exact hr2⟩, HS2, by omega, by omega, by rw [HSL.out]; exact hCs⟩ HE2 hEl oa); have K2 := Lib.hid k2; clear k2 hr2 HM2 HE2 HS2 oa o2)
    | (go_at_call 15; refine HV.out.mono ?_; rintro e w3 ⟨rfl, X, hX, hw3, ho3⟩; have HXX := Lib.hid hX; have HS3 := Lib.hid (fun W (hD : Drew w3 W) => HST.out W _ ((hw3.mono (Nat.zero_le _)).off (Off.ofDrew (S := []) hD) (by simp) (fun x hx => by simp at hx))); have HO3 := Lib.hid (HO2.out.then ho3 (fun y hy => by simp at hy; right; omega)); have k3 : Blk w3 w.heap.size 32 (zOpt false) := ho3.blk K2.out (ni2 (by omega) (by omega)); have K3 := Lib.hid k3; clear k3 hX hw3 ho3))
  go_wp2_with fail
  go_region_held3 (fun w' => True) (exact trivial) (first | (go_at_call 18; refine (HS3.out _ (by repeat' (first | exact Drew.refl _ | exact Drew.one _ | refine Drew.more ?_ 1))).mono ?_; rintro e w4 ⟨rfl, k, hk⟩; have HO4 : Hid (Off [] w w4) := Lib.hid (by rw [hk]; first | exact HO3.out.drewN k | exact HO3.out.drew.drewN k | exact (HO3.out.drewN _).drewN k); clear hk))
  all_goals go_wp2_with fail
  all_goals go_ret2
  all_goals exact ⟨X, HXX.out, rfl, HO4.out⟩
end Go.Proofs.YthedhibdbgcgoaaGreatDoor
namespace Go.Proofs.YthedhibdbgcgoaaGreatDoor
open Go.RowKit

set_option maxRecDepth 100000 in
theorem sum_id (s : ByteArray) (w : World) :
    Calls Tryz.prog 51 #[.int .u64 0, .string s] w fun e w' => e = .returned (.tuple #[.string s, .bool true]) ∧ w = w' := by
  go_enter Tryz.func51, Tryz.ntmps51
  go_wp2_with fail
  go_ret2
  exact ⟨rfl, rfl⟩

set_option maxRecDepth 100000 in
theorem fitting_id (ver codec : Nat) (s : ByteArray) (w : World) :
    Calls Tryz.prog 20 #[.int .u64 ver, .int .u64 codec, .int .u64 0, .string s] w fun e w' => e = .returned (cidV ver codec 0 s) ∧ Off [] w w' := by
  go_enter Tryz.func20, Tryz.ntmps20
  go_wp2_with fail
  refine (sum_id s _).mono ?_
  rintro e w' ⟨rfl, rfl⟩
  go_wp2_with fail
  exact bodyPost_ret (results_row rfl _ (Blk.new _ _ _) rfl Tryz.underlying39 rfl (by kernel_rfl)) rfl ⟨rfl, (Off.refl [] w).alloc _⟩
end Go.Proofs.YthedhibdbgcgoaaGreatDoor
namespace Go.Proofs.YthedhibdbgcgoaaGreatDoor
open Go.RowKit

theorem file_parts (hd l r : List UInt8) (k : Nat) (h40 : hd.length = 40) : ((pragB ++ hd ++ List.replicate k 0 ++ l ++ r).drop 11).take 40 = hd ∧ ((pragB ++ hd ++ List.replicate k 0 ++ l ++ r).drop (51 + k)).take l.length = l ∧ 51 + k + l.length ≤ (pragB ++ hd ++ List.replicate k 0 ++ l ++ r).length := by
  refine ⟨?_, ?_, ?_⟩
  · rw [show pragB ++ hd ++ List.replicate k 0 ++ l ++ r = pragB ++ (hd ++ (List.replicate k 0 ++ l ++ r)) by simp only [List.append_assoc], List.drop_left' pragB_len, List.take_left' h40]
  · rw [show pragB ++ hd ++ List.replicate k 0 ++ l ++ r = (pragB ++ hd ++ List.replicate k 0) ++ (l ++ r) by simp only [List.append_assoc], List.drop_left' (by simp only [List.length_append, pragB_len, h40, List.length_replicate]), List.take_left' rfl]
  · simp only [List.length_append, pragB_len, h40, List.length_replicate]; omega
theorem prag_eq : pragL = pragB := rfl
theorem car1_eq (rs : List Ent) (bs : List Bk) : car1B (rs.map cidB) (bs.map Bk.b) = hdrB (rs.map cidB) 1 ++ secs bs := rfl

set_option maxRecDepth 100000 in
set_option maxHeartbeats 4000000 in
theorem wrFile_any (rs : List Ent) (bs : List Bk) (A B : Option Addr) (ib io c n jb jo c2 m k : Nat) (l : List UInt8) (w : World) (hrs : ∀ e, e ∈ rs → e.ok ∧ e.dg.size ≤ 200) (hbs : ∀ b, b ∈ bs → b.ok) (hn : rs.length = n) (hn2 : n ≤ 50) (hm : bs.length = m) (hm2 : m ≤ 50) (hat : CidsAt w A ib io rs) (hbt : BlosAt w B jb jo bs) (hl : l = car1B (rs.map cidB) (bs.map Bk.b)) (hll : l.length ≤ 10000000) (hk : k ≤ 255) :
    Calls Tryz.prog 21 #[.agg #[.slice A n c, .slice B m c2], .int .u64 0, .int .u8 (k : Int), .int .u8 0] w fun r w' => r = .returned (.string (str (pragB ++ headB 0 0 (51 + k) l.length 0 ++ List.replicate k 0 ++ l))) ∧ Off [] w w' := by
  have hA : Off [] w (w.alloc (.cells #[.slice A n c, .slice B m c2] 25)) := (Off.refl [] w).alloc _
  have HC := Lib.hid (fun W (h : Off [] w W) => car1_any rs bs A B ib io c n jb jo c2 m W hrs hbs hn hn2 hm hm2 (hat.off h (by simp)) (hbt.off h (by simp)))
  rw [← hl] at HC
  obtain ⟨s, hs⟩ : ∃ s, s = str l := ⟨_, rfl⟩
  rw [← hs] at HC
  obtain ⟨N, hN⟩ : ∃ N, N = l.length := ⟨_, rfl⟩
  have hsz : s.size = N := by rw [hs, str_size, hN]
  have hsd : s.data.toList = l := by rw [hs]
  rw [← hN] at hll ⊢
  obtain ⟨d, hd⟩ : ∃ d, d = 51 + k := ⟨_, rfl⟩
  have HF := Lib.hid (fun W => fileBytes_any 0 0 k N _ rfl (by omega) (by omega) hk (by omega) s (by rw [hsz]; omega) W)
  rw [hsd, prag_eq, ← hd] at HF
  obtain ⟨F, hF⟩ : ∃ F, F = str (pragB ++ ((Lib.leBytes 8 0 ++ Lib.leBytes 8 0) ++ (Lib.leBytes 8 d ++ (Lib.leBytes 8 N ++ Lib.leBytes 8 0))) ++ List.replicate k 0 ++ l) := ⟨_, rfl⟩
  rw [← hF] at HF
  have hres : str (pragB ++ headB 0 0 (51 + k) N 0 ++ List.replicate k 0 ++ l) = F := by rw [hF, hd]; rfl
  rw [hres]
  have HH := Lib.hid (fun W => newHead_any N (by omega) W)
  have HP := Lib.hid (fun W => padded_any N (51 + N) k (by omega) hk W)
  rw [← hd] at HP
  obtain ⟨x, hx⟩ : ∃ x, x = 51 + N := ⟨_, rfl⟩
  rw [← hx] at HH HP
  obtain ⟨y, hy⟩ : ∃ y, y = x + k := ⟨_, rfl⟩
  rw [← hy] at HP
  have hB := Lib.hid (Blk.new w 25 #[.slice A n c, .slice B m c2])
  have HA := Lib.hid hA
  have HD := Lib.hid hd
  have hwk : IntKind.u64.wrap (k : Int) = (k : Int) := by rw [IntKind.wrap_u64]; omega
  have hwN : IntKind.u64.wrap (N : Int) = (N : Int) := by rw [IntKind.wrap_u64]; omega
  have HSZ := Lib.hid hsz
  clear hA hrs hbs hn hm hat hbt hl hs hN hsd hx hy hd hsz hF hres
  go_enter Tryz.func21, Tryz.ntmps21
  go_wp2_with (first
    | (go_at_call 6; refine (HC.out _ HA.out).mono ?_; rintro r w1 ⟨rfl, ho1⟩; have hsz := HSZ.out; have HO1 := Lib.hid (HA.out.then ho1 (fun x hx => by simp at hx)); clear ho1)
    | (go_at_call 53; refine (HH.out _).mono ?_; rintro r w2 ⟨rfl, ho2⟩; have HO2 := Lib.hid (HO1.out.then ho2 (fun x hx => by simp at hx)); clear ho2)
    | (go_at_call 52; refine (HP.out _).mono ?_; rintro r w3 ⟨rfl, ho3⟩; have HO3 := Lib.hid (HO2.out.then ho3 (fun x hx => by simp at hx)); clear ho3)
    | (go_at_call 54; refine (HF.out _).mono ?_; rintro r w4 ⟨rfl, ho4⟩; have HO4 := Lib.hid ho4; clear ho4))
  go_ret
  exact ⟨rfl, (HO3.out.alloc _).then HO4.out (fun x hx => by simp at hx)⟩
end Go.Proofs.YthedhibdbgcgoaaGreatDoor
