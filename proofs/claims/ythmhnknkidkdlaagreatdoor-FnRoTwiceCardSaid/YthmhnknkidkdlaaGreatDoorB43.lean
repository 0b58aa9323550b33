/-
  car.WrapV1 into a bytes.Buffer; impl.WrWrap.
  car.WrapV1 into a bytes.Buffer, whatever the index's kind.
  (No condition beyond those that each theorem states.)
-/
import Derived.Test.YthmhnknkidkdlaaGreatDoorB39
import Derived.Test.YthmhnknkidkdlaaGreatDoorB41
import Derived.Test.YthmhnknkidkdlaaGreatDoorB04
import Derived.Test.YthmhnknkidkdlaaGreatDoorB42
import Derived.Test.YthmhnknkidkdlaaGreatDoorB11
import Derived.Test.YthmhnknkidkdlaaGreatDoorB50
namespace Go.Proofs.YthmhnknkidkdlaaGreatDoor
open Go.RowKit

set_option maxRecDepth 100000 in
theorem pragma_any (w : World) : Calls Tryz.prog 29 #[] w fun e w' => e = .returned (.slice (some ⟨w.heap.size, 0, none⟩) 11 11) ∧ Blk w' w.heap.size 5 (Lib.byteCells pragB).toArray ∧ Off [] w w' := by
  go_enter Tryz.func29, Tryz.ntmps29
  go_wp2_with fail
  go_ret
  exact ⟨rfl, Blk.new w _ _, (Off.refl [] w).alloc _⟩

/-- BufW at a lower bound. -/
theorem BufW.mono {b lo lo' : Nat} {l : List UInt8} {w : World} (h : BufW b lo l w) (hl : lo' ≤ lo) : BufW b lo' l w := by
  rcases h with h | ⟨g, cap, sp, h1, h2⟩
  · exact Or.inl h
  · exact Or.inr ⟨g, cap, sp, Nat.le_trans hl h1, h2⟩

end Go.Proofs.YthmhnknkidkdlaaGreatDoor
namespace Go.Proofs.YthmhnknkidkdlaaGreatDoor
open Go.RowKit

set_option maxRecDepth 100000 in
set_option maxHeartbeats 4000000 in
theorem wrapV1_k {kd ty fL : Nat} {Emp : Nat → Nat → World → Prop} {Full : Nat → Nat → Nat → List Ent → World → Prop} (KN : Knd kd ty fL Emp Full) (rs : List Ent) (bs : List Bk) (l : List UInt8) (g n8 c8 R rb cap b : Nat) (w : World) (hrs : ∀ e, e ∈ rs → e.ok ∧ e.dg.size ≤ 200) (hbs : ∀ b, b ∈ bs → b.ok) (hn2 : rs.length ≤ 50) (hm2 : bs.length ≤ 50) (ho : OptV kd (.slice (some ⟨g, 0, none⟩) n8 c8) w) (h : RAt R rb cap l 0 w) (hrbl : rb < w.heap.size) (hl : l = hdrB (rs.map cidB) 1 ++ secs bs) (hll : l.length ≤ 10000000)
    (qe : Addr) (hE : EofA qe w) (hER : 1 < R) (hEb : 1 < b) (hb : BufN b w) (hbR : b ≠ R) (hbr : b ≠ rb) :
    Calls Tryz.prog 14 #[.iface 55 (.pointer (some ⟨R, 0, none⟩)), .iface 57 (.pointer (some ⟨b, 0, none⟩)), .slice (some ⟨g, 0, none⟩) n8 c8] w fun e w' => e = .returned .nilIface ∧ ∃ X, (IdxF kd (genE (hdrB (rs.map cidB) 1).length bs) X ∧ X.length ≤ 26030614) ∧ BufW b w.heap.size (pragB ++ headB 0 0 51 l.length (51 + l.length) ++ l ++ X) w' ∧ Off [R, b] w w' := by
  have hRl := h.lt
  have hbl : b < w.heap.size := by obtain ⟨lr, hq⟩ := hb; exact hq.lt
  have HLI := Lib.hid (fun (pb mm : Nat) (W : World) (k1 : OptV kd (.slice (some ⟨g, 0, none⟩) n8 c8) W) (k2 : RAt R rb cap l 0 W) (k3 : EofA qe W) (k4 : Emp pb mm W) (k5 : pb < W.heap.size) (k5b : mm < W.heap.size) (k6 : pb ≠ mm) (k7 : pb ≠ R) (k8 : mm ≠ R) (k9 : mm ≠ rb) => loadIndex_k KN rs bs l g n8 c8 R rb cap pb mm W hrs hbs hn2 hm2 k1 k2 hl qe k3 hER k4 k5 k5b k6 k7 k8 k9)
  have HA0 := Lib.hid ho.at
  have HOP := Lib.hid ho
  have hfew : FewE (genE (hdrB (rs.map cidB) 1).length bs) := ⟨genE_ok bs _ hbs (by rw [hl, List.length_append] at hll; omega), Nat.le_trans (genE_len _ bs) hm2, genE_dg bs _ hbs⟩
  have HMI := Lib.hid hfew
  have HKN := Lib.hid KN
  have HRA := Lib.hid h
  have HE := Lib.hid hE
  have HBN := Lib.hid hb
  have hmS := method_seek
  have hmW := method_bufWrite
  have hnW := nil_bufWrite
  obtain ⟨n, hn⟩ : ∃ n, n = l.length := ⟨_, rfl⟩
  rw [← hn] at hll
  have HN := Lib.hid hn
  obtain ⟨x, hx⟩ : ∃ x, x = 51 + n := ⟨_, rfl⟩
  have hxl : x ≤ 10000051 := by omega
  have HX9 := Lib.hid hx
  clear hx
  have hEl : 1 < w.heap.size := by omega
  have hwn : IntKind.u64.wrap (n : Int) = (n : Int) := by rw [IntKind.wrap_u64]; omega
  clear KN hfew hrs hbs hn2 hm2 ho h hl hE hb hn
  go_enter Tryz.func14, Tryz.ntmps14
  go_wp2_with fail
  refine HA0.out.mono ?_
  rintro e w1 ⟨rfl, hO1⟩
  have hz1' := hO1.size
  have hrow : Blk ((w1.alloc (.cells zeroOptsZ 75)).setRow w1.heap.size (optCellsZ false (kd : Int) 2048)) w1.heap.size 75 (optCellsZ false (kd : Int) 2048) := setRow_heap _ _ _ _ _ _ (Blk.new w1 _ zeroOptsZ)
  have hoff : Off [] w ((w1.alloc (.cells zeroOptsZ 75)).setRow w1.heap.size (optCellsZ false (kd : Int) 2048)) := (hO1.alloc (.cells zeroOptsZ 75)).then (off_setRow (Blk.new w1 _ zeroOptsZ) _) (fun x h => by simp at h; right; omega)
  obtain ⟨w2, hw2⟩ : ∃ w2, w2 = (w1.alloc (.cells zeroOptsZ 75)).setRow w1.heap.size (optCellsZ false (kd : Int) 2048) := ⟨_, rfl⟩
  rw [← hw2] at hrow hoff
  have c2 : w2.cell? ⟨w1.heap.size, 2, none⟩ = some (.int .u64 (kd : Int)) := hrow.cell 2
  have hsz2 := hoff.size
  have HOFF := Lib.hid hoff
  have HW2 := Lib.hid hw2
  have HNW := Lib.hid (HKN.out.new w2)
  clear hrow hoff hw2 hO1
  unfold zeroOptsZ at HW2
  go_wp2_with (first
    | ((with_reducible show wpList _ _ _ _ _ _); refine wpList_store_row rfl 75 (.tmp 7) (.tmp 24) rfl w1.heap.size (optCellsZ false (kd : Int) 2048) rfl rfl 75 _ (Blk.new w1 _ _) (opt_infoK kd) rfl (opt_allK kd) ?_; rw [← HW2.out])
    | (go_at_call 26; refine HNW.out.mono ?_; rintro e w3 ⟨pb, mm, rfl, hem, ho1, hpb, hmm, hpm, hpl3, hml3⟩
       have hO3 : Off [] w w3 := HOFF.out.then ho1 (fun x hx => by simp at hx)
       have HL := Lib.hid (HLI.out pb mm w3 (HOP.out.off hO3 (fun x hx => by simp at hx)) (HRA.out.off hO3 (by simp) (by simp)) (HE.out.off hO3 (by simp)) hem hpl3 hml3 hpm (by omega) (by omega) (by omega))
       have HO3 := Lib.hid hO3
       have hpbw : w.heap.size ≤ pb := by omega
       have hmmw : w.heap.size ≤ mm := by omega
       clear hem ho1 hpb hmm hO3)
    | (go_at_call 27; refine HL.out.mono ?_; rintro e w4 ⟨rfl, hLo, i4, hR4⟩; have HLO := Lib.hid hLo; have hsk1 := seek_end hR4; rw [← HN.out] at hsk1; have HSK1 := Lib.hid hsk1; clear hLo hR4 hsk1)
    | (go_at_call 144; refine HSK2.out.mono ?_; rintro e w6 ⟨rfl, hR6, hO6⟩; have HR6 := Lib.hid hR6; have HO6 := Lib.hid hO6; have hnh := newHeader_any n (by omega) w6; rw [← HX9.out] at hnh; have HNH := Lib.hid hnh; clear hR6 hO6 hnh)
    | (go_at_call 144; refine HSK1.out.mono ?_; rintro e w5 ⟨rfl, hR5, hO5⟩; have HO5 := Lib.hid hO5; have HSK2 := Lib.hid (seek_to hR5 0 (Nat.zero_le _)); clear hR5 hO5)
    | (go_at_call 28; refine HNH.out.mono ?_; rintro e w7 ⟨rfl, hO7⟩; have HO7 := Lib.hid hO7; clear hO7))
  obtain ⟨w8, hw8⟩ : ∃ w8, w8 = w7.alloc (.cells #[.int .u64 0, .int .u64 0, .int .u64 51, .int .u64 (n : Int), .int .u64 (x : Int)] 87) := ⟨_, rfl⟩
  rw [← hw8]
  obtain ⟨hOL, B0, hB0, hMis⟩ := HLO.out
  have hO68 : Off [] w6 w8 := by rw [hw8]; exact HO7.out.alloc _
  have hO48 : Off [R] w4 w8 := (HO5.out.then HO6.out (fun x hx => Or.inl hx)).then hO68 (fun x hx => by simp at hx)
  have hO38 : Off [R, mm] w3 w8 := hOL.then hO48 (fun x hx => by simp at hx; left; simp [hx])
  have hO08 : Off [R, mm] w w8 := (HO3.out.mono (S' := [R, mm]) (fun x hx => by simp at hx)).then hO38 (fun x hx => Or.inl hx)
  have hs3 := HO3.out.size
  have hbm : b ≠ mm := by omega
  have hBN8 : BufN b w8 := by
    obtain ⟨lr, hq⟩ := HBN.out
    exact ⟨lr, hO08.blk hq (ni2 hbR hbm)⟩
  have hR8 : RAt R rb cap l 0 w8 := HR6.out.off hO68 (by simp) (by simp)
  have hE8 : EofA qe w8 := HE.out.off hO08 (ni2 (by omega) (by omega))
  have hM8 : Full B0 pb mm (genE (hdrB (rs.map cidB) 1).length bs) w8 := HKN.out.fullOff B0 pb mm _ w4 w8 [R] hMis hO48 (ni1 (by omega)) (ni1 (by omega)) (fun x hx => by simp at hx; left; omega)
  have hs8 := hO08.size
  have hbl8 : rb < w8.heap.size := by omega
  have hH8 : Blk w8 w7.heap.size 87 #[.int .u64 0, .int .u64 0, .int .u64 51, .int .u64 (n : Int), .int .u64 (x : Int)] := by rw [hw8]; exact Blk.new w7 _ _
  have hWG : ∀ W, Off [] w8 W → WrG [b, R] B0 b w8 [] W := fun W hW => ⟨by simp, fun x hx => by simp at hx; rcases hx with rfl | rfl <;> omega, Or.inl ⟨rfl, by obtain ⟨lr, hq⟩ := hBN8; exact ⟨lr, hW.blk hq (by simp)⟩⟩, hW.mono (fun x hx => by simp at hx)⟩
  have hrbE : rb ∉ [b, R] := ni2 (Ne.symm hbr) (Ne.symm hR8.ne)
  have hpbE : pb ∉ [b, R] := ni2 (by omega) (by omega)
  have hmmE : mm ∉ [b, R] := ni2 (by omega) (by omega)
  have hEE : 1 ∉ [b, R] := ni2 (by omega) (by omega)
  have HWG := Lib.hid hWG
  have HR8 := Lib.hid hR8
  have HS8 := Lib.hid hR8.seg
  have HE8 := Lib.hid hE8
  have HM8 := Lib.hid hM8
  have HH8 := Lib.hid hH8
  have HO08 := Lib.hid hO08
  have HEX := Lib.hid (And.intro hrbE (And.intro hpbE (And.intro hmmE hEE)))
  have HPR := Lib.hid pragma_any
  have hb8 : b < w8.heap.size := by omega
  have hh8 : w7.heap.size ≠ b := by have := HO7.out.size; have := HO6.out.size; have := HO5.out.size; have := hOL.size; omega
  obtain ⟨hk, hhk⟩ : ∃ hk, hk = w7.heap.size := ⟨_, rfl⟩
  rw [← hhk] at HH8 hh8
  rw [← hhk]
  clear hhk hw8 hOL hMis hO68 hO48 hO38 hO08 hBN8 hR8 hE8 hM8 hH8 hWG hrbE hpbE hmmE hEE
  go_region_held3 (fun w' => True) (exact trivial) (first
    | (go_at_call 29; refine (HPR.out _).mono ?_; rintro e wa ⟨rfl, hb1, ho1⟩
       have ho1' : Off [] w8 wa := (by first | exact ho1 | exact (Off.refl [] w8).drew.then ho1 (fun x hx => by simp at hx))
       have HWR := Lib.hid (fun W (hD : Drew wa W) => bufWrite_G ((HWG.out wa ho1').ofDrew hD) w8.heap.size 0 11 11 pragB (hD.seg (by exact hb1.seg')) rfl (by omega) (Or.inl (by omega)) (by simp))
       have HHa := Lib.hid (ho1'.blk HH8.out (by simp))
       have HRa := Lib.hid (HR8.out.off ho1' (by simp) (by simp))
       clear hb1 ho1 ho1')
    | (go_at_call 150; refine (HWR.out _ (by repeat' (first | exact Drew.refl _ | exact Drew.one _ | refine Drew.more ?_ 1))).mono ?_; rintro e wb ⟨rfl, hw1, hk1⟩
       rw [List.nil_append] at hw1
       have hhb := kept_blk hk1 (by exact HHa.out) hh8 (by decide)
       have e0 : wb.cell? ⟨hk, 0, none⟩ = some (.int .u64 0) := hhb.cell 0
       have e1 : wb.cell? ⟨hk, 1, none⟩ = some (.int .u64 0) := hhb.cell 1
       have e2 : wb.cell? ⟨hk, 2, none⟩ = some (.int .u64 51) := hhb.cell 2
       have e3 : wb.cell? ⟨hk, 3, none⟩ = some (.int .u64 (n : Int)) := hhb.cell 3
       have e4 : wb.cell? ⟨hk, 4, none⟩ = some (.int .u64 (x : Int)) := hhb.cell 4
       have hra : RAt R rb cap l 0 wb := RAt.keptB (by exact HRa.out) hw1 hk1 HS8.out HEX.out.1 (Ne.symm hbR)
       have HHW := Lib.hid (headWrite_any hw1 0 0 51 n x (by omega) (by omega) (by omega) (by omega) (by omega) (by rw [pragB_len]; omega))
       have HRb := Lib.hid hra
       clear hw1 hk1 hhb hra))
  all_goals go_wp2_with (first
    | (go_at_call 30; refine HHW.out.mono ?_; rintro e wc ⟨rfl, hw2, hk2⟩
       have hra : RAt R rb cap l 0 wc := RAt.keptB (by exact HRb.out) hw2 hk2 HS8.out HEX.out.1 (Ne.symm hbR)
       have hcp := zzCopy_buf hw2 R rb cap l hra (by simp) (Ne.symm hbR) HS8.out HEX.out.1 (by have := hw2.off.size; omega) qe HE8.out HEX.out.2.2.2 (by rw [List.length_append, pragB_len, headB_len, ← HN.out]; omega)
       rw [← HN.out] at hcp
       have HCP := Lib.hid hcp
       clear hw2 hk2 hra hcp)
    | (go_at_call 31; refine HCP.out.mono ?_; rintro e wd ⟨rfl, hw3⟩
       have HWT := Lib.hid (HKN.out.write _ _ _ _ _ _ pb mm _ hw3 HM8.out HMI.out HEX.out.2.1 HEX.out.2.2.1 (by rw [List.length_append, List.length_append, pragB_len, headB_len, ← HN.out]; omega))
       clear hw3)
    | (go_at_call 32; refine HWT.out.mono ?_; rintro e we ⟨X, nx, hX, rfl, hw4⟩; have HXX := Lib.hid hX; have HW4 := Lib.hid hw4; clear hX hw4))
  all_goals go_ret
  all_goals (
    refine ⟨rfl, X, HXX.out, ?_, ?_⟩
    · have h9 := HW4.out.buf.mono (lo' := w.heap.size) hs8
      rw [HX9.out, HN.out] at h9
      exact h9
    · exact (HO08.out.mono (S' := [R, b]) (fun y hy => by simp at hy; rcases hy with rfl | rfl; exact Or.inl (by simp); exact Or.inr hmmw)).then HW4.out.off (fun y hy => by simp at hy; left; rcases hy with rfl | rfl <;> simp))
end Go.Proofs.YthmhnknkidkdlaaGreatDoor
