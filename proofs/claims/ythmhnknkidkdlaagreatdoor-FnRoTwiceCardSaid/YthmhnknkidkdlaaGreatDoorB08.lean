/-
  car.Header.ReadFrom over a bytes.Reader.
  impl.options where a length of zero is the end, or not: eight settings.
  (No condition beyond those that each theorem states.)
-/
import Derived.Test.YthmhnknkidkdlaaGreatDoorB07
import Derived.Deep.RegionHeld3
import Derived.Test.YthmhnknkidkdlaaGreatDoorB02
import Derived.Laws.EntriesVeiled
namespace Go.Proofs.YthmhnknkidkdlaaGreatDoor
open Go.RowKit

theorem run_makeR16 (W : World) : (Instr.makeSlice 47 (.int .i64 16) (.int .i64 16)).run Tryz.prog W = .ok (.slice (some ⟨W.heap.size, 0, none⟩) 16 16) (W.alloc (.cells (zeroBytes 16).toArray 5)) := by
  obtain ⟨ib0, hbi, hbz0, hbz1, hbz2⟩ := info_parts Tryz.infoByte
  exact run_makeBytes Tryz.underlying47 hbi hbz0 hbz1 hbz2 16 (by omega) W
theorem run_makeR24 (W : World) : (Instr.makeSlice 47 (.int .i64 24) (.int .i64 24)).run Tryz.prog W = .ok (.slice (some ⟨W.heap.size, 0, none⟩) 24 24) (W.alloc (.cells (zeroBytes 24).toArray 5)) := by
  obtain ⟨ib0, hbi, hbz0, hbz1, hbz2⟩ := info_parts Tryz.infoByte
  exact run_makeBytes Tryz.underlying47 hbi hbz0 hbz1 hbz2 24 (by omega) W

/-- What stands behind the pragma. -/
def headB (hi lo d n x : Nat) : List UInt8 := (Lib.leBytes 8 hi ++ Lib.leBytes 8 lo) ++ (Lib.leBytes 8 d ++ (Lib.leBytes 8 n ++ Lib.leBytes 8 x))
theorem headB_len (hi lo d n x : Nat) : (headB hi lo d n x).length = 40 := by simp [headB, Lib.leBytes_length]
theorem split_at {L A B : List UInt8} {a b : Nat} (h : L.take (a + b) = A ++ B) (hA : A.length = a) : L.take a = A ∧ (L.drop a).take b = B := by
  have h1 := congrArg (List.take a) h
  rw [List.take_take, Nat.min_eq_left (Nat.le_add_right a b), List.take_left' hA] at h1
  have h2 := congrArg (List.drop a) h
  rw [List.drop_take, Nat.add_sub_cancel_left, List.drop_left' hA] at h2
  exact ⟨h1, h2⟩

set_option maxRecDepth 100000 in
set_option maxHeartbeats 2000000 in
theorem charRead {R b cap i : Nat} {l : List UInt8} {w : World} (h : RAt R b cap l i w) (H hi lo : Nat) (c0 c1 c2 c3 c4 : Value) (hH : Blk w H 87 #[c0, c1, c2, c3, c4]) (hv : (l.drop i).take 16 = Lib.leBytes 8 hi ++ Lib.leBytes 8 lo) (h16 : 16 ≤ l.length - i) (hHR : H ≠ R) (hHb : H ≠ b) (hhi : hi < 18446744073709551616) (hlo : lo < 18446744073709551616) :
    Calls Tryz.prog 71 #[.pointer (some ⟨H, 0, none⟩), .iface 55 (.pointer (some ⟨R, 0, none⟩))] w fun e w' => e = .returned (.tuple #[.int .i64 16, .nilIface]) ∧ RAt R b cap l (i + 16) w' ∧ Blk w' H 87 #[.int .u64 (hi : Int), .int .u64 (lo : Int), c2, c3, c4] ∧ Off [R, H] w w' := by
  have hRl := h.lt
  have hHl := hH.lt
  have hbl : b < w.heap.size := h.seg.lt (by omega)
  have hAl : Off [] w (w.alloc (.cells (zeroBytes 16).toArray 5)) := Off.alloc (Off.refl [] w) _
  have hF := readFull_at (h.off hAl (by simp) (by simp)) w.heap.size 16 (zeroBytes 16) 5 (Blk.new' _ _ _ rfl) (by omega) (by omega) (by omega) h16 (zeroBytes_length 16)
  rw [hv, show ((16 : Nat) : Int) = 16 from rfl] at hF
  have HF := Lib.hid hF
  have hU1 : ∀ W, Seg W w.heap.size 0 (Lib.leBytes 8 hi) → Calls Tryz.prog 73 #[.agg #[], .slice (some ⟨w.heap.size, 0, none⟩) 8 16] W fun e w' => e = .returned (.int .u64 (hi : Int)) ∧ Below W.heap.size W w' := fun W hW => uintLE64_seg w.heap.size 0 8 16 hi hhi W (by omega) hW
  have hU2 : ∀ W, Seg W w.heap.size 8 (Lib.leBytes 8 lo) → Calls Tryz.prog 73 #[.agg #[], .slice (some ⟨w.heap.size, 8, none⟩) 8 8] W fun e w' => e = .returned (.int .u64 (lo : Int)) ∧ Below W.heap.size W w' := fun W hW => uintLE64_seg w.heap.size 8 8 8 lo hlo W (by omega) hW
  have HU1 := Lib.hid hU1
  have HU2 := Lib.hid hU2
  have HH := Lib.hid hH
  have HAL := Lib.hid hAl
  have hmk := run_makeR16
  clear h hH hv hF hU1 hU2 hAl
  go_enter Tryz.func71, Tryz.ntmps71
  go_wp2_with (go_at_call 72; refine HF.out.mono ?_; rintro e w2 ⟨rfl, hR2, hB2, hO2⟩; have hs2 := hB2.seg'; have hb2 := (HH.out.off HAL.out (by simp)).off hO2 (ni2 hHR (by omega)); have f0 := hb2.frozen 0; have d0 : w2.cell? ⟨H, 0, none⟩ = some c0 := hb2.cell 0; have HR2 := Lib.hid hR2; have HS1 := Lib.hid hs2.left; have HS2 := Lib.hid (hs2.right.cast (by rw [Lib.leBytes_length])); have HB2 := Lib.hid hb2; have HO2 := Lib.hid hO2; clear hR2 hB2 hO2 hs2 hb2)
  go_region_held3 (fun w' => True) (exact trivial) (first | (go_at_call 73; refine (HU1.out _ (by exact HS1.out)).mono ?_; rintro e w3 ⟨rfl, hb3⟩; have hq3 := Blk.below (by exact HB2.out) hb3 (by exact HB2.out.lt); have d3 : w3.cell? ⟨H, 0, none⟩ = some c0 := hq3.cell 0; have f3 := hq3.frozen 0; have HQ3 := Lib.hid hq3; have HO3 := Lib.hid (Off.ofBelow (S := []) hb3); clear hq3 hb3))
  all_goals (
    have hb4 : Blk (w3.setCell ⟨H, 0, none⟩ (.int .u64 (hi : Int))) H 87 #[.int .u64 (hi : Int), c1, c2, c3, c4] := HQ3.out.set_ 0 _
    have ho4 : Off [H] w2 (w3.setCell ⟨H, 0, none⟩ (.int .u64 (hi : Int))) := (((Off.refl [H] w2).next HO3.out ⟨rfl, rfl, rfl, rfl⟩ (fun x hx => by simp at hx)).setCell (p := ⟨H, 0, none⟩) (Or.inl (by simp)) _)
    have HS2b := Lib.hid (HS2.out.off ho4 (ni1 (by omega)))
    have HB4 := Lib.hid hb4
    have HO4 := Lib.hid ho4
    have d1 : (w3.setCell ⟨H, 0, none⟩ (.int .u64 (hi : Int))).cell? ⟨H, 1, none⟩ = some c1 := hb4.cell 1
    clear hb4 ho4)
  all_goals go_wp2_with fail
  go_region_held3 (fun w' => True) (exact trivial) (first | (go_at_call 73; refine (HU2.out _ (by exact HS2b.out)).mono ?_; rintro e w5 ⟨rfl, hb5⟩; have hq5 := Blk.below (by exact HB4.out) hb5 (by exact HB4.out.lt); have d5 : w5.cell? ⟨H, 1, none⟩ = some c1 := hq5.cell 1; have f5 := hq5.frozen 1; have HQ5 := Lib.hid hq5; have HO5 := Lib.hid (Off.ofBelow (S := []) hb5); clear hq5 hb5))
  all_goals go_wp2_with fail
  all_goals go_ret2
  all_goals (
    have hb6 : Blk (w5.setCell ⟨H, 1, none⟩ (.int .u64 (lo : Int))) H 87 #[.int .u64 (hi : Int), .int .u64 (lo : Int), c2, c3, c4] := HQ5.out.set_ 1 _
    have ho6 : Off [H] w2 (w5.setCell ⟨H, 1, none⟩ (.int .u64 (lo : Int))) := ((HO4.out.next HO5.out ⟨rfl, rfl, rfl, rfl⟩ (fun x hx => by simp at hx)).setCell (p := ⟨H, 1, none⟩) (Or.inl (by simp)) _)
    exact ⟨rfl, HR2.out.off ho6 (ni1 (Ne.symm hHR)) (ni1 (Ne.symm hHb)), hb6, ((HAL.out.mono (S' := [R, H]) (fun x hx => by simp at hx)).then HO2.out (fun x hx => by simp at hx; rcases hx with rfl | rfl; exact Or.inl (by simp); exact Or.inr (by simp))).then ho6 (fun x hx => by simp at hx; left; simp [hx])⟩)

set_option maxRecDepth 100000 in
set_option maxHeartbeats 4000000 in
theorem headerRead {R b cap i : Nat} {l : List UInt8} {w : World} (h : RAt R b cap l i w) (H hi lo d n x : Nat) (c0 c1 c2 c3 c4 : Value) (hH : Blk w H 87 #[c0, c1, c2, c3, c4]) (hv : (l.drop i).take 40 = headB hi lo d n x) (h40 : 40 ≤ l.length - i) (hHR : H ≠ R) (hHb : H ≠ b) (hhi : hi < 18446744073709551616) (hlo : lo < 18446744073709551616) (hd1 : 51 ≤ d) (hd2 : d < 9223372036854775808) (hn1 : 0 < n) (hn2 : n < 9223372036854775808) (hx2 : x < 9223372036854775808) :
    Calls Tryz.prog 47 #[.pointer (some ⟨H, 0, none⟩), .iface 55 (.pointer (some ⟨R, 0, none⟩))] w fun e w' => e = .returned (.tuple #[.int .i64 40, .nilIface]) ∧ RAt R b cap l (i + 40) w' ∧ Blk w' H 87 #[.int .u64 (hi : Int), .int .u64 (lo : Int), .int .u64 (d : Int), .int .u64 (n : Int), .int .u64 (x : Int)] ∧ Off [R, H] w w' := by
  obtain ⟨hv1, hv2⟩ := split_at (a := 16) (b := 24) hv (by simp [Lib.leBytes_length])
  rw [List.drop_drop] at hv2
  have HC := Lib.hid (charRead h H hi lo c0 c1 c2 c3 c4 hH hv1 (by omega) hHR hHb hhi hlo)
  have hF : ∀ W, RAt R b cap l (i + 16) W → H < W.heap.size → b < W.heap.size → Calls Tryz.prog 72 #[.iface 55 (.pointer (some ⟨R, 0, none⟩)), .slice (some ⟨W.heap.size, 0, none⟩) 24 24] (W.alloc (.cells (zeroBytes 24).toArray 5)) fun e w' => e = .returned (.tuple #[.int .i64 24, .nilIface]) ∧ RAt R b cap l (i + 16 + 24) w' ∧ Blk w' W.heap.size 5 (Lib.byteCells (Lib.leBytes 8 d ++ (Lib.leBytes 8 n ++ Lib.leBytes 8 x))).toArray ∧ Off [R, W.heap.size] (W.alloc (.cells (zeroBytes 24).toArray 5)) w' := fun W hW hH hb => by
    have hRW := hW.lt
    have h1 := readFull_at (hW.off (S := []) ((Off.refl [] W).alloc _) (by simp) (by simp)) W.heap.size 24 (zeroBytes 24) 5 (Blk.new' _ _ _ rfl) (by omega) (by omega) (by omega) (by omega) (zeroBytes_length 24)
    rw [hv2, show ((24 : Nat) : Int) = 24 from rfl] at h1
    exact h1
  have hU : ∀ (W : World) (g o c v : Nat), v < 9223372036854775808 → Seg W g o (Lib.leBytes 8 v) → Calls Tryz.prog 73 #[.agg #[], .slice (some ⟨g, o, none⟩) 8 c] W fun e w' => e = .returned (.int .u64 (v : Int)) ∧ Below W.heap.size W w' := fun W g o c v hv hW => uintLE64_seg g o 8 c v (by omega) W (by omega) hW
  have hRl := h.lt
  have hHl := hH.lt
  have hbl : b < w.heap.size := h.seg.lt (by omega)
  have HF := Lib.hid hF
  have HU := Lib.hid hU
  have hmk := run_makeR24
  have hwd : IntKind.i64.wrap (d : Int) = (d : Int) := by rw [IntKind.wrap_i64]; omega
  have hwn : IntKind.i64.wrap (n : Int) = (n : Int) := by rw [IntKind.wrap_i64]; omega
  have hwx : IntKind.i64.wrap (x : Int) = (x : Int) := by rw [IntKind.wrap_i64]; omega
  have hb1 : ¬ (d : Int) < 51 := by omega
  have hb2 : ¬ (n : Int) ≤ 0 := by omega
  have hb3 : ¬ (x : Int) < 0 := by omega
  clear h hH hv hv1 hv2 hF hU
  go_enter Tryz.func47, Tryz.ntmps47
  go_wp2_with (first
    | (go_at_call 71; refine HC.out.mono ?_; rintro e w1 ⟨rfl, hR1, hB1, hO1⟩; have hs1 := hO1.size; have HF1 := Lib.hid (HF.out w1 hR1 (by omega) (by omega)); have HB1 := Lib.hid hB1; have HO1 := Lib.hid hO1; clear hR1 hB1 hO1)
    | (go_at_call 72; refine HF1.out.mono ?_; rintro e w2 ⟨rfl, hR2, hB2, hO2⟩; have hs2 := hB2.seg'; have hb2' := (HB1.out.alloc (.cells (zeroBytes 24).toArray 5)).off hO2 (ni2 hHR (by omega)); have HR2 := Lib.hid hR2; have HS1 := Lib.hid hs2.left; have HS2 := Lib.hid ((hs2.right.cast (show _ = 8 by rw [Lib.leBytes_length])).left); have HS3 := Lib.hid (((hs2.right.cast (show _ = 8 by rw [Lib.leBytes_length])).right).cast (show _ = 16 by rw [Lib.leBytes_length])); have HB2 := Lib.hid hb2'; have HO2 := Lib.hid hO2; clear hR2 hB2 hO2 hs2 hb2'))
  go_region_held3 (fun w' => True) (exact trivial) (first | (go_at_call 73; refine (HU.out _ w1.heap.size 0 24 d hd2 (by exact HS1.out)).mono ?_; rintro e w3 ⟨rfl, hb3'⟩; have HO3 := Lib.hid (Off.ofBelow (S := []) hb3'); clear hb3'))
  all_goals (
    have ho3 : Off [] w2 w3 := (Off.refl [] w2).next HO3.out ⟨rfl, rfl, rfl, rfl⟩ (fun x hx => by simp at hx)
    have hs3 := HS2.out.off ho3 (by simp)
    have hs3' := HS3.out.off ho3 (by simp)
    have HS23 := Lib.hid hs3
    have HS33 := Lib.hid hs3'
    clear hs3 hs3')
  all_goals go_wp2_with fail
  go_region_held3 (fun w' => True) (exact trivial) (first | (go_at_call 73; refine (HU.out _ w1.heap.size 8 16 n hn2 (by exact HS23.out)).mono ?_; rintro e w4 ⟨rfl, hb4'⟩; have HO4 := Lib.hid (Off.ofBelow (S := []) hb4'); clear hb4'))
  all_goals (
    have ho4 : Off [] w3 w4 := (Off.refl [] w3).next HO4.out ⟨rfl, rfl, rfl, rfl⟩ (fun x hx => by simp at hx)
    have hs4 := HS33.out.off ho4 (by simp)
    have HS34 := Lib.hid hs4
    clear hs4)
  all_goals go_wp2_with fail
  go_region_held3 (fun w' => True) (exact trivial) (first | (go_at_call 73; refine (HU.out _ w1.heap.size 16 8 x hx2 (by exact HS34.out)).mono ?_; rintro e w5 ⟨rfl, hb5'⟩; have HO5 := Lib.hid (Off.ofBelow (S := []) hb5'); clear hb5'))
  all_goals (
    have ho5 : Off [] w2 w5 := (((Off.refl [] w2).next HO3.out ⟨rfl, rfl, rfl, rfl⟩ (fun x hx => by simp at hx)).next HO4.out ⟨rfl, rfl, rfl, rfl⟩ (fun x hx => by simp at hx)).next HO5.out ⟨rfl, rfl, rfl, rfl⟩ (fun x hx => by simp at hx)
    have hb5 := HB2.out.off ho5 (by simp)
    have d2 : w5.cell? ⟨H, 2, none⟩ = some c2 := hb5.cell 2
    have d3 : w5.cell? ⟨H, 3, none⟩ = some c3 := hb5.cell 3
    have d4 : w5.cell? ⟨H, 4, none⟩ = some c4 := hb5.cell 4
    have f2 := hb5.frozen 2
    have f3 := hb5.frozen 3
    have f4 := hb5.frozen 4
    have HB5 := Lib.hid hb5
    have HOO := Lib.hid ho5
    clear hb5 ho5)
  all_goals go_wp2_with fail
  all_goals go_ret2
  all_goals (
    have ho6 : Off [H] w2 (((w5.setCell ⟨H, 2, none⟩ (.int .u64 (d : Int))).setCell ⟨H, 3, none⟩ (.int .u64 (n : Int))).setCell ⟨H, 4, none⟩ (.int .u64 (x : Int))) := ((((HOO.out.mono (S' := [H]) (fun x hx => by simp at hx)).setCell (p := ⟨H, 2, none⟩) (Or.inl (by simp)) _).setCell (p := ⟨H, 3, none⟩) (Or.inl (by simp)) _).setCell (p := ⟨H, 4, none⟩) (Or.inl (by simp)) _)
    have hb6 := (((HB5.out.set_ 2 (.int .u64 (d : Int))).set_ 3 (.int .u64 (n : Int))).set_ 4 (.int .u64 (x : Int)))
    have ho2 : Off [R, H] w w2 := ((HO1.out.alloc (.cells (zeroBytes 24).toArray 5)).then HO2.out (fun x hx => by simp at hx; rcases hx with rfl | rfl; exact Or.inl (by simp); exact Or.inr hs1))
    exact ⟨rfl, HR2.out.off ho6 (ni1 (Ne.symm hHR)) (ni1 (Ne.symm hHb)), hb6, ho2.then ho6 (fun x hx => by simp at hx; left; simp [hx])⟩)
end Go.Proofs.YthmhnknkidkdlaaGreatDoor
namespace Go.Proofs.YthmhnknkidkdlaaGreatDoor
open Go.RowKit

/-- A setting: the function that writes it, over its value's box. -/
abbrev setting (f g : Nat) : Value := .func (.func f) #[] #[.pointer (some ⟨g, 0, none⟩)]
theorem run_mf (fn : Fn) (first cap : Array Value) (w : World) : (Instr.makeFunc fn first cap).run Tryz.prog w = .ok (.func fn first cap) w := rfl

theorem optZeroLengthSectionAsEOF (v : Bool) (w : World) :
    Calls Tryz.prog 33 #[.bool v] w fun e w' => e = .returned (setting 59 w.heap.size) ∧ Blk w' w.heap.size 4 #[.bool v] ∧ Off [] w w' ∧ w'.heap.size = w.heap.size + 1 := by
  have hmf := run_mf
  go_enter Tryz.func33, Tryz.ntmps33
  go_wp2_with fail
  go_ret
  exact ⟨rfl, Blk.new w _ _, (Off.refl [] w).alloc _, by simp⟩

theorem optStoreIdentityCIDs (v : Bool) (w : World) :
    Calls Tryz.prog 34 #[.bool v] w fun e w' => e = .returned (setting 60 w.heap.size) ∧ Blk w' w.heap.size 4 #[.bool v] ∧ Off [] w w' ∧ w'.heap.size = w.heap.size + 1 := by
  have hmf := run_mf
  go_enter Tryz.func34, Tryz.ntmps34
  go_wp2_with fail
  go_ret
  exact ⟨rfl, Blk.new w _ _, (Off.refl [] w).alloc _, by simp⟩

theorem optAllowDuplicatePuts (v : Bool) (w : World) :
    Calls Tryz.prog 35 #[.bool v] w fun e w' => e = .returned (setting 61 w.heap.size) ∧ Blk w' w.heap.size 4 #[.bool v] ∧ Off [] w w' ∧ w'.heap.size = w.heap.size + 1 := by
  have hmf := run_mf
  go_enter Tryz.func35, Tryz.ntmps35
  go_wp2_with fail
  go_ret
  exact ⟨rfl, Blk.new w _ _, (Off.refl [] w).alloc _, by simp⟩

theorem optUseWholeCIDs (v : Bool) (w : World) :
    Calls Tryz.prog 36 #[.bool v] w fun e w' => e = .returned (setting 62 w.heap.size) ∧ Blk w' w.heap.size 4 #[.bool v] ∧ Off [] w w' ∧ w'.heap.size = w.heap.size + 1 := by
  have hmf := run_mf
  go_enter Tryz.func36, Tryz.ntmps36
  go_wp2_with fail
  go_ret
  exact ⟨rfl, Blk.new w _ _, (Off.refl [] w).alloc _, by simp⟩

theorem optWriteAsCarV1 (v : Bool) (w : World) :
    Calls Tryz.prog 37 #[.bool v] w fun e w' => e = .returned (setting 63 w.heap.size) ∧ Blk w' w.heap.size 4 #[.bool v] ∧ Off [] w w' ∧ w'.heap.size = w.heap.size + 1 := by
  have hmf := run_mf
  go_enter Tryz.func37, Tryz.ntmps37
  go_wp2_with fail
  go_ret
  exact ⟨rfl, Blk.new w _ _, (Off.refl [] w).alloc _, by simp⟩

theorem optWithTrustedCAR (v : Bool) (w : World) :
    Calls Tryz.prog 38 #[.bool v] w fun e w' => e = .returned (setting 64 w.heap.size) ∧ Blk w' w.heap.size 4 #[.bool v] ∧ Off [] w w' ∧ w'.heap.size = w.heap.size + 1 := by
  have hmf := run_mf
  go_enter Tryz.func38, Tryz.ntmps38
  go_wp2_with fail
  go_ret
  exact ⟨rfl, Blk.new w _ _, (Off.refl [] w).alloc _, by simp⟩

theorem optUseDataPadding (v : Int) (w : World) :
    Calls Tryz.prog 39 #[.int .u64 v] w fun e w' => e = .returned (setting 65 w.heap.size) ∧ Blk w' w.heap.size 30 #[.int .u64 v] ∧ Off [] w w' ∧ w'.heap.size = w.heap.size + 1 := by
  have hmf := run_mf
  go_enter Tryz.func39, Tryz.ntmps39
  go_wp2_with fail
  go_ret
  exact ⟨rfl, Blk.new w _ _, (Off.refl [] w).alloc _, by simp⟩

theorem optUseIndexPadding (v : Int) (w : World) :
    Calls Tryz.prog 40 #[.int .u64 v] w fun e w' => e = .returned (setting 66 w.heap.size) ∧ Blk w' w.heap.size 30 #[.int .u64 v] ∧ Off [] w w' ∧ w'.heap.size = w.heap.size + 1 := by
  have hmf := run_mf
  go_enter Tryz.func40, Tryz.ntmps40
  go_wp2_with fail
  go_ret
  exact ⟨rfl, Blk.new w _ _, (Off.refl [] w).alloc _, by simp⟩

/-- No options but that a length of zero is the end (z). -/
def zOpt (z : Bool) : Array Value := #[.bool z, .bool false, .bool false, .bool false, .bool false, .bool false, .int .u64 0, .int .u64 0, .int .u64 0, .int .u64 0, .int .u64 0, .int .u64 0]

/-- Block g holds the eight settings, each over its own box. -/
def OptsZ (z : Bool) (w : World) (g p1 p2 p3 p4 p5 p6 p7 p8 : Nat) : Prop := Blk w g 99 #[setting 59 p1, setting 60 p2, setting 61 p3, setting 62 p4, setting 63 p5, setting 64 p6, setting 65 p7, setting 66 p8] ∧ Blk w p1 4 #[.bool z] ∧ Blk w p2 4 #[.bool false] ∧ Blk w p3 4 #[.bool false] ∧ Blk w p4 4 #[.bool false] ∧ Blk w p5 4 #[.bool false] ∧ Blk w p6 4 #[.bool false] ∧ Blk w p7 30 #[.int .u64 0] ∧ Blk w p8 30 #[.int .u64 0]
set_option maxRecDepth 100000 in
set_option maxHeartbeats 4000000 in
theorem options_z (z : Bool) (w : World) :
    Calls Tryz.prog 16 #[.agg (zOpt z)] w fun e w' => ∃ g p1 p2 p3 p4 p5 p6 p7 p8, e = .returned (.slice (some ⟨g, 0, none⟩) 8 8) ∧ OptsZ z w' g p1 p2 p3 p4 p5 p6 p7 p8 ∧ Off [] w w' := by
  have hb := Blk.new w 32 (zOpt z)
  have HB := Lib.hid hb
  unfold zOpt
  clear hb
  go_enter Tryz.func16, Tryz.ntmps16
  go_wp2_with fail
  go_region_held3 (fun w' => Blk w' w.heap.size 32 (zOpt z) ∧ w'.cell? ⟨w.heap.size, 0, none⟩ = some (.bool z) ∧ w'.cell? ⟨w.heap.size, 1, none⟩ = some (.bool false) ∧ w'.cell? ⟨w.heap.size, 2, none⟩ = some (.bool false) ∧ w'.cell? ⟨w.heap.size, 3, none⟩ = some (.bool false) ∧ w'.cell? ⟨w.heap.size, 4, none⟩ = some (.bool false) ∧ w'.cell? ⟨w.heap.size, 5, none⟩ = some (.bool false) ∧ w'.cell? ⟨w.heap.size, 6, none⟩ = some (.int .u64 0) ∧ w'.cell? ⟨w.heap.size, 7, none⟩ = some (.int .u64 0)) (first | (exact ⟨HB.out, HB.out.cell 0, HB.out.cell 1, HB.out.cell 2, HB.out.cell 3, HB.out.cell 4, HB.out.cell 5, HB.out.cell 6, HB.out.cell 7⟩) | (exact ⟨K1.out, K1.out.cell 0, K1.out.cell 1, K1.out.cell 2, K1.out.cell 3, K1.out.cell 4, K1.out.cell 5, K1.out.cell 6, K1.out.cell 7⟩) | (exact ⟨K2.out, K2.out.cell 0, K2.out.cell 1, K2.out.cell 2, K2.out.cell 3, K2.out.cell 4, K2.out.cell 5, K2.out.cell 6, K2.out.cell 7⟩) | (exact ⟨K3.out, K3.out.cell 0, K3.out.cell 1, K3.out.cell 2, K3.out.cell 3, K3.out.cell 4, K3.out.cell 5, K3.out.cell 6, K3.out.cell 7⟩) | (exact ⟨K4.out, K4.out.cell 0, K4.out.cell 1, K4.out.cell 2, K4.out.cell 3, K4.out.cell 4, K4.out.cell 5, K4.out.cell 6, K4.out.cell 7⟩) | (exact ⟨K5.out, K5.out.cell 0, K5.out.cell 1, K5.out.cell 2, K5.out.cell 3, K5.out.cell 4, K5.out.cell 5, K5.out.cell 6, K5.out.cell 7⟩) | (exact ⟨K6.out, K6.out.cell 0, K6.out.cell 1, K6.out.cell 2, K6.out.cell 3, K6.out.cell 4, K6.out.cell 5, K6.out.cell 6, K6.out.cell 7⟩) | (exact ⟨K7.out, K7.out.cell 0, K7.out.cell 1, K7.out.cell 2, K7.out.cell 3, K7.out.cell 4, K7.out.cell 5, K7.out.cell 6, K7.out.cell 7⟩) | (exact ⟨K8.out, K8.out.cell 0, K8.out.cell 1, K8.out.cell 2, K8.out.cell 3, K8.out.cell 4, K8.out.cell 5, K8.out.cell 6, K8.out.cell 7⟩) | (exact ⟨K8.out.alloc _, (K8.out.alloc _).cell 0, (K8.out.alloc _).cell 1, (K8.out.alloc _).cell 2, (K8.out.alloc _).cell 3, (K8.out.alloc _).cell 4, (K8.out.alloc _).cell 5, (K8.out.alloc _).cell 6, (K8.out.alloc _).cell 7⟩)) (first
    | (go_at_call 33; refine (optZeroLengthSectionAsEOF _ _).mono ?_; rintro e w1 ⟨rfl, b1, o1, z1⟩; have k1 : Blk w1 w.heap.size 32 (zOpt z) := o1.blk (show Blk _ _ _ _ from HB.out) (by simp); have B1 := Lib.hid b1; have O1 := Lib.hid o1; have K1 := Lib.hid k1; have Z1 := Lib.hid z1; clear b1 o1 k1 z1)
    | (go_at_call 34; refine (optStoreIdentityCIDs _ _).mono ?_; rintro e w2 ⟨rfl, b2, o2, z2⟩; have k2 : Blk w2 w.heap.size 32 (zOpt z) := o2.blk K1.out (by simp); have B2 := Lib.hid b2; have O2 := Lib.hid o2; have K2 := Lib.hid k2; have Z2 := Lib.hid z2; clear b2 o2 k2 z2)
    | (go_at_call 35; refine (optAllowDuplicatePuts _ _).mono ?_; rintro e w3 ⟨rfl, b3, o3, z3⟩; have k3 : Blk w3 w.heap.size 32 (zOpt z) := o3.blk K2.out (by simp); have B3 := Lib.hid b3; have O3 := Lib.hid o3; have K3 := Lib.hid k3; have Z3 := Lib.hid z3; clear b3 o3 k3 z3)
    | (go_at_call 36; refine (optUseWholeCIDs _ _).mono ?_; rintro e w4 ⟨rfl, b4, o4, z4⟩; have k4 : Blk w4 w.heap.size 32 (zOpt z) := o4.blk K3.out (by simp); have B4 := Lib.hid b4; have O4 := Lib.hid o4; have K4 := Lib.hid k4; have Z4 := Lib.hid z4; clear b4 o4 k4 z4)
    | (go_at_call 37; refine (optWriteAsCarV1 _ _).mono ?_; rintro e w5 ⟨rfl, b5, o5, z5⟩; have k5 : Blk w5 w.heap.size 32 (zOpt z) := o5.blk K4.out (by simp); have B5 := Lib.hid b5; have O5 := Lib.hid o5; have K5 := Lib.hid k5; have Z5 := Lib.hid z5; clear b5 o5 k5 z5)
    | (go_at_call 38; refine (optWithTrustedCAR _ _).mono ?_; rintro e w6 ⟨rfl, b6, o6, z6⟩; have k6 : Blk w6 w.heap.size 32 (zOpt z) := o6.blk K5.out (by simp); have B6 := Lib.hid b6; have O6 := Lib.hid o6; have K6 := Lib.hid k6; have Z6 := Lib.hid z6; clear b6 o6 k6 z6)
    | (go_at_call 39; refine (optUseDataPadding _ _).mono ?_; rintro e w7 ⟨rfl, b7, o7, z7⟩; have k7 : Blk w7 w.heap.size 32 (zOpt z) := o7.blk K6.out (by simp); have B7 := Lib.hid b7; have O7 := Lib.hid o7; have K7 := Lib.hid k7; have Z7 := Lib.hid z7; clear b7 o7 k7 z7)
    | (go_at_call 40; refine (optUseIndexPadding _ _).mono ?_; rintro e w8 ⟨rfl, b8, o8, z8⟩; have k8 : Blk w8 w.heap.size 32 (zOpt z) := o8.blk K7.out (by simp); have B8 := Lib.hid b8; have O8 := Lib.hid o8; have K8 := Lib.hid k8; have Z8 := Lib.hid z8; clear b8 o8 k8 z8))
  rename_i hh
  have q8 := hh.1.cell 8
  have q9 := hh.1.cell 9
  have q10 := hh.1.cell 10
  have q11 := hh.1.cell 11
  simp only [zOpt] at q8 q9 q10 q11
  have e8 : (w8.alloc (.cells #[setting 59 (w.heap.size + 1), setting 60 w1.heap.size, setting 61 w2.heap.size, setting 62 w3.heap.size, setting 63 w4.heap.size, setting 64 w5.heap.size, setting 65 w6.heap.size, setting 66 w7.heap.size] 99)).cell? ⟨w.heap.size, 8, none⟩ = some (.int .u64 0) := q8
  have e9 : (w8.alloc (.cells #[setting 59 (w.heap.size + 1), setting 60 w1.heap.size, setting 61 w2.heap.size, setting 62 w3.heap.size, setting 63 w4.heap.size, setting 64 w5.heap.size, setting 65 w6.heap.size, setting 66 w7.heap.size] 99)).cell? ⟨w.heap.size, 9, none⟩ = some (.int .u64 0) := q9
  have e10 : (w8.alloc (.cells #[setting 59 (w.heap.size + 1), setting 60 w1.heap.size, setting 61 w2.heap.size, setting 62 w3.heap.size, setting 63 w4.heap.size, setting 64 w5.heap.size, setting 65 w6.heap.size, setting 66 w7.heap.size] 99)).cell? ⟨w.heap.size, 10, none⟩ = some (.int .u64 0) := q10
  have e11 : (w8.alloc (.cells #[setting 59 (w.heap.size + 1), setting 60 w1.heap.size, setting 61 w2.heap.size, setting 62 w3.heap.size, setting 63 w4.heap.size, setting 64 w5.heap.size, setting 65 w6.heap.size, setting 66 w7.heap.size] 99)).cell? ⟨w.heap.size, 11, none⟩ = some (.int .u64 0) := q11
  clear q8 q9 q10 q11 hh
  go_wp2_with fail
  go_ret
  have a12 := O2.out
  have a23 := O3.out
  have a34 := O4.out
  have a45 := O5.out
  have a56 := O6.out
  have a67 := O7.out
  have a78 := O8.out
  have s2 := a12
  have n : ∀ x : Nat, x ∉ ([] : List Nat) := fun x => by simp
  have b1 := a78.blk (a67.blk (a56.blk (a45.blk (a34.blk (a23.blk (a12.blk B1.out (n _)) (n _)) (n _)) (n _)) (n _)) (n _)) (n _)
  have b2 := a78.blk (a67.blk (a56.blk (a45.blk (a34.blk (a23.blk B2.out (n _)) (n _)) (n _)) (n _)) (n _)) (n _)
  have b3 := a78.blk (a67.blk (a56.blk (a45.blk (a34.blk B3.out (n _)) (n _)) (n _)) (n _)) (n _)
  have b4 := a78.blk (a67.blk (a56.blk (a45.blk B4.out (n _)) (n _)) (n _)) (n _)
  have b5 := a78.blk (a67.blk (a56.blk B5.out (n _)) (n _)) (n _)
  have b6 := a78.blk (a67.blk B6.out (n _)) (n _)
  have b7 := a78.blk B7.out (n _)
  have o : Off [] w w8 := ((((((((((Off.refl [] w).alloc (.cells (zOpt z) 32)).drew).then O1.out (by simp)).then a12 (by simp)).then a23 (by simp)).then a34 (by simp)).then a45 (by simp)).then a56 (by simp)).then a67 (by simp)).then a78 (by simp)
  exact ⟨_, _, _, _, _, _, _, _, _, rfl, ⟨Blk.new w8 _ _, Blk.alloc (b1.at (by simp)) _, b2.alloc _, b3.alloc _, b4.alloc _, b5.alloc _, b6.alloc _, b7.alloc _, B8.out.alloc _⟩, o.alloc _⟩
end Go.Proofs.YthmhnknkidkdlaaGreatDoor
