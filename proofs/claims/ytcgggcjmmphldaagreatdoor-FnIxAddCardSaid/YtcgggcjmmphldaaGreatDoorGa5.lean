/-
  An identifier is made of its parts: impl.cidIn at tidy identifiers.
  What the statements' own guards compute of an identifier.
  (No condition beyond those that each theorem states.)
-/
import Derived.Test.YtcgggcjmmphldaaGreatDoorGa4
import Derived.Deep.RegionHeld3
namespace Go.Proofs.YtcgggcjmmphldaaGreatDoor
open Go.RowKit

theorem cidIn_idle (p q : Addr) (w : World) :
    CallsD Tryz.prog 61 #[.pointer (some p), .pointer (some q)] .returning w fun e u' w' => e = .returned (.tuple #[]) ∧ u' = .returning ∧ w' = w := by
  refine callsD_of_wpS Tryz.func61 rfl fun c₀ cs hu => ?_
  apply wpS_seq
  apply wpS_region
  simp [wpOpsS, go_sem, recoverD, hu, Tryz.ntmps61, Exit.thenS]
  refine wpS_cond (t := false) (by simp [Act.eval, Array.replicate]) ?_
  simp only [Bool.false_eq_true, if_false]
  refine wpS_of_wp (wp_skip ?_)
  cases c₀
  simp_all [bodyPostS, results, Tryz.results61]

theorem encode_n (b o n c code : Nat) (d : List UInt8) (w : World) (hn : n = d.length) (hd : n ≤ 2147483647) (hc : code < 18446744073709551616) (hs : Seg w b o d) :
    Calls Tryz.prog 62 #[.slice (some ⟨b, o, none⟩) n c, .int .u64 code] w fun e w' =>
      ∃ g, e = .returned (.tuple #[.slice (some ⟨g, 0, none⟩) (mhB code d).length (mhB code d).length, .nilIface]) ∧ w.heap.size ≤ g ∧ Blk w' g 5 (Lib.byteCells (mhB code d)).toArray ∧ Below w.heap.size w w' := by
  subst hn
  exact (encode_any b o c code d w hd hc hs).mono fun e w' ⟨h1, h2, h3⟩ => ⟨_, h1, Nat.le_refl _, h2, h3⟩
theorem seg_bytes (W : World) (s : ByteArray) (c : Nat) (t : TypeId) (fr : Nat × Nat) : Seg (W.alloc (.cells (bytesRow s c) t fr)) W.heap.size 0 s.data.toList := by
  have hh := heap_alloc_new W (.cells (bytesRow s c) t fr)
  rw [← bytesRow_list] at hh
  have hs := Seg.of_bytes hh
  rw [bytesRow_list] at hs
  exact hs

/-- An identifier as a value: version, codec, code, digest. -/
abbrev cidV (ver codec code : Nat) (dg : ByteArray) : Value := .agg #[.int .u64 ver, .int .u64 codec, .int .u64 code, .string dg]

set_option maxRecDepth 100000 in
set_option maxHeartbeats 1000000 in
theorem cidIn_one (codec code : Nat) (dg : ByteArray) (w : World) (hx : codec < 18446744073709551616) (hc : code < 18446744073709551616) (hd : dg.size ≤ 2147483647) :
    Calls Tryz.prog 39 #[cidV 1 codec code dg] w fun e w' => e = .returned (.tuple #[.agg #[.string (str (cid1 codec (mhB code dg.data.toList)))], .bool true]) ∧ Below w.heap.size w w' := by
  have hmf : ∀ (fn : Fn) (first cap : Array Value) (w : World), (Instr.makeFunc fn first cap).run Tryz.prog w = .ok (.func fn first cap) w := fun _ _ _ _ => rfl
  have hcv := fun W => run_bytes_of_string (P := Tryz.prog) W 9 46 5 dg Tryz.underlying9 Tryz.underlying46 Tryz.underlying5
  have hl1 := Lib.uvarint_length64 hc
  have hl2 := Lib.uvarint_length64 (x := dg.data.toList.length) (by simp; omega)
  have hml : (mhB code dg.data.toList).length ≤ 2147483700 := by rw [mhB_length]; simp at hl2 ⊢; omega
  have hmp := mhB_pos code dg.data.toList
  have HX := Lib.hid hx
  have HC := Lib.hid hc
  clear hx hc hl1 hl2
  go_enter_defers Tryz.func39, Tryz.ntmps39
  go_wp2_with fail
  refine (encode_n _ _ _ _ code dg.data.toList _ (by simp) hd HC.out ?_).mono ?_
  · have h := seg_bytes ((((w.alloc (.cells #[Value.int .u64 1, .int .u64 codec, .int .u64 code, .string dg] 25)).alloc (.cells #[Value.string ByteArray.empty] 78)).alloc (.cells #[Value.bool false] 4))) dg
    simp only [size_alloc] at h
    exact (h _ _ _).drew
  rintro e w1 ⟨g, rfl, hg, hb1, hB1⟩
  have hz1 := hB1.size
  simp at hz1 hg
  have hkN : Blk w1 w.heap.size 25 #[.int .u64 1, .int .u64 codec, .int .u64 code, .string dg] := Blk.below ((((((Blk.new w _ _).alloc _).alloc _).alloc _)).drew) hB1 (by simp; omega)
  have hkM : Blk w1 (w.heap.size + 1) 78 #[.string ByteArray.empty] := Blk.below (((((Blk.new' (w.alloc _) _ _ (by simp)).alloc _).alloc _)).drew) hB1 (by simp)
  have hkP : Blk w1 (w.heap.size + 1 + 1) 4 #[.bool false] := Blk.below ((((Blk.new' ((w.alloc _).alloc _) _ _ (by simp)).alloc _)).drew) hB1 (by simp)
  have hBw : Below w.heap.size w w1 := Below.trans (((((Below.refl _ w).alloc (Nat.le_refl _) _).alloc (by simp) _).alloc (by simp; omega) _).alloc (by simp; omega) _).drew (hB1.mono (by simp; omega))
  have hgz := hb1.lt
  have HS := Lib.hid hb1.seg'
  have HM := Lib.hid hkM
  have HP := Lib.hid hkP
  have HB := Lib.hid hBw
  have c0 := hkN.cell 0
  have c1 := hkN.cell 1
  simp at c0 c1
  clear hB1 hb1 hkM hkP hBw hkN hcv
  go_wp2_with fail
  refine (newV1_ok codec g 0 _ _ (mhB code dg.data.toList) w1 HX.out rfl (by omega) hml HS.out).mono ?_
  rintro e w2 ⟨rfl, hB2⟩
  have hkM2 := HM.out.below hB2 (by omega)
  have hkP2 := HP.out.below hB2 (by omega)
  have m0 := hkM2.cell 0
  have mf0 := hkM2.frozen 0
  have p0 := hkP2.cell 0
  have pf0 := hkP2.frozen 0
  simp at m0 p0
  have HB2 := Lib.hid (HB.out.trans (hB2.mono (by omega)))
  have HM2 := Lib.hid hkM2
  have HP2 := Lib.hid hkP2
  clear hB2 hkM2 hkP2 c0 c1
  go_wp2_with fail
  refine leaves_cons (f := 61) (args := #[.pointer (some ⟨w.heap.size + 1, 0, none⟩), .pointer (some ⟨w.heap.size + 1 + 1, 0, none⟩)]) (by simp) (by simp [go_sem]) ?_
  refine (cidIn_idle _ _ _).mono ?_
  rintro e u' w'' ⟨rfl, rfl, rfl⟩
  have hA : Blk ((w2.setCell ⟨w.heap.size + 1, 0, none⟩ (.string (str (cid1 codec (mhB code dg.data.toList))))).setCell ⟨w.heap.size + 1 + 1, 0, none⟩ (.bool true)) (w.heap.size + 1) 78 #[.string (str (cid1 codec (mhB code dg.data.toList)))] :=
    (HM2.out.fill1).far (p := ⟨w.heap.size + 1 + 1, 0, none⟩) (by simp) _
  have hP : Blk ((w2.setCell ⟨w.heap.size + 1, 0, none⟩ (.string (str (cid1 codec (mhB code dg.data.toList))))).setCell ⟨w.heap.size + 1 + 1, 0, none⟩ (.bool true)) (w.heap.size + 1 + 1) 4 #[.bool true] :=
    (HP2.out.far (p := ⟨w.heap.size + 1, 0, none⟩) (by simp) _).fill1
  have hb1 : Below w.heap.size w ((w2.setCell ⟨w.heap.size + 1, 0, none⟩ (.string (str (cid1 codec (mhB code dg.data.toList))))).setCell ⟨w.heap.size + 1 + 1, 0, none⟩ (.bool true)) :=
    (HB2.out.setCell (p := ⟨w.heap.size + 1, 0, none⟩) (by simp) _).setCell (p := ⟨w.heap.size + 1 + 1, 0, none⟩) (by simp; omega) _
  exact ⟨_, results_row_one rfl _ hA hP rfl rfl Tryz.underlying78 rfl (by kernel_rfl) Tryz.underlying4 rfl, rfl, hb1⟩

set_option maxRecDepth 100000 in
set_option maxHeartbeats 1000000 in
theorem cidIn_zero (dg : ByteArray) (w : World) (hdl : dg.data.toList.length = 32) :
    Calls Tryz.prog 39 #[cidV 0 112 18 dg] w fun e w' => e = .returned (.tuple #[.agg #[.string (str (mhB 18 dg.data.toList))], .bool true]) ∧ Below w.heap.size w w' := by
  have hmf : ∀ (fn : Fn) (first cap : Array Value) (w : World), (Instr.makeFunc fn first cap).run Tryz.prog w = .ok (.func fn first cap) w := fun _ _ _ _ => rfl
  have hcv := fun W => run_bytes_of_string (P := Tryz.prog) W 9 46 5 dg Tryz.underlying9 Tryz.underlying46 Tryz.underlying5
  have hd : dg.size ≤ 2147483647 := by simp at hdl; omega
  have hml : (mhB 18 dg.data.toList).length = 34 := by rw [mhB_v0 _ hdl]; simp at hdl ⊢; omega
  have HDL := Lib.hid hdl
  have HML := Lib.hid hml
  clear hdl hml
  go_enter_defers Tryz.func39, Tryz.ntmps39
  go_wp2_with fail
  refine (encode_n _ _ _ _ 18 dg.data.toList _ (by simp) hd (by omega) ?_).mono ?_
  · have h := seg_bytes ((((w.alloc (.cells #[Value.int .u64 0, .int .u64 112, .int .u64 18, .string dg] 25)).alloc (.cells #[Value.string ByteArray.empty] 78)).alloc (.cells #[Value.bool false] 4))) dg
    simp only [size_alloc] at h
    exact (h _ _ _).drew
  rw [HML.out]
  rintro e w1 ⟨g, rfl, hg, hb1, hB1⟩
  have hz1 := hB1.size
  simp at hz1 hg
  have hkN : Blk w1 w.heap.size 25 #[.int .u64 0, .int .u64 112, .int .u64 18, .string dg] := Blk.below ((((((Blk.new w _ _).alloc _).alloc _).alloc _)).drew) hB1 (by simp; omega)
  have hkM : Blk w1 (w.heap.size + 1) 78 #[.string ByteArray.empty] := Blk.below (((((Blk.new' (w.alloc _) _ _ (by simp)).alloc _).alloc _)).drew) hB1 (by simp)
  have hkP : Blk w1 (w.heap.size + 1 + 1) 4 #[.bool false] := Blk.below ((((Blk.new' ((w.alloc _).alloc _) _ _ (by simp)).alloc _)).drew) hB1 (by simp)
  have hBw : Below w.heap.size w w1 := Below.trans (((((Below.refl _ w).alloc (Nat.le_refl _) _).alloc (by simp) _).alloc (by simp; omega) _).alloc (by simp; omega) _).drew (hB1.mono (by simp; omega))
  have hgz := hb1.lt
  have HS := Lib.hid hb1.seg'
  have HM := Lib.hid hkM
  have HP := Lib.hid hkP
  have HB := Lib.hid hBw
  have c0 := hkN.cell 0
  have c1 := hkN.cell 1
  simp at c0 c1
  clear hB1 hb1 hkM hkP hBw hkN hcv
  go_wp2_with fail
  have HV := Lib.hid (fun W (hW : Drew w1 W) => newV0_ok g 0 34 dg.data.toList W HDL.out (Nat.le_refl _) (hW.seg HS.out) (by rw [hW.size]; exact hgz))
  have HF := Lib.hid (fun W W2 (hW : Drew w1 W) (hB : Below W.heap.size W W2) => (And.intro ((hW.blk HM.out).below hB (by rw [hW.size]; omega)) (And.intro ((hW.blk HP.out).below hB (by rw [hW.size]; omega)) ((HB.out.trans (hW.below _)).trans (hB.mono (by rw [hW.size]; omega))))))
  refine wp_region_noPanic ?_
  go_region_with (go_at_call 63; refine (HV.out _ (Drew.one w1)).mono ?_; rintro e w2 ⟨rfl, hB2⟩; have HX2 := Lib.hid (HF.out _ _ (Drew.one w1) hB2); have m0 := HX2.out.1.cell 0; have mf0 := HX2.out.1.frozen 0; have p0 := HX2.out.2.1.cell 0; have pf0 := HX2.out.2.1.frozen 0; simp at m0 p0; have cB := bcell hB2; have c1' := hB2.cell (p := ⟨w.heap.size, 1, none⟩) (by simp; omega); simp [c1] at c1'; clear hB2 cB)
  all_goals
    refine NoPanic.normal ?_
    go_wp2_with fail
    refine leaves_cons (f := 61) (args := #[.pointer (some ⟨w.heap.size + 1, 0, none⟩), .pointer (some ⟨w.heap.size + 1 + 1, 0, none⟩)]) (by simp) (by simp [go_sem]) ?_
    refine (cidIn_idle _ _ _).mono ?_
    rintro e u' w'' ⟨rfl, rfl, rfl⟩
    obtain ⟨hM2, hP2, hB2⟩ := HX2.out
    have hA := (hM2.fill1 (a' := .string (str (mhB 18 dg.data.toList)))).far (p := ⟨w.heap.size + 1 + 1, 0, none⟩) (by simp) (.bool true)
    have hP := (hP2.far (p := ⟨w.heap.size + 1, 0, none⟩) (by simp) (.string (str (mhB 18 dg.data.toList)))).fill1 (a' := .bool true)
    have hb1 := (hB2.setCell (p := ⟨w.heap.size + 1, 0, none⟩) (by simp) (.string (str (mhB 18 dg.data.toList)))).setCell (p := ⟨w.heap.size + 1 + 1, 0, none⟩) (by simp; omega) (.bool true)
    exact ⟨_, results_row_one rfl _ hA hP rfl rfl Tryz.underlying78 rfl (by kernel_rfl) Tryz.underlying4 rfl, rfl, hb1⟩
end Go.Proofs.YtcgggcjmmphldaaGreatDoor
namespace Go.Proofs.YtcgggcjmmphldaaGreatDoor
open Go.RowKit

/-- Is it a tidy identifier? -/
def tidyB (ver codec code n : Nat) : Bool := if ver = 0 then (codec == 112 && code == 18 && n == 32) else (ver == 1 && decide (codec < 9223372036854775808) && decide (code < 9223372036854775808))

theorem beqT {a : Nat} {b : Int} (h : (a : Int) = b) : ((a : Int) == b) = true := beq_iff_eq.2 h
theorem beqF {a : Nat} {b : Int} (h : ¬ (a : Int) = b) : ((a : Int) == b) = false := beq_eq_false_iff_ne.2 h

set_option maxRecDepth 100000 in
set_option maxHeartbeats 2000000 in
theorem tidy_any (ver codec code : Nat) (dg : ByteArray) (w : World) :
    Calls Tryz.prog 19 #[cidV ver codec code dg] w fun e w' => e = .returned (.bool (tidyB ver codec code dg.size)) ∧ Below w.heap.size w w' := by
  obtain ⟨B, hB⟩ : ∃ B, B = tidyB ver codec code dg.size := ⟨_, rfl⟩
  rw [← hB]
  have HB := Lib.hid hB
  clear hB
  have cs : (ver = 0 ∧ ¬ codec = 112) ∨ (ver = 0 ∧ codec = 112 ∧ ¬ code = 18) ∨ (ver = 0 ∧ codec = 112 ∧ code = 18 ∧ ¬ dg.size = 32) ∨ (ver = 0 ∧ codec = 112 ∧ code = 18 ∧ dg.size = 32) ∨ (¬ ver = 0 ∧ ¬ ver = 1) ∨
      (ver = 1 ∧ ¬ codec < 9223372036854775808) ∨ (ver = 1 ∧ codec < 9223372036854775808 ∧ ¬ code < 9223372036854775808) ∨ (ver = 1 ∧ codec < 9223372036854775808 ∧ code < 9223372036854775808) := by omega
  rcases cs with ⟨h1, h2⟩ | ⟨h1, h2, h3⟩ | ⟨h1, h2, h3, h4⟩ | ⟨h1, h2, h3, h4⟩ | ⟨h1, h2⟩ | ⟨h1, h2⟩ | ⟨h1, h2, h3⟩ | ⟨h1, h2, h3⟩
  · have a0 := beqT (b := 0) (a := ver) (by omega)
    have a1 := beqF (b := 112) (a := codec) (by omega)
    have H := Lib.hid (And.intro h1 h2)
    clear h1 h2
    go_enter Tryz.func19, Tryz.ntmps19
    go_wp2_with fail
    go_ret
    refine ⟨?_, (Below.refl _ w).alloc (Nat.le_refl _) _⟩
    have := H.out
    rw [HB.out]; simp [tidyB, this]
  · have a0 := beqT (b := 0) (a := ver) (by omega)
    have a1 := beqT (b := 112) (a := codec) (by omega)
    have a2 := beqF (b := 18) (a := code) (by omega)
    have H := Lib.hid (And.intro h1 (And.intro h2 h3))
    clear h1 h2 h3
    go_enter Tryz.func19, Tryz.ntmps19
    go_wp2_with fail
    go_ret
    refine ⟨?_, (Below.refl _ w).alloc (Nat.le_refl _) _⟩
    have := H.out
    rw [HB.out]; simp [tidyB, this]
  · have a0 := beqT (b := 0) (a := ver) (by omega)
    have a1 := beqT (b := 112) (a := codec) (by omega)
    have a2 := beqT (b := 18) (a := code) (by omega)
    have a3 := beqF (b := 32) (a := dg.size) (by omega)
    have H := Lib.hid (And.intro h1 (And.intro h2 (And.intro h3 h4)))
    clear h1 h2 h3 h4
    go_enter Tryz.func19, Tryz.ntmps19
    go_wp2_with fail
    go_ret
    refine ⟨?_, (Below.refl _ w).alloc (Nat.le_refl _) _⟩
    have := H.out
    rw [HB.out]; simp [tidyB, this]
  · have a0 := beqT (b := 0) (a := ver) (by omega)
    have a1 := beqT (b := 112) (a := codec) (by omega)
    have a2 := beqT (b := 18) (a := code) (by omega)
    have a3 := beqT (b := 32) (a := dg.size) (by omega)
    have H := Lib.hid (And.intro h1 (And.intro h2 (And.intro h3 h4)))
    clear h1 h2 h3 h4
    go_enter Tryz.func19, Tryz.ntmps19
    go_wp2_with fail
    go_ret
    refine ⟨?_, (Below.refl _ w).alloc (Nat.le_refl _) _⟩
    have := H.out
    rw [HB.out]; simp [tidyB, this]
  · have a0 := beqF (b := 0) (a := ver) (by omega)
    have a1 := beqF (b := 1) (a := ver) (by omega)
    have H := Lib.hid (And.intro h1 h2)
    clear h1 h2
    go_enter Tryz.func19, Tryz.ntmps19
    go_wp2_with fail
    go_ret
    refine ⟨?_, (Below.refl _ w).alloc (Nat.le_refl _) _⟩
    have := H.out
    rw [HB.out]; simp [tidyB, this]
  · have a0 := beqF (b := 0) (a := ver) (by omega)
    have a1 := beqT (b := 1) (a := ver) (by omega)
    have a2 : ¬ ((codec : Int) < 9223372036854775808) := by omega
    have H := Lib.hid (And.intro h1 h2)
    clear h1 h2
    go_enter Tryz.func19, Tryz.ntmps19
    go_wp2_with fail
    go_ret
    refine ⟨?_, (Below.refl _ w).alloc (Nat.le_refl _) _⟩
    have := H.out
    rw [HB.out]; simp [tidyB, this]
  · have a0 := beqF (b := 0) (a := ver) (by omega)
    have a1 := beqT (b := 1) (a := ver) (by omega)
    have a2 : (codec : Int) < 9223372036854775808 := by omega
    have a3 : ¬ ((code : Int) < 9223372036854775808) := by omega
    have H := Lib.hid (And.intro h1 (And.intro h2 h3))
    clear h1 h2 h3
    go_enter Tryz.func19, Tryz.ntmps19
    go_wp2_with fail
    go_ret
    refine ⟨?_, (Below.refl _ w).alloc (Nat.le_refl _) _⟩
    have := H.out
    rw [HB.out]; simp [tidyB, this]
  · have a0 := beqF (b := 0) (a := ver) (by omega)
    have a1 := beqT (b := 1) (a := ver) (by omega)
    have a2 : (codec : Int) < 9223372036854775808 := by omega
    have a3 : (code : Int) < 9223372036854775808 := by omega
    have H := Lib.hid (And.intro h1 (And.intro h2 h3))
    clear h1 h2 h3
    go_enter Tryz.func19, Tryz.ntmps19
    go_wp2_with fail
    go_ret
    refine ⟨?_, (Below.refl _ w).alloc (Nat.le_refl _) _⟩
    have := H.out
    rw [HB.out]; simp [tidyB, this]

set_option maxRecDepth 100000 in
theorem zzFits1_any (ver codec code : Nat) (dg : ByteArray) (w : World) :
    Calls Tryz.prog 18 #[cidV ver codec code dg] w fun e w' => e = .returned (.bool (decide (dg.size ≤ 2147483647))) ∧ Below w.heap.size w w' := by
  by_cases h : dg.size ≤ 2147483647
  · have h2 : ¬ (2147483647 < (dg.size : Int)) := by omega
    rw [show decide (dg.size ≤ 2147483647) = true from by simpa using h]
    clear h
    go_enter Tryz.func18, Tryz.ntmps18
    go_wp2_with fail
    go_ret
    exact ⟨rfl, (Below.refl _ w).alloc (Nat.le_refl _) _⟩
  · have h2 : (2147483647 < (dg.size : Int)) := by omega
    rw [show decide (dg.size ≤ 2147483647) = false from by simpa using h]
    clear h
    go_enter Tryz.func18, Tryz.ntmps18
    go_wp2_with fail
    go_ret
    exact ⟨rfl, (Below.refl _ w).alloc (Nat.le_refl _) _⟩
end Go.Proofs.YtcgggcjmmphldaaGreatDoor
