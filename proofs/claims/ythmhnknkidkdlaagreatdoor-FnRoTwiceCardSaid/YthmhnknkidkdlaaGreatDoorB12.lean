/-
  car.ExtractV1File, impl.WrExtract over a file of version 2 in memory.
  car.ExtractV1File, impl.WrExtract over a file in memory that holds already what is extracted.
  The CBOR decoder's state over any bytes: its readers, its stack, what is left to read at two levels.
  (No condition beyond those that each theorem states.)
-/
import Derived.Test.YthmhnknkidkdlaaGreatDoorB07
import Derived.Test.YthmhnknkidkdlaaGreatDoorB08
import Derived.Test.YthmhnknkidkdlaaGreatDoorB11
import Derived.Test.YthmhnknkidkdlaaGreatDoorB02
import Derived.Test.YthmhnknkidkdlaaGreatDoorB10
namespace Go.Proofs.YthmhnknkidkdlaaGreatDoor
open Go.RowKit

theorem method_memSize (a : Addr) (w : World) : (method 480 61 (.pointer (some a)) "Size").run Tryz.prog w = .ok (159, .pointer (some a)) w := by kernel_rfl
theorem method_seekX (a : Addr) (w : World) : (method 480 55 (.pointer (some a)) "Seek").run Tryz.prog w = .ok (144, .pointer (some a)) w := by kernel_rfl

set_option maxRecDepth 100000 in
theorem memSize {m g0 B a : Nat} {l : List UInt8} {w : World} (h : MemAt m g0 B l a w) (_hl : l.length ≤ 1000000000) :
    Calls Tryz.prog 159 #[.pointer (some ⟨m, 0, none⟩)] w fun e w' => e = .returned (.int .i64 (l.length : Int)) ∧ w' = w := by
  obtain ⟨v, hb, hr, _⟩ := h.ex
  obtain ⟨q, cap, hv, _⟩ := hr.seg
  have c0 : w.cell? ⟨m, 0, none⟩ = some v := hb.cell 0
  rw [hv] at c0
  clear hv hb hr h
  generalize l.length = n at c0 _hl ⊢
  go_enter Tryz.func159, Tryz.ntmps159
  go_wp2_with fail
  go_ret
  exact ⟨rfl, rfl⟩

/-- What car.ErrAlreadyV1 holds: some error. -/
def Alr (w : World) : Prop := ∃ a : Addr, w.cell? ⟨0, 0, none⟩ = some (.iface 152 (.pointer (some a)))
theorem Alr.off {w w' : World} {S : List Nat} (h : Alr w) (k : Off S w w') (hS : 0 ∉ S) : Alr w' := by
  obtain ⟨a, h⟩ := h
  exact ⟨a, (World.cell?_of_block (k.block _ (World.block_lt_of_cell? _ _ h) hS)).trans h⟩
theorem eql_nil_some (a : Addr) (W : World) : (binOp .eql 53 .nilIface (.iface 152 (.pointer (some a)))).run Tryz.prog W = .ok (.bool false) W := by kernel_rfl

end Go.Proofs.YthmhnknkidkdlaaGreatDoor
namespace Go.Proofs.YthmhnknkidkdlaaGreatDoor
open Go.RowKit

set_option maxRecDepth 100000 in
set_option maxHeartbeats 4000000 in
theorem extract_in {m g0 B lo : Nat} {w : World} (d n : Nat) (l : List UInt8) (h : MemAt m g0 B ((l.drop d).take n) 0 w) (hBw : B ≤ w.heap.size) (R rb cap g p1 p2 p3 p4 p5 p6 p7 p8 hi lw x : Nat) (t : List UInt8) (hR : RAt R rb cap l 0 w) (hRm : R ≠ m) (hRg : R ≠ g0) (hrm : rb ≠ m) (hrg : rb ≠ g0) (hrB : rb < B) (hg0 : g0 < w.heap.size)
    (hl1 : lo ≤ m) (hl2 : lo ≤ g0) (hl3 : lo ≤ R) (hl4 : lo ≤ B) (hp : l = pragB ++ t) (hh : (l.drop 11).take 40 = headB hi lw d n x) (hhi : hi < 18446744073709551616) (hlo : lw < 18446744073709551616) (hd1 : 51 ≤ d) (hn1 : 0 < n) (hn2 : n ≤ 10000000) (hdn : d + n ≤ l.length) (hx2 : x < 9223372036854775808)
    (qe : Addr) (hE : EofA qe w) (hER : 1 < R) (ho : OptsZ false w g p1 p2 p3 p4 p5 p6 p7 p8) :
    Calls Tryz.prog 18 #[.iface 55 (.pointer (some ⟨R, 0, none⟩)), .iface 61 (.pointer (some ⟨m, 0, none⟩)), .slice (some ⟨g, 0, none⟩) 8 8] w fun e w' => e = .returned .nilIface ∧ MemAt m g0 B ((l.drop d).take n) n w' ∧ Below lo w w' := by
  have hml := h.lt
  have hRl := hR.lt
  have hll := hR.len
  have HRV := Lib.hid (readVersion_prag hR hp hE.eof hER ho)
  have hm1 := method_seekX
  have hm2 := method_memSize
  have hH : ∀ W, RAt R rb cap l 11 W → R < W.heap.size → rb < W.heap.size → Calls Tryz.prog 47 #[.pointer (some ⟨W.heap.size, 0, none⟩), .iface 55 (.pointer (some ⟨R, 0, none⟩))] (W.alloc (.cells #[.int .u64 0, .int .u64 0, .int .u64 0, .int .u64 0, .int .u64 0] 87)) fun e w' => e = .returned (.tuple #[.int .i64 40, .nilIface]) ∧ RAt R rb cap l 51 w' ∧ Blk w' W.heap.size 87 #[.int .u64 (hi : Int), .int .u64 (lw : Int), .int .u64 (d : Int), .int .u64 (n : Int), .int .u64 (x : Int)] ∧ Off [R, W.heap.size] (W.alloc (.cells #[.int .u64 0, .int .u64 0, .int .u64 0, .int .u64 0, .int .u64 0] 87)) w' := fun W h1 h2 h3 =>
    headerRead (h1.off (S := []) ((Off.refl [] W).alloc _) (by simp) (by simp)) W.heap.size hi lw d n x _ _ _ _ _ (Blk.new W _ _) hh (by omega) (by omega) (by omega) hhi hlo hd1 (by omega) hn1 (by omega) hx2
  have HH := Lib.hid hH
  have HM := Lib.hid h
  have HR := Lib.hid hR
  have hbl : rb < w.heap.size := by omega
  have hwd : IntKind.i64.wrap (d : Int) = (d : Int) := by rw [IntKind.wrap_i64]; omega
  have hwn : IntKind.i64.wrap (n : Int) = (n : Int) := by rw [IntKind.wrap_i64]; omega
  have hb1 : ¬ (d : Int) < 51 := by omega
  have hb2 : ¬ (n : Int) ≤ 0 := by omega
  have hb3 : ¬ (n : Int) < 0 := by omega
  have hb4 : (0 : Int) ≤ (n : Int) := by omega
  have hb5 : (0 : Int) < (n : Int) := by omega
  have hmx : max (n : Int) 0 = (n : Int) := by omega
  clear h hR hp hh hE ho hH
  go_enter Tryz.func18, Tryz.ntmps18
  go_wp2_with (first
    | (go_at_call 45; refine HRV.out.mono ?_; rintro e w1 ⟨rfl, hR1, hO1⟩; have hs1 := hO1.size; have HH1 := Lib.hid (HH.out w1 hR1 (by omega) (by omega)); have HR1 := Lib.hid hR1; have HO1 := Lib.hid hO1; clear hR1 hO1)
    | (go_at_call 47; refine HH1.out.mono ?_; rintro e w2 ⟨rfl, hR2, hB2, hO2⟩; have d2 : w2.cell? ⟨w1.heap.size, 2, none⟩ = some (.int .u64 (d : Int)) := hB2.cell 2; have d3 : w2.cell? ⟨w1.heap.size, 3, none⟩ = some (.int .u64 (n : Int)) := hB2.cell 3; have hs2 := hO2.size; have HSK := Lib.hid (seek_to hR2 d (by omega)); have HR2 := Lib.hid hR2; have HB2 := Lib.hid hB2; have HO2 := Lib.hid hO2; clear hR2 hO2 hB2)
    | (go_at_call 144; refine HSK.out.mono ?_; rintro e w3 ⟨rfl, hR3, hO3⟩; have HR3 := Lib.hid hR3; have HO3 := Lib.hid hO3; clear hR3 hO3))
  have hO3 : Off [R] w w3 := ((HO1.out.alloc _).then HO2.out (fun x hx => by simp at hx; rcases hx with rfl | rfl; exact Or.inl (by simp); exact Or.inr hs1)).then HO3.out (fun x hx => Or.inl hx)
  have hM3 := HM.out.off hO3 (ni1 (Ne.symm hRm)) (fun x hx => by
    simp at hx
    subst hx
    obtain ⟨q, hq⟩ := HR.out.rd
    exact ⟨hRg, fun _ _ => ⟨_, _, by decide, hq⟩⟩)
  have hs3 := hO3.size
  have HO := Lib.hid hO3
  refine (zzCopy_in l d n hM3 (by omega) R rb cap HR3.out hRm hRg hrm hrg hrB hdn hn1 hn2 (by omega) hl1 hl2 hl3 hl4).mono ?_
  rintro e w4 ⟨rfl, hM4, hB4⟩
  have hlen : ((l.drop d).take n).length = n := by rw [List.length_take, List.length_drop]; omega
  have hSZ := memSize hM4 (by omega)
  rw [hlen] at hSZ
  have HSZ := Lib.hid hSZ
  have HM4 := Lib.hid hM4
  have HB4 := Lib.hid hB4
  clear hM3 hO3 hM4 hB4 hlen hSZ
  go_wp2_with (go_at_call 159; refine HSZ.out.mono ?_; rintro e w5 ⟨rfl, rfl⟩)
  go_ret
  exact ⟨rfl, HM4.out, (HO.out.belowLo (by omega) (fun x hx => by simp at hx; rw [hx]; exact hl3)).trans HB4.out⟩

set_option maxRecDepth 100000 in
set_option maxHeartbeats 4000000 in
theorem wrExtract_in (hi lw d n x : Nat) (s ov : ByteArray) (l t : List UInt8) (hs : s.data.toList = l) (hov : ov.data.toList = (l.drop d).take n) (hovz : ov.size = n) (w : World) (hL : s.size ≤ 2147483700) (hp : l = pragB ++ t) (hh : (l.drop 11).take 40 = headB hi lw d n x) (hhi : hi < 18446744073709551616) (hlo : lw < 18446744073709551616) (hd1 : 51 ≤ d) (hn1 : 0 < n) (hn2 : n ≤ 10000000) (hdn : d + n ≤ l.length) (hx2 : x < 9223372036854775808)
    (qe : Addr) (hE : EofA qe w) (hAl : Alr w) :
    Calls Tryz.prog 8 #[.string s, .string ov, .agg (zOpt false)] w fun e w' => e = .returned (.tuple #[.string (str ((l.drop d).take n)), .int .u8 0]) ∧ Off [] w w' := by
  obtain ⟨C0, hC0⟩ : ∃ C, grownCap (w.alloc (.cells #[.bool false, .bool false, .bool false, .bool false, .bool false, .bool false, .int .u64 0, .int .u64 0, .int .u64 0, .int .u64 0, .int .u64 0, .int .u64 0] 32)) n 0 5 = C := ⟨_, rfl⟩
  have hC0s : ov.size ≤ C0 := by rw [← hC0, hovz]; exact grownCap_ge _ _ _ _
  have hC0m : C0 ≤ maxLen := by rw [← hC0]; exact grownCap_le_maxLen _ _ _ _ (by unfold maxLen; omega)
  have hcv0 := run_bytes_of_string (P := Tryz.prog) (w.alloc (.cells #[.bool false, .bool false, .bool false, .bool false, .bool false, .bool false, .int .u64 0, .int .u64 0, .int .u64 0, .int .u64 0, .int .u64 0, .int .u64 0] 32)) 9 47 5 ov Tryz.underlying9 Tryz.underlying47 Tryz.underlying5
  rw [hovz, hC0] at hcv0
  obtain ⟨C, hC⟩ : ∃ C, grownCap (((((w.alloc (.cells #[.bool false, .bool false, .bool false, .bool false, .bool false, .bool false, .int .u64 0, .int .u64 0, .int .u64 0, .int .u64 0, .int .u64 0, .int .u64 0] 32))).alloc (.cells (bytesRow ov C0) 5 ((bytesRow ov C0).size, (bytesRow ov C0).size + 1))).alloc (.cells #[.slice (some ⟨w.heap.size + 1, 0, none⟩) n C0, .int .i64 0] 63)).drew).drew s.size 0 5 = C := ⟨_, rfl⟩
  have hCs : s.size ≤ C := by rw [← hC]; exact grownCap_ge _ _ _ _
  have hcv := run_bytes_of_string (P := Tryz.prog) (((((w.alloc (.cells #[.bool false, .bool false, .bool false, .bool false, .bool false, .bool false, .int .u64 0, .int .u64 0, .int .u64 0, .int .u64 0, .int .u64 0, .int .u64 0] 32))).alloc (.cells (bytesRow ov C0) 5 ((bytesRow ov C0).size, (bytesRow ov C0).size + 1))).alloc (.cells #[.slice (some ⟨w.heap.size + 1, 0, none⟩) n C0, .int .i64 0] 63)).drew).drew 9 47 5 s Tryz.underlying9 Tryz.underlying47 Tryz.underlying5
  rw [hC] at hcv
  have hmr : MRow ((w.alloc (.cells #[.bool false, .bool false, .bool false, .bool false, .bool false, .bool false, .int .u64 0, .int .u64 0, .int .u64 0, .int .u64 0, .int .u64 0, .int .u64 0] 32)).alloc (.cells (bytesRow ov C0) 5 ((bytesRow ov C0).size, (bytesRow ov C0).size + 1))) (.slice (some ⟨w.heap.size + 1, 0, none⟩) n C0) ((l.drop d).take n) := by
    have h1 := mrow_conv (w.alloc (.cells #[.bool false, .bool false, .bool false, .bool false, .bool false, .bool false, .int .u64 0, .int .u64 0, .int .u64 0, .int .u64 0, .int .u64 0, .int .u64 0] 32)) ov C0 hC0s hC0m
    rw [size_alloc, hovz, hov] at h1
    exact h1
  have hmem : MemAt (w.heap.size + 2) (w.heap.size + 1) (w.heap.size + 4) ((l.drop d).take n) 0 (((((w.alloc (.cells #[.bool false, .bool false, .bool false, .bool false, .bool false, .bool false, .int .u64 0, .int .u64 0, .int .u64 0, .int .u64 0, .int .u64 0, .int .u64 0] 32))).alloc (.cells (bytesRow ov C0) 5 ((bytesRow ov C0).size, (bytesRow ov C0).size + 1))).alloc (.cells #[.slice (some ⟨w.heap.size + 1, 0, none⟩) n C0, .int .i64 0] 63)).drew) :=
    ⟨_, Blk.new' ((w.alloc (.cells #[.bool false, .bool false, .bool false, .bool false, .bool false, .bool false, .int .u64 0, .int .u64 0, .int .u64 0, .int .u64 0, .int .u64 0, .int .u64 0] 32)).alloc (.cells (bytesRow ov C0) 5 ((bytesRow ov C0).size, (bytesRow ov C0).size + 1))) 63 _ (by simp), hmr.off (S := []) (((Off.refl [] _).alloc _).drew) (fun x _ => by simp), fun x hx => by simp [Value.ownBlock] at hx; left; exact hx.symm⟩
  have hof : Off [] w ((((((w.alloc (.cells #[.bool false, .bool false, .bool false, .bool false, .bool false, .bool false, .int .u64 0, .int .u64 0, .int .u64 0, .int .u64 0, .int .u64 0, .int .u64 0] 32))).alloc (.cells (bytesRow ov C0) 5 ((bytesRow ov C0).size, (bytesRow ov C0).size + 1))).alloc (.cells #[.slice (some ⟨w.heap.size + 1, 0, none⟩) n C0, .int .i64 0] 63)).drew).alloc (.cells (bytesRow s C) 5 ((bytesRow s C).size, (bytesRow s C).size + 1))) := ((((Off.refl [] w).alloc _).alloc _).alloc _).drew.alloc _
  have ha3 : Off [] (((((w.alloc (.cells #[.bool false, .bool false, .bool false, .bool false, .bool false, .bool false, .int .u64 0, .int .u64 0, .int .u64 0, .int .u64 0, .int .u64 0, .int .u64 0] 32))).alloc (.cells (bytesRow ov C0) 5 ((bytesRow ov C0).size, (bytesRow ov C0).size + 1))).alloc (.cells #[.slice (some ⟨w.heap.size + 1, 0, none⟩) n C0, .int .i64 0] 63)).drew) ((((((w.alloc (.cells #[.bool false, .bool false, .bool false, .bool false, .bool false, .bool false, .int .u64 0, .int .u64 0, .int .u64 0, .int .u64 0, .int .u64 0, .int .u64 0] 32))).alloc (.cells (bytesRow ov C0) 5 ((bytesRow ov C0).size, (bytesRow ov C0).size + 1))).alloc (.cells #[.slice (some ⟨w.heap.size + 1, 0, none⟩) n C0, .int .i64 0] 63)).drew).alloc (.cells (bytesRow s C) 5 ((bytesRow s C).size, (bytesRow s C).size + 1))) := (Off.refl [] _).alloc _
  have hbo : Blk (((((w.alloc (.cells #[.bool false, .bool false, .bool false, .bool false, .bool false, .bool false, .int .u64 0, .int .u64 0, .int .u64 0, .int .u64 0, .int .u64 0, .int .u64 0] 32))).alloc (.cells (bytesRow ov C0) 5 ((bytesRow ov C0).size, (bytesRow ov C0).size + 1))).alloc (.cells #[.slice (some ⟨w.heap.size + 1, 0, none⟩) n C0, .int .i64 0] 63)).drew) w.heap.size 32 (zOpt false) := ((Blk.new w 32 (zOpt false)).alloc _).alloc _
  have hsz : (((((w.alloc (.cells #[.bool false, .bool false, .bool false, .bool false, .bool false, .bool false, .int .u64 0, .int .u64 0, .int .u64 0, .int .u64 0, .int .u64 0, .int .u64 0] 32))).alloc (.cells (bytesRow ov C0) 5 ((bytesRow ov C0).size, (bytesRow ov C0).size + 1))).alloc (.cells #[.slice (some ⟨w.heap.size + 1, 0, none⟩) n C0, .int .i64 0] 63)).drew).heap.size = w.heap.size + 3 := by simp
  have hse : Seg ((((((w.alloc (.cells #[.bool false, .bool false, .bool false, .bool false, .bool false, .bool false, .int .u64 0, .int .u64 0, .int .u64 0, .int .u64 0, .int .u64 0, .int .u64 0] 32))).alloc (.cells (bytesRow ov C0) 5 ((bytesRow ov C0).size, (bytesRow ov C0).size + 1))).alloc (.cells #[.slice (some ⟨w.heap.size + 1, 0, none⟩) n C0, .int .i64 0] 63)).drew).alloc (.cells (bytesRow s C) 5 ((bytesRow s C).size, (bytesRow s C).size + 1))) (w.heap.size + 3) 0 s.data.toList := by
    have h1 := (mrow_conv (((((w.alloc (.cells #[.bool false, .bool false, .bool false, .bool false, .bool false, .bool false, .int .u64 0, .int .u64 0, .int .u64 0, .int .u64 0, .int .u64 0, .int .u64 0] 32))).alloc (.cells (bytesRow ov C0) 5 ((bytesRow ov C0).size, (bytesRow ov C0).size + 1))).alloc (.cells #[.slice (some ⟨w.heap.size + 1, 0, none⟩) n C0, .int .i64 0] 63)).drew) s C hCs (by rw [← hC]; exact grownCap_le_maxLen _ _ _ _ (by unfold maxLen; omega))).seg
    obtain ⟨q, cap, h2, h3⟩ := h1
    injection h2 with h2 _ _
    injection h2 with h2
    injection h2 with h2 _ _
    rw [← h2, hsz] at h3
    exact h3
  have HX := Lib.hid (fun (R g p1 p2 p3 p4 p5 p6 p7 p8 : Nat) W (k0 : w.heap.size + 4 ≤ W.heap.size) (k1 : MemAt (w.heap.size + 2) (w.heap.size + 1) (w.heap.size + 4) ((l.drop d).take n) 0 W) (k2 : RAt R (w.heap.size + 3) C l 0 W) (k3 : EofA qe W) (k4 : w.heap.size + 4 ≤ R) (k5 : 1 < R) (k6 : OptsZ false W g p1 p2 p3 p4 p5 p6 p7 p8) => extract_in (lo := w.heap.size + 1) d n l k1 k0 R (w.heap.size + 3) C g p1 p2 p3 p4 p5 p6 p7 p8 hi lw x t k2 (by omega) (by omega) (by omega) (by omega) (by omega) (by omega) (by omega) (by omega) (by omega) (by omega) hp hh hhi hlo hd1 hn1 hn2 hdn hx2 qe k3 k5 k6)
  have hsl : s.data.toList.length = s.size := by simp
  have hal0 : 0 < w.heap.size := by obtain ⟨q, hq⟩ := hAl; exact World.block_lt_of_cell? _ _ hq
  have hEl : 1 < w.heap.size := World.block_lt_of_cell? _ _ hE
  have HE := Lib.hid (hE.off hof (by simp))
  have HAL := Lib.hid (hAl.off hof (by simp))
  have HMEM := Lib.hid (hmem.off ha3 (by simp) (fun x hx => by simp at hx))
  have HOF := Lib.hid hof
  have HB := Lib.hid hbo
  have HSE := Lib.hid hse
  have HSZ := Lib.hid hsz
  have HSL := Lib.hid (And.intro hsl hs)
  clear hov hE hAl hmr hmem hof ha3 hbo hse hsz hC hC0 hsl hp hh hs
  unfold zOpt
  go_enter Tryz.func8, Tryz.ntmps8
  go_wp2_with fail
  go_region_held (fun w' => Blk w' w.heap.size 32 (zOpt false) ∧ w'.cell? ⟨w.heap.size, 0, none⟩ = some (.bool false) ∧ w'.cell? ⟨w.heap.size, 1, none⟩ = some (.bool false) ∧ w'.cell? ⟨w.heap.size, 2, none⟩ = some (.bool false) ∧ w'.cell? ⟨w.heap.size, 3, none⟩ = some (.bool false) ∧ w'.cell? ⟨w.heap.size, 4, none⟩ = some (.bool false) ∧ w'.cell? ⟨w.heap.size, 5, none⟩ = some (.bool false) ∧ w'.cell? ⟨w.heap.size, 6, none⟩ = some (.int .u64 0) ∧ w'.cell? ⟨w.heap.size, 7, none⟩ = some (.int .u64 0) ∧ w'.cell? ⟨w.heap.size, 8, none⟩ = some (.int .u64 0) ∧ w'.cell? ⟨w.heap.size, 9, none⟩ = some (.int .u64 0) ∧ w'.cell? ⟨w.heap.size, 10, none⟩ = some (.int .u64 0) ∧ w'.cell? ⟨w.heap.size, 11, none⟩ = some (.int .u64 0)) (first | exact ⟨HB.out, (HB.out).cell 0, (HB.out).cell 1, (HB.out).cell 2, (HB.out).cell 3, (HB.out).cell 4, (HB.out).cell 5, (HB.out).cell 6, (HB.out).cell 7, (HB.out).cell 8, (HB.out).cell 9, (HB.out).cell 10, (HB.out).cell 11⟩ | exact ⟨HB.out.alloc _, (HB.out.alloc _).cell 0, (HB.out.alloc _).cell 1, (HB.out.alloc _).cell 2, (HB.out.alloc _).cell 3, (HB.out.alloc _).cell 4, (HB.out.alloc _).cell 5, (HB.out.alloc _).cell 6, (HB.out.alloc _).cell 7, (HB.out.alloc _).cell 8, (HB.out.alloc _).cell 9, (HB.out.alloc _).cell 10, (HB.out.alloc _).cell 11⟩ | exact ⟨K1.out, (K1.out).cell 0, (K1.out).cell 1, (K1.out).cell 2, (K1.out).cell 3, (K1.out).cell 4, (K1.out).cell 5, (K1.out).cell 6, (K1.out).cell 7, (K1.out).cell 8, (K1.out).cell 9, (K1.out).cell 10, (K1.out).cell 11⟩ | exact ⟨K2.out, (K2.out).cell 0, (K2.out).cell 1, (K2.out).cell 2, (K2.out).cell 3, (K2.out).cell 4, (K2.out).cell 5, (K2.out).cell 6, (K2.out).cell 7, (K2.out).cell 8, (K2.out).cell 9, (K2.out).cell 10, (K2.out).cell 11⟩ | exact ⟨K3.out, (K3.out).cell 0, (K3.out).cell 1, (K3.out).cell 2, (K3.out).cell 3, (K3.out).cell 4, (K3.out).cell 5, (K3.out).cell 6, (K3.out).cell 7, (K3.out).cell 8, (K3.out).cell 9, (K3.out).cell 10, (K3.out).cell 11⟩) (first
    | (go_at_call 15; refine (newBr_ok _ _ _ _).mono ?_; rintro e w1 ⟨rfl, r1, o1, z1⟩; have P1 : Off [] ((((((w.alloc (.cells #[.bool false, .bool false, .bool false, .bool false, .bool false, .bool false, .int .u64 0, .int .u64 0, .int .u64 0, .int .u64 0, .int .u64 0, .int .u64 0] 32))).alloc (.cells (bytesRow ov C0) 5 ((bytesRow ov C0).size, (bytesRow ov C0).size + 1))).alloc (.cells #[.slice (some ⟨w.heap.size + 1, 0, none⟩) n C0, .int .i64 0] 63)).drew).alloc (.cells (bytesRow s C) 5 ((bytesRow s C).size, (bytesRow s C).size + 1))) w1 := (Off.refl [] _).next o1 ⟨rfl, rfl, rfl, rfl⟩ (by simp); have k1 : Blk w1 w.heap.size 32 (zOpt false) := P1.blk (HB.out.alloc _) (by simp); have K1 := Lib.hid k1; have HR1 := Lib.hid (Blk.at (g' := w.heap.size + 4) r1 (by simp [World.drew])); have HM1 := Lib.hid (HMEM.out.off P1 (by simp) (fun x hx => by simp at hx)); have HE1 := Lib.hid (HE.out.off P1 (by simp)); have HS1 := Lib.hid (HSE.out.off P1 (by simp)); have HA1 := Lib.hid (HAL.out.off P1 (by simp)); have HO1 := Lib.hid (HOF.out.then P1 (by simp)); clear k1 r1 o1 z1 P1)
    | (go_at_call 16; refine (options_z false _).mono ?_; rintro e w2 ⟨g, p1, p2, p3, p4, p5, p6, p7, p8, rfl, oa, o2⟩; have k2 := o2.blk K1.out (by simp); have hr2 : RdC w2 (w.heap.size + 4) (w.heap.size + 3) s.size C 0 (-1) := o2.blk HR1.out (by simp); have HM2 := HM1.out.off o2 (by simp) (fun x hx => by simp at hx); have HE2 := HE1.out.off o2 (by simp); have HS2 := HS1.out.off o2 (by simp); have HA2 := Lib.hid (HA1.out.off o2 (by simp)); have HO2 := Lib.hid (HO1.out.then o2 (by simp)); have hlt2 := Blk.lt hr2; have HV := Lib.hid (HX.out (w.heap.size + 4) g p1 p2 p3 p4 p5 p6 p7 p8 w2 (by omega) HM2 ⟨⟨-1, by rw [← HSL.out.2, HSL.out.1]; exact hr2⟩, by rw [← HSL.out.2]; exact HS2, by omega, by rw [← HSL.out.2, HSL.out.1]; exact hL, by rw [← HSL.out.2, HSL.out.1]; exact hCs⟩ HE2 (Nat.le_refl _) (by omega) oa); have K2 := Lib.hid k2; clear k2 hr2 HM2 HE2 HS2 oa o2)
    | (go_at_call 18; refine HV.out.mono ?_; rintro e w3 ⟨rfl, hm3, hb3⟩; have HM3 := Lib.hid hm3; have HB3 := Lib.hid hb3; have k3 : Blk w3 w.heap.size 32 (zOpt false) := (hb3.block w.heap.size (by omega)).trans K2.out; have K3 := Lib.hid k3; clear k3 hm3 hb3))
  obtain ⟨ae, hae⟩ := HA2.out
  have hlo := HO2.out.size
  have hAlt : 0 < w.heap.size := hal0
  have g3 : w3.cell? ⟨0, 0, none⟩ = some (.iface 152 (.pointer (some ae))) := (World.cell?_of_block (HB3.out.block _ (by show 0 < _; omega))).trans hae
  have hnil := eql_nil_some ae
  obtain ⟨v, hbm, hrm, _⟩ := HM3.out.ex
  have c30 : w3.cell? ⟨w.heap.size + 2, 0, none⟩ = some v := hbm.cell 0
  have hcvf := mrow_string w3 v _ hrm
  clear hae hbm hrm
  go_wp2_with fail
  go_ret2
  exact ⟨rfl, HB3.out.os.trans HO2.out.os, HB3.out.tape.trans HO2.out.tape, HB3.out.output.trans HO2.out.output, Nat.le_trans HO2.out.size HB3.out.size, fun k hk _ => (HB3.out.block k (by omega)).trans (HO2.out.block k hk (by simp))⟩
end Go.Proofs.YthmhnknkidkdlaaGreatDoor
namespace Go.Proofs.YthmhnknkidkdlaaGreatDoor
open Go.RowKit

/-- A decoder's blocks, and the bytes that it reads. -/
structure DA where
  D : Nat
  sg : Nat
  lg : Nat
  S : Nat
  T : Nat
  R : Nat
  b : Nat
  n : Nat
  cap : Nat
  l : List UInt8

/-- The decoder's own blocks. -/
def DA.X (A : DA) : List Nat := [A.D, A.sg, A.lg, A.S, A.T, A.R]
/-- A block that is none of the decoder's. -/
structure DA.Far (A : DA) (K : Nat) : Prop where
  d : K ≠ A.D
  sg : K ≠ A.sg
  lg : K ≠ A.lg
  s : K ≠ A.S
  t : K ≠ A.T
  r : K ≠ A.R
  b : K ≠ A.b
  e : 1 < K

theorem DA.Far.x {A : DA} {K : Nat} (h : A.Far K) : K ∉ A.X := by
  unfold DA.X
  simp only [List.mem_cons, List.not_mem_nil, or_false, not_or]
  exact ⟨h.d, h.sg, h.lg, h.s, h.t, h.r⟩

/-- A row of ten numbers, but for the first two all zero. -/
def row10 (k : IntKind) (u v : Int) : Array Value := #[.int k u, .int k v, .int k 0, .int k 0, .int k 0, .int k 0, .int k 0, .int k 0, .int k 0, .int k 0]

/-- Which blocks of a decoder are which. -/
structure DA.Nd (A : DA) : Prop where
  a1 : A.D ≠ A.sg
  a2 : A.D ≠ A.lg
  a3 : A.sg ≠ A.lg
  s1 : A.D ≠ A.S
  s2 : A.sg ≠ A.S
  s3 : A.lg ≠ A.S
  t1 : A.D ≠ A.T
  t2 : A.sg ≠ A.T
  t3 : A.lg ≠ A.T
  r1 : A.D ≠ A.R
  r2 : A.sg ≠ A.R
  r3 : A.lg ≠ A.R
  b1 : A.D ≠ A.b
  b2 : A.sg ≠ A.b
  b3 : A.lg ≠ A.b
  e1 : 1 < A.D
  e2 : 1 < A.sg
  e3 : 1 < A.lg

/-- The decoder at place i: phase ph, sn levels (sa, sb), ln counts (la, lb); all old blocks of w0 but its own and those in Ks are as they were. -/
structure DSt (A : DA) (Ks : List Nat) (w0 : World) (ph : Int) (sn : Nat) (sa sb : Int) (ln : Nat) (la lb : Int) (i : Nat) (w : World) : Prop where
  chain : Chain w A.S A.T A.R A.b A.n A.cap i A.l i
  dec : Blk w A.D 222 (decCells A.S A.sg sn ph A.lg ln)
  stk : Blk w A.sg 220 (row10 .u8 sa sb)
  left : Blk w A.lg 3 (row10 .i64 la lb)
  nd : A.Nd
  off : Off (A.X ++ Ks) w0 w

section
variable {A : DA} {Ks : List Nat} {w0 w w' : World} {ph : Int} {sn : Nat} {sa sb : Int} {ln : Nat} {la lb : Int} {i : Nat}

theorem DSt.to (h : DSt A Ks w0 ph sn sa sb ln la lb i w) {X : List Nat} (k : Off X w w') (hX : ∀ x, x ∈ X → x ≠ 1 ∧ x ≠ A.D ∧ x ≠ A.sg ∧ x ≠ A.lg ∧ x ≠ A.S ∧ x ≠ A.T ∧ x ≠ A.R ∧ x ≠ A.b) (hK : ∀ x, x ∈ X → x ∈ Ks ∨ w0.heap.size ≤ x) : DSt A Ks w0 ph sn sa sb ln la lb i w' :=
  { chain := h.chain.off k ⟨fun e => (hX _ e).2.2.2.2.1 rfl, fun e => (hX _ e).2.2.2.2.2.1 rfl, fun e => (hX _ e).2.2.2.2.2.2.1 rfl, fun e => (hX _ e).2.2.2.2.2.2.2 rfl, fun e => (hX _ e).1 rfl⟩
    dec := k.blk h.dec (fun e => (hX _ e).2.1 rfl)
    stk := k.blk h.stk (fun e => (hX _ e).2.2.1 rfl)
    left := k.blk h.left (fun e => (hX _ e).2.2.2.1 rfl)
    nd := h.nd
    off := h.off.then k (fun x hx => by
      rcases hK x hx with h1 | h1
      · exact Or.inl (List.mem_append.2 (Or.inr h1))
      · exact Or.inr h1) }
/-- A block that is none of the decoder's changes. -/
theorem DSt.tok (h : DSt A Ks w0 ph sn sa sb ln la lb i w) {K : Nat} (hf : A.Far K) (hK : K ∈ Ks ∨ w0.heap.size ≤ K) (k : Off [K] w w') : DSt A Ks w0 ph sn sa sb ln la lb i w' :=
  h.to k (fun x hx => by
    obtain rfl : x = K := by simpa using hx
    exact ⟨fun e => by have := hf.e; omega, hf.d, hf.sg, hf.lg, hf.s, hf.t, hf.r, hf.b⟩) (fun x hx => by
    obtain rfl : x = K := by simpa using hx
    exact hK)
theorem DSt.tset (h : DSt A Ks w0 ph sn sa sb ln la lb i w) {K : Nat} (hf : A.Far K) (hK : K ∈ Ks ∨ w0.heap.size ≤ K) (o : Nat) (u : Value) : DSt A Ks w0 ph sn sa sb ln la lb i (w.setCell ⟨K, o, none⟩ u) :=
  h.tok hf hK ((Off.refl [K] w).setCell (p := ⟨K, o, none⟩) (Or.inl (by simp)) u)
theorem DSt.alloc (h : DSt A Ks w0 ph sn sa sb ln la lb i w) (ob : Obj) : DSt A Ks w0 ph sn sa sb ln la lb i (w.alloc ob) :=
  h.to ((Off.refl [] w).alloc ob) (fun x hx => by simp at hx) (fun x hx => by simp at hx)
theorem DSt.still (h : DSt A Ks w0 ph sn sa sb ln la lb i w) (k : Off [] w w') : DSt A Ks w0 ph sn sa sb ln la lb i w' :=
  h.to k (fun x hx => by simp at hx) (fun x hx => by simp at hx)
/-- The readers move. -/
theorem DSt.read (h : DSt A Ks w0 ph sn sa sb ln la lb i w) {j : Nat} (hc : Chain w' A.S A.T A.R A.b A.n A.cap j A.l j) (k : Off [A.S, A.T, A.R] w w') : DSt A Ks w0 ph sn sa sb ln la lb j w' :=
  { chain := hc
    dec := k.blk h.dec (ni3 h.nd.s1 h.nd.t1 h.nd.r1)
    stk := k.blk h.stk (ni3 h.nd.s2 h.nd.t2 h.nd.r2)
    left := k.blk h.left (ni3 h.nd.s3 h.nd.t3 h.nd.r3)
    nd := h.nd
    off := h.off.then k (fun x hx => Or.inl (List.mem_append.2 (Or.inl (by unfold DA.X; simp at hx ⊢; rcases hx with hx | hx | hx <;> simp [hx])))) }
theorem DSt.setD (h : DSt A Ks w0 ph sn sa sb ln la lb i w) {ph' : Int} {sn' ln' : Nat} (o : Nat) (u : Value) (he : (decCells A.S A.sg sn ph A.lg ln).setIfInBounds o u = decCells A.S A.sg sn' ph' A.lg ln') : DSt A Ks w0 ph' sn' sa sb ln' la lb i (w.setCell ⟨A.D, o, none⟩ u) :=
  { chain := h.chain.off (X := [A.D]) ((Off.refl [A.D] w).setCell (p := ⟨A.D, o, none⟩) (Or.inl (by simp)) u) ⟨ni1 h.nd.s1.symm, ni1 h.nd.t1.symm, ni1 h.nd.r1.symm, ni1 h.nd.b1.symm, ni1 (Nat.ne_of_lt h.nd.e1)⟩
    dec := by rw [← he]; exact h.dec.set_ o u
    stk := h.stk.far (p := ⟨A.D, o, none⟩) h.nd.a1.symm u
    left := h.left.far (p := ⟨A.D, o, none⟩) h.nd.a2.symm u
    nd := h.nd
    off := h.off.setCell (p := ⟨A.D, o, none⟩) (Or.inl (by unfold DA.X; simp)) u }
theorem DSt.to_ph (h : DSt A Ks w0 ph sn sa sb ln la lb i w) (v : Int) : DSt A Ks w0 v sn sa sb ln la lb i (w.setCell ⟨A.D, 9, none⟩ (.int .u8 v)) := h.setD 9 _ rfl
theorem DSt.to_sn (h : DSt A Ks w0 ph sn sa sb ln la lb i w) (k : Nat) : DSt A Ks w0 ph k sa sb ln la lb i (w.setCell ⟨A.D, 8, none⟩ (.slice (some ⟨A.sg, 0, none⟩) k 10)) := h.setD 8 _ rfl
theorem DSt.to_ln (h : DSt A Ks w0 ph sn sa sb ln la lb i w) (k : Nat) : DSt A Ks w0 ph sn sa sb k la lb i (w.setCell ⟨A.D, 10, none⟩ (.slice (some ⟨A.lg, 0, none⟩) k 10)) := h.setD 10 _ rfl
theorem DSt.setL (h : DSt A Ks w0 ph sn sa sb ln la lb i w) {la' lb' : Int} (o : Nat) (u : Value) (he : (row10 .i64 la lb).setIfInBounds o u = row10 .i64 la' lb') : DSt A Ks w0 ph sn sa sb ln la' lb' i (w.setCell ⟨A.lg, o, none⟩ u) :=
  { chain := h.chain.off (X := [A.lg]) ((Off.refl [A.lg] w).setCell (p := ⟨A.lg, o, none⟩) (Or.inl (by simp)) u) ⟨ni1 h.nd.s3.symm, ni1 h.nd.t3.symm, ni1 h.nd.r3.symm, ni1 h.nd.b3.symm, ni1 (Nat.ne_of_lt h.nd.e3)⟩
    dec := h.dec.far (p := ⟨A.lg, o, none⟩) h.nd.a2 u
    stk := h.stk.far (p := ⟨A.lg, o, none⟩) h.nd.a3 u
    left := by rw [← he]; exact h.left.set_ o u
    nd := h.nd
    off := h.off.setCell (p := ⟨A.lg, o, none⟩) (Or.inl (by unfold DA.X; simp)) u }
theorem DSt.to_la (h : DSt A Ks w0 ph sn sa sb ln la lb i w) (v : Int) : DSt A Ks w0 ph sn sa sb ln v lb i (w.setCell ⟨A.lg, 0, none⟩ (.int .i64 v)) := h.setL 0 _ rfl
theorem DSt.to_lb (h : DSt A Ks w0 ph sn sa sb ln la lb i w) (v : Int) : DSt A Ks w0 ph sn sa sb ln la v i (w.setCell ⟨A.lg, 1, none⟩ (.int .i64 v)) := h.setL 1 _ rfl
theorem DSt.setS (h : DSt A Ks w0 ph sn sa sb ln la lb i w) {sa' sb' : Int} (o : Nat) (u : Value) (he : (row10 .u8 sa sb).setIfInBounds o u = row10 .u8 sa' sb') : DSt A Ks w0 ph sn sa' sb' ln la lb i (w.setCell ⟨A.sg, o, none⟩ u) :=
  { chain := h.chain.off (X := [A.sg]) ((Off.refl [A.sg] w).setCell (p := ⟨A.sg, o, none⟩) (Or.inl (by simp)) u) ⟨ni1 h.nd.s2.symm, ni1 h.nd.t2.symm, ni1 h.nd.r2.symm, ni1 h.nd.b2.symm, ni1 (Nat.ne_of_lt h.nd.e2)⟩
    dec := h.dec.far (p := ⟨A.sg, o, none⟩) h.nd.a1 u
    stk := by rw [← he]; exact h.stk.set_ o u
    left := h.left.far (p := ⟨A.sg, o, none⟩) h.nd.a3.symm u
    nd := h.nd
    off := h.off.setCell (p := ⟨A.sg, o, none⟩) (Or.inl (by unfold DA.X; simp)) u }
theorem DSt.to_sa (h : DSt A Ks w0 ph sn sa sb ln la lb i w) (v : Int) : DSt A Ks w0 ph sn v sb ln la lb i (w.setCell ⟨A.sg, 0, none⟩ (.int .u8 v)) := h.setS 0 _ rfl
theorem DSt.to_sb (h : DSt A Ks w0 ph sn sa sb ln la lb i w) (v : Int) : DSt A Ks w0 ph sn sa v ln la lb i (w.setCell ⟨A.sg, 1, none⟩ (.int .u8 v)) := h.setS 1 _ rfl

/-- What the decoder's cells hold. -/
theorem DSt.cells (h : DSt A Ks w0 ph sn sa sb ln la lb i w) :
    w.cell? ⟨A.D, 0, none⟩ = some (.bool true) ∧ w.cell? ⟨A.D, 3, none⟩ = some (.bool false) ∧ w.cell? ⟨A.D, 7, none⟩ = some (.iface 234 (.pointer (some ⟨A.S, 0, none⟩))) ∧ w.cell? ⟨A.D, 8, none⟩ = some (.slice (some ⟨A.sg, 0, none⟩) sn 10) ∧ w.cell? ⟨A.D, 9, none⟩ = some (.int .u8 ph) ∧ w.cell? ⟨A.D, 10, none⟩ = some (.slice (some ⟨A.lg, 0, none⟩) ln 10) ∧
    w.frozen? ⟨A.D, 8, none⟩ = false ∧ w.frozen? ⟨A.D, 9, none⟩ = false ∧ w.frozen? ⟨A.D, 10, none⟩ = false :=
  ⟨h.dec.cell 0, h.dec.cell 3, h.dec.cell 7, h.dec.cell 8, h.dec.cell 9, h.dec.cell 10, h.dec.frozen 8, h.dec.frozen 9, h.dec.frozen 10⟩
/-- The next byte. -/
theorem DSt.byte (h : DSt A Ks w0 ph sn sa sb ln la lb i w) (c : Nat) (hc : (A.l[i]?).map (·.toNat) = some c) :
    Calls Tryz.prog 264 #[.pointer (some ⟨A.S, 0, none⟩)] w fun e w' => e = .returned (.tuple #[.int .u8 (c : Int), .nilIface]) ∧ DSt A Ks w0 ph sn sa sb ln la lb (i + 1) w' ∧ Off [A.S, A.T, A.R] w w' := by
  have hi : i < A.l.length := by
    rcases Nat.lt_or_ge i A.l.length with h1 | h1
    · exact h1
    · rw [List.getElem?_eq_none h1] at hc; simp at hc
  have hn : i < A.n := by rw [h.chain.len]; exact hi
  have hb := h.chain.big
  refine (readn1 A.S A.T A.R A.b A.n A.cap i A.l i w h.chain hn (by omega) (by omega) (c : Int) ?_).mono ?_
  · rw [List.getElem?_eq_getElem hi] at hc
    simp at hc
    rw [hc]
  rintro e w' ⟨he, h1, h2⟩
  exact ⟨he, h.read (by rw [show ((i + 1 : Nat) : Int) = (i : Int) + 1 by omega]; exact h1) h2, h2⟩
/-- From here on. -/
theorem DSt.here (h : DSt A Ks w0 ph sn sa sb ln la lb i w) (Js : List Nat) : DSt A Js w ph sn sa sb ln la lb i w := { h with off := Off.refl _ _ }
end
end Go.Proofs.YthmhnknkidkdlaaGreatDoor
