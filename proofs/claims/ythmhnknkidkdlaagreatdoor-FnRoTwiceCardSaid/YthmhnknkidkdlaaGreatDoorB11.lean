/-
  carv1.zzDecodeHeader over the ten bytes of the pragma's map: version 2.
  util.LdRead over a bytes.Reader: a length of one byte, and as many bytes behind it.
  carv1.ReadHeader and car.ReadVersion over a file that begins with the pragma: the reader stands behind it.
  (No condition beyond those that each theorem states.)
-/
import Derived.Test.YthmhnknkidkdlaaGreatDoorB10
import Derived.Test.YthmhnknkidkdlaaGreatDoorB06
import Derived.Stop.Asserts
import Derived.Test.YthmhnknkidkdlaaGreatDoorB09
import Derived.Test.YthmhnknkidkdlaaGreatDoorB07
namespace Go.Proofs.YthmhnknkidkdlaaGreatDoor
open Go.RowKit

/-- The pragma's map: one entry, "version", 2. -/
def mapBytes : List UInt8 := [161, 103, 118, 101, 114, 115, 105, 111, 110, 2]

set_option maxRecDepth 100000 in
set_option maxHeartbeats 1000000 in
theorem newBr_ok (b n c : Nat) (w : World) :
    Calls Tryz.prog 15 #[.slice (some ⟨b, 0, none⟩) n c] w fun e w' => e = .returned (.pointer (some ⟨w.heap.size, 0, none⟩)) ∧ RdC w' w.heap.size b n c 0 (-1) ∧ Off [] w w' ∧ w'.heap.size = w.heap.size + 1 := by
  go_enter Tryz.func15, Tryz.ntmps15
  go_wp2_with fail
  go_ret
  exact ⟨rfl, Blk.new w _ _, (Off.refl [] w).alloc _, by simp⟩

/-- The decoder keeps what it is while its token is turned. -/
theorem Dec.off {w w' : World} {D sg sn lg ln K : Nat} {ph l0 : Int} {S T R b n cap i : Nat} {l : List UInt8} {m : Int} {X : List Nat} (h : Dec w D sg sn lg ln K ph l0 S T R b n cap i l m) (k : Off X w w') (hX : ∀ x, x ∈ X → x ≠ D ∧ x ≠ sg ∧ x ≠ lg ∧ x ≠ S ∧ x ≠ T ∧ x ≠ R ∧ x ≠ b ∧ x ≠ 1) : Dec w' D sg sn lg ln K ph l0 S T R b n cap i l m := by
  obtain ⟨v, hv⟩ := h.stk
  exact { h with
    chain := h.chain.off k ⟨fun e => (hX _ e).2.2.2.1 rfl, fun e => (hX _ e).2.2.2.2.1 rfl, fun e => (hX _ e).2.2.2.2.2.1 rfl, fun e => (hX _ e).2.2.2.2.2.2.1 rfl, fun e => (hX _ e).2.2.2.2.2.2.2 rfl⟩
    dec := k.blk h.dec (fun e => (hX _ e).1 rfl)
    stk := ⟨v, k.blk hv (fun e => (hX _ e).2.1 rfl)⟩
    left := k.blk h.left (fun e => (hX _ e).2.2.1 rfl) }
theorem Dec.tok {w w' : World} {D sg sn lg ln K : Nat} {ph l0 : Int} {S T R b n cap i : Nat} {l : List UInt8} {m : Int} (h : Dec w D sg sn lg ln K ph l0 S T R b n cap i l m) (k : Off [K] w w') : Dec w' D sg sn lg ln K ph l0 S T R b n cap i l m :=
  h.off k (fun x hx => by
    obtain rfl : x = K := by simpa using hx
    obtain ⟨k1, k2, k3, k4, k5, k6, k7⟩ := h.nk
    exact ⟨k1, k2, k3, k4, k5, k6, k7, fun e => Nat.ne_of_lt h.lo.2.2.2 e.symm⟩)

/-- A struct's literal with no parts: its zero cells. -/
theorem wpList_build0 {P : Program} {w : World} {ops : Array Oper} {rest : List Oper} {o : Oper} {a : Act} {Q : Exit → Act → World → Prop} (hg : o.guard = none) (t : TypeId) (ho : o.op = .build t #[]) (cs : Array Value) (hf : P.built t [] = some cs)
    (h : wpList P ops Q rest (a.put o.dst (.agg cs)) w) : wpList P ops Q (o :: rest) a w :=
  wpList_build hg t #[] ho (by simp [hf]) (by simpa [hf] using h)
theorem zero_all : zeroTok.all (·.oneCell') = true := by kernel_rfl
theorem tok_info : (Tryz.prog.info? 203).map (·.size) = some zeroTok.size := by kernel_rfl
theorem built_tok : Tryz.prog.built 203 [] = some zeroTok := by kernel_rfl

theorem off_zero {w : World} {K : Nat} {cs : Array Value} (h : Blk w K 203 cs) : Off [K] w (w.setRow K zeroTok) := off_setRow h _
theorem blk_zero {w : World} {K : Nat} {cs : Array Value} (h : Blk w K 203 cs) : Blk (w.setRow K zeroTok) K 203 zeroTok := setRow_heap w K _ _ _ _ h

/-- A token's cells, one by one. -/
theorem tok_cells {w : World} {K : Nat} {ty ln : Int} {st : ByteArray} {bs : Value} {bo : Bool} {it ui : Int} {fl : Nat} {tg : Bool} {tn : Int} (h : Blk w K 203 (tokCells ty ln st bs bo it ui fl tg tn)) :
    w.cell? ⟨K, 0, none⟩ = some (.int .u8 ty) ∧ w.cell? ⟨K, 1, none⟩ = some (.int .i64 ln) ∧ w.cell? ⟨K, 2, none⟩ = some (.string st) ∧ w.cell? ⟨K, 3, none⟩ = some bs ∧ w.cell? ⟨K, 4, none⟩ = some (.bool bo) ∧ w.cell? ⟨K, 5, none⟩ = some (.int .i64 it) ∧ w.cell? ⟨K, 6, none⟩ = some (.int .u64 ui) ∧ w.cell? ⟨K, 7, none⟩ = some (.float .f64 fl) ∧ w.cell? ⟨K, 8, none⟩ = some (.bool tg) ∧ w.cell? ⟨K, 9, none⟩ = some (.int .i64 tn) :=
  ⟨h.cell 0, h.cell 1, h.cell 2, h.cell 3, h.cell 4, h.cell 5, h.cell 6, h.cell 7, h.cell 8, h.cell 9⟩
theorem tok_frozen {w : World} {K : Nat} {t : TypeId} {cs : Array Value} (h : Blk w K t cs) :
    w.frozen? ⟨K, 0, none⟩ = false ∧ w.frozen? ⟨K, 1, none⟩ = false ∧ w.frozen? ⟨K, 2, none⟩ = false ∧ w.frozen? ⟨K, 3, none⟩ = false ∧ w.frozen? ⟨K, 4, none⟩ = false ∧ w.frozen? ⟨K, 5, none⟩ = false ∧ w.frozen? ⟨K, 6, none⟩ = false ∧ w.frozen? ⟨K, 7, none⟩ = false ∧ w.frozen? ⟨K, 8, none⟩ = false ∧ w.frozen? ⟨K, 9, none⟩ = false :=
  ⟨h.frozen 0, h.frozen 1, h.frozen 2, h.frozen 3, h.frozen 4, h.frozen 5, h.frozen 6, h.frozen 7, h.frozen 8, h.frozen 9⟩

theorem ver_str : str ((mapBytes.drop (0 + 1 + 1)).take 7) = ⟨#[118, 101, 114, 115, 105, 111, 110]⟩ := rfl
theorem ver_eq (w : World) : (binOp .eql 9 (.string ⟨#[118, 101, 114, 115, 105, 111, 110]⟩) (.string ⟨#[118, 101, 114, 115, 105, 111, 110]⟩)).run Tryz.prog w = .ok (.bool true) w := by kernel_rfl

set_option maxRecDepth 100000 in
set_option maxHeartbeats 1000000 in
theorem zzDecode_pragma (b H cap : Nat) (r : Value) (w : World) (hs : Seg w b 0 mapBytes) (hH : Blk w H 129 #[r, .int .u64 0]) (hE : Eof w) (hcap : 10 ≤ cap) (hHE : 1 < H) (hbH : b ≠ H) (_hbE : 1 < b) :
    Calls Tryz.prog 75 #[.slice (some ⟨b, 0, none⟩) 10 cap, .pointer (some ⟨H, 0, none⟩)] w fun e w' => e = .returned .nilIface ∧ Blk w' H 129 #[r, .int .u64 2] ∧ Off [H] w w' := by
  have hbl : b < w.heap.size := hs.lt (by decide)
  have hHl := hH.lt
  have hEl : 1 < w.heap.size := by obtain ⟨q, hq⟩ := hE; exact World.block_lt_of_cell? _ _ hq
  have HS := Lib.hid hs
  have HH := Lib.hid hH
  have HE := Lib.hid hE
  clear hs hH hE
  go_enter Tryz.func75, Tryz.ntmps75
  go_wp2_with fail
  refine (newBr_ok b 10 cap w).mono ?_
  rintro e w1 ⟨rfl, hR1, hO1, hz1⟩
  have HR1 := Lib.hid hR1
  have HO1 := Lib.hid hO1
  clear hR1 hO1
  go_wp2_with fail
  refine (newDecoder_ok _ w1).mono ?_
  rintro e w2 ⟨D, S, T, sg, lg, rfl, hD2, hS2, hT2, hsg2, hlg2, hO2, ⟨l1, l2, l3, l4, l5⟩, ⟨n1, n2, n3, n4, n5, n6, n7, n8, n9, n10⟩⟩
  have hz2 := hO2.size
  have hR2 := hO2.blk HR1.out (by simp)
  have hs2 := hO2.seg (HO1.out.seg HS.out (by simp)) (by simp)
  have hE2 := (HE.out.off HO1.out (by simp)).off hO2 (by simp)
  have hH2 := hO2.blk (HO1.out.blk HH.out (by simp)) (by simp)
  have t1 := hD2.lt
  have t2 := Blk.lt hS2
  have t3 := Blk.lt hT2
  have t4 := hsg2.lt
  have t5 := hlg2.lt
  have HDec := Lib.hid (show Dec (w2.alloc (.cells zeroTok 203)) D sg 0 lg 0 w2.heap.size 0 0 S T w.heap.size b 10 cap 0 mapBytes 0 from
    { chain := { ss := ⟨_, zeroBytes_length 32, Blk.alloc hS2 _⟩, ts := ⟨0, 0, 0, by decide, Blk.alloc hT2 _⟩, rd := ⟨-1, Blk.alloc hR2 _⟩, seg := hs2.alloc (by omega) _, len := rfl, big := by omega, cap := hcap, rb := by omega, rt := by omega, rs := by omega, ts' := n10, tb := by omega, sb := by omega, eof := hE2.off (S := []) ((Off.refl [] w2).alloc _) (by simp), er := by omega, et := by omega, es := by omega }
      dec := hD2.alloc _
      stk := ⟨0, hsg2.alloc _⟩
      left := hlg2.alloc _
      nd := ⟨n1, n2, n3, n4, n5, by omega, by omega, n6, n7, by omega, by omega, n8, n9, by omega, by omega⟩
      nk := ⟨by omega, by omega, by omega, by omega, by omega, by omega, by omega⟩
      lo := ⟨by omega, by omega, by omega, by omega⟩ })
  have HK := Lib.hid (Blk.new w2 203 zeroTok)
  have HH2 := Lib.hid hH2
  have HO2 := Lib.hid ((HO1.out.then hO2 (by simp)))
  clear hD2 hS2 hT2 hsg2 hlg2 hO2 hR2 hs2 hE2 hH2
  have nH : H ∉ [D, sg, lg, S, T, w.heap.size, w2.heap.size] := by
    simp
    refine ⟨?_, ?_, ?_, ?_, ?_, ?_, ?_⟩ <;> omega
  have hqv := ver_eq
  go_wp2_with fail
  refine (Step_value D sg lg w2.heap.size 0 S T w.heap.size b 10 cap 0 mapBytes 0 _ HDec.out HK.out (by decide) rfl (by decide) (by decide)).mono ?_
  rintro e w3 ⟨rfl, hD3, hK3, hO3⟩
  obtain ⟨k0, k1, k2, k3, k4, k5, k6, k7, k8, k9⟩ := tok_cells hK3
  obtain ⟨f0, f1, f2, f3, f4, f5, f6, f7, f8, f9⟩ := tok_frozen hK3
  have HDec3 := Lib.hid hD3
  have HK3 := Lib.hid hK3
  have HH3 := Lib.hid (hO3.blk (HH2.out.alloc _) nH)
  have HO3 := Lib.hid (((HO2.out.alloc _).mono (S' := [D, sg, lg, S, T, w.heap.size, w2.heap.size]) (fun x h => by simp at h)).then hO3 (fun x h => Or.inl h))
  clear hD3 hK3 hO3 HDec HK HH2 HO2
  go_wp2_with fail
  refine wp_loop_rounds 3 ?_
  rw [rounds_succ]
  go_wp2_with (first | ((with_reducible show wpList _ _ _ _ _ _); refine wpList_build0 rfl 203 rfl zeroTok built_tok ?_) | ((with_reducible show wpList _ _ _ _ _ _); refine wpList_store_row rfl 203 (.tmp 6) (.tmp 34) rfl w2.heap.size zeroTok rfl rfl 203 _ HK3.out tok_info rfl zero_all ?_))
  refine (Step_key D sg lg w2.heap.size S T w.heap.size b 10 cap (0 + 1) mapBytes (0 + 1) _ (HDec3.out.tok (off_zero HK3.out)) (blk_zero HK3.out) (by decide) (by decide) rfl (by decide) (by decide)).mono ?_
  rintro e w4 ⟨rfl, hD4, hK4, hO4⟩
  clear k0 k1 k2 k3 k4 k5 k6 k7 k8 k9 f0 f1 f2 f3 f4 f5 f6 f7 f8 f9
  rw [ver_str] at hK4
  obtain ⟨k0, -, k2, -⟩ := tok_cells hK4
  have HDec4 := Lib.hid hD4
  have HK4 := Lib.hid hK4
  have HH4 := Lib.hid (hO4.blk ((off_zero HK3.out).blk HH3.out (ni1 (by omega))) nH)
  have HO4 := Lib.hid ((HO3.out.then (off_zero HK3.out) (fun x h => by simp at h; simp [h])).then hO4 (fun x h => Or.inl h))
  clear hD4 hK4 hO4 HDec3 HH3 HO3
  go_wp2_with (first | ((with_reducible show wpList _ _ _ _ _ _); refine wpList_build0 rfl 203 rfl zeroTok built_tok ?_) | ((with_reducible show wpList _ _ _ _ _ _); refine wpList_store_row rfl 203 (.tmp 6) (.tmp 57) rfl w2.heap.size zeroTok rfl rfl 203 _ HK4.out tok_info rfl zero_all ?_))
  refine (Step_value2 D sg lg w2.heap.size 0 S T w.heap.size b 10 cap (0 + 1 + 1 + 7) mapBytes (0 + 1 + 1 + 7) _ (HDec4.out.tok (off_zero HK4.out)) (blk_zero HK4.out) (by decide) rfl (by decide) (by decide)).mono ?_
  rintro e w5 ⟨rfl, hD5, hK5, hO5⟩
  clear k0 k2
  obtain ⟨k0, -, -, -, -, -, k6, -⟩ := tok_cells hK5
  have hH5 := hO5.blk ((off_zero HK4.out).blk HH4.out (ni1 (by omega))) nH
  have g1 := hH5.cell 1
  have gf1 := hH5.frozen 1
  simp at g1
  have hKH := hK5.far (p := ⟨H, 1, none⟩) (by simp; omega) (.int .u64 2)
  have HDec5 := Lib.hid (hD5.off (X := [H]) ((Off.refl [H] w5).setCell (p := ⟨H, 1, none⟩) (by simp) (.int .u64 2)) (fun x hx => by
    obtain rfl : x = H := by simpa using hx
    refine ⟨?_, ?_, ?_, ?_, ?_, ?_, ?_, ?_⟩ <;> omega))
  have HK5 := Lib.hid hKH
  have HH5 := Lib.hid (hH5.set_ 1 (.int .u64 2))
  have HO5 := Lib.hid ((((HO4.out.then (off_zero HK4.out) (fun x h => by simp at h; simp [h])).then hO5 (fun x h => Or.inl h)).mono (S' := [D, sg, lg, S, T, w.heap.size, w2.heap.size, H]) (fun x h => by simp at h ⊢; omega)).setCell (p := ⟨H, 1, none⟩) (by simp) (.int .u64 2))
  clear hD5 hK5 hO5 HDec4 HH4 HO4 hH5 hKH
  go_wp2_with fail
  rw [rounds_succ]
  go_wp2_with (first | ((with_reducible show wpList _ _ _ _ _ _); refine wpList_build0 rfl 203 rfl zeroTok built_tok ?_) | ((with_reducible show wpList _ _ _ _ _ _); refine wpList_store_row rfl 203 (.tmp 6) (.tmp 34) rfl w2.heap.size zeroTok rfl rfl 203 _ HK5.out tok_info rfl zero_all ?_))
  refine (Step_end D sg lg w2.heap.size S T w.heap.size b 10 cap _ mapBytes _ _ (HDec5.out.tok (off_zero HK5.out)) (blk_zero HK5.out)).mono ?_
  rintro e w6 ⟨rfl, hD6, hK6, hO6⟩
  clear k0 k6
  obtain ⟨k0, -⟩ := tok_cells hK6
  have HH6 := Lib.hid (hO6.blk ((off_zero HK5.out).blk HH5.out (ni1 (by omega))) nH)
  have HO6 := Lib.hid ((HO5.out.then (off_zero HK5.out) (fun x h => by simp at h; simp [h])).then hO6 (fun x h => Or.inl (by simp at h ⊢; omega)))
  clear hD6 hK6 hO6
  go_wp2_with fail
  go_ret
  refine ⟨rfl, HH6.out, HO6.out.mono (fun x h => ?_)⟩
  simp at h
  rcases h with h | h | h | h | h | h | h | h
  all_goals first | (left; simp [h]; done) | (right; omega)
end Go.Proofs.YthmhnknkidkdlaaGreatDoor
namespace Go.Proofs.YthmhnknkidkdlaaGreatDoor
open Go.RowKit

end Go.Proofs.YthmhnknkidkdlaaGreatDoor
namespace Go.Proofs.YthmhnknkidkdlaaGreatDoor
open Go.RowKit

def zeroOptsP : Array Value := #[.int .u64 0, .int .u64 0, .int .u64 0, .bool false, .int .u64 0, .bool false, .bool false, .bool false, .int .u64 0, .bool false, .bool false, .int .u64 0, .int .u64 0]
/-- What begins a file of version 2. -/
def pragB : List UInt8 := 10 :: mapBytes
theorem pragB_len : pragB.length = 11 := rfl

set_option maxRecDepth 100000 in
set_option maxHeartbeats 1000000 in
theorem readHeader_prag {R b cap : Nat} {l t : List UInt8} {w : World} (h : RAt R b cap l 0 w) (hl : l = pragB ++ t) (hE : Eof w) (hER : 1 < R) (most : Nat) (hmost : 10 ≤ most) :
    Calls Tryz.prog 52 #[.iface 55 (.pointer (some ⟨R, 0, none⟩)), .int .u64 most] w fun e w' => ∃ H, e = .returned (.tuple #[.pointer (some ⟨H, 0, none⟩), .nilIface]) ∧ Blk w' H 129 #[.slice none 0 0, .int .u64 2] ∧ RAt R b cap l 11 w' ∧ Off [R] w w' := by
  have hRl := h.lt
  have hEl : 1 < w.heap.size := by obtain ⟨q, hq⟩ := hE; exact World.block_lt_of_cell? _ _ hq
  have hu : Lib.uvarint 10 = [10] := Lib.uvarint_small (by omega)
  have hC := ldRead_at (t := mapBytes ++ t) h 10 (by omega) (by omega) (by rw [hu, hl]; rfl) (by simp [mapBytes]) most hmost
  rw [hu, show (mapBytes ++ t).take 10 = mapBytes from List.take_left' rfl, show 0 + ([10] : List UInt8).length + 10 = 11 from rfl] at hC
  have hlp : 0 < l.length := by rw [hl, List.length_append, pragB_len]; omega
  have HC := Lib.hid hC
  have HE := Lib.hid hE
  clear h hl hE hC hu
  go_enter Tryz.func52, Tryz.ntmps52
  go_wp2_with fail
  refine HC.out.mono ?_
  rintro e w1 ⟨g, hg, rfl, hB1, hR1, hO1⟩
  have hgl := hB1.lt
  have HB1 := Lib.hid hB1
  have HO1 := Lib.hid hO1
  have HR1 := Lib.hid hR1
  have hz1 := hO1.size
  have HZ := Lib.hid (zzDecode_pragma g w1.heap.size 10 (.slice none 0 0) (w1.alloc (.cells #[.slice none 0 0, .int .u64 0] 129)) ((Blk.seg' hB1).alloc hgl _) (Blk.new w1 _ _) ((HE.out.off hO1 (ni1 (by omega))).off (S := []) ((Off.refl [] w1).alloc _) (by simp)) (by omega) (by omega) (by omega) (by omega))
  have hRl1 := hR1.lt
  have hbl1 : b < w1.heap.size := hR1.seg.lt hlp
  clear hB1 hR1 hO1
  go_wp2_with fail
  refine HZ.out.mono ?_
  rintro e w2 ⟨rfl, hH2, hO2⟩
  have HH2 := Lib.hid hH2
  have HO2 := Lib.hid hO2
  clear hH2 hO2
  go_wp2_with fail
  go_ret2
  exact ⟨_, rfl, HH2.out, (HR1.out.off (S := []) ((Off.refl [] w1).alloc _) (by simp) (by simp)).off HO2.out (ni1 (by omega)) (ni1 (by omega)), (HO1.out.alloc _).then HO2.out (fun x h => by simp at h; right; omega)⟩

set_option maxRecDepth 100000 in
set_option maxHeartbeats 4000000 in
theorem readVersion_prag {R b cap g p1 p2 p3 p4 p5 p6 p7 p8 : Nat} {l t : List UInt8} {w : World} (h : RAt R b cap l 0 w) (hl : l = pragB ++ t) (hE : Eof w) (hER : 1 < R) (ho : OptsZ false w g p1 p2 p3 p4 p5 p6 p7 p8) :
    Calls Tryz.prog 45 #[.iface 55 (.pointer (some ⟨R, 0, none⟩)), .slice (some ⟨g, 0, none⟩) 8 8] w fun e w' => e = .returned (.tuple #[.int .u64 2, .nilIface]) ∧ RAt R b cap l 11 w' ∧ Off [R] w w' := by
  have hRl := h.lt
  have HC := Lib.hid (applyOptions_z false g p1 p2 p3 p4 p5 p6 p7 p8 w ho)
  have HR := Lib.hid h
  have HE := Lib.hid hE
  have HH := Lib.hid (fun W (k1 : RAt R b cap l 0 W) (k3 : Eof W) => readHeader_prag k1 hl k3 hER 33554432 (by omega))
  have hoi : (Tryz.prog.info? 75).map (·.size) = some (optCellsZ false 1025 2048).size := by kernel_rfl
  have hoa : (optCellsZ false 1025 2048).all (·.oneCell') = true := by kernel_rfl
  clear h hl hE ho
  go_enter Tryz.func45, Tryz.ntmps45
  go_wp2_with fail
  refine HC.out.mono ?_
  rintro e w1 ⟨rfl, hO1⟩
  have HO1 := Lib.hid hO1
  have hz1 := hO1.size
  clear hO1
  have hrow : Blk ((w1.alloc (.cells zeroOptsP 75)).setRow w1.heap.size (optCellsZ false 1025 2048)) w1.heap.size 75 (optCellsZ false 1025 2048) := setRow_heap _ _ _ _ _ _ (Blk.new w1 _ zeroOptsP)
  have hoff : Off [] w ((w1.alloc (.cells zeroOptsP 75)).setRow w1.heap.size (optCellsZ false 1025 2048)) := (HO1.out.alloc (.cells zeroOptsP 75)).then (off_setRow (Blk.new w1 _ zeroOptsP) _) (fun x h => by simp at h; right; omega)
  obtain ⟨w2, hw2⟩ : ∃ w2, w2 = (w1.alloc (.cells zeroOptsP 75)).setRow w1.heap.size (optCellsZ false 1025 2048) := ⟨_, rfl⟩
  rw [← hw2] at hrow hoff
  have c11 : w2.cell? ⟨w1.heap.size, 11, none⟩ = some (.int .u64 33554432) := hrow.cell 11
  have HH2 := Lib.hid (HH.out w2 (HR.out.off hoff (by simp) (by simp)) (HE.out.off hoff (by simp)))
  have HOF := Lib.hid hoff
  have HW2 := Lib.hid hw2
  clear hrow hoff hw2
  unfold zeroOptsP at HW2
  go_wp2_with (first | ((with_reducible show wpList _ _ _ _ _ _); refine wpList_store_row rfl 75 (.tmp 6) (.tmp 10) rfl w1.heap.size (optCellsZ false 1025 2048) rfl rfl 75 _ (Blk.new w1 _ _) hoi rfl hoa ?_; rw [← HW2.out]))
  refine HH2.out.mono ?_
  rintro e w3 ⟨H, rfl, hH2, hR2, hO2⟩
  have q1 := hH2.cell 1
  simp at q1
  have HO2 := Lib.hid hO2
  have HR2 := Lib.hid hR2
  clear hH2 hO2 hR2
  go_wp2_with fail
  go_ret2
  exact ⟨rfl, HR2.out, (HOF.out.trans HO2.out).mono (fun x h => by simp at h; simp [h])⟩
end Go.Proofs.YthmhnknkidkdlaaGreatDoor
