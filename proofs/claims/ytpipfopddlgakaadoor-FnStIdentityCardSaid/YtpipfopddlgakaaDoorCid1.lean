/- Identifiers of version 1 are made: their bytes are the version, the codec and the multihash. -/
import Derived.Test.YtpipfopddlgakaaDoorCid
import Derived.Test.YtpipfopddlgakaaDoorBld
namespace Go.Proofs.YtpipfopddlgakaaDoor
open Go.RowKit

theorem run_sliceAt_arr {P : Program} {t e n : Nat} {i : TypeInfo} (ht : P.underlying t = some (.array n e)) (hi : P.info? e = some i) (g o h : Nat) (hh : h ≤ n) (W : World) :
    (Instr.sliceAt t (.pointer (some ⟨g, o, none⟩)) none (some (.int .i64 (h : Int))) none).run P W = .ok (.slice (some ⟨g, o, none⟩) h n) W := by
  have hz : (⟨g, o, none⟩ : Addr).add 0 = ⟨g, o, none⟩ := by rw [add_plain]; rfl
  simp [Instr.sliceAt, Instr.sureAddr, run_underlying ht, Instr.sliceBounds, run_sliceBound, sizeOf, typeInfo, hi, hh, hz]

theorem ownsRow_below {w w' : World} {B e size n : Nat} {v : Value} {xs : List Value} (h : w.ownsRow B e size v n xs) (hb : Below w.heap.size w w') : w'.ownsRow B e size v n xs := by
  refine ⟨h.1, ?_⟩
  rcases h.2 with hn | ⟨g, cap, cur, rfl, hg, hgg, rest⟩
  · exact .inl hn
  · exact .inr ⟨g, cap, cur, rfl, hg, by rw [hb.block g (Array.getElem?_eq_some_iff.1 hgg).1]; exact hgg, rest⟩
theorem builder_below {w w' : World} {T e B b : Nat} {p : Value} {bs : List Value} (h : Lib.BuilderAt T e B b p bs w) (hb : Below w.heap.size w w') : Lib.BuilderAt T e B b p bs w' := by
  have hlt := h.lt
  obtain ⟨hB, v, hbk, hown, hne⟩ := h
  exact ⟨hB, v, by rw [hb.block b hlt]; exact hbk, ownsRow_below hown hb, hne⟩

set_option maxRecDepth 100000 in
set_option maxHeartbeats 1000000 in
theorem newV1_ok (codec b o c n : Nat) (mh : List UInt8) (w : World) (hx : codec < 18446744073709551616) (hn : mh.length = n) (hp : 0 < n) (hm : n ≤ 2147483700) (hs : Seg w b o mh) :
    Calls Tryd.prog 15 #[.int .u64 codec, .slice (some ⟨b, o, none⟩) n c] w fun e w' => e = .returned (.agg #[.string (str (cid1 codec mh))]) ∧ Below w.heap.size w w' := by
  have hlu := Lib.uvarint_length64 hx
  have hpu := Lib.uvarint_pos codec
  have hbw : b < w.heap.size := hs.lt (by omega)
  obtain ⟨i0, hi, _, _, _⟩ := info_parts Tryd.infoByte
  have HX := Lib.hid hx
  have HN := Lib.hid hn
  have HS := Lib.hid hs
  clear hx hn hs
  go_enter Tryd.func15, Tryd.ntmps15
  go_wp2_with fail
  refine (uvarintSize_any codec _ HX.out).mono ?_
  rintro e w' ⟨rfl, rfl⟩
  go_wp2_with fail
  rw [show (1 : Int) + ((Lib.uvarint codec).length : Int) + (n : Int) = ((1 + (Lib.uvarint codec).length + n : Nat) : Int) from by omega]
  refine (Tryd.Builder_Grow_fresh (w.heap.size + 1) (w.heap.size + 1) (1 + (Lib.uvarint codec).length + n) _ (Nat.le_refl _) ?_ (by simp) (by omega)).mono ?_
  · have h := Blk.new (w.alloc (.cells #[Value.string ByteArray.empty] 30)) 66 #[Value.pointer none, Value.slice none 0 0]
    have e : (w.alloc (.cells #[Value.string ByteArray.empty] 30)).heap.size = w.heap.size + 1 := by simp
    rw [e] at h
    exact h
  rintro e w1 ⟨rfl, hbd1, hB1⟩
  have hz1 := hB1.size
  simp at hz1
  have HB1 := Lib.hid hB1
  have HBD1 := Lib.hid hbd1
  clear hbd1 hB1
  go_wp2_with fail
  refine (bldWriteByte _ _ _ 1 _ HBD1.out (by simp) (by omega)).mono ?_
  rintro e w2 ⟨rfl, hbd2, hB2⟩
  have hz2 := hB2.size
  have HB2 := Lib.hid hB2
  have HBD2 := Lib.hid hbd2
  clear hbd2 hB2
  go_wp2_with fail
  have hlX : (Lib.uvarint codec).length + (10 - (Lib.uvarint codec).length) = 10 := by omega
  refine (putUvarint_blk w2.heap.size 0 10 10 codec 69 [] (zeroBytes (Lib.uvarint codec).length) (zeroBytes (10 - (Lib.uvarint codec).length)) HX.out _ (by omega) rfl (zeroBytes_length _) ?_).mono ?_
  · rw [List.nil_append, ← zeroBytes_append, hlX]
    exact Blk.new w2 69 _
  rintro e w3 ⟨rfl, hb3, hg3, hz3⟩
  simp at hz3
  have hB3 : Below w2.heap.size w2 w3 := below_of_grown ((Below.refl _ w2).alloc (Nat.le_refl _) _) hg3 (by simp) (Nat.le_refl _)
  have HBD3 := Lib.hid (builder_below HBD2.out hB3)
  have hS3 : Seg w3 w2.heap.size 0 (Lib.uvarint codec) := by
    rw [List.nil_append] at hb3
    exact hb3.seg
  have HB3 := Lib.hid hB3
  have HS3 := Lib.hid hS3
  clear hb3 hg3 hB3 hS3 hlX
  have hsl := run_sliceAt_arr (P := Tryd.prog) Tryd.underlying69 hi w2.heap.size 0 (Lib.uvarint codec).length (by omega) w3
  go_wp2_with fail
  refine (bldWrite (w.heap.size + 1) _ _ _ _ _ _ (Lib.uvarint codec) _ HBD3.out rfl (by simp; omega) (by omega) (by omega) HS3.out).mono ?_
  rintro e w4 ⟨rfl, hbd4, hB4⟩
  have hz4 := hB4.size
  have HB4 := Lib.hid hB4
  have HBD4 := Lib.hid hbd4
  have HB14 := Lib.hid ((((HB1.out.trans HB2.out).trans (HB3.out.mono (by omega))).trans HB4.out))
  have HS4 : Hid (Seg w4 b o mh) := by
    show Seg _ _ _ _
    refine Seg.below (B := w.heap.size + 1) (w := ((w.alloc (.cells #[Value.string ByteArray.empty] 30)).alloc (.cells #[Value.pointer none, Value.slice none 0 0] 66))) ?_ HB14.out (by omega)
    exact (HS.out.alloc hbw _).alloc (by simp; omega) _
  clear hbd4 hB4
  go_wp2_with fail
  refine (bldWrite (w.heap.size + 1) _ _ _ _ _ n mh _ HBD4.out HN.out (by simp [Lib.byteCells_length]; omega) hp (by omega) HS4.out).mono ?_
  rintro e w5 ⟨rfl, hbd5, hB5⟩
  have hz5 := hB5.size
  have HB5 := Lib.hid hB5
  have hbs : (([] : List Value) ++ [Value.int .u8 1] ++ Lib.byteCells (Lib.uvarint codec) ++ Lib.byteCells mh) = Lib.byteCells (cid1 codec mh) := by simp [Lib.byteCells, cid1]
  rw [hbs] at hbd5
  have HBD5 := Lib.hid hbd5
  clear hbd5 hB5 hbs
  have hnn : ((n : Int) != (n : Int)) = false := by simp
  go_wp2_with fail
  refine (Tryd.Builder_String_any (w.heap.size + 1) _ (cid1 codec mh) _ (Or.inr HBD5.out) (by omega)).mono ?_
  rintro e w6 ⟨rfl, hB6⟩
  have HB6 := Lib.hid hB6
  have HB16 := Lib.hid ((HB14.out.trans HB5.out).trans HB6.out)
  have hk6 : Blk w6 w.heap.size 30 #[.string ByteArray.empty] := by
    refine Blk.below ?_ HB16.out (by omega)
    exact (Blk.new w _ _).alloc _
  have hc0 := hk6.cell 0
  have hf0 := hk6.frozen 0
  simp at hc0
  have HK := Lib.hid hk6
  clear hB6 hk6
  go_wp2_with fail
  refine bodyPost_ret (results_row rfl _ (HK.out.fill1) rfl Tryd.underlying30 rfl (by kernel_rfl)) rfl ⟨rfl, ?_⟩
  exact ((((Below.refl w.heap.size w).alloc (Nat.le_refl _) _).alloc (by simp) _).trans (HB16.out.mono (by omega))).setCell (p := ⟨w.heap.size, 0, none⟩) (Nat.le_refl _) _
end Go.Proofs.YtpipfopddlgakaaDoor
