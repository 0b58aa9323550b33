/- Multihashes: what the functions that write one make. -/
import Derived.Test.YtpipfopddlgakaaDoorProg
import Derived.Test.YtpipfopddlgakaaDoorVar
import Derived.Test.YtpipfopddlgakaaDoorSeg
import Derived.Test.YtpipfopddlgakaaDoorShelf
import Derived.Deep.RegionWith
import Derived.WalkSpells
import Derived.WalkLawsBesides
namespace Go.Proofs.YtpipfopddlgakaaDoor
open Go.RowKit

theorem bitLenAux_mono (f : Nat) : ∀ (g x : Nat), x < 2 ^ f → f ≤ g → Lib.bitLenAux g x = Lib.bitLenAux f x := by
  induction f with
  | zero => intro g x hx _; obtain rfl : x = 0 := by simpa using hx
            cases g <;> simp [Lib.bitLenAux]
  | succ f ih =>
    intro g x hx hg
    obtain ⟨g, rfl⟩ : ∃ k, g = k + 1 := ⟨g - 1, by omega⟩
    simp only [Lib.bitLenAux]
    split
    · rfl
    · rw [ih g (x / 2) (by rw [Nat.pow_succ] at hx; omega) (by omega)]
theorem bitLenAux_step (f x : Nat) (hx : 0 < x) : Lib.bitLenAux (f + 1) x = 1 + Lib.bitLenAux f (x / 2) := by simp only [Lib.bitLenAux]; rw [if_neg (by omega)]
theorem bitLen_small (x : Nat) (hx : x < 128) : Lib.bitLen x ≤ 7 ∧ (0 < x → 0 < Lib.bitLen x) ∧ (x = 0 → Lib.bitLen x = 0) := by
  have h : ∀ n : Fin 128, Lib.bitLen n.val ≤ 7 ∧ (0 < n.val → 0 < Lib.bitLen n.val) ∧ (n.val = 0 → Lib.bitLen n.val = 0) := by decide +kernel
  exact h ⟨x, hx⟩
theorem bitLen_big (x : Nat) (hx : 128 ≤ x) (h64 : x < 18446744073709551616) : Lib.bitLen x = 7 + Lib.bitLen (x / 128) := by
  have e : Lib.bitLen (x / 128) = Lib.bitLenAux 57 (x / 128) := bitLenAux_mono 57 64 (x / 128) (by omega) (by omega)
  rw [e]
  unfold Lib.bitLen
  rw [bitLenAux_step 63 x (by omega), bitLenAux_step 62 _ (by omega), bitLenAux_step 61 _ (by omega), bitLenAux_step 60 _ (by omega), bitLenAux_step 59 _ (by omega), bitLenAux_step 58 _ (by omega), bitLenAux_step 57 _ (by omega)]
  have : x / 2 / 2 / 2 / 2 / 2 / 2 / 2 = x / 128 := by omega
  rw [this]; omega
theorem uvarint_size (x : Nat) : x < 18446744073709551616 → (Lib.uvarint x).length = Lib.bitLen x / 7 + (if 0 < Lib.bitLen x % 7 ∨ Lib.bitLen x / 7 = 0 then 1 else 0) := by
  induction x using Nat.strongRecOn with
  | _ x ih =>
    intro h64
    by_cases h : x < 128
    · rw [Lib.uvarint_small h]
      have := bitLen_small x h
      simp only [List.length_cons, List.length_nil]
      split <;> omega
    · rw [Lib.uvarint_big (by omega), List.length_cons, ih (x / 128) (by omega) (by omega), bitLen_big x (by omega) h64]
      have hp : 0 < Lib.bitLen (x / 128) := by
        by_cases h2 : x / 128 < 128
        · exact (bitLen_small _ h2).2.1 (by omega)
        · rw [bitLen_big _ (by omega) (by omega)]; omega
      split <;> split <;> omega
theorem bitLen_le (x : Nat) (h : x < 18446744073709551616) : Lib.bitLen x ≤ 64 := by
  have : ∀ f y, Lib.bitLenAux f y ≤ f := by
    intro f
    induction f with
    | zero => intro y; simp [Lib.bitLenAux]
    | succ f ih => intro y; simp only [Lib.bitLenAux]; split; omega; have := ih (y / 2); omega
  exact this 64 x

theorem ret1 {a a' : Int} {k : IntKind} (h : a = a') : Ending.returned (.int k a) = .returned (.int k a') := by rw [h]

set_option maxRecDepth 100000 in
theorem uvarintSize_any (x : Nat) (w : World) (hx : x < 18446744073709551616) :
    Calls Tryd.prog 27 #[.int .u64 x] w fun e w' => e = .returned (.int .i64 (Lib.uvarint x).length) ∧ w = w' := by
  have HL := Lib.hid (uvarint_size x hx)
  have hle := bitLen_le x hx
  have HX := Lib.hid hx
  obtain ⟨L, hL⟩ : ∃ L, L = Lib.bitLen x := ⟨_, rfl⟩
  rw [← hL] at hle
  have HLL := Lib.hid hL
  clear hx hL
  have hcs : (0 < L % 7) ∨ (L % 7 = 0 ∧ L / 7 = 0) ∨ (L % 7 = 0 ∧ 0 < L / 7) := by omega
  rcases hcs with h | ⟨h1, h2⟩ | ⟨h1, h2⟩
  · have hI : (0 : Int) < (L : Int) % 7 := by omega
    go_enter Tryd.func27, Tryd.ntmps27
    go_wp2_with (go_at_call 45; refine (Tryd.bits_Len64 _ _ (by have := HX.out; omega) (by have := HX.out; omega)).mono ?_; rintro e w' ⟨rfl, rfl⟩; simp only [Int.toNat_natCast]; rw [← HLL.out])
    go_ret
    exact ⟨ret1 (by rw [HL.out, ← HLL.out, if_pos (Or.inl h)]; omega), rfl⟩
  · have hI : (L : Int) % 7 ≤ 0 := by omega
    have hB : ((L : Int) / 7 == 0) = true := beq_iff_eq.2 (by omega)
    have H1 := Lib.hid h1
    have H2 := Lib.hid h2
    clear h1 h2
    go_enter Tryd.func27, Tryd.ntmps27
    go_wp2_with (go_at_call 45; refine (Tryd.bits_Len64 _ _ (by have := HX.out; omega) (by have := HX.out; omega)).mono ?_; rintro e w' ⟨rfl, rfl⟩; simp only [Int.toNat_natCast]; rw [← HLL.out])
    go_ret
    exact ⟨ret1 (by have := H2.out; rw [HL.out, ← HLL.out, if_pos (Or.inr H2.out)]; omega), rfl⟩
  · have hI : (L : Int) % 7 ≤ 0 := by omega
    have hB : ((L : Int) / 7 == 0) = false := beq_eq_false_iff_ne.2 (by omega)
    have H1 := Lib.hid h1
    have H2 := Lib.hid h2
    clear h1 h2
    go_enter Tryd.func27, Tryd.ntmps27
    go_wp2_with (go_at_call 45; refine (Tryd.bits_Len64 _ _ (by have := HX.out; omega) (by have := HX.out; omega)).mono ?_; rintro e w' ⟨rfl, rfl⟩; simp only [Int.toNat_natCast]; rw [← HLL.out])
    go_ret
    exact ⟨ret1 (by have := H1.out; have := H2.out; rw [HL.out, ← HLL.out, if_neg (by omega)]; omega), rfl⟩

set_option maxRecDepth 100000 in
theorem putUvarint_any (g o n c x : Nat) (hx : x < 18446744073709551616) (w : World) (hn : (Lib.uvarint x).length ≤ n) (hcell : ∀ j, j < (Lib.uvarint x).length → (w.cell? ⟨g, o + j, none⟩).isSome = true ∧ w.frozen? ⟨g, o + j, none⟩ = false) :
    Calls Tryd.prog 28 #[.slice (some ⟨g, o, none⟩) n c, .int .u64 x] w fun e w' => e = .returned (.int .i64 (Lib.uvarint x).length) ∧ w.setCells g o (Lib.byteCells (Lib.uvarint x)) = w' := by
  have H := Lib.hid (Tryd.binary_PutUvarint g o n c x hx w hn hcell)
  clear hcell hn hx
  go_enter Tryd.func28, Tryd.ntmps28
  go_wp2_with (go_at_call 46; refine H.out.mono ?_; rintro e w' ⟨rfl, rfl⟩)
  go_ret
  exact ⟨rfl, rfl⟩

theorem Tryd.infoByte : (Tryd.prog.info? 5).map (fun i => (i.zero, i.size, i.bytes)) = some (some (.int .u8 0), 1, 1) := by kernel_rfl

theorem Tryd.sizeByte : (Tryd.prog.info? 5).map (·.size) = some 1 := by kernel_rfl
theorem byteCells_one (l : List UInt8) : ∀ v ∈ Lib.byteCells l, v.oneCell' = true := by
  intro v hv
  simp only [Lib.byteCells, List.mem_map] at hv
  obtain ⟨x, _, rfl⟩ := hv
  rfl
theorem byteCells_get (l : List UInt8) (j : Nat) (v : Value) (h : (Lib.byteCells l)[j]? = some v) : ∃ h : j < l.length, v = .int .u8 (l[j].toNat : Int) := by
  simp only [Lib.byteCells, List.getElem?_map, Option.map_eq_some_iff] at h
  obtain ⟨x, hx, rfl⟩ := h
  obtain ⟨hj, rfl⟩ := List.getElem?_eq_some_iff.1 hx
  exact ⟨hj, rfl⟩
theorem add_plain (b o j : Nat) : (⟨b, o, none⟩ : Addr).add j = ⟨b, o + j, none⟩ := by unfold Addr.add; split <;> simp_all
theorem Seg.cells {w : World} {b o : Nat} {l : List UInt8} (h : Seg w b o l) : ∀ j v, (Lib.byteCells l)[j]? = some v → w.cell? ((⟨b, o, none⟩ : Addr).add j) = some v := by
  intro j v hv
  obtain ⟨hj, rfl⟩ := byteCells_get l j v hv
  rw [add_plain]; exact h j hj

/-- So many zero bytes. -/
def zeroBytes (n : Nat) : List Value := Lib.byteCells (List.replicate n 0)
theorem zeroBytes_length (n : Nat) : (zeroBytes n).length = n := by simp [zeroBytes, Lib.byteCells_length]
theorem zeroBytes_append (m n : Nat) : zeroBytes (m + n) = zeroBytes m ++ zeroBytes n := by simp [zeroBytes, Lib.byteCells, List.replicate_append_replicate]
theorem madeCells_bytes (n : Nat) : madeCells (Value.int .u8 0).cells n = (zeroBytes n).toArray := by
  apply Array.ext
  · simp [size_madeCells, zeroBytes, Lib.byteCells]
  · intro i h1 h2
    simp [madeCells, zeroBytes, Lib.byteCells, Value.cells, Nat.mod_one]
theorem run_makeBytes {P : Program} {t e : TypeId} {i : TypeInfo} (ht : P.underlying t = some (.slice e)) (hi : P.info? e = some i) (hz : i.zero = some (.int .u8 0)) (hs : i.size = 1) (hb : i.bytes = 1)
    (n : Nat) (hn : n ≤ 281474976710656) (w : World) :
    (Instr.makeSlice t (.int .i64 (n : Int)) (.int .i64 (n : Int))).run P w = .ok (.slice (some ⟨w.heap.size, 0, none⟩) n n) (w.alloc (.cells (zeroBytes n).toArray e)) := by
  have hr := run_make (P := P) w t e i (.int .u8 0) ht hi hz .i64 .i64 (n : Int) (n : Int) (by omega) (by omega) (by rw [hb]; omega) (by omega)
  simp only [Int.toNat_natCast, hs, Nat.mul_one, madeCells_bytes] at hr
  exact hr

/-- A varint is laid into a block of the caller's: at a place 'pre.length', over as many cells. -/
theorem putUvarint_blk (g o n c x : Nat) (t : TypeId) (pre mid post : List Value) (hx : x < 18446744073709551616) (w : World) (hn : (Lib.uvarint x).length ≤ n) (hpre : pre.length = o) (hmid : mid.length = (Lib.uvarint x).length) (hb : Blk w g t (pre ++ (mid ++ post)).toArray) :
    Calls Tryd.prog 28 #[.slice (some ⟨g, o, none⟩) n c, .int .u64 x] w fun e w' => e = .returned (.int .i64 (Lib.uvarint x).length) ∧ Blk w' g t (pre ++ (Lib.byteCells (Lib.uvarint x) ++ post)).toArray ∧ w.grownBy w' (some g) ∧ w'.heap.size = w.heap.size := by
  refine (putUvarint_any g o n c x hx w hn ?_).mono ?_
  · intro j hj
    refine ⟨?_, hb.frozen _⟩
    rw [hb.cell]
    simp
    omega
  · rintro e w' ⟨rfl, rfl⟩
    exact ⟨rfl, hb.setCells _ _ _ _ _ _ hpre (by rw [hmid, Lib.byteCells_length]), grown_setCells _ _ _ _, setCells_size _ _ _ _⟩

/-- A multihash's bytes. -/
def mhB (code : Nat) (d : List UInt8) : List UInt8 := Lib.uvarint code ++ (Lib.uvarint d.length ++ d)
theorem mhB_length (code : Nat) (d : List UInt8) : (mhB code d).length = (Lib.uvarint code).length + (Lib.uvarint d.length).length + d.length := by simp [mhB]; omega

set_option maxRecDepth 100000 in
set_option maxHeartbeats 1000000 in
theorem encode_any (b o c code : Nat) (d : List UInt8) (w : World) (hd : d.length ≤ 2147483647) (hc : code < 18446744073709551616) (hs : Seg w b o d) :
    Calls Tryd.prog 13 #[.slice (some ⟨b, o, none⟩) d.length c, .int .u64 code] w fun e w' =>
      e = .returned (.tuple #[.slice (some ⟨w.heap.size, 0, none⟩) (mhB code d).length (mhB code d).length, .nilIface]) ∧ Blk w' w.heap.size 5 (Lib.byteCells (mhB code d)).toArray ∧ Below w.heap.size w w' := by
  have hu1 := Lib.uvarint_length64 hc
  have hu2 := Lib.uvarint_length64 (x := d.length) (by omega)
  have HCC := Lib.hid hc
  have HS := Lib.hid hs
  clear hc hs
  obtain ⟨i0, hi, hz0, hz1, hz2⟩ := info_parts Tryd.infoByte
  have hN := mhB_length code d
  have HN := Lib.hid hN
  clear hN
  have hmk : ∀ (W : World), (Instr.makeSlice 33 (.int .i64 (((Lib.uvarint code).length : Int) + ((Lib.uvarint d.length).length : Int) + (d.length : Int))) (.int .i64 (((Lib.uvarint code).length : Int) + ((Lib.uvarint d.length).length : Int) + (d.length : Int)))).run Tryd.prog W = .ok (.slice (some ⟨W.heap.size, 0, none⟩) (mhB code d).length (mhB code d).length) (W.alloc (.cells (zeroBytes (mhB code d).length).toArray 5)) := by
    intro W
    have h := run_makeBytes Tryd.underlying33 hi hz0 hz1 hz2 (mhB code d).length (by rw [HN.out]; omega) W
    rw [HN.out] at h ⊢
    push_cast at h
    exact h
  have HMK := Lib.hid hmk
  clear hmk
  go_enter Tryd.func13, Tryd.ntmps13
  have hmk := HMK.out w
  go_wp2_with (first
    | (go_at_call_of 27 (Value.int .u64 (code : Int)); refine (uvarintSize_any code _ HCC.out).mono ?_; rintro e w' ⟨rfl, rfl⟩)
    | (go_at_call 27; refine (uvarintSize_any d.length _ (by omega)).mono ?_; rintro e w' ⟨rfl, rfl⟩))
  have hlN : (mhB code d).length ≤ 2147483700 := by rw [HN.out]; omega
  refine (putUvarint_blk w.heap.size 0 _ _ code 5 [] (zeroBytes (Lib.uvarint code).length) (zeroBytes ((Lib.uvarint d.length).length + d.length)) HCC.out _ (by rw [HN.out]; omega) rfl (zeroBytes_length _) ?_).mono ?_
  · rw [List.nil_append, ← zeroBytes_append, ← Nat.add_assoc, ← HN.out]
    exact Blk.new _ _ _
  rintro e w1 ⟨rfl, hb1, hg1, hz1'⟩
  have hp2 := Lib.uvarint_pos d.length
  have hle1 : (Lib.uvarint code).length ≤ (mhB code d).length := by rw [HN.out]; omega
  have hne1 : ¬ (mhB code d).length = (Lib.uvarint code).length := by rw [HN.out]; omega
  have hle2 : (Lib.uvarint code).length + (Lib.uvarint d.length).length ≤ (mhB code d).length := by rw [HN.out]; omega
  go_wp2_with fail
  refine (putUvarint_blk w.heap.size _ _ _ d.length 5 (Lib.byteCells (Lib.uvarint code)) (zeroBytes (Lib.uvarint d.length).length) (zeroBytes d.length) (by omega) w1 (by rw [HN.out]; omega) (Lib.byteCells_length _) (zeroBytes_length _) ?_).mono ?_
  · rw [← zeroBytes_append]; exact hb1
  rintro e w2 ⟨rfl, hb2, hg2, hz2'⟩
  have hB1 : Below w.heap.size w w1 := below_of_grown (((Below.refl _ w).alloc (Nat.le_refl _) _)) hg1 (by simp) (Nat.le_refl _)
  have hB2 : Below w.heap.size w w2 := below_of_grown hB1 hg2 (by rw [hz1']; simp) (Nat.le_refl _)
  have hb2' : w2.heap[w.heap.size]? = some (.cells (Lib.byteCells (Lib.uvarint code ++ Lib.uvarint d.length) ++ zeroBytes d.length).toArray 5 (0, 0)) := by
    have e : Lib.byteCells (Lib.uvarint code ++ Lib.uvarint d.length) ++ zeroBytes d.length = Lib.byteCells (Lib.uvarint code) ++ (Lib.byteCells (Lib.uvarint d.length) ++ zeroBytes d.length) := by simp [Lib.byteCells]
    rw [e]; exact hb2
  have HB2' := Lib.hid hb2'
  have HSS := Lib.hid (fun (h : 0 < d.length) => (HS.out.below hB2 (HS.out.lt h)))
  clear hb2' hb2 hb1 hg2 hz2' hg1 hz1' hp2
  go_wp2_with (first
    | ((with_reducible show wpList _ _ _ _ _ _); refine wpList_copyB (o := ⟨some 35, _, _, _, _, _⟩) rfl (.tmp 33) (.tmp 34) 33 33 rfl 5 Tryd.underlying33 Tryd.sizeByte w.heap.size ((Lib.uvarint code).length + (Lib.uvarint d.length).length) _ 5 HB2'.out (Lib.byteCells d) ?_ (byteCells_one d) w.heap.size w hB2 (Nat.le_refl _) ?_ ?_
       go_loud (focus
        simp only [List.length_append, Lib.byteCells_length, zeroBytes_length]; omega)
       go_loud (focus
        refine ⟨_, _, _, _, _, _, rfl, rfl, ?_, ?_⟩
        focus
         rw [Lib.byteCells_length]
         have := HN.out
         show d.length = min d.length _
         omega
        focus
         rw [Lib.byteCells_length]
         intro hpos
         have hne : ¬ (mhB code d).length = (Lib.uvarint code).length + (Lib.uvarint d.length).length := by rw [HN.out]; omega
         exact ⟨by rw [if_neg hne], _, rfl, (HSS.out hpos).cells⟩)
       intro w3 HG3 HB3))
  all_goals
    go_ret2
    refine ⟨?_, ?_, HB3⟩
    · first
      | rfl
      | (have h : (mhB code d).length = (Lib.uvarint code).length + (Lib.uvarint d.length).length := by assumption
         rw [h]; rfl)
    · have := HG3.out
      unfold Blk
      rw [this]
      congr 2
      rw [splice]
      simp only [Lib.byteCells, mhB, List.map_append]
      rw [List.take_append_of_le_length (by simp), List.take_of_length_le (by simp), List.drop_of_length_le (by simp [zeroBytes, Lib.byteCells]; omega)]
      simp
end Go.Proofs.YtpipfopddlgakaaDoor
