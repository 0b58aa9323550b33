/-
  Identifiers read from bytes: multihash.MHFromBytes, Cast; cid.CidFromBytes, Cast.
  spec.Varint at any number.
  spec.MultihashBytes, spec.CidBytes: an identifier's bytes.
  (No condition beyond those that each theorem states.)
-/
import Derived.Test.YtkdbjocchponfaaGreatDoorM06
import Derived.Test.YtkdbjocchponfaaGreatDoorM01
import Derived.Test.YtkdbjocchponfaaGreatDoorM05
import Derived.Lib.Varint
import Derived.Test.YtkdbjocchponfaaGreatDoorM34
import Derived.Deep.RegionWith
import Derived.Deep.RegionHeld3
namespace Go.Proofs.YtkdbjocchponfaaGreatDoor
open Go.RowKit

theorem results_trt {P : Program} {fn : Func} {t p u : Tmp} {ty ty' : TypeId} {g : Nat} {cs : Array Value} (h : fn.results = #[.tmp t, .cell p ty, .tmp u]) (tmps : Array Value) {W : World} {d : TypeDesc}
    (hg : Blk W g ty' cs) (hp : tmps.getD p undef = .pointer (some ⟨g, 0, none⟩)) (hu : P.underlying ty = some d) (hd : (match d with | .struct _ | .array _ _ => true | _ => false) = true) (hi : (P.info? ty).map (·.size) = some cs.size) :
    (results fn tmps).run P W = .ok (.tuple #[tmps.getD t undef, .agg cs, tmps.getD u undef]) W := by
  have hp' : tmps[p]?.getD undef = .pointer (some ⟨g, 0, none⟩) := by simpa using hp
  simp only [results, h]
  simp [hp', asAddr, run_loadVar_row W g ty' ty cs (0, 0) d hg hu hd hi]
theorem results_rt {P : Program} {fn : Func} {p u : Tmp} {ty ty' : TypeId} {g : Nat} {cs : Array Value} (h : fn.results = #[.cell p ty, .tmp u]) (tmps : Array Value) {W : World} {d : TypeDesc}
    (hg : Blk W g ty' cs) (hp : tmps.getD p undef = .pointer (some ⟨g, 0, none⟩)) (hu : P.underlying ty = some d) (hd : (match d with | .struct _ | .array _ _ => true | _ => false) = true) (hi : (P.info? ty).map (·.size) = some cs.size) :
    (results fn tmps).run P W = .ok (.tuple #[.agg cs, tmps.getD u undef]) W := results_row_tmp h tmps hg hp hu hd hi
set_option maxRecDepth 100000 in
set_option maxHeartbeats 1000000 in
theorem mhFromBytes_ok (code b o n c : Nat) (d : List UInt8) (w : World) (hx : code < 9223372036854775808) (hd : d.length ≤ 2147483647) (hn : n = (mhB code d).length) (hnc : n ≤ c) (hs : Seg w b o (mhB code d)) :
    Calls Tryz.prog 83 #[.slice (some ⟨b, o, none⟩) n c] w fun e w' =>
      e = .returned (.tuple #[.int .i64 n, .slice (some ⟨b, o, none⟩) n c, .nilIface]) ∧ Drew w w' := by
  have HC := Lib.hid (readMh_dg code b o n c d w hx hd hn hnc hs)
  clear hx hd hn hs
  go_enter Tryz.func83, Tryz.ntmps83
  go_wp2_with fail
  refine HC.out.mono ?_
  rintro e w1 ⟨D, C, rfl, hdg, hD1⟩
  have HD1 := Lib.hid hD1
  clear hdg hD1
  go_wp2_with fail
  go_quiet (fail)
  go_wp2_with fail
  go_ret3
  exact ⟨rfl, HD1.out.more _⟩

set_option maxRecDepth 100000 in
set_option maxHeartbeats 1000000 in
theorem mhCast_ok (code b o n c : Nat) (d : List UInt8) (w : World) (hx : code < 9223372036854775808) (hd : d.length ≤ 2147483647) (hn : n = (mhB code d).length) (hnc : n ≤ c) (hs : Seg w b o (mhB code d)) (hb : b < w.heap.size) :
    Calls Tryz.prog 82 #[.slice (some ⟨b, o, none⟩) n c] w fun e w' =>
      e = .returned (.tuple #[.slice (some ⟨b, o, none⟩) n c, .nilIface]) ∧ Off [] w w' := by
  have HC := Lib.hid (decodeP_ok code b o n c d w hx hd hn hnc hs hb)
  clear hx hd hn hs
  go_enter Tryz.func82, Tryz.ntmps82
  go_wp2_with fail
  refine HC.out.mono ?_
  rintro e w1 ⟨D, C, g, rfl, hg, hblk, hdg, hB1⟩
  have HB1 := Lib.hid (Off.ofBelow (S := []) hB1)
  clear hblk hdg hB1
  go_wp2_with fail
  go_ret2
  exact ⟨rfl, HB1.out⟩

theorem isCid_len {l : List UInt8} {code : Nat} {d : List UInt8} (h : IsCid l code d) : 4 ≤ l.length ∧ l.length ≤ d.length + 31 := by
  obtain ⟨h1, h2, ⟨h3, rfl, h5⟩ | ⟨codec, h3, h4⟩⟩ := h
  · rw [h3, mhB_v0 d h5]; simp; omega
  · have a := Lib.uvarint_length64 (x := code) (by omega)
    have b := Lib.uvarint_length64 (x := d.length) (by omega)
    have e := Lib.uvarint_length64 (x := codec) (by omega)
    have p1 := Lib.uvarint_pos code
    have p2 := Lib.uvarint_pos d.length
    have p3 := Lib.uvarint_pos codec
    rw [h4, cid1_length, mhB_length]; omega

set_option maxRecDepth 100000 in
set_option maxHeartbeats 2000000 in
theorem cidFromBytes_zero (b o c : Nat) (d : List UInt8) (w : World) (hd : d.length = 32) (hnc : 34 ≤ c) (hs : Seg w b o (mhB 18 d)) (hb : b < w.heap.size) :
    Calls Tryz.prog 143 #[.slice (some ⟨b, o, none⟩) 34 c] w fun e w' =>
      e = .returned (.tuple #[.int .i64 34, .agg #[.string (str (mhB 18 d))], .nilIface]) ∧ Off [] w w' := by
  have hl : (mhB 18 d).length = 34 := by rw [mhB_v0 d hd]; simp; omega
  have hv := mhB_v0 d hd
  have c0 : w.cell? ⟨b, o, none⟩ = some (.int .u8 18) := by have h := hs 0 (by omega); simp only [hv] at h; exact h
  have c1 : w.cell? ⟨b, o + 1, none⟩ = some (.int .u8 32) := by have h := hs 1 (by omega); simp only [hv] at h; exact h
  have hA : Off [] w (w.alloc (.cells #[.string ⟨#[]⟩] 124)) := (Off.refl [] w).alloc _
  have hs' := hA.seg hs (by simp)
  have HC := Lib.hid (mhCast_ok 18 b o 34 c d _ (by omega) (by omega) hl.symm hnc hs' (by simp; omega))
  have c0' := hA.cellE c0 (by simp)
  have c1' := hA.cellE c1 (by simp)
  have HB := Lib.hid (Blk.new w 124 #[.string ⟨#[]⟩])
  have HS := Lib.hid hs'
  have HA := Lib.hid hA
  have HL := Lib.hid hl
  clear hs hl hv hd hs' hA
  go_enter Tryz.func143, Tryz.ntmps143
  go_wp2_with fail
  refine HC.out.mono ?_
  rintro e w1 ⟨rfl, hO1⟩
  have hcv := run_convert_seg (P := Tryz.prog) (W := w1.drew) (src := 185) (e := 5) (dst := 9) Tryz.underlying185 Tryz.underlying5 Tryz.underlying9 c (hO1.seg HS.out (by simp))
  rw [HL.out] at hcv
  have hB1 := hO1.blk HB.out (by simp)
  have b0 := hB1.cell 0
  have bf0 := hB1.frozen 0
  simp at b0
  have HB1 := Lib.hid hB1
  have HO1 := Lib.hid hO1
  clear hO1 hB1
  go_wp2_with fail
  go_region
  go_wp2_with fail
  refine bodyPost_ret (results_trt rfl _ (HB1.out.fill1) rfl Tryz.underlying124 rfl (by kernel_rfl)) rfl ⟨rfl, ?_⟩
  exact ((HA.out.then HO1.out (fun x hx => by simp at hx)).setCell (p := ⟨w.heap.size, 0, none⟩) (Or.inr (Nat.le_refl _)) _).drew

set_option maxRecDepth 100000 in
set_option maxHeartbeats 2000000 in
theorem cidFromBytes_one (b o c codec code : Nat) (d : List UInt8) (w : World) (hx : code < 9223372036854775808) (hcx : codec < 9223372036854775808) (hd : d.length ≤ 1000000) (n : Nat) (hn : n = (cid1 codec (mhB code d)).length) (hnc : n ≤ c) (hs : Seg w b o (cid1 codec (mhB code d))) (_hb : b < w.heap.size) :
    Calls Tryz.prog 143 #[.slice (some ⟨b, o, none⟩) n c] w fun e w' =>
      e = .returned (.tuple #[.int .i64 (n : Int), .agg #[.string (str (cid1 codec (mhB code d)))], .nilIface]) ∧ Off [] w w' := by
  have a1 := Lib.uvarint_length64 (x := code) (by omega)
  have a2 := Lib.uvarint_length64 (x := d.length) (by omega)
  have a3 := Lib.uvarint_length64 (x := codec) (by omega)
  have p1 := Lib.uvarint_pos code
  have p2 := Lib.uvarint_pos d.length
  have p3 := Lib.uvarint_pos codec
  have hm := mhB_length code d
  have hcl := cid1_length codec (mhB code d)
  obtain ⟨u, hu⟩ : ∃ u, u = (Lib.uvarint codec).length := ⟨_, rfl⟩
  obtain ⟨m, hme⟩ : ∃ m, m = (mhB code d).length := ⟨_, rfl⟩
  have hnum : n = 1 + u + m := by rw [hn, hcl, ← hu, ← hme]
  have c0w : w.cell? ⟨b, o, none⟩ = some (.int .u8 1) := by have h := hs 0 (by omega); simpa [cid1] using h
  have hA : Off [] w (w.alloc (.cells #[.string ⟨#[]⟩] 124)) := (Off.refl [] w).alloc _
  have hs := hA.seg hs (by simp)
  have c0 := hA.cellE c0w (by simp)
  have HBN := Lib.hid (Blk.new w 124 #[.string ⟨#[]⟩])
  have hseq : Seg (w.alloc (.cells #[.string ⟨#[]⟩] 124)) b o (Lib.uvarint 1 ++ (Lib.uvarint codec ++ mhB code d)) := by rw [← cid1_eq]; exact hs
  have hone : (Lib.uvarint 1).length = 1 := by rw [Lib.uvarint_small (by omega)]; rfl
  have h1 := hseq.right
  rw [hone] at h1
  have h2 := h1.right
  rw [← hu] at h2
  have HA := Lib.hid (fromUvarint_ok 1 b o n c _ (by omega) (by omega) hseq.left)
  rw [hone] at HA
  have HB := Lib.hid (fromUvarint_ok codec b (o + 1) (n - 1) (c - 1) _ hcx (by omega) h1.left)
  rw [← hu] at HB
  have HC := Lib.hid (mhFromBytes_ok code b (o + 1 + u) m (c - (1 + u)) d _ hx (by omega) hme (by omega) h2)
  have HS := Lib.hid hs
  have HN := Lib.hid hn
  have hn2 : 2 < n := by omega
  have hn3 : n ≤ 2147483700 := by omega
  have hc1 : ¬ c = 1 := by omega
  have hc2 : ¬ c = 1 + u := by omega
  have hle : 1 + u ≤ n := by omega
  have hnm : n - (1 + u) = m := by omega
  have hsum : (1 : Int) + (u : Int) + (m : Int) = (n : Int) := by omega
  have HAL := Lib.hid hA
  clear hs hn a1 a2 a3 p1 p2 p3 hm hcl hu hme hseq h1 h2 hx hcx hd hone hnum hA c0w
  go_enter Tryz.func143, Tryz.ntmps143
  go_wp2_with fail
  refine HA.out.mono ?_
  rintro e w' ⟨rfl, rfl⟩
  go_wp2_with fail
  refine HB.out.mono ?_
  rintro e w' ⟨rfl, rfl⟩
  go_wp2_with fail
  rw [hnm]
  rw [show o + (1 + u) = o + 1 + u from by omega]
  refine HC.out.mono ?_
  rintro e w1 ⟨rfl, hD1⟩
  have hcv := run_convert_seg (P := Tryz.prog) (W := w1.drew) (src := 32) (e := 5) (dst := 9) Tryz.underlying32 Tryz.underlying5 Tryz.underlying9 c (hD1.seg HS.out)
  rw [← HN.out] at hcv
  have hB1 := hD1.blk HBN.out
  have b0 := hB1.cell 0
  have bf0 := hB1.frozen 0
  simp at b0
  have HB1 := Lib.hid hB1
  have HD1 := Lib.hid hD1
  clear hD1 hB1
  go_wp2_with fail
  go_region
  go_wp2_with fail
  refine bodyPost_ret (results_trt rfl _ (HB1.out.fill1) rfl Tryz.underlying124 rfl (by kernel_rfl)) rfl ⟨rfl, ?_⟩
  exact ((HAL.out.then (Off.ofDrew (S := []) HD1.out) (fun x hx => by simp at hx)).setCell (p := ⟨w.heap.size, 0, none⟩) (Or.inr (Nat.le_refl _)) _).drew

theorem cidFromBytes_any (b o c : Nat) (l : List UInt8) (code : Nat) (d : List UInt8) (w : World) (h : IsCid l code d) (hd : d.length ≤ 1000000) (hnc : l.length ≤ c) (hs : Seg w b o l) (hb : b < w.heap.size) :
    Calls Tryz.prog 143 #[.slice (some ⟨b, o, none⟩) l.length c] w fun e w' =>
      e = .returned (.tuple #[.int .i64 (l.length : Int), .agg #[.string (str l)], .nilIface]) ∧ Off [] w w' := by
  obtain ⟨h1, h2, ⟨h3, rfl, h5⟩ | ⟨codec, h3, h4⟩⟩ := h
  · have hl : l.length = 34 := by rw [h3, mhB_v0 d h5]; simp; omega
    subst h3
    rw [hl] at hnc ⊢
    exact cidFromBytes_zero b o c d w h5 hnc hs hb
  · subst h4
    exact cidFromBytes_one b o c codec code d w h1 h3 hd _ rfl hnc hs hb

set_option maxRecDepth 100000 in
set_option maxHeartbeats 1000000 in
theorem cidCast_any (b o c n : Nat) (l : List UInt8) (code : Nat) (d : List UInt8) (w : World) (h : IsCid l code d) (hd : d.length ≤ 1000000) (hn : n = l.length) (hnc : n ≤ c) (hs : Seg w b o l) (hb : b < w.heap.size) :
    Calls Tryz.prog 132 #[.slice (some ⟨b, o, none⟩) n c] w fun e w' =>
      e = .returned (.tuple #[.agg #[.string (str l)], .nilIface]) ∧ Off [] w w' := by
  subst hn
  have hA : Off [] w (w.alloc (.cells #[.string ⟨#[]⟩] 124)) := (Off.refl [] w).alloc _
  have HC := Lib.hid (cidFromBytes_any b o c l code d _ h hd hnc (hA.seg hs (by simp)) (show b < (w.alloc (.cells #[.string ⟨#[]⟩] 124)).heap.size by simp; omega))
  have HBN := Lib.hid (Blk.new w 124 #[.string ⟨#[]⟩])
  have HAL := Lib.hid hA
  clear h hd hs hA
  go_enter Tryz.func132, Tryz.ntmps132
  go_wp2_with fail
  refine HC.out.mono ?_
  rintro e w1 ⟨rfl, hO1⟩
  have hB1 := hO1.blk HBN.out (by simp)
  have b0 := fun ob => (hB1.alloc ob).cell 0
  have bf0 := fun ob => (hB1.alloc ob).frozen 0
  simp at b0
  have HB1 := Lib.hid hB1
  have HO1 := Lib.hid hO1
  clear hO1 hB1
  go_wp2_with fail
  refine bodyPost_ret (results_rt rfl _ ((HB1.out.alloc _).fill1) rfl Tryz.underlying124 rfl (by kernel_rfl)) rfl ⟨rfl, ?_⟩
  exact ((HAL.out.then HO1.out (fun x hx => by simp at hx)).alloc _).setCell (p := ⟨w.heap.size, 0, none⟩) (Or.inr (Nat.le_refl _)) _
end Go.Proofs.YtkdbjocchponfaaGreatDoor
namespace Go.Proofs.YtkdbjocchponfaaGreatDoor
open Go.RowKit

theorem row8_base {w : World} {B : Nat} {v : Value} {l : List UInt8} (h : Row8 w B v l) : ∀ x, x ∈ ob v → B ≤ x := fun x hx => by
  rcases id h.2 with ⟨rfl, _⟩ | ⟨g, cap, cur, rfl, hg, hgg, rest⟩
  · simp [ob, Value.ownBlock] at hx
  · simp [ob, Value.ownBlock] at hx
    omega

/-- One byte more. -/
theorem row8_more {w wr w1 w5 : World} {B m : Nat} {v v5 : Value} {p : List UInt8} {b : UInt8} (h : Row8 wr B v p) (ho : Off [] w wr) (hB : w.heap.size ≤ B) (h1 : Off [] wr w1) (hg : w1.grownBy w5 v.ownBlock) (hm : m = p.length) (hr : w5.ownsRow B 5 1 v5 (m + 1) (Lib.byteCells p ++ [.int .u8 (b.toNat : Int)])) : Row8 w5 B v5 (p ++ [b]) ∧ Off [] w w5 := by
  refine ⟨?_, (ho.then h1 (fun x hx => by simp at hx)).then (off_grown_own (S := ob v) hg (fun g hg => by simp [ob, hg])) (fun x hx => Or.inr (Nat.le_trans hB (row8_base h x hx)))⟩
  unfold Row8
  rw [List.length_append, ← hm, show Lib.byteCells (p ++ [b]) = Lib.byteCells p ++ [.int .u8 (b.toNat : Int)] by simp [Lib.byteCells]]
  exact hr

set_option maxRecDepth 100000 in
set_option maxHeartbeats 2000000 in
theorem varint_any (n : Nat) (hn : n < 18446744073709551616) (w : World) :
    Calls Tryz.prog 21 #[.int .u64 (n : Int)] w fun r w' => ∃ v', r = .returned v' ∧ Row8 w' w.heap.size v' (Lib.uvarint n) ∧ Off [] w w' := by
  obtain ⟨i0, hi, hz0, hz1, hz2⟩ := info_parts Tryz.infoByte
  go_enter Tryz.func21, Tryz.ntmps21
  go_wp2_with fail
  go_loopg [0, 3] 9 (fun kx s0 s3 wr => ∃ (m : Nat) (p : List UInt8), s0 = .int .u64 (m : Int) ∧ Hid (m < 128 ^ (kx + 1) ∧ p.length + kx ≤ 9) ∧ m < 18446744073709551616 ∧ Hid (Lib.uvarint n = p ++ Lib.uvarint m) ∧ Hid (Row8 wr w.heap.size s3 p) ∧ Hid (Off [] w wr))
  case atStart => exact ⟨n, [], rfl, Lib.hid ⟨Nat.lt_of_lt_of_le hn (by decide), by simp⟩, hn, Lib.hid rfl, Lib.hid (World.ownsRow_nil _ _ _ _), Lib.hid (Off.refl _ _)⟩
  case round =>
    rename World => wr
    obtain ⟨m, p, rfl, HK, hm64, HU, HR, HO⟩ := hrel
    obtain ⟨q, hq⟩ : ∃ q, q = p.length := ⟨_, rfl⟩
    have HQ := Lib.hid hq
    have hq9 : q ≤ 9 := by have := HK.out.2; omega
    have HOWN : Hid (∀ W, Off [] wr W → W.ownsRow w.heap.size 5 1 u3 q (Lib.byteCells p)) := Lib.hid (fun W hW => by rw [hq]; exact HR.out.off hW (fun x _ => by simp))
    have HBZ : Hid (∀ W, Off [] wr W → w.heap.size ≤ W.heap.size) := Lib.hid (fun W hW => Nat.le_trans HO.out.size hW.size)
    clear hq
    by_cases hb : 128 ≤ m
    · have hor : bits BinOp.or IntKind.u8 ((m : Int) % 256) 128 = (m : Int) % 128 + 128 := by
        rw [Lib.u8_or128_any _ (by omega) (by omega)]
        omega
      have hge : ((m : Int) ≥ 128) := by omega
      have hge2 : ((128 : Int) ≤ (m : Int)) := by omega
      go_wp2_with (first
        | (at_builtin
           refine wpList_append_own_at _ rfl _ _ 32 rfl w.heap.size 5 i0 _ 1 1 Tryz.underlying32 hi hz0 hz1 hz2 rfl (by decide) u3 q (Lib.byteCells p) rfl (HOWN.out _ ((Off.refl [] wr).alloc _)) ⟨wr.heap.size, 0, none⟩ 1 1 [.int .u8 ((m : Int) % 128 + 128)] rfl rfl (new_one wr _ _) (fun u hu => by simp at hu; subst hu; rfl) (by unfold maxLen; omega) (by omega) (HBZ.out _ ((Off.refl [] wr).alloc _)) ?_
           intro v5 w5 hown5 hgr hnil hat
           have HO5 := Lib.hid hown5
           have HG5 := Lib.hid hgr
           clear hown5 hgr hnil hat))
      have hk1 : 1 ≤ gk := by
        rcases Nat.eq_zero_or_pos gk with h0 | h0
        · have h := HK.out.1
          rw [h0] at h
          simp at h
          omega
        · exact h0
      go_roundg (gk - 1)
      case measure => omega
      case rel =>
        have hbyte : ((((m % 128 + 128).toUInt8).toNat : Nat) : Int) = (m : Int) % 128 + 128 := by rw [Nat.toUInt8_eq, UInt8.toNat_ofNat']; omega
        have h := row8_more (b := (m % 128 + 128).toUInt8) HR.out HO.out (Nat.le_refl _) ((Off.refl [] wr).alloc (.cells #[.int .u8 ((m : Int) % 128 + 128)] 5)) HG5.out HQ.out (by rw [hbyte]; exact HO5.out)
        refine ⟨m / 128, p ++ [(m % 128 + 128).toUInt8], by rw [show ((m / 128 : Nat) : Int) = (m : Int) / 128 by omega], Lib.hid ⟨?_, ?_⟩, by omega, Lib.hid ?_, Lib.hid h.1, Lib.hid h.2⟩
        · rw [Nat.div_lt_iff_lt_mul (by decide), show gk - 1 + 1 = gk by omega, ← Nat.pow_succ]
          exact HK.out.1
        · have := HK.out.2
          rw [List.length_append]
          simp only [List.length_cons, List.length_nil]
          omega
        · rw [HU.out, Lib.uvarint_big hb, List.append_assoc]; rfl
    · have hge : ¬ ((m : Int) ≥ 128) := by omega
      have hge2 : ¬ ((128 : Int) ≤ (m : Int)) := by omega
      have hmod : (m : Int) % 256 = (m : Int) := by omega
      go_wp2_with (first
        | (at_builtin
           refine wpList_append_own_at _ rfl _ _ 32 rfl w.heap.size 5 i0 _ 1 1 Tryz.underlying32 hi hz0 hz1 hz2 rfl (by decide) u3 q (Lib.byteCells p) rfl (HOWN.out _ ((Off.refl [] wr).alloc _)) ⟨wr.heap.size, 0, none⟩ 1 1 [.int .u8 (m : Int)] rfl rfl (new_one wr _ _) (fun u hu => by simp at hu; subst hu; rfl) (by unfold maxLen; omega) (by omega) (HBZ.out _ ((Off.refl [] wr).alloc _)) ?_
           intro v5 w5 hown5 hgr hnil hat
           have HO5 := Lib.hid hown5
           have HG5 := Lib.hid hgr
           clear hown5 hgr hnil hat))
      go_ret
      have hbyte : ((m.toUInt8.toNat : Nat) : Int) = (m : Int) := by rw [Nat.toUInt8_eq, UInt8.toNat_ofNat']; omega
      have h := row8_more (b := m.toUInt8) HR.out HO.out (Nat.le_refl _) ((Off.refl [] wr).alloc (.cells #[.int .u8 (m : Int)] 5)) HG5.out HQ.out (by rw [hbyte]; exact HO5.out)
      exact ⟨v5, rfl, by rw [HU.out, Lib.uvarint_small (by omega)]; exact h.1, h.2⟩
end Go.Proofs.YtkdbjocchponfaaGreatDoor
namespace Go.Proofs.YtkdbjocchponfaaGreatDoor
open Go.RowKit

theorem str_app' (a b : List UInt8) : str a ++ str b = str (a ++ b) := by
  apply ByteArray.ext
  simp [str]
theorem str_self (s : ByteArray) : str s.data.toList = s := by
  apply ByteArray.ext
  simp

set_option maxRecDepth 100000 in
set_option maxHeartbeats 2000000 in
theorem mhBytes_any (code : Nat) (dg : ByteArray) (w : World) (hc : code < 18446744073709551616) (hd : dg.size ≤ 2147483647) :
    Calls Tryz.prog 49 #[.int .u64 (code : Int), .string dg] w fun r w' => r = .returned (.string (str (mhB code dg.data.toList))) ∧ Off [] w w' := by
  have hu1 := Lib.uvarint_pos code
  have hu2 := Lib.uvarint_pos dg.size
  have hl1 := Lib.uvarint_length64 hc
  have hl2 := Lib.uvarint_length64 (x := dg.size) (by omega)
  have HV1 := Lib.hid (varint_any code hc)
  have HV2 := Lib.hid (varint_any dg.size (by omega))
  obtain ⟨su, hsu⟩ : ∃ su, su = str (Lib.uvarint code) := ⟨_, rfl⟩
  obtain ⟨sv, hsv⟩ : ∃ sv, sv = str (Lib.uvarint dg.size) := ⟨_, rfl⟩
  have hz1 : su.size = (Lib.uvarint code).length := by rw [hsu]; rfl
  have hz2 : sv.size = (Lib.uvarint dg.size).length := by rw [hsv]; rfl
  have hb1 : ¬ ((9223372036854775807 : Int) < (su.size : Int) + (sv.size : Int)) := by omega
  have hb2 : ¬ ((9223372036854775807 : Int) < (su.size : Int) + (sv.size : Int) + (dg.size : Int)) := by omega
  have hw : IntKind.u64.wrap (dg.size : Int) = (dg.size : Int) := by rw [IntKind.wrap_u64]; omega
  have HSU := Lib.hid hsu
  have HSV := Lib.hid hsv
  have D0 : Hid (Off [] w w.drew) := Lib.hid (Off.refl [] w).drew
  clear hc hd hl1 hl2 hz1 hz2 hsu hsv
  go_enter Tryz.func49, Tryz.ntmps49
  go_wp2_with fail
  go_region_with (first
    | (go_at_call_of 21 (Value.int .u64 (code : Int))
       refine (HV1.out _).mono ?_
       rintro r w1 ⟨v1, rfl, hr1, ho1⟩
       have hcv : (convert 32 9 v1).run Tryz.prog w1 = .ok (.string su) w1 := by rw [HSU.out]; exact row8_conv hr1 hu1
       have hcv2 : (convert 32 9 v1).run Tryz.prog w1.drew = .ok (.string su) w1.drew := by rw [HSU.out]; exact row8_conv (hr1.off (Off.refl [] w1).drew (fun x _ => by simp)) hu1
       have HR1 := Lib.hid hr1
       have P0 : Hid (Off [] w w1) := Lib.hid (D0.out.then ho1 (fun x hx => by simp at hx))
       clear hr1 ho1)
    | (go_at_call 21
       refine (HV2.out _).mono ?_
       rintro r w2 ⟨v2, rfl, hr2, ho2⟩
       have ho3 : Off [] w1 w2 := by first | exact ho2 | exact (Off.refl [] w1).drew.then ho2 (fun x hx => by simp at hx)
       have hr1 := HR1.out.off ho3 (fun x _ => by simp)
       have hcv3 : (convert 32 9 v1).run Tryz.prog w2 = .ok (.string su) w2 := by rw [HSU.out]; exact row8_conv hr1 hu1
       have hcv4 : (convert 32 9 v1).run Tryz.prog w2.drew = .ok (.string su) w2.drew := by rw [HSU.out]; exact row8_conv (hr1.off (Off.refl [] w2).drew (fun x _ => by simp)) hu1
       have hcv5 : (convert 32 9 v2).run Tryz.prog w2 = .ok (.string sv) w2 := by rw [HSV.out]; exact row8_conv hr2 hu2
       have hcv6 : (convert 32 9 v2).run Tryz.prog w2.drew = .ok (.string sv) w2.drew := by rw [HSV.out]; exact row8_conv (hr2.off (Off.refl [] w2).drew (fun x _ => by simp)) hu2
       have P1 : Hid (Off [] w w2) := Lib.hid (P0.out.then ho3 (fun x hx => by simp at hx))
       clear hr1 hr2 ho2 ho3))
  all_goals go_wp2_with fail
  all_goals go_ret
  all_goals refine ⟨?_, by first | exact P1.out | exact P1.out.drew⟩
  all_goals
    have e : str (mhB code dg.data.toList) = su ++ sv ++ dg := by
      have h : dg.data.toList.length = dg.size := by simp
      rw [mhB, h, HSU.out, HSV.out, str_app', ← str_self dg, str_app', List.append_assoc]
    first | (rw [e]; done) | (rw [e]; rfl)

/-- An identifier's bytes. -/
def cidB (e : Ent) : List UInt8 := if e.ver = 0 then mhB e.code e.dg.data.toList else cid1 e.codec (mhB e.code e.dg.data.toList)
theorem cidB_is {e : Ent} (h : e.ok) : IsCid (cidB e) e.code e.dg.data.toList := by
  have hs := h.small
  unfold cidB
  rcases h.ver with ⟨h1, h2, h3, h4⟩ | ⟨h1, h2, h3⟩
  · rw [if_pos h1]
    exact ⟨by omega, by omega, Or.inl ⟨rfl, h3, h4⟩⟩
  · rw [if_neg (by omega)]
    exact ⟨h3, by omega, Or.inr ⟨e.codec, h2, rfl⟩⟩

set_option maxRecDepth 100000 in
set_option maxHeartbeats 1500000 in
theorem cidBytes_any (e : Ent) (w : World) (h : e.ok) :
    Calls Tryz.prog 27 #[.agg #[.int .u64 (e.ver : Int), .int .u64 (e.codec : Int), .int .u64 (e.code : Int), .string e.dg]] w fun r w' => r = .returned (.string (str (cidB e))) ∧ Off [] w w' := by
  obtain ⟨ver, codec, code, dg, off⟩ := e
  have hs : dg.size ≤ 1000 := by have := h.small; simp at this; exact this
  rcases h.ver with ⟨h1, h2, h3, h4⟩ | ⟨h1, h2, h3⟩
  · have h1 : ver = 0 := h1
    have h2 : codec = 112 := h2
    have h3 : code = 18 := h3
    subst h1 h2 h3
    have HM := Lib.hid (fun W => mhBytes_any 18 dg W (by omega) (by omega))
    have hA := (Off.refl [] w).alloc (.cells #[.int .u64 0, .int .u64 112, .int .u64 18, .string dg] 42)
    have HA := Lib.hid hA
    show Calls _ _ #[.agg #[.int .u64 0, .int .u64 112, .int .u64 18, .string dg]] w _
    clear h hs h4 hA
    go_enter Tryz.func27, Tryz.ntmps27
    go_wp2_with fail
    refine (HM.out _).mono ?_
    rintro r w1 ⟨rfl, ho1⟩
    have HO1 := Lib.hid ho1
    clear ho1
    go_wp2_with fail
    go_ret
    exact ⟨by (have e1 : cidB ⟨0, 112, 18, dg, off⟩ = mhB 18 dg.data.toList := by rw [cidB, if_pos rfl]); rw [e1]; rfl, HA.out.then HO1.out (fun x hx => by simp at hx)⟩
  · have h1 : ver = 1 := h1
    have h2 : codec < 9223372036854775808 := h2
    have h3 : code < 9223372036854775808 := h3
    subst h1
    have hu1 := Lib.uvarint_pos 1
    have hu2 := Lib.uvarint_pos codec
    have hl2 := Lib.uvarint_length64 (x := codec) (by omega)
    have hl3 := Lib.uvarint_length64 (x := code) (by omega)
    have hl4 := Lib.uvarint_length64 (x := dg.size) (by omega)
    have HV1 := Lib.hid (varint_any 1 (by omega))
    have HV2 := Lib.hid (varint_any codec (by omega))
    have HM := Lib.hid (fun W => mhBytes_any code dg W (by omega) (by omega))
    obtain ⟨su, hsu⟩ : ∃ su, su = str (Lib.uvarint 1) := ⟨_, rfl⟩
    obtain ⟨sv, hsv⟩ : ∃ sv, sv = str (Lib.uvarint codec) := ⟨_, rfl⟩
    obtain ⟨sm, hsm⟩ : ∃ sm, sm = str (mhB code dg.data.toList) := ⟨_, rfl⟩
    rw [← hsm] at HM
    have hz1 : su.size = (Lib.uvarint 1).length := by rw [hsu]; rfl
    have hz1' : (Lib.uvarint 1).length = 1 := by rw [Lib.uvarint_small (by omega)]; rfl
    have hz2 : sv.size = (Lib.uvarint codec).length := by rw [hsv]; rfl
    have hz3 : sm.size = (mhB code dg.data.toList).length := by rw [hsm]; rfl
    rw [mhB_length] at hz3
    have hdl : dg.data.toList.length = dg.size := by simp
    rw [hdl] at hz3
    have hb1 : ¬ ((9223372036854775807 : Int) < (su.size : Int) + (sv.size : Int)) := by omega
    have hb2 : ¬ ((9223372036854775807 : Int) < (su.size : Int) + (sv.size : Int) + (sm.size : Int)) := by omega
    have HSU := Lib.hid hsu
    have HSV := Lib.hid hsv
    have HSM := Lib.hid hsm
    have hB := Blk.new w 42 #[.int .u64 1, .int .u64 codec, .int .u64 code, .string dg]
    have hA := (Off.refl [] w).alloc (.cells #[.int .u64 1, .int .u64 codec, .int .u64 code, .string dg] 42)
    have HB := Lib.hid hB
    have HA := Lib.hid hA
    show Calls _ _ #[.agg #[.int .u64 1, .int .u64 codec, .int .u64 code, .string dg]] w _
    clear h hs h2 h3 hl2 hl3 hl4 hz1 hz1' hz2 hz3 hsu hsv hsm hA hB hdl
    go_enter Tryz.func27, Tryz.ntmps27
    go_wp2_with fail
    go_region_held (fun W => W.cell? ⟨w.heap.size, 1, none⟩ = some (.int .u64 (codec : Int)) ∧ W.cell? ⟨w.heap.size, 2, none⟩ = some (.int .u64 (code : Int)) ∧ W.cell? ⟨w.heap.size, 3, none⟩ = some (.string dg)) (first | (exact ⟨HB.out.cell 1, HB.out.cell 2, HB.out.cell 3⟩) | (exact ⟨c11, c12, c13⟩) | (exact ⟨c21, c22, c23⟩) | (exact ⟨c31, c32, c33⟩)) (first
      | (go_at_call_of 21 (Value.int .u64 1)
         refine (HV1.out _).mono ?_
         rintro r w1 ⟨v1, rfl, hr1, ho1⟩
         have hq1 : Off [] w w1 := by first | exact HA.out.then ho1 (fun x hx => by simp at hx) | exact HA.out.drew.then ho1 (fun x hx => by simp at hx)
         have hbk : Blk w1 w.heap.size 42 #[.int .u64 1, .int .u64 codec, .int .u64 code, .string dg] := ho1.blk HB.out (by simp)
         have hcv : (convert 32 9 v1).run Tryz.prog w1 = .ok (.string su) w1 := by rw [HSU.out]; exact row8_conv hr1 hu1
         have hcv2 : (convert 32 9 v1).run Tryz.prog w1.drew = .ok (.string su) w1.drew := by rw [HSU.out]; exact row8_conv (hr1.off (Off.refl [] w1).drew (fun x _ => by simp)) hu1
         have HR1 := Lib.hid hr1
         have B1 := Lib.hid hbk
         have c11 : w1.cell? ⟨w.heap.size, 1, none⟩ = some (.int .u64 (codec : Int)) := hbk.cell 1
         have c12 : w1.cell? ⟨w.heap.size, 2, none⟩ = some (.int .u64 (code : Int)) := hbk.cell 2
         have c13 : w1.cell? ⟨w.heap.size, 3, none⟩ = some (.string dg) := hbk.cell 3
         have P1 := Lib.hid hq1
         clear hr1 ho1 hbk hq1)
      | (go_at_call 21
         refine (HV2.out _).mono ?_
         rintro r w2 ⟨v2, rfl, hr2, ho2⟩
         have ho3 : Off [] w1 w2 := by first | exact ho2 | exact (Off.refl [] w1).drew.then ho2 (fun x hx => by simp at hx)
         have hr1 := HR1.out.off ho3 (fun x _ => by simp)
         have hcv3 : (convert 32 9 v1).run Tryz.prog w2 = .ok (.string su) w2 := by rw [HSU.out]; exact row8_conv hr1 hu1
         have hcv4 : (convert 32 9 v1).run Tryz.prog w2.drew = .ok (.string su) w2.drew := by rw [HSU.out]; exact row8_conv (hr1.off (Off.refl [] w2).drew (fun x _ => by simp)) hu1
         have hcv5 : (convert 32 9 v2).run Tryz.prog w2 = .ok (.string sv) w2 := by rw [HSV.out]; exact row8_conv hr2 hu2
         have hcv6 : (convert 32 9 v2).run Tryz.prog w2.drew = .ok (.string sv) w2.drew := by rw [HSV.out]; exact row8_conv (hr2.off (Off.refl [] w2).drew (fun x _ => by simp)) hu2
         have hbk2 := ho3.blk B1.out (by simp)
         have c22 : w2.cell? ⟨w.heap.size, 2, none⟩ = some (.int .u64 (code : Int)) := hbk2.cell 2
         have c23 : w2.cell? ⟨w.heap.size, 3, none⟩ = some (.string dg) := hbk2.cell 3
         have c21 : w2.cell? ⟨w.heap.size, 1, none⟩ = some (.int .u64 (codec : Int)) := hbk2.cell 1
         have B2 := Lib.hid hbk2
         clear hbk2
         have HR1b := Lib.hid hr1
         have HR2 := Lib.hid hr2
         have P2 : Hid (Off [] w w2) := Lib.hid (P1.out.then ho3 (fun x hx => by simp at hx))
         clear hr1 hr2 ho2 ho3)
      | (go_at_call 49
         refine (HM.out _).mono ?_
         rintro r w3 ⟨rfl, ho4⟩
         have ho5 : Off [] w2 w3 := by first | exact ho4 | exact (Off.refl [] w2).drew.then ho4 (fun x hx => by simp at hx)
         have hr1 := HR1b.out.off ho5 (fun x _ => by simp)
         have hr2 := HR2.out.off ho5 (fun x _ => by simp)
         have hcv7 : (convert 32 9 v1).run Tryz.prog w3 = .ok (.string su) w3 := by rw [HSU.out]; exact row8_conv hr1 hu1
         have hcv8 : (convert 32 9 v1).run Tryz.prog w3.drew = .ok (.string su) w3.drew := by rw [HSU.out]; exact row8_conv (hr1.off (Off.refl [] w3).drew (fun x _ => by simp)) hu1
         have hcv9 : (convert 32 9 v2).run Tryz.prog w3 = .ok (.string sv) w3 := by rw [HSV.out]; exact row8_conv hr2 hu2
         have hcva : (convert 32 9 v2).run Tryz.prog w3.drew = .ok (.string sv) w3.drew := by rw [HSV.out]; exact row8_conv (hr2.off (Off.refl [] w3).drew (fun x _ => by simp)) hu2
         have hbk3 := ho5.blk B2.out (by simp)
         have c31 : w3.cell? ⟨w.heap.size, 1, none⟩ = some (.int .u64 (codec : Int)) := hbk3.cell 1
         have c32 : w3.cell? ⟨w.heap.size, 2, none⟩ = some (.int .u64 (code : Int)) := hbk3.cell 2
         have c33 : w3.cell? ⟨w.heap.size, 3, none⟩ = some (.string dg) := hbk3.cell 3
         clear hbk3
         have P3 : Hid (Off [] w w3) := Lib.hid (P2.out.then ho5 (fun x hx => by simp at hx))
         clear hr1 hr2 ho4 ho5))
    all_goals go_wp2_with fail
    all_goals go_ret
    all_goals refine ⟨?_, by first | exact P3.out | exact P3.out.drew⟩
    all_goals
      have e : str (cidB ⟨1, codec, code, dg, off⟩) = su ++ sv ++ sm := by
        rw [cidB, if_neg (by simp), cid1_eq, HSU.out, HSV.out, HSM.out, str_app', str_app', List.append_assoc]
      first | (rw [e]; done) | (rw [e]; rfl)
end Go.Proofs.YtkdbjocchponfaaGreatDoor
