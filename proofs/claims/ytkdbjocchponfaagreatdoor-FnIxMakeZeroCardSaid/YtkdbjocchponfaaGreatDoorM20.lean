/-
  multiWidthIndex.Marshal into a bytes.Buffer.
  (No condition beyond those that each theorem states.)
-/
import Derived.Test.YtkdbjocchponfaaGreatDoorM11
import Derived.Test.YtkdbjocchponfaaGreatDoorM15
import Derived.Test.YtkdbjocchponfaaGreatDoorM19
namespace Go.Proofs.YtkdbjocchponfaaGreatDoor
open Go.RowKit

theorem Off.cell {S : List Nat} {w w' : World} {p : Addr} {v : Value} (h : Off S w w') (hc : w.cell? p = some v) (hp : p.block ∉ S) : w'.cell? p = some v :=
  (World.cell?_of_block (h.block p.block (World.block_lt_of_cell? w _ hc) hp)).trans hc
theorem Tryz.infoU32 : (Tryz.prog.info? 233).map (fun i => (i.zero, i.size, i.bytes)) = some (some (.int .u32 0), 1, 4) := by kernel_rfl
theorem make32 (n : Nat) (hn : n < 1000000) : ∃ Z : List Value, Z.length = n ∧ ∀ W : World, (Instr.makeSlice 371 (.int .i64 0) (.int .i64 (n : Int))).run Tryz.prog W = .ok (.slice (some ⟨W.heap.size, 0, none⟩) 0 n) (W.alloc (.cells Z.toArray 233)) := by
  obtain ⟨i0, hi, hz0, hz1, hz2⟩ := info_parts Tryz.infoU32
  refine ⟨(madeCells (Value.int .u32 0).cells (n * i0.size)).toList, by simp [size_madeCells, hz1], fun W => ?_⟩
  have hr := run_make (P := Tryz.prog) W 371 233 i0 _ Tryz.underlying371 hi hz0 .i64 .i64 0 (n : Int) (by omega) (by omega) (by rw [hz2]; omega) (by omega)
  simpa using hr
theorem zeroSW (w : World) : (zeroValue 362).run Tryz.prog w = .ok (.agg #[.int .u32 0, .int .u64 0, .slice none 0 0]) w := by kernel_rfl

def wB (S : Nat → List Rw) (n : Nat) : List UInt8 := bucketB (n, S n)
theorem mwB_map (Ds : List Nat) (S : Nat → List Rw) : mwB (Ds.map fun n => (n, S n)) = Lib.leBytes 4 Ds.length ++ Ds.flatMap (wB S) := by
  simp only [mwB, List.flatMap_map, List.length_map]
  rfl

theorem keys_sorted (D : List Nat) (hnd : D.Nodup) (z : Nat) (ys : List Int) (hp : ys.Perm (ints (D.map (· + z)))) (ha : ys.Pairwise (· ≤ ·)) : ∃ Ds : List Nat, Ds.Perm D ∧ Ds.Pairwise (· < ·) ∧ ys = ints (Ds.map (· + z)) := by
  have hmem : ∀ x, x ∈ ys → ∃ n : Nat, x = ((n + z : Nat) : Int) := fun x hx => by
    have := hp.mem_iff.1 hx
    simp [ints] at this
    obtain ⟨n, _, hn⟩ := this
    exact ⟨n, by omega⟩
  have hkn : (ints (D.map (· + z))).Nodup := by
    unfold ints List.Nodup
    rw [List.pairwise_map, List.pairwise_map]
    exact hnd.imp fun h e => h (by omega)
  have hyn : ys.Nodup := hp.nodup_iff.2 hkn
  refine ⟨ys.map fun x => x.toNat - z, ?_, ?_, ?_⟩
  · have := hp.map fun x : Int => x.toNat - z
    refine this.trans (List.Perm.of_eq ?_)
    simp only [ints, List.map_map]
    conv => rhs; rw [← List.map_id D]
    refine List.map_congr_left fun n _ => ?_
    show (((n + z : Nat) : Int)).toNat - z = n
    omega
  · rw [List.pairwise_map]
    refine (ha.and hyn).imp_of_mem ?_
    rintro x y hx hy ⟨h1, h2⟩
    obtain ⟨n, rfl⟩ := hmem x hx
    obtain ⟨m, rfl⟩ := hmem y hy
    have : ((n + z : Nat) : Int) ≠ ((m + z : Nat) : Int) := h2
    show ((n + z : Nat) : Int).toNat - z < ((m + z : Nat) : Int).toNat - z
    omega
  · simp only [ints, List.map_map]
    conv => lhs; rw [← List.map_id ys]
    refine List.map_congr_left fun x hx => ?_
    obtain ⟨n, rfl⟩ := hmem x hx
    show ((n + z : Nat) : Int) = (((n + z : Nat) : Int).toNat - z + z : Nat)
    omega
theorem oneInt (q : IntKind) (x : Int) : ∀ u ∈ [Value.int q x], u.oneCell' = true := by simp [Value.oneCell']

/-- What the first loop has gathered: the keys P; L are still to come. -/
structure Kys (w1 wq : World) (mm rr g cap n : Nat) (q : IntKind) (kt : TypeId) (K : List Int) (V : Int → Value) (P L : List Int) (sp : List Value) : Prop where
  perm : (P ++ L).Perm K
  blk : Blk wq g kt (P.map (Value.int q) ++ sp).toArray
  sp : sp.length + P.length * 1 = cap * 1
  le : P.length ≤ cap
  cm : cap ≤ maxLen
  rg : Rg Tryz.prog kt q wq mm rr n K V L
  off : Off [] w1 wq
  g1 : w1.heap.size ≤ g
  g2 : g ≠ rr
  r1 : w1.heap.size ≤ rr
  r2 : rr < wq.heap.size

set_option maxRecDepth 100000 in
set_option maxHeartbeats 4000000 in
theorem mwMarshal_any {b : Nat} {w0 w : World} {l : List UInt8} (h : WrAt b w0 l w) (pb mm B0 : Nat) (D : List Nat) (S : Nat → List Rw) (hp : w0.cell? ⟨pb, 0, none⟩ = some (.map (some mm))) (hmw : MwAt B0 w0 mm D S)
    (hD : D.length ≤ 1000) (hn : ∀ n, n ∈ D → n ≤ 1000) (hlim : ∀ Ds : List Nat, Ds.Perm D → l.length + (mwB (Ds.map fun n => (n, S n))).length ≤ 140737488355328) :
    Calls Tryz.prog 232 #[.pointer (some ⟨pb, 0, none⟩), .iface 88 (.pointer (some ⟨b, 0, none⟩))] w fun e w' =>
      ∃ Ds : List Nat, Ds.Perm D ∧ Ds.Pairwise (· < ·) ∧ e = .returned (.tuple #[.int .u64 (((mwB (Ds.map fun n => (n, S n))).length : Nat) : Int), .nilIface]) ∧ WrAt b w0 (l ++ mwB (Ds.map fun n => (n, S n))) w' ∧ Lib.OthersKept 5 (some b) w w' := by
  obtain ⟨V, C, hmp, hrow⟩ := hmw.ex
  have hnd := hmw.nodup
  have hmlt : mm < w0.heap.size := hmw.lt
  have hplt : pb < w0.heap.size := World.block_lt_of_cell? w0 _ hp
  have hbw := h.le
  obtain ⟨N, hN⟩ : ∃ N, N = D.length := ⟨_, rfl⟩
  have hKl : (ints (D.map (· + 8))).length = N := by simp [ints, hN]
  have hl4 : l.length + 4 ≤ 140737488355328 := by
    have := hlim D (List.Perm.refl _)
    rw [mwB_map, List.length_append, Lib.leBytes_length] at this
    omega
  have H1 := Lib.hid (zzWrite32_any h N (by omega) hl4)
  have hc0 : w.cell? ⟨pb, 0, none⟩ = some (.map (some mm)) := h.off.cell hp (by simp)
  have hMP : ∀ W, Off [] w0 W → MpN Tryz.prog 233 .u32 W mm D.length (D.map (· + 8)) V := fun W ho => hmp.off ho (by simp)
  have HMP := Lib.hid hMP
  have hLEN : ∀ W, Off [] w0 W → (Builtin.len_ #[149] 3 #[.map (some mm)]).run Tryz.prog W = .ok (.int .i64 (N : Int)) W := fun W ho => by
    have := Mp.len (hMP W ho) Tryz.underlying149 3
    rwa [hKl] at this
  have HLEN := Lib.hid hLEN
  have hlen0 := hLEN w h.off
  obtain ⟨Z, hZ, hmk⟩ := make32 N (by omega)
  have hwu : IntKind.u32.wrap (N : Int) = (N : Int) := by rw [IntKind.wrap_u32]; omega
  have HROW := Lib.hid hrow
  have HP := Lib.hid hp
  have HND := Lib.hid hnd
  have HN := Lib.hid hn
  have HLIM := Lib.hid hlim
  have HKL := Lib.hid hKl
  have HNN := Lib.hid hN
  have HZ := Lib.hid hZ
  clear hrow hp hnd hn hlim hKl hN hmp hmw hMP hLEN hZ h hl4
  go_enter Tryz.func232, Tryz.ntmps232
  go_wp2_with (first
    | (go_at_call 223; refine H1.out.mono ?_; rintro e w1 ⟨rfl, hR1, hK1⟩; have hc1 := hR1.off.cell HP.out (by simp); have hlen1 := HLEN.out w1 hR1.off; have hc2 : (w1.alloc (.cells Z.toArray 233)).cell? ⟨pb, 0, none⟩ = some (.map (some mm)) := (Off.alloc (Off.refl [] w1) _).cell hc1 (by simp); have HR1 := Lib.hid hR1; have HK1 := Lib.hid hK1; clear hR1 hK1 H1 hc0 hlen0)
    | (at_range; refine wpList_range_mp rfl _ 149 rfl Tryz.underlying233 Tryz.underlying149 (HMP.out _ (HR1.out.off.then (Off.alloc (Off.refl [] w1) _) (fun x hx => by simp at hx))) rfl ?_; intro w3 hr3 ho3 hs3))
  have hal : (w1.alloc (.cells Z.toArray 233)).heap.size = w1.heap.size + 1 := by simp
  generalize (w1.alloc (.cells Z.toArray 233)).heap.size = rr at hal hr3 hs3 ⊢
  have hN1000 : N ≤ 1000 := by rw [HNN.out]; exact hD
  have HO3 := Lib.hid ho3.out
  have hw1b : b < w1.heap.size := HR1.out.lt
  (try go_frame)
  go_loopg [8] N (fun kx s8 wq => ∃ (L P : List Int) (p g cap : Nat) (sp : List Value), s8 = .slice (some ⟨g, 0, none⟩) p cap ∧ Hid (P.length = p ∧ L.length ≤ kx ∧ Kys w1 wq mm rr g cap D.length .u32 233 (ints (D.map (· + 8))) (fun x => V x.toNat) P L sp))
  case atStart =>
    refine ⟨ints (D.map (· + 8)), [], 0, w1.heap.size, N, Z, rfl, Lib.hid ⟨rfl, Nat.le_of_eq HKL.out, ?_⟩⟩
    exact { perm := List.Perm.refl _, blk := (Blk.new' w1 233 Z.toArray rfl).off HO3.out (by simp), sp := by simp [HZ.out], le := Nat.zero_le _, cm := by unfold maxLen; omega, rg := hr3.out, off := (Off.alloc (Off.refl [] w1) _).then HO3.out (fun x hx => by simp at hx), g1 := Nat.le_refl _, g2 := by omega, r1 := by omega, r2 := by omega }
  case round =>
    rename World => wq
    obtain ⟨L, P, p, g, cap, sp, rfl, hh⟩ := hrel
    obtain ⟨hpl, hlen, hk⟩ := hh.out
    have HK := Lib.hid hk
    have hrg := hk.rg
    have hPL : P.length + L.length = N := by have := hk.perm.length_eq; rw [HKL.out] at this; simpa using this
    have HPL := Lib.hid hpl
    have hpN : p + L.length = N := by rw [← hpl]; exact hPL
    clear hh hk hr3 hs3 hpl hPL hal
    go_wp2_with (at_next; refine wpList_next_mp rfl _ rfl Tryz.underlying233 rfl hrg ?_ ?_)
    · intro hL
      subst hL
      have hk := HK.out
      obtain rfl : p = N := by simpa using hpN
      have hsort := Ord32.sort_list g cap 233 P sp wq hk.blk (by rw [HPL.out]; omega)
      rw [HPL.out] at hsort
      have HSORT := Lib.hid hsort
      clear hsort hk
      go_wp2_with (go_at_call 237; refine HSORT.out.mono ?_; rintro e w4 ⟨rfl, ys, sp4, hperm, hasc, hb4, ho4⟩)
      have hk := HK.out
      obtain ⟨Ds, hDs1, hDs2, rfl⟩ := keys_sorted D HND.out 8 ys (hperm.trans (by have := hk.perm; simpa using this)) hasc
      have ho14 : Off [] w1 w4 := hk.off.then ho4 (fun x hx => by simp at hx; right; rw [hx]; exact hk.g1)
      have hR4 := HR1.out.old (ho14.below (fun x hx => by simp at hx))
      have hK4 : Lib.OthersKept 5 (some b) w w4 := HK1.out.trans (kept_of_below (ho14.below (fun x hx => by simp at hx)))
      have hDl : Ds.length = p := by rw [hDs1.length_eq]; exact HNN.out.symm
      have hgb : g ≠ b := by have := hk.g1; omega
      have HR4 := Lib.hid hR4
      have HK4 := Lib.hid hK4
      have HB4 := Lib.hid hb4
      have HD1 := Lib.hid hDs1
      have HD2 := Lib.hid hDs2
      have HDL := Lib.hid hDl
      clear hR4 hK4 hb4 hDs1 hDs2 hDl ho14 ho4 hperm hasc hk hrg HK HSORT
      go_loopg [6, 49] p (fun kx s6 s49 wr => ∃ (i T : Nat), s49 = .int .i64 (i : Int) ∧ s6 = .int .u64 (T : Int) ∧ i ≤ p ∧ p - i ≤ kx ∧
          Hid (T = (Lib.leBytes 4 p ++ (Ds.take i).flatMap (wB S)).length ∧ WrAt b w0 (l ++ (Lib.leBytes 4 p ++ (Ds.take i).flatMap (wB S))) wr ∧ Lib.OthersKept 5 (some b) w wr ∧ Blk wr g 233 ((ints (Ds.map (· + 8))).map (Value.int .u32) ++ sp4).toArray))
      case atStart => exact ⟨0, 4, rfl, rfl, Nat.zero_le _, Nat.le_refl _, Lib.hid ⟨by simp [Lib.leBytes_length], by simpa using HR4.out, HK4.out, HB4.out⟩⟩
      case round =>
        rename World => wr
        obtain ⟨i, T, rfl, rfl, hip, hkx, hh⟩ := hrel
        by_cases hlt : i < p
        · have hltz : (i : Int) < (p : Int) := by omega
          obtain ⟨hT, hR, hK, hB⟩ := hh.out
          have hiD : i < Ds.length := by rw [HDL.out]; exact hlt
          obtain ⟨n, hn⟩ : ∃ n, n = Ds[i] := ⟨_, rfl⟩
          have hnD : n ∈ D := HD1.out.mem_iff.1 (by rw [hn]; exact List.getElem_mem _)
          obtain ⟨hv, hseg, hB0, hClt, hwid⟩ := HROW.out n hnD
          have hn1000 := HN.out n hnD
          obtain ⟨W8, hW8⟩ : ∃ W8, W8 = n + 8 := ⟨_, rfl⟩
          obtain ⟨k, hkk⟩ : ∃ k, k = (S n).length := ⟨_, rfl⟩
          obtain ⟨M, hM⟩ : ∃ M, M = W8 * k := ⟨_, rfl⟩
          have hsw : swv n (S n).length (C n) = .agg #[.int .u32 (W8 : Int), .int .u64 (k : Int), .slice (some ⟨C n, 0, none⟩) M M] := by unfold swv; rw [← hkk, ← hW8, ← hM]
          have hrl : (rowsB (S n)).length = M := by rw [rowsB_length (S n) n hwid, ← hW8, ← hkk, hM]
          have htk : (Ds.take (i + 1)).flatMap (wB S) = (Ds.take i).flatMap (wB S) ++ wB S n := by
            rw [List.take_succ_eq_append_getElem hiD, List.flatMap_append, ← hn]; simp
          have hwb : wB S n = Lib.leBytes 4 W8 ++ (Lib.leBytes 8 M ++ rowsB (S n)) := by simp only [wB, bucketB]; rw [← hW8, ← hkk, ← hM]
          have hwl : (wB S n).length = 12 + M := by rw [hwb]; simp [Lib.leBytes_length, hrl]; omega
          have hbound : l.length + (T + (12 + M)) ≤ 140737488355328 := by
            have h1 := HLIM.out Ds HD1.out
            rw [mwB_map] at h1
            have h2 : Ds.flatMap (wB S) = (Ds.take (i + 1)).flatMap (wB S) ++ (Ds.drop (i + 1)).flatMap (wB S) := by rw [← List.flatMap_append, List.take_append_drop]
            rw [h2, htk] at h1
            simp only [List.length_append, Lib.leBytes_length] at h1 hT
            omega
          have hcx : wr.cell? ⟨g, i, none⟩ = some (.int .u32 (W8 : Int)) := by
            rw [hB.cell, List.getElem?_toArray, List.getElem?_append_left (by simp [ints]; exact hiD)]
            simp [ints, hiD, hn, hW8]
          have hcp : wr.cell? ⟨pb, 0, none⟩ = some (.map (some mm)) := hR.off.cell HP.out (by simp)
          have hwf : (Lit.int .u32 (W8 : Int)).wf = true := WalkArith.wf_u32 (by omega)
          have hlk := (Mp.look (HMP.out wr hR.off) Tryz.underlying233 Tryz.underlying149 (zeroSW wr) (W8 : Int) hwf).2
          have hmemk : (W8 : Int) ∈ ints (D.map (· + 8)) := mem_mapN.2 (List.mem_map.2 ⟨n, hnD, hW8.symm⟩)
          rw [if_pos hmemk, Int.toNat_natCast, hW8, hv, hsw, ← hW8] at hlk
          obtain ⟨M12, hM12⟩ : ∃ M12, M12 = 12 + M := ⟨_, rfl⟩
          have hwT : IntKind.u64.wrap ((T : Int) + (M12 : Int)) = (T : Int) + (M12 : Int) := by rw [IntKind.wrap_u64]; omega
          have HSW : Hid (∀ W q, WrAt b w0 (l ++ (Lib.leBytes 4 p ++ (Ds.take i).flatMap (wB S))) W → Blk W q 362 #[.int .u32 (W8 : Int), .int .u64 (k : Int), .slice (some ⟨C n, 0, none⟩) M M] → q ≠ b →
              Calls Tryz.prog 238 #[.pointer (some ⟨q, 0, none⟩), .iface 88 (.pointer (some ⟨b, 0, none⟩))] W fun e w' =>
                e = .returned (.tuple #[.int .u64 (M12 : Int), .nilIface]) ∧ WrAt b w0 (l ++ (Lib.leBytes 4 p ++ (Ds.take (i + 1)).flatMap (wB S))) w' ∧ Lib.OthersKept 5 (some b) W w') := Lib.hid fun W q h1 h2 h3 => by
            refine (swMarshal_any h1 q W8 k M (C n) (rowsB (S n)) h2 h3 hrl hseg hClt (by omega) (by rw [List.length_append, ← hT]; omega)).mono fun e w' ⟨a1, a2, a3⟩ => ⟨by rw [hM12]; exact a1, ?_, a3⟩
            rw [htk, hwb]
            simpa [List.append_assoc] using a2
          have HR := Lib.hid hR
          have HK := Lib.hid hK
          have HB := Lib.hid hB
          have hrb := hR.lt
          have HT := Lib.hid hT
          have HTK := Lib.hid htk
          have HWL := Lib.hid hwl
          have HM12 := Lib.hid hM12
          have HBD := Lib.hid hbound
          clear hh hT hR hK hB hv hseg hsw hrl htk hwb hwl hbound hwid hM hkk hW8 hmemk hwf hM12 hn
          go_wp2_with (go_at_call 238; refine (HSW.out _ _ (HR.out.old ((Off.alloc (Off.refl [] wr) _).below (fun x hx => by simp at hx))) (Blk.new' _ _ _ rfl) (by omega)).mono ?_; rintro e w5 ⟨rfl, hR5, hK5⟩)
          go_roundg (p - (i + 1))
          case measure => omega
          case rel =>
            refine ⟨i + 1, T + M12, by go_num, by go_num, by omega, Nat.le_refl _, Lib.hid ⟨?_, hR5, (HK.out.trans (kept_of_below ((Off.alloc (Off.refl [] wr) _).below (fun x hx => by simp at hx)))).trans hK5, ?_⟩⟩
            · rw [HTK.out, HM12.out, HT.out]; simp [HWL.out, Nat.add_assoc]
            · exact kept_blk hK5 (HB.out.alloc _) hgb (by decide)
        · have hltz : ¬ (i : Int) < (p : Int) := by omega
          obtain rfl : i = p := by omega
          go_wp2_with fail
          go_ret2
          obtain ⟨hT, hR, hK, hB⟩ := hh.out
          have e : mwB (Ds.map fun n => (n, S n)) = Lib.leBytes 4 i ++ (Ds.take i).flatMap (wB S) := by
            rw [mwB_map, HDL.out, List.take_of_length_le (by rw [HDL.out]; exact Nat.le_refl _)]
          refine ⟨Ds, HD1.out, HD2.out, ?_, by rw [e]; exact hR, hK⟩
          rw [e, ← hT]
          rfl
    · intro x w4 hxL hwx hrg4 ho4 hs4 hen
      have hk := HK.out
      have hLpos := List.length_pos_of_mem hxL
      obtain ⟨i0, hi, hz0, hz1, hz2⟩ := info_parts Tryz.infoU32
      have hb4 := hk.blk.off ho4 (ni1 hk.g2)
      have hgw := hb4.lt
      have HB4 := Lib.hid hb4
      have HO4 := Lib.hid ho4
      have HRG4 := Lib.hid hrg4
      have hxl : (P.map (Value.int .u32)).length = p * 1 := by simp [HPL.out]
      have hown := owns_blk (HB4.out.alloc (.cells #[.int .u32 x] 233)) hxl (by have := hk.sp; rw [HPL.out] at this; exact this) (by have := hk.le; rw [HPL.out] at this; exact this) hk.cm
      have HOWN := Lib.hid hown
      have HXL := Lib.hid hxl
      clear hk hb4 ho4 hrg4 hrg hxl hown hs4
      go_wp2_with (at_builtin; refine wpList_append_blk rfl _ _ 371 rfl 233 i0 _ 1 4 Tryz.underlying371 hi hz0 hz1 hz2 rfl (by decide) (.slice (some ⟨g, 0, none⟩) p cap) p (P.map (Value.int .u32)) HXL.out rfl HOWN.out ⟨w4.heap.size, 0, none⟩ 1 [.int .u32 x] rfl rfl (news_alloc _ _ _) (oneInt _ _) (by unfold maxLen; omega) (by omega) ?_; intro g' cap' sp' w5 hb5 q1 q2 q3 hg5 ho5 hown5; have HQ3 := Lib.hid q3; have HG5 := Lib.hid hg5; clear q3 hg5 hown5)
      go_roundg (L.length - 1)
      case measure => omega
      case rel =>
        have hk := HK.out
        have hg5 := HG5.out
        have hsz5 : (w4.alloc (.cells #[.int .u32 x] 233)).heap.size = w4.heap.size + 1 := by simp
        rw [hsz5] at hg5
        have ho5' := ho5.out [g] (fun g hg => by simp [Value.ownBlock] at hg; simp [hg])
        have hAl : Off [] w4 (w4.alloc (.cells #[.int .u32 x] 233)) := Off.alloc (Off.refl [] w4) _
        have hw4s := HO4.out.size
        have hr2 := hk.r2
        have hw01 := HR1.out.off.size
        have hr1 := hk.r1
        have hg1 := hk.g1
        have hos := ho5'.size
        rw [hsz5] at hos
        refine ⟨L.erase x, P ++ [x], p + 1, g', cap', sp', rfl, Lib.hid ⟨by simp [HPL.out], by rw [List.length_erase_of_mem hxL]; exact Nat.le_refl _, ?_⟩⟩
        exact { perm := by
                  refine List.Perm.trans ?_ hk.perm
                  rw [List.append_assoc]
                  exact List.Perm.append_left P (List.perm_cons_erase hxL).symm
                blk := by have := hb5.out; simpa using this
                sp := by have := HQ3.out; simp [HPL.out]; omega
                le := by simp [HPL.out]; exact q1
                cm := q2
                rg := (HRG4.out.off hAl (by simp) (by simp)).off ho5' (by simp; omega) (ni1 (fun e => hk.g2 e.symm))
                off := ((hk.off.then HO4.out (fun x hx => by simp at hx; right; omega)).then hAl (fun x hx => by simp at hx)).then ho5' (fun x hx => by simp at hx; right; omega)
                g1 := by rcases hg5 with h | h
                         · simp [Value.ownBlock] at h; omega
                         · omega
                g2 := by rcases hg5 with h | h
                         · simp [Value.ownBlock] at h; rw [← h]; exact hk.g2
                         · omega
                r1 := hk.r1
                r2 := by omega }
end Go.Proofs.YtkdbjocchponfaaGreatDoor
