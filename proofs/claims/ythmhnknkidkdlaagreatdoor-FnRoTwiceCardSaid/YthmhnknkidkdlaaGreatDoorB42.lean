/-
  multiWidthIndex.Marshal into a bytes.Buffer that lay ahead.
  MultihashIndexSorted.Marshal into a bytes.Buffer that lay ahead.
  index.WriteTo into a bytes.Buffer that lay ahead.
  index.WriteTo of an index sorted by digests into a bytes.Buffer that lay ahead.
  How long an index of few entries is.
  (No condition beyond those that each theorem states.)
-/
import Derived.Test.YthmhnknkidkdlaaGreatDoorB41
import Derived.Test.YthmhnknkidkdlaaGreatDoorB25
import Derived.Test.YthmhnknkidkdlaaGreatDoorB31
namespace Go.Proofs.YthmhnknkidkdlaaGreatDoor
open Go.RowKit

set_option maxRecDepth 100000 in
set_option maxHeartbeats 4000000 in
theorem mwMarshal_G {EX : List Nat} {B0 b : Nat} {w0 w : World} {l : List UInt8} (h : WrG EX B0 b w0 l w) (pb mm : Nat) (D : List Nat) (S : Nat → List Rw) (hp : w0.cell? ⟨pb, 0, none⟩ = some (.map (some mm))) (hmw : MwAt B0 w0 mm D S) (hpE : pb ∉ EX) (hmE : mm ∉ EX)
    (hD : D.length ≤ 1000) (hn : ∀ n, n ∈ D → n ≤ 1000) (hlim : ∀ Ds : List Nat, Ds.Perm D → l.length + (mwB (Ds.map fun n => (n, S n))).length ≤ 140737488355328) :
    Calls Tryz.prog 183 #[.pointer (some ⟨pb, 0, none⟩), .iface 57 (.pointer (some ⟨b, 0, none⟩))] w fun e w' =>
      ∃ Ds : List Nat, Ds.Perm D ∧ Ds.Pairwise (· < ·) ∧ e = .returned (.tuple #[.int .u64 (((mwB (Ds.map fun n => (n, S n))).length : Nat) : Int), .nilIface]) ∧ WrG EX B0 b w0 (l ++ mwB (Ds.map fun n => (n, S n))) w' ∧ Lib.OthersKept 5 (some b) w w' := by
  obtain ⟨V, C, hmp, hrow⟩ := hmw.ex
  have hnd := hmw.nodup
  have hmlt : mm < w0.heap.size := hmw.lt
  have hplt : pb < w0.heap.size := World.block_lt_of_cell? w0 _ hp
  have HPE := Lib.hid hpE
  have HME := Lib.hid hmE
  have HLOW := Lib.hid h.low
  obtain ⟨N, hN⟩ : ∃ N, N = D.length := ⟨_, rfl⟩
  have hKl : (ints (D.map (· + 8))).length = N := by simp [ints, hN]
  have hl4 : l.length + 4 ≤ 140737488355328 := by
    have := hlim D (List.Perm.refl _)
    rw [mwB_map, List.length_append, Lib.leBytes_length] at this
    omega
  have H1 := Lib.hid (zzWrite32_G h N (by omega) hl4)
  have hc0 : w.cell? ⟨pb, 0, none⟩ = some (.map (some mm)) := h.off.cell hp hpE
  have hMP : ∀ W, Off EX w0 W → MpN Tryz.prog 262 .u32 W mm D.length (D.map (· + 8)) V := fun W ho => hmp.off ho HME.out
  have HMP := Lib.hid hMP
  have hLEN : ∀ W, Off EX w0 W → (Builtin.len_ #[159] 3 #[.map (some mm)]).run Tryz.prog W = .ok (.int .i64 (N : Int)) W := fun W ho => by
    have := Mp.len (hMP W ho) Tryz.underlying159 3
    rwa [hKl] at this
  have HLEN := Lib.hid hLEN
  have hlen0 := hLEN w h.off
  obtain ⟨Z, hZ, hmk⟩ := make32 N (by omega)
  have hwu : IntKind.u32.wrap (N : Int) = (N : Int) := by rw [IntKind.wrap_u32]; omega
  have HROW := Lib.hid hrow
  have HP := Lib.hid hp
  have HND := Lib.hid hnd
  have HN := Lib.hid hn
  have HLIM := Lib.hid hlim
  have HKL := Lib.hid hKl
  have HNN := Lib.hid hN
  have HZ := Lib.hid hZ
  clear hrow hp hnd hn hlim hKl hN hmp hmw hMP hLEN hZ h hl4 hpE hmE
  go_enter Tryz.func183, Tryz.ntmps183
  go_wp2_with (first
    | (go_at_call 174; refine H1.out.mono ?_; rintro e w1 ⟨rfl, hR1, hK1⟩; have hc1 := hR1.off.cell HP.out HPE.out; have hlen1 := HLEN.out w1 hR1.off; have hc2 : (w1.alloc (.cells Z.toArray 262)).cell? ⟨pb, 0, none⟩ = some (.map (some mm)) := (Off.alloc (Off.refl [] w1) _).cell hc1 (by simp); have HR1 := Lib.hid hR1; have HK1 := Lib.hid hK1; clear hR1 hK1 H1 hc0 hlen0)
    | (at_range; refine wpList_range_mp rfl _ 159 rfl Tryz.underlying262 Tryz.underlying159 (HMP.out _ (HR1.out.off.then (Off.alloc (Off.refl [] w1) _) (fun x hx => by simp at hx))) rfl ?_; intro w3 hr3 ho3 hs3))
  have hal : (w1.alloc (.cells Z.toArray 262)).heap.size = w1.heap.size + 1 := by simp
  generalize (w1.alloc (.cells Z.toArray 262)).heap.size = rr at hal hr3 hs3 ⊢
  have hN1000 : N ≤ 1000 := by rw [HNN.out]; exact hD
  have HO3 := Lib.hid ho3.out
  have hw1b : b < w1.heap.size := HR1.out.lt
  (try go_frame)
  go_loopg [8] N (fun kx s8 wq => ∃ (L P : List Int) (p g cap : Nat) (sp : List Value), s8 = .slice (some ⟨g, 0, none⟩) p cap ∧ Hid (P.length = p ∧ L.length ≤ kx ∧ Kys w1 wq mm rr g cap D.length .u32 262 (ints (D.map (· + 8))) (fun x => V x.toNat) P L sp))
  case atStart =>
    refine ⟨ints (D.map (· + 8)), [], 0, w1.heap.size, N, Z, rfl, Lib.hid ⟨rfl, Nat.le_of_eq HKL.out, ?_⟩⟩
    exact { perm := List.Perm.refl _, blk := (Blk.new' w1 262 Z.toArray rfl).off HO3.out (by simp), sp := by simp [HZ.out], le := Nat.zero_le _, cm := by unfold maxLen; omega, rg := hr3.out, off := (Off.alloc (Off.refl [] w1) _).then HO3.out (fun x hx => by simp at hx), g1 := Nat.le_refl _, g2 := by omega, r1 := by omega, r2 := by omega }
  case round =>
    rename World => wq
    obtain ⟨L, P, p, g, cap, sp, rfl, hh⟩ := hrel
    obtain ⟨hpl, hlen, hk⟩ := hh.out
    have HK := Lib.hid hk
    have hrg := hk.rg
    have hPL : P.length + L.length = N := by have := hk.perm.length_eq; rw [HKL.out] at this; simpa using this
    have HPL := Lib.hid hpl
    have hpN : p + L.length = N := by rw [← hpl]; exact hPL
    clear hh hk hr3 hs3 hpl hPL hal
    go_wp2_with (at_next; refine wpList_next_mp rfl _ rfl Tryz.underlying262 rfl hrg ?_ ?_)
    · intro hL
      subst hL
      have hk := HK.out
      obtain rfl : p = N := by simpa using hpN
      have hsort := Ord32.sort_list g cap 262 P sp wq hk.blk (by rw [HPL.out]; omega)
      rw [HPL.out] at hsort
      have HSORT := Lib.hid hsort
      clear hsort hk
      go_wp2_with (go_at_call 188; refine HSORT.out.mono ?_; rintro e w4 ⟨rfl, ys, sp4, hperm, hasc, hb4, ho4⟩)
      have hk := HK.out
      obtain ⟨Ds, hDs1, hDs2, rfl⟩ := keys_sorted D HND.out 8 ys (hperm.trans (by have := hk.perm; simpa using this)) hasc
      have ho14 : Off [] w1 w4 := hk.off.then ho4 (fun x hx => by simp at hx; right; rw [hx]; exact hk.g1)
      have hR4 := HR1.out.old (ho14.below (fun x hx => by simp at hx))
      have hK4 : Lib.OthersKept 5 (some b) w w4 := HK1.out.trans (kept_of_below (ho14.below (fun x hx => by simp at hx)))
      have hDl : Ds.length = p := by rw [hDs1.length_eq]; exact HNN.out.symm
      have hgb : g ≠ b := by have := hk.g1; omega
      have HR4 := Lib.hid hR4
      have HK4 := Lib.hid hK4
      have HB4 := Lib.hid hb4
      have HD1 := Lib.hid hDs1
      have HD2 := Lib.hid hDs2
      have HDL := Lib.hid hDl
      clear hR4 hK4 hb4 hDs1 hDs2 hDl ho14 ho4 hperm hasc hk hrg HK HSORT
      go_loopg [6, 49] p (fun kx s6 s49 wr => ∃ (i T : Nat), s49 = .int .i64 (i : Int) ∧ s6 = .int .u64 (T : Int) ∧ i ≤ p ∧ p - i ≤ kx ∧
          Hid (T = (Lib.leBytes 4 p ++ (Ds.take i).flatMap (wB S)).length ∧ WrG EX B0 b w0 (l ++ (Lib.leBytes 4 p ++ (Ds.take i).flatMap (wB S))) wr ∧ Lib.OthersKept 5 (some b) w wr ∧ Blk wr g 262 ((ints (Ds.map (· + 8))).map (Value.int .u32) ++ sp4).toArray))
      case atStart => exact ⟨0, 4, rfl, rfl, Nat.zero_le _, Nat.le_refl _, Lib.hid ⟨by simp [Lib.leBytes_length], by simpa using HR4.out, HK4.out, HB4.out⟩⟩
      case round =>
        rename World => wr
        obtain ⟨i, T, rfl, rfl, hip, hkx, hh⟩ := hrel
        by_cases hlt : i < p
        · have hltz : (i : Int) < (p : Int) := by omega
          obtain ⟨hT, hR, hK, hB⟩ := hh.out
          have hiD : i < Ds.length := by rw [HDL.out]; exact hlt
          obtain ⟨n, hn⟩ : ∃ n, n = Ds[i] := ⟨_, rfl⟩
          have hnD : n ∈ D := HD1.out.mem_iff.1 (by rw [hn]; exact List.getElem_mem _)
          obtain ⟨hv, hseg, hB0, hClt, hwid⟩ := HROW.out n hnD
          have hn1000 := HN.out n hnD
          obtain ⟨W8, hW8⟩ : ∃ W8, W8 = n + 8 := ⟨_, rfl⟩
          obtain ⟨k, hkk⟩ : ∃ k, k = (S n).length := ⟨_, rfl⟩
          obtain ⟨M, hM⟩ : ∃ M, M = W8 * k := ⟨_, rfl⟩
          have hsw : swv n (S n).length (C n) = .agg #[.int .u32 (W8 : Int), .int .u64 (k : Int), .slice (some ⟨C n, 0, none⟩) M M] := by unfold swv; rw [← hkk, ← hW8, ← hM]
          have hrl : (rowsB (S n)).length = M := by rw [rowsB_length (S n) n hwid, ← hW8, ← hkk, hM]
          have htk : (Ds.take (i + 1)).flatMap (wB S) = (Ds.take i).flatMap (wB S) ++ wB S n := by
            rw [List.take_succ_eq_append_getElem hiD, List.flatMap_append, ← hn]; simp
          have hwb : wB S n = Lib.leBytes 4 W8 ++ (Lib.leBytes 8 M ++ rowsB (S n)) := by simp only [wB, bucketB]; rw [← hW8, ← hkk, ← hM]
          have hwl : (wB S n).length = 12 + M := by rw [hwb]; simp [Lib.leBytes_length, hrl]; omega
          have hbound : l.length + (T + (12 + M)) ≤ 140737488355328 := by
            have h1 := HLIM.out Ds HD1.out
            rw [mwB_map] at h1
            have h2 : Ds.flatMap (wB S) = (Ds.take (i + 1)).flatMap (wB S) ++ (Ds.drop (i + 1)).flatMap (wB S) := by rw [← List.flatMap_append, List.take_append_drop]
            rw [h2, htk] at h1
            simp only [List.length_append, Lib.leBytes_length] at h1 hT
            omega
          have hcx : wr.cell? ⟨g, i, none⟩ = some (.int .u32 (W8 : Int)) := by
            rw [hB.cell, List.getElem?_toArray, List.getElem?_append_left (by simp [ints]; exact hiD)]
            simp [ints, hiD, hn, hW8]
          have hcp : wr.cell? ⟨pb, 0, none⟩ = some (.map (some mm)) := hR.off.cell HP.out HPE.out
          have hwf : (Lit.int .u32 (W8 : Int)).wf = true := WalkArith.wf_u32 (by omega)
          have hlk := (Mp.look (HMP.out wr hR.off) Tryz.underlying262 Tryz.underlying159 (zeroSW wr) (W8 : Int) hwf).2
          have hmemk : (W8 : Int) ∈ ints (D.map (· + 8)) := mem_mapN.2 (List.mem_map.2 ⟨n, hnD, hW8.symm⟩)
          rw [if_pos hmemk, Int.toNat_natCast, hW8, hv, hsw, ← hW8] at hlk
          obtain ⟨M12, hM12⟩ : ∃ M12, M12 = 12 + M := ⟨_, rfl⟩
          have hwT : IntKind.u64.wrap ((T : Int) + (M12 : Int)) = (T : Int) + (M12 : Int) := by rw [IntKind.wrap_u64]; omega
          have HSW : Hid (∀ W q, WrG EX B0 b w0 (l ++ (Lib.leBytes 4 p ++ (Ds.take i).flatMap (wB S))) W → Blk W q 318 #[.int .u32 (W8 : Int), .int .u64 (k : Int), .slice (some ⟨C n, 0, none⟩) M M] → q ≠ b →
              Calls Tryz.prog 189 #[.pointer (some ⟨q, 0, none⟩), .iface 57 (.pointer (some ⟨b, 0, none⟩))] W fun e w' =>
                e = .returned (.tuple #[.int .u64 (M12 : Int), .nilIface]) ∧ WrG EX B0 b w0 (l ++ (Lib.leBytes 4 p ++ (Ds.take (i + 1)).flatMap (wB S))) w' ∧ Lib.OthersKept 5 (some b) W w') := Lib.hid fun W q h1 h2 h3 => by
            refine (swMarshal_G h1 q W8 k M (C n) (rowsB (S n)) h2 h3 hrl hseg (fun hx => by have := HLOW.out _ hx; omega) (by omega) (by rw [List.length_append, ← hT]; omega)).mono fun e w' ⟨a1, a2, a3⟩ => ⟨by rw [hM12]; exact a1, ?_, a3⟩
            rw [htk, hwb]
            simpa [List.append_assoc] using a2
          have HR := Lib.hid hR
          have HK := Lib.hid hK
          have HB := Lib.hid hB
          have hrb := hR.lt
          have HT := Lib.hid hT
          have HTK := Lib.hid htk
          have HWL := Lib.hid hwl
          have HM12 := Lib.hid hM12
          have HBD := Lib.hid hbound
          clear hh hT hR hK hB hv hseg hsw hrl htk hwb hwl hbound hwid hM hkk hW8 hmemk hwf hM12 hn
          go_wp2_with (go_at_call 189; refine (HSW.out _ _ (HR.out.old ((Off.alloc (Off.refl [] wr) _).below (fun x hx => by simp at hx))) (Blk.new' _ _ _ rfl) (by omega)).mono ?_; rintro e w5 ⟨rfl, hR5, hK5⟩)
          go_roundg (p - (i + 1))
          case measure => omega
          case rel =>
            refine ⟨i + 1, T + M12, by go_num, by go_num, by omega, Nat.le_refl _, Lib.hid ⟨?_, hR5, (HK.out.trans (kept_of_below ((Off.alloc (Off.refl [] wr) _).below (fun x hx => by simp at hx)))).trans hK5, ?_⟩⟩
            · rw [HTK.out, HM12.out, HT.out]; simp [HWL.out, Nat.add_assoc]
            · exact kept_blk hK5 (HB.out.alloc _) hgb (by decide)
        · have hltz : ¬ (i : Int) < (p : Int) := by omega
          obtain rfl : i = p := by omega
          go_wp2_with fail
          go_ret2
          obtain ⟨hT, hR, hK, hB⟩ := hh.out
          have e : mwB (Ds.map fun n => (n, S n)) = Lib.leBytes 4 i ++ (Ds.take i).flatMap (wB S) := by
            rw [mwB_map, HDL.out, List.take_of_length_le (by rw [HDL.out]; exact Nat.le_refl _)]
          refine ⟨Ds, HD1.out, HD2.out, ?_, by rw [e]; exact hR, hK⟩
          rw [e, ← hT]
          rfl
    · intro x w4 hxL hwx hrg4 ho4 hs4 hen
      have hk := HK.out
      have hLpos := List.length_pos_of_mem hxL
      obtain ⟨i0, hi, hz0, hz1, hz2⟩ := info_parts Tryz.infoU32
      have hb4 := hk.blk.off ho4 (ni1 hk.g2)
      have hgw := hb4.lt
      have HB4 := Lib.hid hb4
      have HO4 := Lib.hid ho4
      have HRG4 := Lib.hid hrg4
      have hxl : (P.map (Value.int .u32)).length = p * 1 := by simp [HPL.out]
      have hown := owns_blk (HB4.out.alloc (.cells #[.int .u32 x] 262)) hxl (by have := hk.sp; rw [HPL.out] at this; exact this) (by have := hk.le; rw [HPL.out] at this; exact this) hk.cm
      have HOWN := Lib.hid hown
      have HXL := Lib.hid hxl
      clear hk hb4 ho4 hrg4 hrg hxl hown hs4
      go_wp2_with (at_builtin; refine wpList_append_blk rfl _ _ 327 rfl 262 i0 _ 1 4 Tryz.underlying327 hi hz0 hz1 hz2 rfl (by decide) (.slice (some ⟨g, 0, none⟩) p cap) p (P.map (Value.int .u32)) HXL.out rfl HOWN.out ⟨w4.heap.size, 0, none⟩ 1 [.int .u32 x] rfl rfl (news_alloc _ _ _) (oneInt _ _) (by unfold maxLen; omega) (by omega) ?_; intro g' cap' sp' w5 hb5 q1 q2 q3 hg5 ho5 hown5; have HQ3 := Lib.hid q3; have HG5 := Lib.hid hg5; clear q3 hg5 hown5)
      go_roundg (L.length - 1)
      case measure => omega
      case rel =>
        have hk := HK.out
        have hg5 := HG5.out
        have hsz5 : (w4.alloc (.cells #[.int .u32 x] 262)).heap.size = w4.heap.size + 1 := by simp
        rw [hsz5] at hg5
        have ho5' := ho5.out [g] (fun g hg => by simp [Value.ownBlock] at hg; simp [hg])
        have hAl : Off [] w4 (w4.alloc (.cells #[.int .u32 x] 262)) := Off.alloc (Off.refl [] w4) _
        have hw4s := HO4.out.size
        have hr2 := hk.r2
        have hw01 := HR1.out.off.size
        have hr1 := hk.r1
        have hg1 := hk.g1
        have hos := ho5'.size
        rw [hsz5] at hos
        refine ⟨L.erase x, P ++ [x], p + 1, g', cap', sp', rfl, Lib.hid ⟨by simp [HPL.out], by rw [List.length_erase_of_mem hxL]; exact Nat.le_refl _, ?_⟩⟩
        exact { perm := by
                  refine List.Perm.trans ?_ hk.perm
                  rw [List.append_assoc]
                  exact List.Perm.append_left P (List.perm_cons_erase hxL).symm
                blk := by have := hb5.out; simpa using this
                sp := by have := HQ3.out; simp [HPL.out]; omega
                le := by simp [HPL.out]; exact q1
                cm := q2
                rg := (HRG4.out.off hAl (by simp) (by simp)).off ho5' (by simp; omega) (ni1 (fun e => hk.g2 e.symm))
                off := ((hk.off.then HO4.out (fun x hx => by simp at hx; right; omega)).then hAl (fun x hx => by simp at hx)).then ho5' (fun x hx => by simp at hx; right; omega)
                g1 := by rcases hg5 with h | h
                         · simp [Value.ownBlock] at h; omega
                         · omega
                g2 := by rcases hg5 with h | h
                         · simp [Value.ownBlock] at h; rw [← h]; exact hk.g2
                         · omega
                r1 := hk.r1
                r2 := by omega }
end Go.Proofs.YthmhnknkidkdlaaGreatDoor
namespace Go.Proofs.YthmhnknkidkdlaaGreatDoor
open Go.RowKit

set_option maxRecDepth 100000 in
set_option maxHeartbeats 1000000 in
theorem cwMarshal_G {EX : List Nat} {B0 b : Nat} {w0 w : World} {l : List UInt8} (h : WrG EX B0 b w0 l w) (q m c : Nat) (D : List Nat) (S : Nat → List Rw) (hq : Blk w0 q 304 #[.map (some m), .int .u64 (c : Int)]) (hmw : MwAt B0 w0 m D S) (hqE : q ∉ EX) (hmE : m ∉ EX)
    (hc : c < 18446744073709551616) (hD : D.length ≤ 1000) (hn : ∀ n, n ∈ D → n ≤ 1000 ∧ (S n).length ≤ 1000) (hlim : l.length ≤ 10000000000000) :
    Calls Tryz.prog 176 #[.pointer (some ⟨q, 0, none⟩), .iface 57 (.pointer (some ⟨b, 0, none⟩))] w fun e w' =>
      ∃ Ds : List Nat, Ds.Perm D ∧ Ds.Pairwise (· < ·) ∧ e = .returned (.tuple #[.int .u64 (((codedB (c, Ds.map fun n => (n, S n))).length : Nat) : Int), .nilIface]) ∧ WrG EX B0 b w0 (l ++ codedB (c, Ds.map fun n => (n, S n))) w' ∧ Lib.OthersKept 5 (some b) w w' := by
  have hle : ∀ Ds : List Nat, Ds.Perm D → (mwB (Ds.map fun n => (n, S n))).length ≤ 1008012004 := fun Ds hp =>
    mwB_le Ds S (by rw [hp.length_eq]; exact hD) (fun n hm => ⟨(hn n (hp.mem_iff.1 hm)).1, (hn n (hp.mem_iff.1 hm)).2, hmw.wid n (hp.mem_iff.1 hm)⟩)
  have hcell : w.cell? ⟨q, 1, none⟩ = some (.int .u64 (c : Int)) := h.off.cell (hq.cell 1) hqE
  have H1 := Lib.hid (zzWrite64_G h c hc (by omega))
  have H2 : Hid (∀ W, WrG EX B0 b w0 (l ++ Lib.leBytes 8 c) W → Calls Tryz.prog 183 #[.pointer (some ⟨q, 0, none⟩), .iface 57 (.pointer (some ⟨b, 0, none⟩))] W fun e w' =>
      ∃ (Ds : List Nat) (T : Nat), Ds.Perm D ∧ Ds.Pairwise (· < ·) ∧ T = (mwB (Ds.map fun n => (n, S n))).length ∧ e = .returned (.tuple #[.int .u64 (T : Int), .nilIface]) ∧ WrG EX B0 b w0 (l ++ codedB (c, Ds.map fun n => (n, S n))) w' ∧ Lib.OthersKept 5 (some b) W w') := Lib.hid fun W hW =>
    (mwMarshal_G hW q m D S (hq.cell 0) hmw hqE hmE hD (fun n hm => (hn n hm).1) (fun Ds hp => by have := hle Ds hp; rw [List.length_append, Lib.leBytes_length]; omega)).mono fun e w' ⟨Ds, a1, a2, a3, a4, a5⟩ => ⟨Ds, _, a1, a2, rfl, a3, by rw [codedB, ← List.append_assoc]; exact a4, a5⟩
  have HLE := Lib.hid hle
  clear h hq hmw hn hle hqE hmE
  go_enter Tryz.func176, Tryz.ntmps176
  go_wp2_with (first
    | (go_at_call 182; refine H1.out.mono ?_; rintro e w1 ⟨rfl, hR1, hK1⟩)
    | (go_at_call 183; refine (H2.out _ hR1).mono ?_; rintro e w2 ⟨Ds, T, hD1, hD2, hT, rfl, hR2, hK2⟩; have hwT : IntKind.u64.wrap (8 + (T : Int)) = 8 + (T : Int) := (by have := HLE.out Ds hD1; rw [IntKind.wrap_u64]; omega); have HT := Lib.hid hT; clear hT))
  go_ret2
  refine ⟨Ds, hD1, hD2, ?_, hR2, hK1.trans hK2⟩
  have e : (codedB (c, Ds.map fun n => (n, S n))).length = 8 + T := by rw [codedB, List.length_append, Lib.leBytes_length, HT.out]
  rw [e]
  rfl

set_option maxRecDepth 100000 in
set_option maxHeartbeats 4000000 in
theorem misMarshal_G {EX : List Nat} {B0 b : Nat} {w0 w : World} {l : List UInt8} (h : WrG EX B0 b w0 l w) (pb mm : Nat) (Cs : List Nat) (D : Nat → List Nat) (S : Nat → Nat → List Rw) (hp : w0.cell? ⟨pb, 0, none⟩ = some (.map (some mm))) (hmi : MisAt B0 w0 mm Cs D S) (hpE : pb ∉ EX) (hmE : mm ∉ EX)
    (hC : Cs.length ≤ 1000) (hc64 : ∀ c, c ∈ Cs → c < 18446744073709551616) (hD : ∀ c, c ∈ Cs → (D c).length ≤ 1000 ∧ ∀ n, n ∈ D c → n ≤ 1000 ∧ (S c n).length ≤ 1000) (hlim : l.length ≤ 1000000000) :
    Calls Tryz.prog 168 #[.pointer (some ⟨pb, 0, none⟩), .iface 57 (.pointer (some ⟨b, 0, none⟩))] w fun e w' =>
      ∃ H, Wrt Cs D S H ∧ e = .returned (.tuple #[.int .u64 (((mhiB H).length : Nat) : Int), .nilIface]) ∧ WrG EX B0 b w0 (l ++ mhiB H) w' ∧ Lib.OthersKept 5 (some b) w w' := by
  obtain ⟨V, q, m, hmp, hrow⟩ := hmi.ex
  have hmlt : mm < w0.heap.size := hmi.lt
  have hplt : pb < w0.heap.size := World.block_lt_of_cell? w0 _ hp
  have HPE := Lib.hid hpE
  have HME := Lib.hid hmE
  have HLOW := Lib.hid h.low
  obtain ⟨p, hN⟩ : ∃ N, N = Cs.length := ⟨_, rfl⟩
  have hpN : p ≤ 1000 := by omega
  have H1 := Lib.hid (zzWrite32_G h p (by omega) (by omega))
  have hc0 : w.cell? ⟨pb, 0, none⟩ = some (.map (some mm)) := h.off.cell hp hpE
  have hMP : ∀ W, Off EX w0 W → MpN Tryz.prog 30 .u64 W mm Cs.length Cs V := fun W ho => MpN.off hmp ho HME.out
  have hlen0 : (Builtin.len_ #[162] 3 #[.map (some mm)]).run Tryz.prog w = .ok (.int .i64 (p : Int)) w := by
    have := Mp.len (hMP w h.off) Tryz.underlying162 3
    rwa [show (ints Cs).length = p from by simp [ints, hN]] at this
  have H2 : Hid (∀ W, Off EX w0 W → _) := Lib.hid fun W ho => smc_any W pb mm p Cs V (ho.cell hp hpE) (hMP W ho) hN.symm hpN
  have hwu : IntKind.u32.wrap (p : Int) = (p : Int) := by rw [IntKind.wrap_u32]; omega
  have HMP := Lib.hid hMP
  have HROW := Lib.hid hrow
  have HP := Lib.hid hp
  have HD := Lib.hid hD
  have HC64 := Lib.hid hc64
  have HNN := Lib.hid hN
  clear hrow hp hD hc64 hN hmp hmi hMP h hpE hmE
  go_enter Tryz.func168, Tryz.ntmps168
  go_wp2_with (first
    | (go_at_call 174; refine H1.out.mono ?_; rintro e w1 ⟨rfl, hR1, hK1⟩)
    | (go_at_call 175; refine (H2.out _ hR1.off).mono ?_; rintro e w4 ⟨g, cap, Ks, sp4, rfl, hKs1, hKs2, hb4, ho4, hg1⟩))
  have hR4 := hR1.old (ho4.below (fun x hx => by simp at hx))
  have hK4 : Lib.OthersKept 5 (some b) w w4 := hK1.trans (kept_of_below (ho4.below (fun x hx => by simp at hx)))
  have hKl : Ks.length = p := by rw [hKs1.length_eq]; exact HNN.out.symm
  have hgb : g ≠ b := by have := hR1.lt; omega
  have HR4 := Lib.hid hR4
  have HK4 := Lib.hid hK4
  have HB4 := Lib.hid hb4
  have HD1 := Lib.hid hKs1
  have HD2 := Lib.hid hKs2
  have HDL := Lib.hid hKl
  clear hR4 hK4 hb4 hKs1 hKs2 hKl ho4 hR1 hK1 H1 H2 hc0 hlen0
  go_loopg [8, 28] p (fun kx s6 s49 wr => ∃ (i T : Nat), s49 = .int .i64 (i : Int) ∧ s6 = .int .u64 (T : Int) ∧ i ≤ p ∧ p - i ≤ kx ∧
      Hid (∃ H : List (Nat × List (Nat × List Rw)), H.map (·.1) = Ks.take i ∧ (∀ p, p ∈ H → ∃ Ds : List Nat, Ds.Perm (D p.1) ∧ Ds.Pairwise (· < ·) ∧ p.2 = Ds.map fun n => (n, S p.1 n)) ∧ T = (Lib.leBytes 4 p ++ H.flatMap codedB).length ∧ T ≤ 4 + i * 1008012012 ∧ WrG EX B0 b w0 (l ++ (Lib.leBytes 4 p ++ H.flatMap codedB)) wr ∧ Lib.OthersKept 5 (some b) w wr ∧ Blk wr g 30 ((ints Ks).map (Value.int .u64) ++ sp4).toArray))
  case atStart => exact ⟨0, 4, rfl, rfl, Nat.zero_le _, Nat.le_refl _, Lib.hid ⟨[], by simp, fun p hp => by simp at hp, by simp [Lib.leBytes_length], by omega, by simpa using HR4.out, HK4.out, HB4.out⟩⟩
  case round =>
    rename World => wr
    obtain ⟨i, T, rfl, rfl, hip, hkx, hh⟩ := hrel
    by_cases hlt : i < p
    · have hltz : (i : Int) < (p : Int) := by omega
      obtain ⟨H, hH1, hH2, hT, hTb, hR, hK, hB⟩ := hh.out
      have hiD : i < Ks.length := by rw [HDL.out]; exact hlt
      obtain ⟨c, hn⟩ : ∃ c, c = Ks[i] := ⟨_, rfl⟩
      have hnD : c ∈ Cs := HD1.out.mem_iff.1 (by rw [hn]; exact List.getElem_mem _)
      obtain ⟨hv, hqb, hmw, hq0, hm0⟩ := HROW.out c hnD
      obtain ⟨hDl, hDn⟩ := HD.out c hnD
      have hc64 := HC64.out c hnD
      have hcx : wr.cell? ⟨g, i, none⟩ = some (.int .u64 (c : Int)) := by
        rw [hB.cell, List.getElem?_toArray, List.getElem?_append_left (by simp [ints]; exact hiD)]
        simp [ints, hiD, hn]
      have hcp : wr.cell? ⟨pb, 0, none⟩ = some (.map (some mm)) := hR.off.cell HP.out HPE.out
      have hwf : (Lit.int .u64 (c : Int)).wf = true := WalkArith.wf_u64 (by omega)
      have hlk := (Mp.look (HMP.out wr hR.off) Tryz.underlying30 Tryz.underlying162 (zeroCW wr) (c : Int) hwf).2
      rw [if_pos (mem_mapN.2 hnD), Int.toNat_natCast, hv] at hlk
      have hib : i * 1008012012 ≤ 1000 * 1008012012 := Nat.mul_le_mul_right _ (by omega)
      have HSW : Hid (Calls Tryz.prog 176 #[.pointer (some ⟨q c, 0, none⟩), .iface 57 (.pointer (some ⟨b, 0, none⟩))] wr fun e w' =>
            ∃ (Ds : List Nat) (M : Nat), Ds.Perm (D c) ∧ Ds.Pairwise (· < ·) ∧ M = (codedB (c, Ds.map fun n => (n, S c n))).length ∧ M ≤ 1008012012 ∧ e = .returned (.tuple #[.int .u64 (M : Int), .nilIface]) ∧ WrG EX B0 b w0 (l ++ (Lib.leBytes 4 p ++ (H ++ [(c, Ds.map fun n => (n, S c n))]).flatMap codedB)) w' ∧ Lib.OthersKept 5 (some b) wr w') := Lib.hid (by
        refine (cwMarshal_G hR (q c) (m c) c (D c) (S c) hqb hmw (fun hx => by have := HLOW.out _ hx; omega) (fun hx => by have := HLOW.out _ hx; omega) hc64 hDl hDn (by rw [List.length_append, ← hT]; omega)).mono fun e w' ⟨Ds, a1, a2, a3, a4, a5⟩ => ⟨Ds, _, a1, a2, rfl, ?_, a3, ?_, a5⟩
        · have := mwB_le Ds (S c) (by rw [a1.length_eq]; exact hDl) (fun n hm => ⟨(hDn n (a1.mem_iff.1 hm)).1, (hDn n (a1.mem_iff.1 hm)).2, hmw.wid n (a1.mem_iff.1 hm)⟩)
          show (Lib.leBytes 8 c ++ mwB (Ds.map fun n => (n, S c n))).length ≤ _
          rw [List.length_append, Lib.leBytes_length]
          omega
        · simpa [List.append_assoc] using a4)
      have HH1 := Lib.hid hH1
      have HH2 := Lib.hid hH2
      have HT := Lib.hid hT
      have HK := Lib.hid hK
      have HB := Lib.hid hB
      have HTB := Lib.hid hTb
      have HCN := Lib.hid hn
      clear hh hT hR hK hB hv hqb hmw hDn hwf hn hH1 hH2
      go_wp2_with (go_at_call 176; refine HSW.out.mono ?_; rintro e w5 ⟨Ds, M, hd1, hd2, hM, hMb, rfl, hR5, hK5⟩; have hwT : IntKind.u64.wrap ((T : Int) + (M : Int)) = (T : Int) + (M : Int) := (by rw [IntKind.wrap_u64]; omega); have HMM := Lib.hid hM; clear hM)
      go_roundg (p - (i + 1))
      case measure => omega
      case rel =>
        refine ⟨i + 1, T + M, by go_num, by go_num, by omega, Nat.le_refl _, Lib.hid ⟨H ++ [(c, Ds.map fun n => (n, S c n))], ?_, ?_, ?_, ?_, hR5, HK.out.trans hK5, kept_blk hK5 HB.out hgb (by decide)⟩⟩
        · rw [List.take_succ_eq_append_getElem hiD, List.map_append, HH1.out, HCN.out]; rfl
        · intro x hx
          rcases List.mem_append.1 hx with hx | hx
          · exact HH2.out x hx
          · obtain rfl := List.mem_singleton.1 hx
            exact ⟨Ds, hd1, hd2, rfl⟩
        · rw [HT.out, HMM.out]; simp [Nat.add_assoc]
        · rw [Nat.succ_mul]; omega
    · have hltz : ¬ (i : Int) < (p : Int) := by omega
      obtain rfl : i = p := by omega
      go_wp2_with fail
      go_ret2
      obtain ⟨H, hH1, hH2, hT, hTb, hR, hK, hB⟩ := hh.out
      rw [List.take_of_length_le (by rw [HDL.out]; exact Nat.le_refl _)] at hH1
      have e : mhiB H = Lib.leBytes 4 i ++ H.flatMap codedB := by
        have : H.length = i := by rw [← HDL.out, ← hH1, List.length_map]
        rw [mhiB_eq, this]
      refine ⟨H, ⟨by rw [hH1]; exact HD1.out, by rw [hH1]; exact HD2.out, hH2⟩, ?_, by rw [e]; exact hR, hK⟩
      rw [e, ← hT]
      rfl
end Go.Proofs.YthmhnknkidkdlaaGreatDoor
namespace Go.Proofs.YthmhnknkidkdlaaGreatDoor
open Go.RowKit

set_option maxRecDepth 100000 in
set_option maxHeartbeats 2000000 in
theorem writeTo_G {EX : List Nat} {B0 b : Nat} {w0 w : World} {l : List UInt8} (h : WrG EX B0 b w0 l w) (pb : Nat) (OK : List UInt8 → Prop) (hlim : l.length ≤ 900000000)
    (hM : ∀ W l', WrG EX B0 b w0 l' W → l'.length ≤ 1000000000 → Calls Tryz.prog 168 #[.pointer (some ⟨pb, 0, none⟩), .iface 57 (.pointer (some ⟨b, 0, none⟩))] W fun e w' => ∃ (X : List UInt8) (n : Nat), OK X ∧ e = .returned (.tuple #[.int .u64 (n : Int), .nilIface]) ∧ WrG EX B0 b w0 (l' ++ X) w') :
    Calls Tryz.prog 32 #[.iface 114 (.pointer (some ⟨pb, 0, none⟩)), .iface 57 (.pointer (some ⟨b, 0, none⟩))] w fun e w' => ∃ (X : List UInt8) (n : Int), OK X ∧ e = .returned (.tuple #[.int .u64 n, .nilIface]) ∧ WrG EX B0 b w0 (l ++ (Lib.uvarint 1025 ++ X)) w' := by
  have hblt := h.lt
  obtain ⟨LL, hLL⟩ : ∃ LL, LL = (Lib.uvarint 1025).length := ⟨_, rfl⟩
  have hL10 : LL ≤ 10 := by rw [hLL]; exact Lib.uvarint_length64 (by omega)
  have hzz : zeroBytes 10 = zeroBytes LL ++ zeroBytes (10 - LL) := by rw [← zeroBytes_append]; congr 1; omega
  have hP : ∀ W, Blk W w.heap.size 5 (zeroBytes 10).toArray → Calls Tryz.prog 58 #[.slice (some ⟨w.heap.size, 0, none⟩) 10 10, .int .u64 1025] W fun e w' => e = .returned (.int .i64 (LL : Int)) ∧ Seg w' w.heap.size 0 (Lib.uvarint 1025) ∧ Off [w.heap.size] W w' := fun W hW => by
    rw [hzz] at hW
    refine (putUvarint_blk w.heap.size 0 10 10 1025 5 [] (zeroBytes LL) (zeroBytes (10 - LL)) (by omega) W (by rw [← hLL]; exact hL10) rfl (by rw [zeroBytes_length, hLL]) hW).mono ?_
    rintro e w' ⟨h1, h2, h3, _⟩
    exact ⟨by rw [hLL]; exact h1, Blk.seg (post := zeroBytes (10 - LL)) h2, Off.ofGrown h3⟩
  have hW : ∀ W, WrG EX B0 b w0 l W → Seg W w.heap.size 0 (Lib.uvarint 1025) → Calls Tryz.prog 150 #[.pointer (some ⟨b, 0, none⟩), .slice (some ⟨w.heap.size, 0, none⟩) LL 10] W fun e w' => e = .returned (.tuple #[.int .i64 (LL : Int), .nilIface]) ∧ WrG EX B0 b w0 (l ++ Lib.uvarint 1025) w' := fun W h1 h2 =>
    (bufWrite_G h1 w.heap.size 0 LL 10 (Lib.uvarint 1025) h2 hLL.symm (by omega) (Or.inl (by rw [hLL]; exact Lib.uvarint_pos 1025)) (by omega)).mono fun e w' ⟨a1, a2, _⟩ => ⟨a1, a2⟩
  have HM := Lib.hid fun W hW => hM W (l ++ Lib.uvarint 1025) hW (by rw [List.length_append, ← hLL]; omega)
  have HP := Lib.hid hP
  have HW := Lib.hid hW
  have HH := Lib.hid h
  have hm1 := method_bufWrite
  have hm2 := nil_bufWrite
  have hm3 := method_misCodec
  have hm4 := method_misMarshal
  have hmk := run_makeB10
  have hL0 : (0 : Int) ≤ (LL : Int) := by omega
  have hL1 : (LL : Int) ≤ 10 := by omega
  have hwL : IntKind.u64.wrap (LL : Int) = (LL : Int) := by rw [IntKind.wrap_u64]; omega
  clear hP hW h hM hzz hLL hlim
  go_enter Tryz.func32, Tryz.ntmps32
  go_wp2_with (first
    | (go_at_call 165; refine (codec_mis _ _).mono ?_; rintro e w' ⟨rfl, rfl⟩)
    | (go_at_call 58; refine (HP.out _ (Blk.new' _ _ _ rfl)).mono ?_; rintro e w1 ⟨rfl, hS1, hO1⟩))
  have hR1 := HH.out.old (((Off.alloc (Off.refl [w.heap.size] w) _).then hO1 (fun x hx => Or.inl hx)).below (fun x hx => by simp at hx; omega))
  have HR1 := Lib.hid hR1
  have HS1 := Lib.hid hS1
  clear hR1 hS1 hO1
  go_region_held3 (fun w' => True) (exact trivial) (first | (go_at_call 150; refine (HW.out _ (HR1.out.ofDrew (by repeat' (first | exact Drew.refl _ | exact Drew.one _ | refine Drew.more ?_ 1))) (by exact HS1.out)).mono ?_; rintro e w3 ⟨rfl, hR3⟩; have HR3 := Lib.hid hR3; clear hR3))
  all_goals go_wp2_with (go_at_call 168; refine (HM.out _ HR3.out).mono ?_; rintro e w4 ⟨X, n, hX, rfl, hR4⟩)
  all_goals go_ret2
  all_goals exact ⟨X, _, hX, rfl, by rw [← List.append_assoc]; exact hR4⟩

end Go.Proofs.YthmhnknkidkdlaaGreatDoor
namespace Go.Proofs.YthmhnknkidkdlaaGreatDoor
open Go.RowKit

set_option maxRecDepth 100000 in
set_option maxHeartbeats 2000000 in
theorem writeTo_Gw {EX : List Nat} {B0 b : Nat} {w0 w : World} {l : List UInt8} (h : WrG EX B0 b w0 l w) (pb : Nat) (OK : List UInt8 → Prop) (hlim : l.length ≤ 900000000)
    (hM : ∀ W l', WrG EX B0 b w0 l' W → l'.length ≤ 1000000000 → Calls Tryz.prog 183 #[.pointer (some ⟨pb, 0, none⟩), .iface 57 (.pointer (some ⟨b, 0, none⟩))] W fun e w' => ∃ (X : List UInt8) (n : Nat), OK X ∧ e = .returned (.tuple #[.int .u64 (n : Int), .nilIface]) ∧ WrG EX B0 b w0 (l' ++ X) w') :
    Calls Tryz.prog 32 #[.iface 160 (.pointer (some ⟨pb, 0, none⟩)), .iface 57 (.pointer (some ⟨b, 0, none⟩))] w fun e w' => ∃ (X : List UInt8) (n : Int), OK X ∧ e = .returned (.tuple #[.int .u64 n, .nilIface]) ∧ WrG EX B0 b w0 (l ++ (Lib.uvarint 1024 ++ X)) w' := by
  have hblt := h.lt
  obtain ⟨LL, hLL⟩ : ∃ LL, LL = (Lib.uvarint 1024).length := ⟨_, rfl⟩
  have hL10 : LL ≤ 10 := by rw [hLL]; exact Lib.uvarint_length64 (by omega)
  have hzz : zeroBytes 10 = zeroBytes LL ++ zeroBytes (10 - LL) := by rw [← zeroBytes_append]; congr 1; omega
  have hP : ∀ W, Blk W w.heap.size 5 (zeroBytes 10).toArray → Calls Tryz.prog 58 #[.slice (some ⟨w.heap.size, 0, none⟩) 10 10, .int .u64 1024] W fun e w' => e = .returned (.int .i64 (LL : Int)) ∧ Seg w' w.heap.size 0 (Lib.uvarint 1024) ∧ Off [w.heap.size] W w' := fun W hW => by
    rw [hzz] at hW
    refine (putUvarint_blk w.heap.size 0 10 10 1024 5 [] (zeroBytes LL) (zeroBytes (10 - LL)) (by omega) W (by rw [← hLL]; exact hL10) rfl (by rw [zeroBytes_length, hLL]) hW).mono ?_
    rintro e w' ⟨h1, h2, h3, _⟩
    exact ⟨by rw [hLL]; exact h1, Blk.seg (post := zeroBytes (10 - LL)) h2, Off.ofGrown h3⟩
  have hW : ∀ W, WrG EX B0 b w0 l W → Seg W w.heap.size 0 (Lib.uvarint 1024) → Calls Tryz.prog 150 #[.pointer (some ⟨b, 0, none⟩), .slice (some ⟨w.heap.size, 0, none⟩) LL 10] W fun e w' => e = .returned (.tuple #[.int .i64 (LL : Int), .nilIface]) ∧ WrG EX B0 b w0 (l ++ Lib.uvarint 1024) w' := fun W h1 h2 =>
    (bufWrite_G h1 w.heap.size 0 LL 10 (Lib.uvarint 1024) h2 hLL.symm (by omega) (Or.inl (by rw [hLL]; exact Lib.uvarint_pos 1024)) (by omega)).mono fun e w' ⟨a1, a2, _⟩ => ⟨a1, a2⟩
  have HM := Lib.hid fun W hW => hM W (l ++ Lib.uvarint 1024) hW (by rw [List.length_append, ← hLL]; omega)
  have HP := Lib.hid hP
  have HW := Lib.hid hW
  have HH := Lib.hid h
  have hm1 := method_bufWrite
  have hm2 := nil_bufWrite
  have hm3 := method_mwCodec
  have hm4 := method_mwMarshal
  have hmk := run_makeB10
  have hL0 : (0 : Int) ≤ (LL : Int) := by omega
  have hL1 : (LL : Int) ≤ 10 := by omega
  have hwL : IntKind.u64.wrap (LL : Int) = (LL : Int) := by rw [IntKind.wrap_u64]; omega
  clear hP hW h hM hzz hLL hlim
  go_enter Tryz.func32, Tryz.ntmps32
  go_wp2_with (first
    | (go_at_call 245; refine (codec_mw _ _).mono ?_; rintro e w' ⟨rfl, rfl⟩)
    | (go_at_call 58; refine (HP.out _ (Blk.new' _ _ _ rfl)).mono ?_; rintro e w1 ⟨rfl, hS1, hO1⟩))
  have hR1 := HH.out.old (((Off.alloc (Off.refl [w.heap.size] w) _).then hO1 (fun x hx => Or.inl hx)).below (fun x hx => by simp at hx; omega))
  have HR1 := Lib.hid hR1
  have HS1 := Lib.hid hS1
  clear hR1 hS1 hO1
  go_region_held3 (fun w' => True) (exact trivial) (first | (go_at_call 150; refine (HW.out _ (HR1.out.ofDrew (by repeat' (first | exact Drew.refl _ | exact Drew.one _ | refine Drew.more ?_ 1))) (by exact HS1.out)).mono ?_; rintro e w3 ⟨rfl, hR3⟩; have HR3 := Lib.hid hR3; clear hR3))
  all_goals go_wp2_with (go_at_call 183; refine (HM.out _ HR3.out).mono ?_; rintro e w4 ⟨X, n, hX, rfl, hR4⟩)
  all_goals go_ret2
  all_goals exact ⟨X, _, hX, rfl, by rw [← List.append_assoc]; exact hR4⟩

end Go.Proofs.YthmhnknkidkdlaaGreatDoor
namespace Go.Proofs.YthmhnknkidkdlaaGreatDoor
open Go.RowKit

theorem wB_len (S : Nat → List Rw) (n : Nat) (h1 : n ≤ 200) (h2 : (S n).length ≤ 50) (h3 : ∀ r, r ∈ S n → r.d.length = n) : (wB S n).length ≤ 10412 := by
  have h4 := rowsB_length (S n) n h3
  have h5 : (n + 8) * (S n).length ≤ 208 * 50 := Nat.mul_le_mul (by omega) h2
  simp only [wB, bucketB, List.length_append, Lib.leBytes_length]
  omega
theorem mwB_len (Ds : List Nat) (S : Nat → List Rw) (hl : Ds.length ≤ 50) (h : ∀ n, n ∈ Ds → n ≤ 200 ∧ (S n).length ≤ 50 ∧ ∀ r, r ∈ S n → r.d.length = n) : (mwB (Ds.map fun n => (n, S n))).length ≤ 520604 := by
  have h1 := flat_le (wB S) 10412 Ds (fun n hn => wB_len S n (h n hn).1 (h n hn).2.1 (h n hn).2.2)
  have h2 : Ds.length * 10412 ≤ 50 * 10412 := Nat.mul_le_mul_right _ hl
  rw [mwB_map, List.length_append, Lib.leBytes_length]
  omega
theorem MisAt.wid {B : Nat} {w : World} {mm : Nat} {Cs : List Nat} {D : Nat → List Nat} {S : Nat → Nat → List Rw} (h : MisAt B w mm Cs D S) : ∀ c, c ∈ Cs → ∀ n, n ∈ D c → ∀ r, r ∈ S c n → r.d.length = n := by
  obtain ⟨V, q, m, _, h2⟩ := h.ex
  exact fun c hc => (h2 c hc).2.2.1.wid
theorem mhiB_len {Cs : List Nat} {D : Nat → List Nat} {S : Nat → Nat → List Rw} {H : List (Nat × List (Nat × List Rw))} (hW : Wrt Cs D S H) (hw : ∀ c, c ∈ Cs → ∀ n, n ∈ D c → ∀ r, r ∈ S c n → r.d.length = n)
    (hC : Cs.length ≤ 50) (hD : ∀ c, c ∈ Cs → (D c).length ≤ 50 ∧ ∀ n, n ∈ D c → n ≤ 200 ∧ (S c n).length ≤ 50) : (mhiB H).length ≤ 26030604 := by
  have hHl : H.length ≤ 50 := by
    have := hW.perm.length_eq
    rw [List.length_map] at this
    omega
  have h1 := flat_le codedB 520612 H (fun p hp => by
    obtain ⟨Ds, h1, _, h3⟩ := hW.ex p hp
    have hc : p.1 ∈ Cs := hW.perm.mem_iff.1 (List.mem_map.2 ⟨p, hp, rfl⟩)
    obtain ⟨hd1, hd2⟩ := hD p.1 hc
    have h4 := mwB_len Ds (S p.1) (by rw [h1.length_eq]; exact hd1) (fun n hn => ⟨(hd2 n (h1.mem_iff.1 hn)).1, (hd2 n (h1.mem_iff.1 hn)).2, hw p.1 hc n (h1.mem_iff.1 hn)⟩)
    rw [codedB, h3, List.length_append, Lib.leBytes_length]
    omega)
  have h2 : H.length * 520612 ≤ 50 * 520612 := Nat.mul_le_mul_right _ hHl
  rw [mhiB_eq, List.length_append, Lib.leBytes_length]
  omega
end Go.Proofs.YthmhnknkidkdlaaGreatDoor
