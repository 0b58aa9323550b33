/-
  multiWidthCodedIndex.Marshal, MultihashIndexSorted.Marshal into a bytes.Buffer.
  The callback of impl.offsets: it appends an offset to the caller's row.
  singleWidthIndex.getAll, with impl.offsets' callback (NOT YET CLEAN).
  singleWidthIndex.getAll, with impl.offsets' callback .
  Reading out of a bytes.Reader: io.ReadFull, numbers; Seek.
  singleWidthIndex.Unmarshal out of a bytes.Reader.
  internalio.ToByteReadSeeker, ToByteReader of a bytes.Reader: itself.
  multiWidthIndex.Unmarshal out of a bytes.Reader.
  multiWidthCodedIndex.Unmarshal, MultihashIndexSorted.Unmarshal out of a bytes.Reader.
  GetAll of a multiWidthIndex and of a MultihashIndexSorted, with impl.offsets' callback.
  GetAll of a MultihashIndexSorted, with impl.offsets' callback.
  (No condition beyond those that each theorem states.)
-/
import Derived.Test.YtkdbjocchponfaaGreatDoorM20
import Derived.Test.YtkdbjocchponfaaGreatDoorM25
import Derived.Test.YtkdbjocchponfaaGreatDoorM26
import Derived.Test.YtkdbjocchponfaaGreatDoorM09
import Derived.Test.YtkdbjocchponfaaGreatDoorM10
import Derived.Test.YtkdbjocchponfaaGreatDoorProg
import Derived.Test.YtkdbjocchponfaaGreatDoorM02
import Derived.Test.YtkdbjocchponfaaGreatDoorM03
import Derived.Deep.RegionWith
import Derived.Deep.RegionLaw
import Derived.Deep.QuietTactic
import Derived.BigQuiet
import Derived.Deep.DeepFit
import Derived.RegionCalls
import Derived.LoopTactic
import Derived.LoopN
import Derived.Test.YtkdbjocchponfaaGreatDoorM08
namespace Go.Proofs.YtkdbjocchponfaaGreatDoor
open Go.RowKit

theorem wB_le (S : Nat → List Rw) (n : Nat) (h1 : n ≤ 1000) (h2 : (S n).length ≤ 1000) (h3 : ∀ r, r ∈ S n → r.d.length = n) : (wB S n).length ≤ 1008012 := by
  have h4 := rowsB_length (S n) n h3
  have h5 : (n + 8) * (S n).length ≤ 1008 * 1000 := Nat.mul_le_mul (by omega) h2
  simp only [wB, bucketB, List.length_append, Lib.leBytes_length]
  omega
theorem flat_le {α : Type} (f : α → List UInt8) (B : Nat) : ∀ (l : List α), (∀ x, x ∈ l → (f x).length ≤ B) → (l.flatMap f).length ≤ l.length * B
  | [], _ => by simp
  | x :: l, h => by
    have h1 := h x (by simp)
    have h2 := flat_le f B l (fun y hy => h y (by simp [hy]))
    rw [List.flatMap_cons, List.length_append, List.length_cons, Nat.succ_mul]
    omega
theorem mwB_le (Ds : List Nat) (S : Nat → List Rw) (hl : Ds.length ≤ 1000) (h : ∀ n, n ∈ Ds → n ≤ 1000 ∧ (S n).length ≤ 1000 ∧ ∀ r, r ∈ S n → r.d.length = n) : (mwB (Ds.map fun n => (n, S n))).length ≤ 1008012004 := by
  have h1 := flat_le (wB S) 1008012 Ds (fun n hn => wB_le S n (h n hn).1 (h n hn).2.1 (h n hn).2.2)
  have h2 : Ds.length * 1008012 ≤ 1000 * 1008012 := Nat.mul_le_mul_right _ hl
  rw [mwB_map, List.length_append, Lib.leBytes_length]
  omega
theorem MwAt.wid {B : Nat} {w : World} {mm : Nat} {D : List Nat} {S : Nat → List Rw} (h : MwAt B w mm D S) : ∀ n, n ∈ D → ∀ r, r ∈ S n → r.d.length = n := by
  obtain ⟨V, C, _, h2⟩ := h.ex
  exact fun n hn => (h2 n hn).2.2.2.2

set_option maxRecDepth 100000 in
set_option maxHeartbeats 1000000 in
theorem cwMarshal_any {b : Nat} {w0 w : World} {l : List UInt8} (h : WrAt b w0 l w) (q m B0 c : Nat) (D : List Nat) (S : Nat → List Rw) (hq : Blk w0 q 348 #[.map (some m), .int .u64 (c : Int)]) (hmw : MwAt B0 w0 m D S)
    (hc : c < 18446744073709551616) (hD : D.length ≤ 1000) (hn : ∀ n, n ∈ D → n ≤ 1000 ∧ (S n).length ≤ 1000) (hlim : l.length ≤ 10000000000000) :
    Calls Tryz.prog 225 #[.pointer (some ⟨q, 0, none⟩), .iface 88 (.pointer (some ⟨b, 0, none⟩))] w fun e w' =>
      ∃ Ds : List Nat, Ds.Perm D ∧ Ds.Pairwise (· < ·) ∧ e = .returned (.tuple #[.int .u64 (((codedB (c, Ds.map fun n => (n, S n))).length : Nat) : Int), .nilIface]) ∧ WrAt b w0 (l ++ codedB (c, Ds.map fun n => (n, S n))) w' ∧ Lib.OthersKept 5 (some b) w w' := by
  have hle : ∀ Ds : List Nat, Ds.Perm D → (mwB (Ds.map fun n => (n, S n))).length ≤ 1008012004 := fun Ds hp =>
    mwB_le Ds S (by rw [hp.length_eq]; exact hD) (fun n hm => ⟨(hn n (hp.mem_iff.1 hm)).1, (hn n (hp.mem_iff.1 hm)).2, hmw.wid n (hp.mem_iff.1 hm)⟩)
  have hcell : w.cell? ⟨q, 1, none⟩ = some (.int .u64 (c : Int)) := h.off.cell (hq.cell 1) (by simp)
  have H1 := Lib.hid (zzWrite64_any h c hc (by omega))
  have H2 : Hid (∀ W, WrAt b w0 (l ++ Lib.leBytes 8 c) W → Calls Tryz.prog 232 #[.pointer (some ⟨q, 0, none⟩), .iface 88 (.pointer (some ⟨b, 0, none⟩))] W fun e w' =>
      ∃ (Ds : List Nat) (T : Nat), Ds.Perm D ∧ Ds.Pairwise (· < ·) ∧ T = (mwB (Ds.map fun n => (n, S n))).length ∧ e = .returned (.tuple #[.int .u64 (T : Int), .nilIface]) ∧ WrAt b w0 (l ++ codedB (c, Ds.map fun n => (n, S n))) w' ∧ Lib.OthersKept 5 (some b) W w') := Lib.hid fun W hW =>
    (mwMarshal_any hW q m B0 D S (hq.cell 0) hmw hD (fun n hm => (hn n hm).1) (fun Ds hp => by have := hle Ds hp; rw [List.length_append, Lib.leBytes_length]; omega)).mono fun e w' ⟨Ds, a1, a2, a3, a4, a5⟩ => ⟨Ds, _, a1, a2, rfl, a3, by rw [codedB, ← List.append_assoc]; exact a4, a5⟩
  have HLE := Lib.hid hle
  clear h hq hmw hn hle
  go_enter Tryz.func225, Tryz.ntmps225
  go_wp2_with (first
    | (go_at_call 231; refine H1.out.mono ?_; rintro e w1 ⟨rfl, hR1, hK1⟩)
    | (go_at_call 232; refine (H2.out _ hR1).mono ?_; rintro e w2 ⟨Ds, T, hD1, hD2, hT, rfl, hR2, hK2⟩; have hwT : IntKind.u64.wrap (8 + (T : Int)) = 8 + (T : Int) := (by have := HLE.out Ds hD1; rw [IntKind.wrap_u64]; omega); have HT := Lib.hid hT; clear hT))
  go_ret2
  refine ⟨Ds, hD1, hD2, ?_, hR2, hK1.trans hK2⟩
  have e : (codedB (c, Ds.map fun n => (n, S n))).length = 8 + T := by rw [codedB, List.length_append, Lib.leBytes_length, HT.out]
  rw [e]
  rfl

theorem Tryz.infoU64 : (Tryz.prog.info? 30).map (fun i => (i.zero, i.size, i.bytes)) = some (some (.int .u64 0), 1, 8) := by kernel_rfl
theorem make64 (n : Nat) (hn : n < 1000000) : ∃ Z : List Value, Z.length = n ∧ ∀ W : World, (Instr.makeSlice 92 (.int .i64 0) (.int .i64 (n : Int))).run Tryz.prog W = .ok (.slice (some ⟨W.heap.size, 0, none⟩) 0 n) (W.alloc (.cells Z.toArray 30)) := by
  obtain ⟨i0, hi, hz0, hz1, hz2⟩ := info_parts Tryz.infoU64
  refine ⟨(madeCells (Value.int .u64 0).cells (n * i0.size)).toList, by simp [size_madeCells, hz1], fun W => ?_⟩
  have hr := run_make (P := Tryz.prog) W 92 30 i0 _ Tryz.underlying92 hi hz0 .i64 .i64 0 (n : Int) (by omega) (by omega) (by rw [hz2]; omega) (by omega)
  simpa using hr

set_option maxRecDepth 100000 in
set_option maxHeartbeats 4000000 in
theorem smc_any (w : World) (pb mm N : Nat) (Cs : List Nat) (V : Nat → Value) (hp : w.cell? ⟨pb, 0, none⟩ = some (.map (some mm))) (hmp : MpN Tryz.prog 30 .u64 w mm Cs.length Cs V) (hN : Cs.length = N) (hN1000 : N ≤ 1000) :
    Calls Tryz.prog 224 #[.pointer (some ⟨pb, 0, none⟩)] w fun e w' =>
      ∃ (g cap : Nat) (Ds : List Nat) (sp : List Value), e = .returned (.slice (some ⟨g, 0, none⟩) N cap) ∧ Ds.Perm Cs ∧ Ds.Pairwise (· < ·) ∧ Blk w' g 30 ((ints Ds).map (Value.int .u64) ++ sp).toArray ∧ Off [] w w' ∧ w.heap.size ≤ g := by
  have hplt : pb < w.heap.size := World.block_lt_of_cell? w _ hp
  have hmlt : mm < w.heap.size := hmp.lt
  have hKl : (ints Cs).length = N := by simp [ints, hN]
  have hlen0 : (Builtin.len_ #[152] 3 #[.map (some mm)]).run Tryz.prog w = .ok (.int .i64 (N : Int)) w := by
    have := Mp.len hmp Tryz.underlying152 3
    rwa [hKl] at this
  obtain ⟨Z, hZ, hmk⟩ := make64 N (by omega)
  have hc2 : (w.alloc (.cells Z.toArray 30)).cell? ⟨pb, 0, none⟩ = some (.map (some mm)) := (Off.alloc (Off.refl [] w) _).cell hp (by simp)
  have hnd := MpN.nodup hmp
  have HMP := Lib.hid hmp
  have HND := Lib.hid hnd
  have HKL := Lib.hid hKl
  have HZ := Lib.hid hZ
  clear hmp hnd hKl hZ hN
  go_enter Tryz.func224, Tryz.ntmps224
  go_wp2_with (at_range; refine wpList_range_mp rfl _ 152 rfl Tryz.underlying30 Tryz.underlying152 (MpN.off HMP.out (Off.alloc (Off.refl [] w) _) (by simp)) rfl ?_; intro w3 hr3 ho3 hs3)
  have hal : (w.alloc (.cells Z.toArray 30)).heap.size = w.heap.size + 1 := by simp
  generalize (w.alloc (.cells Z.toArray 30)).heap.size = rr at hal hr3 hs3 ⊢
  have HO3 := Lib.hid ho3.out
  (try go_frame)
  go_loopg [3] N (fun kx s8 wq => ∃ (L P : List Int) (p g cap : Nat) (sp : List Value), s8 = .slice (some ⟨g, 0, none⟩) p cap ∧ Hid (P.length = p ∧ L.length ≤ kx ∧ Kys w wq mm rr g cap Cs.length .u64 30 (ints Cs) (fun x => V x.toNat) P L sp))
  case atStart =>
    refine ⟨ints Cs, [], 0, w.heap.size, N, Z, rfl, Lib.hid ⟨rfl, Nat.le_of_eq HKL.out, ?_⟩⟩
    exact { perm := List.Perm.refl _, blk := (Blk.new' w 30 Z.toArray rfl).off HO3.out (by simp), sp := by simp [HZ.out], le := Nat.zero_le _, cm := by unfold maxLen; omega, rg := hr3.out, off := (Off.alloc (Off.refl [] w) _).then HO3.out (fun x hx => by simp at hx), g1 := Nat.le_refl _, g2 := by omega, r1 := by omega, r2 := by omega }
  case round =>
    rename World => wq
    obtain ⟨L, P, p, g, cap, sp, rfl, hh⟩ := hrel
    obtain ⟨hpl, hlen, hk⟩ := hh.out
    have HK := Lib.hid hk
    have hrg := hk.rg
    have hPL : P.length + L.length = N := by have := hk.perm.length_eq; rw [HKL.out] at this; simpa using this
    have HPL := Lib.hid hpl
    have hpN : p + L.length = N := by rw [← hpl]; exact hPL
    clear hh hk hr3 hs3 hpl hPL hal
    go_wp2_with (at_next; refine wpList_next_mp rfl _ rfl Tryz.underlying30 rfl hrg ?_ ?_)
    · intro hL
      subst hL
      have hk := HK.out
      obtain rfl : p = N := by simpa using hpN
      have hsort := Ord64.sort_list g cap 30 P sp wq hk.blk (by rw [HPL.out]; omega)
      rw [HPL.out] at hsort
      have HSORT := Lib.hid hsort
      clear hsort hk
      go_wp2_with (go_at_call 230; refine HSORT.out.mono ?_; rintro e w4 ⟨rfl, ys, sp4, hperm, hasc, hb4, ho4⟩)
      go_ret
      have hk := HK.out
      obtain ⟨Ds, hDs1, hDs2, he⟩ := keys_sorted Cs HND.out 0 ys (hperm.trans (by have := hk.perm; simpa using this)) hasc
      have he2 : ys = ints Ds := by simpa using he
      subst he2
      exact ⟨g, cap, Ds, sp4, rfl, hDs1, hDs2, hb4, hk.off.then ho4 (fun x hx => by simp at hx; right; rw [hx]; exact hk.g1), hk.g1⟩
    · intro x w4 hxL hwx hrg4 ho4 hs4 hen
      have hk := HK.out
      have hLpos := List.length_pos_of_mem hxL
      obtain ⟨i0, hi, hz0, hz1, hz2⟩ := info_parts Tryz.infoU64
      have hb4 := hk.blk.off ho4 (ni1 hk.g2)
      have hgw := hb4.lt
      have HB4 := Lib.hid hb4
      have HO4 := Lib.hid ho4
      have HRG4 := Lib.hid hrg4
      have hxl : (P.map (Value.int .u64)).length = p * 1 := by simp [HPL.out]
      have hown := owns_blk (HB4.out.alloc (.cells #[.int .u64 x] 30)) hxl (by have := hk.sp; rw [HPL.out] at this; exact this) (by have := hk.le; rw [HPL.out] at this; exact this) hk.cm
      have HOWN := Lib.hid hown
      have HXL := Lib.hid hxl
      clear hk hb4 ho4 hrg4 hrg hxl hown hs4
      go_wp2_with (at_builtin; refine wpList_append_blk rfl _ _ 92 rfl 30 i0 _ 1 8 Tryz.underlying92 hi hz0 hz1 hz2 rfl (by decide) (.slice (some ⟨g, 0, none⟩) p cap) p (P.map (Value.int .u64)) HXL.out rfl HOWN.out ⟨w4.heap.size, 0, none⟩ 1 [.int .u64 x] rfl rfl (news_alloc _ _ _) (oneInt _ _) (by unfold maxLen; omega) (by omega) ?_; intro g' cap' sp' w5 hb5 q1 q2 q3 hg5 ho5 hown5; have HQ3 := Lib.hid q3; have HG5 := Lib.hid hg5; clear q3 hg5 hown5)
      go_roundg (L.length - 1)
      case measure => omega
      case rel =>
        have hk := HK.out
        have hg5 := HG5.out
        have hsz5 : (w4.alloc (.cells #[.int .u64 x] 30)).heap.size = w4.heap.size + 1 := by simp
        rw [hsz5] at hg5
        have ho5' := ho5.out [g] (fun g hg => by simp [Value.ownBlock] at hg; simp [hg])
        have hAl : Off [] w4 (w4.alloc (.cells #[.int .u64 x] 30)) := Off.alloc (Off.refl [] w4) _
        have hw4s := HO4.out.size
        have hr2 := hk.r2
        have hr1 := hk.r1
        have hg1 := hk.g1
        have hos := ho5'.size
        rw [hsz5] at hos
        refine ⟨L.erase x, P ++ [x], p + 1, g', cap', sp', rfl, Lib.hid ⟨by simp [HPL.out], by rw [List.length_erase_of_mem hxL]; exact Nat.le_refl _, ?_⟩⟩
        exact { perm := by
                  refine List.Perm.trans ?_ hk.perm
                  rw [List.append_assoc]
                  exact List.Perm.append_left P (List.perm_cons_erase hxL).symm
                blk := by have := hb5.out; simpa using this
                sp := by have := HQ3.out; simp [HPL.out]; omega
                le := by simp [HPL.out]; exact q1
                cm := q2
                rg := (HRG4.out.off hAl (by simp) (by simp)).off ho5' (by simp; omega) (ni1 (fun e => hk.g2 e.symm))
                off := ((hk.off.then HO4.out (fun x hx => by simp at hx; right; omega)).then hAl (fun x hx => by simp at hx)).then ho5' (fun x hx => by simp at hx; right; omega)
                g1 := by rcases hg5 with h | h
                         · simp [Value.ownBlock] at h; omega
                         · omega
                g2 := by rcases hg5 with h | h
                         · simp [Value.ownBlock] at h; rw [← h]; exact hk.g2
                         · omega
                r1 := hk.r1
                r2 := by omega }

theorem mhiB_eq (H : List (Nat × List (Nat × List Rw))) : mhiB H = Lib.leBytes 4 H.length ++ H.flatMap codedB := rfl
theorem zeroCW (w : World) : (zeroValue 345).run Tryz.prog w = .ok (.pointer none) w := by kernel_rfl

/-- What is written: the hash functions in increasing order, of each one its widths in increasing order. -/
structure Wrt (Cs : List Nat) (D : Nat → List Nat) (S : Nat → Nat → List Rw) (H : List (Nat × List (Nat × List Rw))) : Prop where
  perm : (H.map (·.1)).Perm Cs
  asc : (H.map (·.1)).Pairwise (· < ·)
  ex : ∀ p, p ∈ H → ∃ Ds : List Nat, Ds.Perm (D p.1) ∧ Ds.Pairwise (· < ·) ∧ p.2 = Ds.map fun n => (n, S p.1 n)

set_option maxRecDepth 100000 in
set_option maxHeartbeats 4000000 in
theorem misMarshal_any {b : Nat} {w0 w : World} {l : List UInt8} (h : WrAt b w0 l w) (pb mm B0 : Nat) (Cs : List Nat) (D : Nat → List Nat) (S : Nat → Nat → List Rw) (hp : w0.cell? ⟨pb, 0, none⟩ = some (.map (some mm))) (hmi : MisAt B0 w0 mm Cs D S)
    (hC : Cs.length ≤ 1000) (hc64 : ∀ c, c ∈ Cs → c < 18446744073709551616) (hD : ∀ c, c ∈ Cs → (D c).length ≤ 1000 ∧ ∀ n, n ∈ D c → n ≤ 1000 ∧ (S c n).length ≤ 1000) (hlim : l.length ≤ 1000000) :
    Calls Tryz.prog 217 #[.pointer (some ⟨pb, 0, none⟩), .iface 88 (.pointer (some ⟨b, 0, none⟩))] w fun e w' =>
      ∃ H, Wrt Cs D S H ∧ e = .returned (.tuple #[.int .u64 (((mhiB H).length : Nat) : Int), .nilIface]) ∧ WrAt b w0 (l ++ mhiB H) w' ∧ Lib.OthersKept 5 (some b) w w' := by
  obtain ⟨V, q, m, hmp, hrow⟩ := hmi.ex
  have hmlt : mm < w0.heap.size := hmi.lt
  have hplt : pb < w0.heap.size := World.block_lt_of_cell? w0 _ hp
  have hbw := h.le
  obtain ⟨p, hN⟩ : ∃ N, N = Cs.length := ⟨_, rfl⟩
  have hpN : p ≤ 1000 := by omega
  have H1 := Lib.hid (zzWrite32_any h p (by omega) (by omega))
  have hc0 : w.cell? ⟨pb, 0, none⟩ = some (.map (some mm)) := h.off.cell hp (by simp)
  have hMP : ∀ W, Off [] w0 W → MpN Tryz.prog 30 .u64 W mm Cs.length Cs V := fun W ho => MpN.off hmp ho (by simp)
  have hlen0 : (Builtin.len_ #[152] 3 #[.map (some mm)]).run Tryz.prog w = .ok (.int .i64 (p : Int)) w := by
    have := Mp.len (hMP w h.off) Tryz.underlying152 3
    rwa [show (ints Cs).length = p from by simp [ints, hN]] at this
  have H2 : Hid (∀ W, Off [] w0 W → _) := Lib.hid fun W ho => smc_any W pb mm p Cs V (ho.cell hp (by simp)) (hMP W ho) hN.symm hpN
  have hwu : IntKind.u32.wrap (p : Int) = (p : Int) := by rw [IntKind.wrap_u32]; omega
  have HMP := Lib.hid hMP
  have HROW := Lib.hid hrow
  have HP := Lib.hid hp
  have HD := Lib.hid hD
  have HC64 := Lib.hid hc64
  have HNN := Lib.hid hN
  clear hrow hp hD hc64 hN hmp hmi hMP h
  go_enter Tryz.func217, Tryz.ntmps217
  go_wp2_with (first
    | (go_at_call 223; refine H1.out.mono ?_; rintro e w1 ⟨rfl, hR1, hK1⟩)
    | (go_at_call 224; refine (H2.out _ hR1.off).mono ?_; rintro e w4 ⟨g, cap, Ks, sp4, rfl, hKs1, hKs2, hb4, ho4, hg1⟩))
  have hR4 := hR1.old (ho4.below (fun x hx => by simp at hx))
  have hK4 : Lib.OthersKept 5 (some b) w w4 := hK1.trans (kept_of_below (ho4.below (fun x hx => by simp at hx)))
  have hKl : Ks.length = p := by rw [hKs1.length_eq]; exact HNN.out.symm
  have hgb : g ≠ b := by have := hR1.lt; omega
  have HR4 := Lib.hid hR4
  have HK4 := Lib.hid hK4
  have HB4 := Lib.hid hb4
  have HD1 := Lib.hid hKs1
  have HD2 := Lib.hid hKs2
  have HDL := Lib.hid hKl
  clear hR4 hK4 hb4 hKs1 hKs2 hKl ho4 hR1 hK1 H1 H2 hc0 hlen0
  go_loopg [8, 28] p (fun kx s6 s49 wr => ∃ (i T : Nat), s49 = .int .i64 (i : Int) ∧ s6 = .int .u64 (T : Int) ∧ i ≤ p ∧ p - i ≤ kx ∧
      Hid (∃ H : List (Nat × List (Nat × List Rw)), H.map (·.1) = Ks.take i ∧ (∀ p, p ∈ H → ∃ Ds : List Nat, Ds.Perm (D p.1) ∧ Ds.Pairwise (· < ·) ∧ p.2 = Ds.map fun n => (n, S p.1 n)) ∧ T = (Lib.leBytes 4 p ++ H.flatMap codedB).length ∧ T ≤ 4 + i * 1008012012 ∧ WrAt b w0 (l ++ (Lib.leBytes 4 p ++ H.flatMap codedB)) wr ∧ Lib.OthersKept 5 (some b) w wr ∧ Blk wr g 30 ((ints Ks).map (Value.int .u64) ++ sp4).toArray))
  case atStart => exact ⟨0, 4, rfl, rfl, Nat.zero_le _, Nat.le_refl _, Lib.hid ⟨[], by simp, fun p hp => by simp at hp, by simp [Lib.leBytes_length], by omega, by simpa using HR4.out, HK4.out, HB4.out⟩⟩
  case round =>
    rename World => wr
    obtain ⟨i, T, rfl, rfl, hip, hkx, hh⟩ := hrel
    by_cases hlt : i < p
    · have hltz : (i : Int) < (p : Int) := by omega
      obtain ⟨H, hH1, hH2, hT, hTb, hR, hK, hB⟩ := hh.out
      have hiD : i < Ks.length := by rw [HDL.out]; exact hlt
      obtain ⟨c, hn⟩ : ∃ c, c = Ks[i] := ⟨_, rfl⟩
      have hnD : c ∈ Cs := HD1.out.mem_iff.1 (by rw [hn]; exact List.getElem_mem _)
      obtain ⟨hv, hqb, hmw, hq0, hm0⟩ := HROW.out c hnD
      obtain ⟨hDl, hDn⟩ := HD.out c hnD
      have hc64 := HC64.out c hnD
      have hcx : wr.cell? ⟨g, i, none⟩ = some (.int .u64 (c : Int)) := by
        rw [hB.cell, List.getElem?_toArray, List.getElem?_append_left (by simp [ints]; exact hiD)]
        simp [ints, hiD, hn]
      have hcp : wr.cell? ⟨pb, 0, none⟩ = some (.map (some mm)) := hR.off.cell HP.out (by simp)
      have hwf : (Lit.int .u64 (c : Int)).wf = true := WalkArith.wf_u64 (by omega)
      have hlk := (Mp.look (HMP.out wr hR.off) Tryz.underlying30 Tryz.underlying152 (zeroCW wr) (c : Int) hwf).2
      rw [if_pos (mem_mapN.2 hnD), Int.toNat_natCast, hv] at hlk
      have hib : i * 1008012012 ≤ 1000 * 1008012012 := Nat.mul_le_mul_right _ (by omega)
      have HSW : Hid (Calls Tryz.prog 225 #[.pointer (some ⟨q c, 0, none⟩), .iface 88 (.pointer (some ⟨b, 0, none⟩))] wr fun e w' =>
            ∃ (Ds : List Nat) (M : Nat), Ds.Perm (D c) ∧ Ds.Pairwise (· < ·) ∧ M = (codedB (c, Ds.map fun n => (n, S c n))).length ∧ M ≤ 1008012012 ∧ e = .returned (.tuple #[.int .u64 (M : Int), .nilIface]) ∧ WrAt b w0 (l ++ (Lib.leBytes 4 p ++ (H ++ [(c, Ds.map fun n => (n, S c n))]).flatMap codedB)) w' ∧ Lib.OthersKept 5 (some b) wr w') := Lib.hid (by
        refine (cwMarshal_any hR (q c) (m c) B0 c (D c) (S c) hqb hmw hc64 hDl hDn (by rw [List.length_append, ← hT]; omega)).mono fun e w' ⟨Ds, a1, a2, a3, a4, a5⟩ => ⟨Ds, _, a1, a2, rfl, ?_, a3, ?_, a5⟩
        · have := mwB_le Ds (S c) (by rw [a1.length_eq]; exact hDl) (fun n hm => ⟨(hDn n (a1.mem_iff.1 hm)).1, (hDn n (a1.mem_iff.1 hm)).2, hmw.wid n (a1.mem_iff.1 hm)⟩)
          show (Lib.leBytes 8 c ++ mwB (Ds.map fun n => (n, S c n))).length ≤ _
          rw [List.length_append, Lib.leBytes_length]
          omega
        · simpa [List.append_assoc] using a4)
      have HH1 := Lib.hid hH1
      have HH2 := Lib.hid hH2
      have HT := Lib.hid hT
      have HK := Lib.hid hK
      have HB := Lib.hid hB
      have HTB := Lib.hid hTb
      have HCN := Lib.hid hn
      clear hh hT hR hK hB hv hqb hmw hDn hwf hn hH1 hH2
      go_wp2_with (go_at_call 225; refine HSW.out.mono ?_; rintro e w5 ⟨Ds, M, hd1, hd2, hM, hMb, rfl, hR5, hK5⟩; have hwT : IntKind.u64.wrap ((T : Int) + (M : Int)) = (T : Int) + (M : Int) := (by rw [IntKind.wrap_u64]; omega); have HMM := Lib.hid hM; clear hM)
      go_roundg (p - (i + 1))
      case measure => omega
      case rel =>
        refine ⟨i + 1, T + M, by go_num, by go_num, by omega, Nat.le_refl _, Lib.hid ⟨H ++ [(c, Ds.map fun n => (n, S c n))], ?_, ?_, ?_, ?_, hR5, HK.out.trans hK5, kept_blk hK5 HB.out hgb (by decide)⟩⟩
        · rw [List.take_succ_eq_append_getElem hiD, List.map_append, HH1.out, HCN.out]; rfl
        · intro x hx
          rcases List.mem_append.1 hx with hx | hx
          · exact HH2.out x hx
          · obtain rfl := List.mem_singleton.1 hx
            exact ⟨Ds, hd1, hd2, rfl⟩
        · rw [HT.out, HMM.out]; simp [Nat.add_assoc]
        · rw [Nat.succ_mul]; omega
    · have hltz : ¬ (i : Int) < (p : Int) := by omega
      obtain rfl : i = p := by omega
      go_wp2_with fail
      go_ret2
      obtain ⟨H, hH1, hH2, hT, hTb, hR, hK, hB⟩ := hh.out
      rw [List.take_of_length_le (by rw [HDL.out]; exact Nat.le_refl _)] at hH1
      have e : mhiB H = Lib.leBytes 4 i ++ H.flatMap codedB := by
        have : H.length = i := by rw [← HDL.out, ← hH1, List.length_map]
        rw [mhiB_eq, this]
      refine ⟨H, ⟨by rw [hH1]; exact HD1.out, by rw [hH1]; exact HD2.out, hH2⟩, ?_, by rw [e]; exact hR, hK⟩
      rw [e, ← hT]
      rfl
end Go.Proofs.YtkdbjocchponfaaGreatDoor
namespace Go.Proofs.YtkdbjocchponfaaGreatDoor
open Go.RowKit

/-- The offsets told so far: in the box ob; its row is none, or a block from wB on. -/
def OutRow (wB W : World) (v : Value) (outs : List Nat) : Prop :=
  (outs = [] ∧ v = .slice none 0 0) ∨ ∃ g cap sp, v = .slice (some ⟨g, 0, none⟩) outs.length cap ∧ wB.heap.size ≤ g ∧ Blk W g 30 ((ints outs).map (Value.int .u64) ++ sp).toArray ∧ sp.length + outs.length * 1 = cap * 1 ∧ outs.length ≤ cap ∧ cap ≤ maxLen
theorem OutRow.off {wB W W' : World} {v : Value} {outs : List Nat} {S : List Nat} (h : OutRow wB W v outs) (ho : Off S W W') (hS : ∀ x, x ∈ S → x < wB.heap.size) : OutRow wB W' v outs := by
  rcases h with h | ⟨g, cap, sp, h1, h2, h3, h4⟩
  · exact Or.inl h
  · exact Or.inr ⟨g, cap, sp, h1, h2, h3.off ho (fun hx => by have := hS _ hx; omega), h4⟩
theorem OutRow.owns {wB W : World} {v : Value} {outs : List Nat} (h : OutRow wB W v outs) : W.ownsRow 0 30 1 v outs.length ((ints outs).map (Value.int .u64)) := by
  rcases h with ⟨rfl, rfl⟩ | ⟨g, cap, sp, rfl, h2, h3, h4, h5, h6⟩
  · exact World.ownsRow_nil _ _ _ _
  · exact owns_blk h3 (by simp [ints]) h4 h5 h6
theorem OutRow.own {wB W : World} {v : Value} {outs : List Nat} (h : OutRow wB W v outs) : ∀ g, v.ownBlock = some g → wB.heap.size ≤ g := by
  rcases h with ⟨rfl, rfl⟩ | ⟨g, cap, sp, rfl, h2, _⟩
  · intro g hg; simp [Value.ownBlock] at hg
  · intro g' hg
    simp [Value.ownBlock] at hg
    omega
end Go.Proofs.YtkdbjocchponfaaGreatDoor
namespace Go.Proofs.YtkdbjocchponfaaGreatDoor
open Go.RowKit

end Go.Proofs.YtkdbjocchponfaaGreatDoor
namespace Go.Proofs.YtkdbjocchponfaaGreatDoor
open Go.RowKit

end Go.Proofs.YtkdbjocchponfaaGreatDoor
namespace Go.Proofs.YtkdbjocchponfaaGreatDoor
open Go.RowKit

/-- Block R is a bytes.Reader over l (block b), at place i. -/
structure RAt (R b cap : Nat) (l : List UInt8) (i : Nat) (w : World) : Prop where
  rd : ∃ p, RdC w R b l.length cap i p
  seg : Seg w b 0 l
  ne : R ≠ b
  len : l.length ≤ 2147483700
  cap_ : l.length ≤ cap
theorem RAt.lt {R b cap i : Nat} {l : List UInt8} {w : World} (h : RAt R b cap l i w) : R < w.heap.size := by obtain ⟨p, hp⟩ := h.rd; exact Blk.lt hp
theorem RAt.off {R b cap i : Nat} {l : List UInt8} {w w' : World} {S : List Nat} (h : RAt R b cap l i w) (ho : Off S w w') (hR : R ∉ S) (hb : b ∉ S) : RAt R b cap l i w' := by
  obtain ⟨p, hp⟩ := h.rd
  exact { h with rd := ⟨p, Blk.off hp ho hR⟩, seg := h.seg.off ho hb }
theorem readFull_at {R b cap i : Nat} {l : List UInt8} {w : World} (h : RAt R b cap l i w) (g m : Nat) (cur : List Value) (t : TypeId) (hg : Blk w g t cur.toArray) (hRg : R ≠ g) (hbg : b ≠ g) (hm0 : 0 < m) (hm : m ≤ l.length - i) (hcl : cur.length = m) :
    Calls Tryz.prog 79 #[.iface 58 (.pointer (some ⟨R, 0, none⟩)), .slice (some ⟨g, 0, none⟩) m m] w fun e w' => e = .returned (.tuple #[.int .i64 m, .nilIface]) ∧ RAt R b cap l (i + m) w' ∧ Blk w' g t (Lib.byteCells ((l.drop i).take m)).toArray ∧ Off [R, g] w w' := by
  obtain ⟨p, hp⟩ := h.rd
  refine (readFull_br R g b m l.length cap i p l cur t w rfl hp h.seg hg h.ne hRg hm0 hm hcl h.len h.cap_).mono ?_
  rintro e w' ⟨he, h1, h2, h3⟩
  exact ⟨he, { h with rd := ⟨_, h1⟩, seg := h.seg.off h3 (ni2 (fun e => h.ne e.symm) hbg) }, h2, h3⟩

end Go.Proofs.YtkdbjocchponfaaGreatDoor
namespace Go.Proofs.YtkdbjocchponfaaGreatDoor
open Go.RowKit

end Go.Proofs.YtkdbjocchponfaaGreatDoor
namespace Go.Proofs.YtkdbjocchponfaaGreatDoor
open Go.RowKit
set_option maxRecDepth 100000 in
theorem toBrs (a : Addr) (w : World) : Calls Tryz.prog 53 #[.iface 58 (.pointer (some a))] w fun e w' => e = .returned (.iface 58 (.pointer (some a))) ∧ w = w' := by
  have hta : ∀ W, (Instr.typeAssert (.iface 58 (.pointer (some a))) 68 103 true).run Tryz.prog W = .ok (.tuple #[.iface 58 (.pointer (some a)), .bool true]) W := fun W => by kernel_rfl
  go_enter Tryz.func53, Tryz.ntmps53
  go_wp2_with fail
  go_ret
  exact ⟨rfl, rfl⟩
set_option maxRecDepth 100000 in
theorem toBr (a : Addr) (w : World) : Calls Tryz.prog 123 #[.iface 58 (.pointer (some a))] w fun e w' => e = .returned (.iface 58 (.pointer (some a))) ∧ w = w' := by
  have hta : ∀ W, (Instr.typeAssert (.iface 58 (.pointer (some a))) 68 176 true).run Tryz.prog W = .ok (.tuple #[.iface 58 (.pointer (some a)), .bool true]) W := fun W => by kernel_rfl
  go_enter Tryz.func123, Tryz.ntmps123
  go_wp2_with fail
  go_ret
  exact ⟨rfl, rfl⟩
end Go.Proofs.YtkdbjocchponfaaGreatDoor
namespace Go.Proofs.YtkdbjocchponfaaGreatDoor
open Go.RowKit

end Go.Proofs.YtkdbjocchponfaaGreatDoor
namespace Go.Proofs.YtkdbjocchponfaaGreatDoor
open Go.RowKit

end Go.Proofs.YtkdbjocchponfaaGreatDoor
namespace Go.Proofs.YtkdbjocchponfaaGreatDoor
open Go.RowKit

end Go.Proofs.YtkdbjocchponfaaGreatDoor
namespace Go.Proofs.YtkdbjocchponfaaGreatDoor
open Go.RowKit

end Go.Proofs.YtkdbjocchponfaaGreatDoor
