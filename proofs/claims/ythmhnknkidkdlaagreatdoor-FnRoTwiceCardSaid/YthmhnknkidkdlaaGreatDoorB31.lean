/-
  multiWidthCodedIndex.Marshal, MultihashIndexSorted.Marshal into a bytes.Buffer.
  The callback of impl.offsets: it appends an offset to the caller's row.
  singleWidthIndex.getAll, with impl.offsets' callback (NOT YET CLEAN).
  singleWidthIndex.getAll, with impl.offsets' callback .
  singleWidthIndex.Unmarshal out of a bytes.Reader.
  multiWidthIndex.Unmarshal out of a bytes.Reader.
  multiWidthCodedIndex.Unmarshal, MultihashIndexSorted.Unmarshal out of a bytes.Reader.
  GetAll of a multiWidthIndex and of a MultihashIndexSorted, with impl.offsets' callback.
  GetAll of a MultihashIndexSorted, with impl.offsets' callback.
  index.WriteTo into a bytes.Buffer; impl.written; index.New.
  strings.Builder: what its writing methods do at a builder that has been used.
  Identifiers of version 1 are made: their bytes are the version, the codec and the multihash.
  An identifier is made of its parts: impl.cidIn at tidy identifiers.
  impl.indexBytes: entries to the bytes of an index.
  impl.indexBytes at 0x0401.
  index.ReadCodec, index.ReadFrom over a bytes.Reader.
  impl.found: 0 at nil, 1 at index.ErrNotFound.
  impl.offsets: an index's bytes read, an identifier looked up.
  laws.FnIxAdd's arithmetic in plain words: how much longer an index is for an entry more, as the law counts it. No program is named here.
  impl.IxBytes, impl.IxAll.
  What the statements' own guards compute of an identifier.
  laws.zzFits8, zzFits7, ixGood over entries in memory.
  spec.Offsets: the offsets of the entries that fit, sorted.
  spec.Codes: the hash functions of entries, each once, the least first.
  spec.Widths: the lengths of entries' digests, each once, the least first.
  Rows of sorted entries by width, in plain words; a row of ints in increasing order.
  swapRange_func over a row of the caller's.
  rotate_func over a row of the caller's.
  What swapRange and rotate leave, place by place. No program is named here.
  One step of the symmetric merge, in plain words. No program is named here.
  The symmetric merge's ends, in plain words: two sorted halves; one element put into a sorted run. No program is named here.
  symMerge_func over a row of the caller's: where the first run has one element.
  symMerge_func over a row of the caller's: where the second run has one element.
  The stable sort's rounds, in plain words: runs of k places are sorted, then of 2 * k. No program is named here.
  (No condition beyond those that each theorem states.)
-/
import Derived.Test.YthmhnknkidkdlaaGreatDoorB25
import Derived.Test.YthmhnknkidkdlaaGreatDoorB29
import Derived.Test.YthmhnknkidkdlaaGreatDoorB30
import Derived.Test.YthmhnknkidkdlaaGreatDoorB15
import Derived.Test.YthmhnknkidkdlaaGreatDoorB05
import Derived.Test.YthmhnknkidkdlaaGreatDoorB06
import Derived.Test.YthmhnknkidkdlaaGreatDoorB14
import Derived.Test.YthmhnknkidkdlaaGreatDoorB03
import Derived.Test.YthmhnknkidkdlaaGreatDoorB01
import Derived.Lib.Builder
import Derived.Test.YthmhnknkidkdlaaGreatDoorB04
import Derived.Deep.RegionHeld3
import Derived.Test.YthmhnknkidkdlaaGreatDoorProg
import Derived.Test.YthmhnknkidkdlaaGreatDoorB02
import Derived.WalkSpells
import Derived.WalkKit
import Derived.LaidEql
import Derived.Deep.LoopGhost
import Derived.Test.YthmhnknkidkdlaaGreatDoorB13
import Derived.Sort.LotA
import Derived.Sort.LotD2
namespace Go.Proofs.YthmhnknkidkdlaaGreatDoor
open Go.RowKit

theorem wB_le (S : Nat → List Rw) (n : Nat) (h1 : n ≤ 1000) (h2 : (S n).length ≤ 1000) (h3 : ∀ r, r ∈ S n → r.d.length = n) : (wB S n).length ≤ 1008012 := by
  have h4 := rowsB_length (S n) n h3
  have h5 : (n + 8) * (S n).length ≤ 1008 * 1000 := Nat.mul_le_mul (by omega) h2
  simp only [wB, bucketB, List.length_append, Lib.leBytes_length]
  omega
theorem flat_le {α : Type} (f : α → List UInt8) (B : Nat) : ∀ (l : List α), (∀ x, x ∈ l → (f x).length ≤ B) → (l.flatMap f).length ≤ l.length * B
  | [], _ => by simp
  | x :: l, h => by
    have h1 := h x (by simp)
    have h2 := flat_le f B l (fun y hy => h y (by simp [hy]))
    rw [List.flatMap_cons, List.length_append, List.length_cons, Nat.succ_mul]
    omega
theorem mwB_le (Ds : List Nat) (S : Nat → List Rw) (hl : Ds.length ≤ 1000) (h : ∀ n, n ∈ Ds → n ≤ 1000 ∧ (S n).length ≤ 1000 ∧ ∀ r, r ∈ S n → r.d.length = n) : (mwB (Ds.map fun n => (n, S n))).length ≤ 1008012004 := by
  have h1 := flat_le (wB S) 1008012 Ds (fun n hn => wB_le S n (h n hn).1 (h n hn).2.1 (h n hn).2.2)
  have h2 : Ds.length * 1008012 ≤ 1000 * 1008012 := Nat.mul_le_mul_right _ hl
  rw [mwB_map, List.length_append, Lib.leBytes_length]
  omega
theorem MwAt.wid {B : Nat} {w : World} {mm : Nat} {D : List Nat} {S : Nat → List Rw} (h : MwAt B w mm D S) : ∀ n, n ∈ D → ∀ r, r ∈ S n → r.d.length = n := by
  obtain ⟨V, C, _, h2⟩ := h.ex
  exact fun n hn => (h2 n hn).2.2.2.2

theorem Tryz.infoU64 : (Tryz.prog.info? 30).map (fun i => (i.zero, i.size, i.bytes)) = some (some (.int .u64 0), 1, 8) := by kernel_rfl
theorem make64 (n : Nat) (hn : n < 1000000) : ∃ Z : List Value, Z.length = n ∧ ∀ W : World, (Instr.makeSlice 307 (.int .i64 0) (.int .i64 (n : Int))).run Tryz.prog W = .ok (.slice (some ⟨W.heap.size, 0, none⟩) 0 n) (W.alloc (.cells Z.toArray 30)) := by
  obtain ⟨i0, hi, hz0, hz1, hz2⟩ := info_parts Tryz.infoU64
  refine ⟨(madeCells (Value.int .u64 0).cells (n * i0.size)).toList, by simp [size_madeCells, hz1], fun W => ?_⟩
  have hr := run_make (P := Tryz.prog) W 307 30 i0 _ Tryz.underlying307 hi hz0 .i64 .i64 0 (n : Int) (by omega) (by omega) (by rw [hz2]; omega) (by omega)
  simpa using hr

set_option maxRecDepth 100000 in
set_option maxHeartbeats 4000000 in
theorem smc_any (w : World) (pb mm N : Nat) (Cs : List Nat) (V : Nat → Value) (hp : w.cell? ⟨pb, 0, none⟩ = some (.map (some mm))) (hmp : MpN Tryz.prog 30 .u64 w mm Cs.length Cs V) (hN : Cs.length = N) (hN1000 : N ≤ 1000) :
    Calls Tryz.prog 175 #[.pointer (some ⟨pb, 0, none⟩)] w fun e w' =>
      ∃ (g cap : Nat) (Ds : List Nat) (sp : List Value), e = .returned (.slice (some ⟨g, 0, none⟩) N cap) ∧ Ds.Perm Cs ∧ Ds.Pairwise (· < ·) ∧ Blk w' g 30 ((ints Ds).map (Value.int .u64) ++ sp).toArray ∧ Off [] w w' ∧ w.heap.size ≤ g := by
  have hplt : pb < w.heap.size := World.block_lt_of_cell? w _ hp
  have hmlt : mm < w.heap.size := hmp.lt
  have hKl : (ints Cs).length = N := by simp [ints, hN]
  have hlen0 : (Builtin.len_ #[162] 3 #[.map (some mm)]).run Tryz.prog w = .ok (.int .i64 (N : Int)) w := by
    have := Mp.len hmp Tryz.underlying162 3
    rwa [hKl] at this
  obtain ⟨Z, hZ, hmk⟩ := make64 N (by omega)
  have hc2 : (w.alloc (.cells Z.toArray 30)).cell? ⟨pb, 0, none⟩ = some (.map (some mm)) := (Off.alloc (Off.refl [] w) _).cell hp (by simp)
  have hnd := MpN.nodup hmp
  have HMP := Lib.hid hmp
  have HND := Lib.hid hnd
  have HKL := Lib.hid hKl
  have HZ := Lib.hid hZ
  clear hmp hnd hKl hZ hN
  go_enter Tryz.func175, Tryz.ntmps175
  go_wp2_with (at_range; refine wpList_range_mp rfl _ 162 rfl Tryz.underlying30 Tryz.underlying162 (MpN.off HMP.out (Off.alloc (Off.refl [] w) _) (by simp)) rfl ?_; intro w3 hr3 ho3 hs3)
  have hal : (w.alloc (.cells Z.toArray 30)).heap.size = w.heap.size + 1 := by simp
  generalize (w.alloc (.cells Z.toArray 30)).heap.size = rr at hal hr3 hs3 ⊢
  have HO3 := Lib.hid ho3.out
  (try go_frame)
  go_loopg [3] N (fun kx s8 wq => ∃ (L P : List Int) (p g cap : Nat) (sp : List Value), s8 = .slice (some ⟨g, 0, none⟩) p cap ∧ Hid (P.length = p ∧ L.length ≤ kx ∧ Kys w wq mm rr g cap Cs.length .u64 30 (ints Cs) (fun x => V x.toNat) P L sp))
  case atStart =>
    refine ⟨ints Cs, [], 0, w.heap.size, N, Z, rfl, Lib.hid ⟨rfl, Nat.le_of_eq HKL.out, ?_⟩⟩
    exact { perm := List.Perm.refl _, blk := (Blk.new' w 30 Z.toArray rfl).off HO3.out (by simp), sp := by simp [HZ.out], le := Nat.zero_le _, cm := by unfold maxLen; omega, rg := hr3.out, off := (Off.alloc (Off.refl [] w) _).then HO3.out (fun x hx => by simp at hx), g1 := Nat.le_refl _, g2 := by omega, r1 := by omega, r2 := by omega }
  case round =>
    rename World => wq
    obtain ⟨L, P, p, g, cap, sp, rfl, hh⟩ := hrel
    obtain ⟨hpl, hlen, hk⟩ := hh.out
    have HK := Lib.hid hk
    have hrg := hk.rg
    have hPL : P.length + L.length = N := by have := hk.perm.length_eq; rw [HKL.out] at this; simpa using this
    have HPL := Lib.hid hpl
    have hpN : p + L.length = N := by rw [← hpl]; exact hPL
    clear hh hk hr3 hs3 hpl hPL hal
    go_wp2_with (at_next; refine wpList_next_mp rfl _ rfl Tryz.underlying30 rfl hrg ?_ ?_)
    · intro hL
      subst hL
      have hk := HK.out
      obtain rfl : p = N := by simpa using hpN
      have hsort := Ord64.sort_list g cap 30 P sp wq hk.blk (by rw [HPL.out]; omega)
      rw [HPL.out] at hsort
      have HSORT := Lib.hid hsort
      clear hsort hk
      go_wp2_with (go_at_call 181; refine HSORT.out.mono ?_; rintro e w4 ⟨rfl, ys, sp4, hperm, hasc, hb4, ho4⟩)
      go_ret
      have hk := HK.out
      obtain ⟨Ds, hDs1, hDs2, he⟩ := keys_sorted Cs HND.out 0 ys (hperm.trans (by have := hk.perm; simpa using this)) hasc
      have he2 : ys = ints Ds := by simpa using he
      subst he2
      exact ⟨g, cap, Ds, sp4, rfl, hDs1, hDs2, hb4, hk.off.then ho4 (fun x hx => by simp at hx; right; rw [hx]; exact hk.g1), hk.g1⟩
    · intro x w4 hxL hwx hrg4 ho4 hs4 hen
      have hk := HK.out
      have hLpos := List.length_pos_of_mem hxL
      obtain ⟨i0, hi, hz0, hz1, hz2⟩ := info_parts Tryz.infoU64
      have hb4 := hk.blk.off ho4 (ni1 hk.g2)
      have hgw := hb4.lt
      have HB4 := Lib.hid hb4
      have HO4 := Lib.hid ho4
      have HRG4 := Lib.hid hrg4
      have hxl : (P.map (Value.int .u64)).length = p * 1 := by simp [HPL.out]
      have hown := owns_blk (HB4.out.alloc (.cells #[.int .u64 x] 30)) hxl (by have := hk.sp; rw [HPL.out] at this; exact this) (by have := hk.le; rw [HPL.out] at this; exact this) hk.cm
      have HOWN := Lib.hid hown
      have HXL := Lib.hid hxl
      clear hk hb4 ho4 hrg4 hrg hxl hown hs4
      go_wp2_with (at_builtin; refine wpList_append_blk rfl _ _ 307 rfl 30 i0 _ 1 8 Tryz.underlying307 hi hz0 hz1 hz2 rfl (by decide) (.slice (some ⟨g, 0, none⟩) p cap) p (P.map (Value.int .u64)) HXL.out rfl HOWN.out ⟨w4.heap.size, 0, none⟩ 1 [.int .u64 x] rfl rfl (news_alloc _ _ _) (oneInt _ _) (by unfold maxLen; omega) (by omega) ?_; intro g' cap' sp' w5 hb5 q1 q2 q3 hg5 ho5 hown5; have HQ3 := Lib.hid q3; have HG5 := Lib.hid hg5; clear q3 hg5 hown5)
      go_roundg (L.length - 1)
      case measure => omega
      case rel =>
        have hk := HK.out
        have hg5 := HG5.out
        have hsz5 : (w4.alloc (.cells #[.int .u64 x] 30)).heap.size = w4.heap.size + 1 := by simp
        rw [hsz5] at hg5
        have ho5' := ho5.out [g] (fun g hg => by simp [Value.ownBlock] at hg; simp [hg])
        have hAl : Off [] w4 (w4.alloc (.cells #[.int .u64 x] 30)) := Off.alloc (Off.refl [] w4) _
        have hw4s := HO4.out.size
        have hr2 := hk.r2
        have hr1 := hk.r1
        have hg1 := hk.g1
        have hos := ho5'.size
        rw [hsz5] at hos
        refine ⟨L.erase x, P ++ [x], p + 1, g', cap', sp', rfl, Lib.hid ⟨by simp [HPL.out], by rw [List.length_erase_of_mem hxL]; exact Nat.le_refl _, ?_⟩⟩
        exact { perm := by
                  refine List.Perm.trans ?_ hk.perm
                  rw [List.append_assoc]
                  exact List.Perm.append_left P (List.perm_cons_erase hxL).symm
                blk := by have := hb5.out; simpa using this
                sp := by have := HQ3.out; simp [HPL.out]; omega
                le := by simp [HPL.out]; exact q1
                cm := q2
                rg := (HRG4.out.off hAl (by simp) (by simp)).off ho5' (by simp; omega) (ni1 (fun e => hk.g2 e.symm))
                off := ((hk.off.then HO4.out (fun x hx => by simp at hx; right; omega)).then hAl (fun x hx => by simp at hx)).then ho5' (fun x hx => by simp at hx; right; omega)
                g1 := by rcases hg5 with h | h
                         · simp [Value.ownBlock] at h; omega
                         · omega
                g2 := by rcases hg5 with h | h
                         · simp [Value.ownBlock] at h; rw [← h]; exact hk.g2
                         · omega
                r1 := hk.r1
                r2 := by omega }

theorem mhiB_eq (H : List (Nat × List (Nat × List Rw))) : mhiB H = Lib.leBytes 4 H.length ++ H.flatMap codedB := rfl
theorem zeroCW (w : World) : (zeroValue 301).run Tryz.prog w = .ok (.pointer none) w := by kernel_rfl

/-- What is written: the hash functions in increasing order, of each one its widths in increasing order. -/
structure Wrt (Cs : List Nat) (D : Nat → List Nat) (S : Nat → Nat → List Rw) (H : List (Nat × List (Nat × List Rw))) : Prop where
  perm : (H.map (·.1)).Perm Cs
  asc : (H.map (·.1)).Pairwise (· < ·)
  ex : ∀ p, p ∈ H → ∃ Ds : List Nat, Ds.Perm (D p.1) ∧ Ds.Pairwise (· < ·) ∧ p.2 = Ds.map fun n => (n, S p.1 n)

end Go.Proofs.YthmhnknkidkdlaaGreatDoor
namespace Go.Proofs.YthmhnknkidkdlaaGreatDoor
open Go.RowKit

end Go.Proofs.YthmhnknkidkdlaaGreatDoor
namespace Go.Proofs.YthmhnknkidkdlaaGreatDoor
open Go.RowKit

end Go.Proofs.YthmhnknkidkdlaaGreatDoor
namespace Go.Proofs.YthmhnknkidkdlaaGreatDoor
open Go.RowKit

end Go.Proofs.YthmhnknkidkdlaaGreatDoor
namespace Go.Proofs.YthmhnknkidkdlaaGreatDoor
open Go.RowKit

end Go.Proofs.YthmhnknkidkdlaaGreatDoor
namespace Go.Proofs.YthmhnknkidkdlaaGreatDoor
open Go.RowKit

end Go.Proofs.YthmhnknkidkdlaaGreatDoor
namespace Go.Proofs.YthmhnknkidkdlaaGreatDoor
open Go.RowKit

end Go.Proofs.YthmhnknkidkdlaaGreatDoor
namespace Go.Proofs.YthmhnknkidkdlaaGreatDoor
open Go.RowKit

end Go.Proofs.YthmhnknkidkdlaaGreatDoor
namespace Go.Proofs.YthmhnknkidkdlaaGreatDoor
open Go.RowKit

end Go.Proofs.YthmhnknkidkdlaaGreatDoor
namespace Go.Proofs.YthmhnknkidkdlaaGreatDoor
open Go.RowKit

theorem run_makeB10 (W : World) : (Instr.makeSlice 47 (.int .i64 10) (.int .i64 10)).run Tryz.prog W = .ok (.slice (some ⟨W.heap.size, 0, none⟩) 10 10) (W.alloc (.cells (zeroBytes 10).toArray 5)) := by
  obtain ⟨ib0, hbi, hbz0, hbz1, hbz2⟩ := info_parts Tryz.infoByte
  exact run_makeBytes Tryz.underlying47 hbi hbz0 hbz1 hbz2 10 (by omega) W

theorem method_mwCodec (a : Addr) (w : World) : (method 480 160 (.pointer (some a)) "Codec").run Tryz.prog w = .ok (245, .pointer (some a)) w := by kernel_rfl
theorem method_mwMarshal (a : Addr) (w : World) : (method 480 160 (.pointer (some a)) "Marshal").run Tryz.prog w = .ok (183, .pointer (some a)) w := by kernel_rfl
set_option maxRecDepth 100000 in
theorem codec_mw (v : Value) (w : World) : Calls Tryz.prog 245 #[v] w fun e w' => e = .returned (.int .u64 1024) ∧ w' = w := by
  go_enter Tryz.func245, Tryz.ntmps245
  go_wp2
  go_ret
  exact ⟨rfl, rfl⟩

theorem method_misCodec (a : Addr) (w : World) : (method 480 114 (.pointer (some a)) "Codec").run Tryz.prog w = .ok (165, .pointer (some a)) w := by kernel_rfl
theorem method_misMarshal (a : Addr) (w : World) : (method 480 114 (.pointer (some a)) "Marshal").run Tryz.prog w = .ok (168, .pointer (some a)) w := by kernel_rfl
set_option maxRecDepth 100000 in
theorem codec_mis (v : Value) (w : World) : Calls Tryz.prog 165 #[v] w fun e w' => e = .returned (.int .u64 1025) ∧ w' = w := by
  go_enter Tryz.func165, Tryz.ntmps165
  go_wp2
  go_ret
  exact ⟨rfl, rfl⟩

end Go.Proofs.YthmhnknkidkdlaaGreatDoor
namespace Go.Proofs.YthmhnknkidkdlaaGreatDoor
open Go.RowKit

end Go.Proofs.YthmhnknkidkdlaaGreatDoor
namespace Go.Proofs.YthmhnknkidkdlaaGreatDoor
open Go.RowKit

end Go.Proofs.YthmhnknkidkdlaaGreatDoor
namespace Go.Proofs.YthmhnknkidkdlaaGreatDoor
open Go.RowKit

/-- An identifier as a value: version, codec, code, digest. -/
abbrev cidV (ver codec code : Nat) (dg : ByteArray) : Value := .agg #[.int .u64 ver, .int .u64 codec, .int .u64 code, .string dg]

end Go.Proofs.YthmhnknkidkdlaaGreatDoor
namespace Go.Proofs.YthmhnknkidkdlaaGreatDoor
open Go.RowKit

def Ent.it (e : Ent) : It := ⟨str (if e.ver = 0 then mhB 18 e.dg.data.toList else cid1 e.codec (mhB e.code e.dg.data.toList)), e.code, e.dg.data.toList, e.off⟩
theorem Ent.it_ok {e : Ent} (h : e.ok) : e.it.ok := by
  refine ⟨?_, h.off, h.small⟩
  rcases h.ver with ⟨h1, h2, h3, h4⟩ | ⟨h1, h2, h3⟩
  · refine ⟨by show e.code < _; omega, by show e.dg.data.toList.length ≤ _; omega, Or.inl ⟨?_, h3, h4⟩⟩
    show (if e.ver = 0 then _ else _) = mhB e.code e.dg.data.toList
    rw [if_pos h1, h3]
  · refine ⟨h3, by show e.dg.data.toList.length ≤ _; have := h.small; omega, Or.inr ⟨e.codec, h2, ?_⟩⟩
    show (if e.ver = 0 then _ else _) = cid1 e.codec (mhB e.code e.dg.data.toList)
    rw [if_neg (by omega)]
/-- The records gathered so far. -/
def RecsAt (w wr : World) (A : Option Addr) (cap : Nat) (its : List It) : Prop :=
  (its = [] ∧ A = none ∧ cap = 0) ∨ ∃ g sp, A = some ⟨g, 0, none⟩ ∧ w.heap.size ≤ g ∧ Blk wr g 143 (flatI its ++ sp).toArray ∧ sp.length + its.length * 2 = cap * 2 ∧ its.length ≤ cap ∧ cap ≤ maxLen
theorem RecsAt.items {w wr : World} {A : Option Addr} {cap : Nat} {its : List It} (h : RecsAt w wr A cap its) : ∃ g, ItemsAt wr A g 0 its := by
  rcases h with ⟨rfl, rfl, rfl⟩ | ⟨g, sp, rfl, _, hb, _⟩
  · exact ⟨0, fun h => absurd h (by simp), fun i h => absurd h (by simp)⟩
  · exact ⟨g, itemsAt_blk hb⟩
theorem RecsAt.owns {w wr W : World} {A : Option Addr} {cap : Nat} {its : List It} (h : RecsAt w wr A cap its) (ho : Off [] wr W) : W.ownsRow 0 143 2 (.slice A its.length cap) its.length (flatI its) := by
  rcases h with ⟨rfl, rfl, rfl⟩ | ⟨g, sp, rfl, _, hb, h1, h2, h3⟩
  · exact World.ownsRow_nil _ _ _ _
  · exact owns_blk (hb.off ho (by simp)) (flatI_length _) h1 h2 h3
theorem RecsAt.own {w wr : World} {A : Option Addr} {cap n : Nat} {its : List It} (h : RecsAt w wr A cap its) : ∀ g, (Value.slice A n cap).ownBlock = some g → w.heap.size ≤ g := by
  rcases h with ⟨rfl, rfl, rfl⟩ | ⟨g, sp, rfl, h1, _⟩
  · intro g hg; simp [Value.ownBlock] at hg
  · intro g' hg
    simp [Value.ownBlock] at hg
    omega

set_option maxRecDepth 100000 in
theorem newSorted_any (w : World) : Calls Tryz.prog 49 #[] w fun e w' => e = .returned (.iface 160 (.pointer (some ⟨w.heap.size + 1, 0, none⟩))) ∧ w' = (w.alloc (.map #[] 0)).alloc (.cells #[.map (some w.heap.size)] 159) := by
  have hmm := @run_makeMap Tryz.prog
  go_enter Tryz.func49, Tryz.ntmps49
  go_wp2_with fail
  go_ret
  exact ⟨by simp, rfl⟩
set_option maxRecDepth 100000 in
theorem newMis_any (w : World) : Calls Tryz.prog 50 #[] w fun e w' => e = .returned (.pointer (some ⟨w.heap.size + 1, 0, none⟩)) ∧ w' = (w.alloc (.map #[] 0)).alloc (.cells #[.map (some w.heap.size)] 162) := by
  have hmm := @run_makeMap Tryz.prog
  go_enter Tryz.func50, Tryz.ntmps50
  go_wp2_with fail
  go_ret
  exact ⟨by simp, rfl⟩

set_option maxRecDepth 100000 in
theorem new_mw (w : World) : Calls Tryz.prog 26 #[.int .u64 1024] w fun e w' => ∃ pb mm, e = .returned (.tuple #[.iface 160 (.pointer (some ⟨pb, 0, none⟩)), .nilIface]) ∧ w'.cell? ⟨pb, 0, none⟩ = some (.map (some mm)) ∧ Mp Tryz.prog 262 .u32 w' mm 0 [] (fun _ => undef) ∧ Off [] w w' ∧ w.heap.size ≤ pb ∧ w.heap.size ≤ mm ∧ pb ≠ mm := by
  have hmp : Mp Tryz.prog 262 .u32 ((w.alloc (.map #[] 0)).alloc (.cells #[.map (some w.heap.size)] 159)) w.heap.size 0 [] (fun _ => undef) := (Mp.made w _ _ _ _).off (Off.alloc (Off.refl [] _) _) (by simp)
  have hbk := Blk.new' (w.alloc (.map #[] 0)) 159 #[.map (some w.heap.size)] (g := w.heap.size + 1) (by simp)
  have hof : Off [] w ((w.alloc (.map #[] 0)).alloc (.cells #[.map (some w.heap.size)] 159)) := (Off.alloc (Off.refl [] w) _).alloc _
  have HMP := Lib.hid hmp
  have HB := Lib.hid hbk
  have HO := Lib.hid hof
  clear hmp hbk hof
  go_enter Tryz.func26, Tryz.ntmps26
  go_wp2_with (go_at_call 49; refine (newSorted_any _).mono ?_; rintro e w1 ⟨rfl, rfl⟩)
  go_ret2
  exact ⟨w.heap.size + 1, w.heap.size, rfl, HB.out.cell 0, HMP.out, HO.out, by omega, Nat.le_refl _, by omega⟩

theorem method_mwLoad (a : Addr) (w : World) : (method 480 160 (.pointer (some a)) "Load").run Tryz.prog w = .ok (172, .pointer (some a)) w := by kernel_rfl

end Go.Proofs.YthmhnknkidkdlaaGreatDoor
namespace Go.Proofs.YthmhnknkidkdlaaGreatDoor
open Go.RowKit

set_option maxRecDepth 100000 in
theorem new_mis (w : World) : Calls Tryz.prog 26 #[.int .u64 1025] w fun e w' => ∃ pb mm, e = .returned (.tuple #[.iface 114 (.pointer (some ⟨pb, 0, none⟩)), .nilIface]) ∧ w'.cell? ⟨pb, 0, none⟩ = some (.map (some mm)) ∧ Mp Tryz.prog 30 .u64 w' mm 0 [] (fun _ => undef) ∧ Off [] w w' ∧ w.heap.size ≤ pb ∧ w.heap.size ≤ mm ∧ pb ≠ mm := by
  have hmp : Mp Tryz.prog 30 .u64 ((w.alloc (.map #[] 0)).alloc (.cells #[.map (some w.heap.size)] 162)) w.heap.size 0 [] (fun _ => undef) := (Mp.made w _ _ _ _).off (Off.alloc (Off.refl [] _) _) (by simp)
  have hbk := Blk.new' (w.alloc (.map #[] 0)) 162 #[.map (some w.heap.size)] (g := w.heap.size + 1) (by simp)
  have hof : Off [] w ((w.alloc (.map #[] 0)).alloc (.cells #[.map (some w.heap.size)] 162)) := (Off.alloc (Off.refl [] w) _).alloc _
  have HMP := Lib.hid hmp
  have HB := Lib.hid hbk
  have HO := Lib.hid hof
  clear hmp hbk hof
  go_enter Tryz.func26, Tryz.ntmps26
  go_wp2_with (go_at_call 50; refine (newMis_any _).mono ?_; rintro e w1 ⟨rfl, rfl⟩)
  go_ret2
  exact ⟨w.heap.size + 1, w.heap.size, rfl, HB.out.cell 0, HMP.out, HO.out, by omega, Nat.le_refl _, by omega⟩

theorem method_misLoad (a : Addr) (w : World) : (method 480 114 (.pointer (some a)) "Load").run Tryz.prog w = .ok (167, .pointer (some a)) w := by kernel_rfl

end Go.Proofs.YthmhnknkidkdlaaGreatDoor
namespace Go.Proofs.YthmhnknkidkdlaaGreatDoor
open Go.RowKit

end Go.Proofs.YthmhnknkidkdlaaGreatDoor
namespace Go.Proofs.YthmhnknkidkdlaaGreatDoor
open Go.RowKit

end Go.Proofs.YthmhnknkidkdlaaGreatDoor
namespace Go.Proofs.YthmhnknkidkdlaaGreatDoor
open Go.RowKit

end Go.Proofs.YthmhnknkidkdlaaGreatDoor
namespace Go.Proofs.YthmhnknkidkdlaaGreatDoor

end Go.Proofs.YthmhnknkidkdlaaGreatDoor
namespace Go.Proofs.YthmhnknkidkdlaaGreatDoor
open Go.RowKit

end Go.Proofs.YthmhnknkidkdlaaGreatDoor
namespace Go.Proofs.YthmhnknkidkdlaaGreatDoor
open Go.RowKit

/-- Is it a tidy identifier? -/
def tidyB (ver codec code n : Nat) : Bool := if ver = 0 then (codec == 112 && code == 18 && n == 32) else (ver == 1 && decide (codec < 9223372036854775808) && decide (code < 9223372036854775808))

theorem beqT {a : Nat} {b : Int} (h : (a : Int) = b) : ((a : Int) == b) = true := beq_iff_eq.2 h
theorem beqF {a : Nat} {b : Int} (h : ¬ (a : Int) = b) : ((a : Int) == b) = false := beq_eq_false_iff_ne.2 h

set_option maxRecDepth 100000 in
set_option maxHeartbeats 2000000 in
theorem tidy_any (ver codec code : Nat) (dg : ByteArray) (w : World) :
    Calls Tryz.prog 11 #[cidV ver codec code dg] w fun e w' => e = .returned (.bool (tidyB ver codec code dg.size)) ∧ Below w.heap.size w w' := by
  obtain ⟨B, hB⟩ : ∃ B, B = tidyB ver codec code dg.size := ⟨_, rfl⟩
  rw [← hB]
  have HB := Lib.hid hB
  clear hB
  have cs : (ver = 0 ∧ ¬ codec = 112) ∨ (ver = 0 ∧ codec = 112 ∧ ¬ code = 18) ∨ (ver = 0 ∧ codec = 112 ∧ code = 18 ∧ ¬ dg.size = 32) ∨ (ver = 0 ∧ codec = 112 ∧ code = 18 ∧ dg.size = 32) ∨ (¬ ver = 0 ∧ ¬ ver = 1) ∨
      (ver = 1 ∧ ¬ codec < 9223372036854775808) ∨ (ver = 1 ∧ codec < 9223372036854775808 ∧ ¬ code < 9223372036854775808) ∨ (ver = 1 ∧ codec < 9223372036854775808 ∧ code < 9223372036854775808) := by omega
  rcases cs with ⟨h1, h2⟩ | ⟨h1, h2, h3⟩ | ⟨h1, h2, h3, h4⟩ | ⟨h1, h2, h3, h4⟩ | ⟨h1, h2⟩ | ⟨h1, h2⟩ | ⟨h1, h2, h3⟩ | ⟨h1, h2, h3⟩
  · have a0 := beqT (b := 0) (a := ver) (by omega)
    have a1 := beqF (b := 112) (a := codec) (by omega)
    have H := Lib.hid (And.intro h1 h2)
    clear h1 h2
    go_enter Tryz.func11, Tryz.ntmps11
    go_wp2_with fail
    go_ret
    refine ⟨?_, (Below.refl _ w).alloc (Nat.le_refl _) _⟩
    have := H.out
    rw [HB.out]; simp [tidyB, this]
  · have a0 := beqT (b := 0) (a := ver) (by omega)
    have a1 := beqT (b := 112) (a := codec) (by omega)
    have a2 := beqF (b := 18) (a := code) (by omega)
    have H := Lib.hid (And.intro h1 (And.intro h2 h3))
    clear h1 h2 h3
    go_enter Tryz.func11, Tryz.ntmps11
    go_wp2_with fail
    go_ret
    refine ⟨?_, (Below.refl _ w).alloc (Nat.le_refl _) _⟩
    have := H.out
    rw [HB.out]; simp [tidyB, this]
  · have a0 := beqT (b := 0) (a := ver) (by omega)
    have a1 := beqT (b := 112) (a := codec) (by omega)
    have a2 := beqT (b := 18) (a := code) (by omega)
    have a3 := beqF (b := 32) (a := dg.size) (by omega)
    have H := Lib.hid (And.intro h1 (And.intro h2 (And.intro h3 h4)))
    clear h1 h2 h3 h4
    go_enter Tryz.func11, Tryz.ntmps11
    go_wp2_with fail
    go_ret
    refine ⟨?_, (Below.refl _ w).alloc (Nat.le_refl _) _⟩
    have := H.out
    rw [HB.out]; simp [tidyB, this]
  · have a0 := beqT (b := 0) (a := ver) (by omega)
    have a1 := beqT (b := 112) (a := codec) (by omega)
    have a2 := beqT (b := 18) (a := code) (by omega)
    have a3 := beqT (b := 32) (a := dg.size) (by omega)
    have H := Lib.hid (And.intro h1 (And.intro h2 (And.intro h3 h4)))
    clear h1 h2 h3 h4
    go_enter Tryz.func11, Tryz.ntmps11
    go_wp2_with fail
    go_ret
    refine ⟨?_, (Below.refl _ w).alloc (Nat.le_refl _) _⟩
    have := H.out
    rw [HB.out]; simp [tidyB, this]
  · have a0 := beqF (b := 0) (a := ver) (by omega)
    have a1 := beqF (b := 1) (a := ver) (by omega)
    have H := Lib.hid (And.intro h1 h2)
    clear h1 h2
    go_enter Tryz.func11, Tryz.ntmps11
    go_wp2_with fail
    go_ret
    refine ⟨?_, (Below.refl _ w).alloc (Nat.le_refl _) _⟩
    have := H.out
    rw [HB.out]; simp [tidyB, this]
  · have a0 := beqF (b := 0) (a := ver) (by omega)
    have a1 := beqT (b := 1) (a := ver) (by omega)
    have a2 : ¬ ((codec : Int) < 9223372036854775808) := by omega
    have H := Lib.hid (And.intro h1 h2)
    clear h1 h2
    go_enter Tryz.func11, Tryz.ntmps11
    go_wp2_with fail
    go_ret
    refine ⟨?_, (Below.refl _ w).alloc (Nat.le_refl _) _⟩
    have := H.out
    rw [HB.out]; simp [tidyB, this]
  · have a0 := beqF (b := 0) (a := ver) (by omega)
    have a1 := beqT (b := 1) (a := ver) (by omega)
    have a2 : (codec : Int) < 9223372036854775808 := by omega
    have a3 : ¬ ((code : Int) < 9223372036854775808) := by omega
    have H := Lib.hid (And.intro h1 (And.intro h2 h3))
    clear h1 h2 h3
    go_enter Tryz.func11, Tryz.ntmps11
    go_wp2_with fail
    go_ret
    refine ⟨?_, (Below.refl _ w).alloc (Nat.le_refl _) _⟩
    have := H.out
    rw [HB.out]; simp [tidyB, this]
  · have a0 := beqF (b := 0) (a := ver) (by omega)
    have a1 := beqT (b := 1) (a := ver) (by omega)
    have a2 : (codec : Int) < 9223372036854775808 := by omega
    have a3 : (code : Int) < 9223372036854775808 := by omega
    have H := Lib.hid (And.intro h1 (And.intro h2 h3))
    clear h1 h2 h3
    go_enter Tryz.func11, Tryz.ntmps11
    go_wp2_with fail
    go_ret
    refine ⟨?_, (Below.refl _ w).alloc (Nat.le_refl _) _⟩
    have := H.out
    rw [HB.out]; simp [tidyB, this]

set_option maxRecDepth 100000 in
theorem zzFits1_any (ver codec code : Nat) (dg : ByteArray) (w : World) :
    Calls Tryz.prog 19 #[cidV ver codec code dg] w fun e w' => e = .returned (.bool (decide (dg.size ≤ 2147483647))) ∧ Below w.heap.size w w' := by
  by_cases h : dg.size ≤ 2147483647
  · have h2 : ¬ (2147483647 < (dg.size : Int)) := by omega
    rw [show decide (dg.size ≤ 2147483647) = true from by simpa using h]
    clear h
    go_enter Tryz.func19, Tryz.ntmps19
    go_wp2_with fail
    go_ret
    exact ⟨rfl, (Below.refl _ w).alloc (Nat.le_refl _) _⟩
  · have h2 : (2147483647 < (dg.size : Int)) := by omega
    rw [show decide (dg.size ≤ 2147483647) = false from by simpa using h]
    clear h
    go_enter Tryz.func19, Tryz.ntmps19
    go_wp2_with fail
    go_ret
    exact ⟨rfl, (Below.refl _ w).alloc (Nat.le_refl _) _⟩
end Go.Proofs.YthmhnknkidkdlaaGreatDoor
namespace Go.Proofs.YthmhnknkidkdlaaGreatDoor
open Go.RowKit

theorem ok_of_tidy {e : Ent} (h : true = tidyB e.ver e.codec e.code e.dg.size) (hz : e.dg.size ≤ 200) (ho : e.off < 18446744073709551616) : e.ok := by
  have hl : e.dg.data.toList.length = e.dg.size := by rw [Array.length_toList]; rfl
  refine ⟨?_, by omega, ho⟩
  unfold tidyB at h
  by_cases h0 : e.ver = 0
  · rw [if_pos h0] at h
    simp only [Bool.and_eq_true, beq_iff_eq, eq_comm (a := true)] at h
    exact Or.inl ⟨h0, h.1.1, h.1.2, by omega⟩
  · rw [if_neg h0] at h
    simp only [Bool.and_eq_true, beq_iff_eq, decide_eq_true_eq, eq_comm (a := true)] at h
    exact Or.inr ⟨h.1.1, h.1.2, h.2⟩

end Go.Proofs.YthmhnknkidkdlaaGreatDoor
namespace Go.Proofs.YthmhnknkidkdlaaGreatDoor
open Go.RowKit

end Go.Proofs.YthmhnknkidkdlaaGreatDoor
namespace Go.Proofs.YthmhnknkidkdlaaGreatDoor
open Go.RowKit

end Go.Proofs.YthmhnknkidkdlaaGreatDoor
namespace Go.Proofs.YthmhnknkidkdlaaGreatDoor
open Go.RowKit Go.Sort

end Go.Proofs.YthmhnknkidkdlaaGreatDoor
namespace Go.Proofs.YthmhnknkidkdlaaGreatDoor
open Go.RowKit Go.Sort

end Go.Proofs.YthmhnknkidkdlaaGreatDoor
namespace Go.Proofs.YthmhnknkidkdlaaGreatDoor
open Go.RowKit Go.Sort Go.Lib

section
variable {α : Type} [Inhabited α] {g gs : Nat} {lb sb : Array Value} {lt : α → α → Bool} {N B : Nat} {At : Array α → World → Prop}
end
end Go.Proofs.YthmhnknkidkdlaaGreatDoor
namespace Go.Proofs.YthmhnknkidkdlaaGreatDoor
open Go.RowKit Go.Sort Go.Lib

section
variable {α : Type} [Inhabited α] {g gs : Nat} {lb sb : Array Value} {lt : α → α → Bool} {N B : Nat} {At : Array α → World → Prop}
end
end Go.Proofs.YthmhnknkidkdlaaGreatDoor
namespace Go.Proofs.YthmhnknkidkdlaaGreatDoor
open Go.Sort

variable {α : Type} [Inhabited α]
end Go.Proofs.YthmhnknkidkdlaaGreatDoor
namespace Go.Proofs.YthmhnknkidkdlaaGreatDoor
open Go.Sort

variable {α : Type} [Inhabited α] {lt : α → α → Bool}
end Go.Proofs.YthmhnknkidkdlaaGreatDoor
namespace Go.Proofs.YthmhnknkidkdlaaGreatDoor
open Go.Sort

variable {α : Type} [Inhabited α] {lt : α → α → Bool}
end Go.Proofs.YthmhnknkidkdlaaGreatDoor
namespace Go.Proofs.YthmhnknkidkdlaaGreatDoor
open Go.RowKit Go.Sort Go.Lib

section
variable {α : Type} [Inhabited α] {g gs : Nat} {lb sb : Array Value} {lt : α → α → Bool} {N B : Nat} {At : Array α → World → Prop}
end
end Go.Proofs.YthmhnknkidkdlaaGreatDoor
namespace Go.Proofs.YthmhnknkidkdlaaGreatDoor
open Go.RowKit Go.Sort Go.Lib

section
variable {α : Type} [Inhabited α] {g gs : Nat} {lb sb : Array Value} {lt : α → α → Bool} {N B : Nat} {At : Array α → World → Prop}
end
end Go.Proofs.YthmhnknkidkdlaaGreatDoor
namespace Go.Proofs.YthmhnknkidkdlaaGreatDoor
open Go.Sort

variable {α : Type} [Inhabited α] {lt : α → α → Bool}
end Go.Proofs.YthmhnknkidkdlaaGreatDoor
