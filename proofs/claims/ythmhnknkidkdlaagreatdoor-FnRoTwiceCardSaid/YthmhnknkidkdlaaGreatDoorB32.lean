/-
  symMerge_func over a row of the caller's: both runs have two elements or more.
  stable_func over a row of the caller's: a sorted permutation.
  stable_func at no element or one: nothing is asked of less or of swap.
  sort.SliceStable over a row of entries with spec.ByDigest's closure: a sorted permutation, at every length.
  spec.ByDigest: the entries, sorted by digests, then by offsets; a row of its own.
  spec.Varint at the index codes.
  spec.sortedBytes: entries' rows by width, each width's rows sorted by digests, behind what is there.
  An index by hash functions out of each function's groups, in plain words.
  spec.IndexBody: an index without its code.
  The bytes of an index are one, where no two entries of a bucket have one digest. No program is named here.
  spec.Rows, the plain part: rows of spec.Row, groups of entries.
  SlickReaderStream.Readn at 1 to 4096 bytes: a row of their own.
  The CBOR decoder at a link: a tag, and bytes behind it.
  (No condition beyond those that each theorem states.)
-/
import Derived.Test.YthmhnknkidkdlaaGreatDoorB31
import Derived.Deep.DeepCutAuto
import Derived.Test.YthmhnknkidkdlaaGreatDoorB14
import Derived.Test.YthmhnknkidkdlaaGreatDoorB04
import Derived.Lib.Varint
import Derived.Lib.AppendStr
import Derived.Test.YthmhnknkidkdlaaGreatDoorB06
import Derived.Test.YthmhnknkidkdlaaGreatDoorB07
import Derived.Test.YthmhnknkidkdlaaGreatDoorB13
namespace Go.Proofs.YthmhnknkidkdlaaGreatDoor
open Go.RowKit Go.Sort Go.Lib

section
variable {α : Type} [Inhabited α] {g gs : Nat} {lb sb : Array Value} {lt : α → α → Bool} {N B : Nat} {At : Array α → World → Prop}
end
end Go.Proofs.YthmhnknkidkdlaaGreatDoor
namespace Go.Proofs.YthmhnknkidkdlaaGreatDoor
open Go.RowKit Go.Sort Go.Lib

section
variable {α : Type} [Inhabited α] {g gs : Nat} {lb sb : Array Value} {lt : α → α → Bool} {N B : Nat} {At : Array α → World → Prop}
end
end Go.Proofs.YthmhnknkidkdlaaGreatDoor
namespace Go.Proofs.YthmhnknkidkdlaaGreatDoor
open Go.RowKit Go.Sort Go.Lib

end Go.Proofs.YthmhnknkidkdlaaGreatDoor
namespace Go.Proofs.YthmhnknkidkdlaaGreatDoor
open Go.RowKit Go.Sort Go.Lib

end Go.Proofs.YthmhnknkidkdlaaGreatDoor
namespace Go.Proofs.YthmhnknkidkdlaaGreatDoor
open Go.RowKit Go.Sort Go.Lib

section
variable {P : Program} {ops : Array Oper} {rest : List Oper} {o : Oper} {a : Act} {Q : Exit → Act → World → Prop}
end

end Go.Proofs.YthmhnknkidkdlaaGreatDoor
namespace Go.Proofs.YthmhnknkidkdlaaGreatDoor
open Go.RowKit
end Go.Proofs.YthmhnknkidkdlaaGreatDoor
namespace Go.Proofs.YthmhnknkidkdlaaGreatDoor
open Go.RowKit Go.Sort

section
variable {P : Program} {ops : Array Oper} {o : Oper} {a : Act} {Q : Exit → Act → World → Prop}
end

end Go.Proofs.YthmhnknkidkdlaaGreatDoor
namespace Go.Proofs.YthmhnknkidkdlaaGreatDoor
open Go.RowKit

end Go.Proofs.YthmhnknkidkdlaaGreatDoor
namespace Go.Proofs.YthmhnknkidkdlaaGreatDoor
open Go.RowKit Go.Sort

theorem row8_conv {W : World} {B : Nat} {v : Value} {l : List UInt8} (h : Row8 W B v l) (h0 : 0 < l.length) : (convert 47 9 v).run Tryz.prog W = .ok (.string (str l)) W := by
  rcases id h.2 with ⟨rfl, h1⟩ | ⟨g, cap, cur, rfl, hg, hgg, rest⟩
  · have : l.length = 0 := h1
    omega
  · refine run_convert_seg Tryz.underlying47 Tryz.underlying5 Tryz.underlying9 cap (fun i hi => ?_)
    have h2 := World.ownsRow.cells h (g := g) rfl i (.int .u8 (l[i].toNat : Int)) (by simp [Lib.byteCells, List.getElem?_eq_getElem hi])
    rw [add_plain] at h2
    exact h2
end Go.Proofs.YthmhnknkidkdlaaGreatDoor
namespace Go.Proofs.YthmhnknkidkdlaaGreatDoor

theorem asc_unique {A B : List Nat} (hA : A.Pairwise (· < ·)) (hB : B.Pairwise (· < ·)) (h : ∀ x, x ∈ A ↔ x ∈ B) : A = B :=
  List.Perm.eq_of_pairwise (le := fun a b => a < b) (fun a b _ _ h1 h2 => by omega) hA hB ((List.perm_ext_iff_of_nodup (nodup_asc hA) (nodup_asc hB)).2 h)

end Go.Proofs.YthmhnknkidkdlaaGreatDoor
namespace Go.Proofs.YthmhnknkidkdlaaGreatDoor
open Go.RowKit Go.Sort

theorem own_off {w w' : World} {B e s n : Nat} {v : Value} {xs : List Value} {S : List Nat} (h : w.ownsRow B e s v n xs) (ho : Off S w w') (hS : ∀ x, x ∈ ob v → x ∉ S) : w'.ownsRow B e s v n xs := by
  refine ⟨h.1, ?_⟩
  rcases id h.2 with hn | ⟨g, cap, cur, rfl, hg, hgg, rest⟩
  · exact .inl hn
  · exact .inr ⟨g, cap, cur, rfl, hg, by rw [ho.block g (Array.getElem?_eq_some_iff.1 hgg).1 (hS g (by simp [ob, Value.ownBlock]))]; exact hgg, rest⟩
theorem own_base {w : World} {B e s n : Nat} {v : Value} {xs : List Value} (h : w.ownsRow B e s v n xs) : ∀ x, x ∈ ob v → B ≤ x := fun x hx => by
  rcases id h.2 with ⟨rfl, _⟩ | ⟨g, cap, cur, rfl, hg, hgg, rest⟩
  · simp [ob, Value.ownBlock] at hx
  · simp [ob, Value.ownBlock] at hx
    omega
/-- Blocks of different types are two. -/
theorem own_ne_blk {w : World} {B e s n : Nat} {v : Value} {xs : List Value} {g : Nat} {t : TypeId} {cs : Array Value} (h : w.ownsRow B e s v n xs) (hb : Blk w g t cs) (ht : t ≠ e) : g ∉ ob v := fun hx => by
  rcases id h.2 with ⟨rfl, _⟩ | ⟨k, cap, cur, rfl, hg, hgg, rest⟩
  · simp [ob, Value.ownBlock] at hx
  · simp [ob, Value.ownBlock] at hx
    subst hx
    have e := Option.some.inj (hgg.symm.trans hb)
    injection e with _ e2 _
    exact ht e2.symm
theorem own_shape {w : World} {B e size n : Nat} {v : Value} {xs : List Value} (h : w.ownsRow B e size v n xs) : ∃ A b c, v = .slice A n c ∧ (A = none → n = 0 ∧ c = 0) ∧ (0 < n → A = some ⟨b, 0, none⟩ ∧ b ∈ ob v ∧ b < w.heap.size ∧ ∀ j u, xs[j]? = some u → w.cell? ⟨b, j, none⟩ = some u) := by
  rcases id h.2 with ⟨rfl, h0⟩ | ⟨g, cap, cur, rfl, hg, hgg, rest⟩
  · exact ⟨none, 0, 0, by rw [h0], fun _ => ⟨h0, rfl⟩, fun hn => by omega⟩
  · refine ⟨some ⟨g, 0, none⟩, g, cap, rfl, (fun h => by cases h), fun _ => ⟨rfl, by simp [ob, Value.ownBlock], (Array.getElem?_eq_some_iff.1 hgg).1, fun j u hu => ?_⟩⟩
    have h2 := World.ownsRow.cells h (g := g) rfl j u hu
    rw [add_plain, Nat.zero_add] at h2
    exact h2

end Go.Proofs.YthmhnknkidkdlaaGreatDoor
namespace Go.Proofs.YthmhnknkidkdlaaGreatDoor
open Go.RowKit

section
variable {S T R b n cap i k : Nat} {l : List UInt8} {m : Int} {w : World}

/-- What Readn leaves: k bytes in a row of their own. -/
def Got (w : World) (S T R b n cap i k : Nat) (l : List UInt8) (m : Int) (g c : Nat) (w' : World) : Prop :=
  w.heap.size ≤ g ∧ g < w'.heap.size ∧ k ≤ c ∧ Seg w' g 0 ((l.drop i).take k) ∧ Chain w' S T R b n cap (i + k) l (m + k) ∧ Off [S, T, R] w w'

set_option maxRecDepth 100000 in
set_option maxHeartbeats 1000000 in
theorem readn_small (h : Chain w S T R b n cap i l m) (hk0 : 0 < k) (hk : k < 32) (hik : i + k ≤ n) (hm : 0 ≤ m) (hm2 : m < 4611686018427387904) :
    Calls Tryz.prog 263 #[.pointer (some ⟨S, 0, none⟩), .int .i64 k] w fun e w' => ∃ g c, e = .returned (.tuple #[.slice (some ⟨g, 0, none⟩) k c, .nilIface]) ∧ Got w S T R b n cap i k l m g c w' := by
  obtain ⟨i0, hi, hz0, hz1, hz2⟩ := info_parts Tryz.infoByte
  have hb1 : decide ((k : Int) < 32) = true := by simp; omega
  have hb2 : (k : Int) < 32 := by omega
  have hkl : ((l.drop i).take k).length = k := by have := h.len; simp; omega
  have HKL := Lib.hid hkl
  have HN := Lib.hid (show S < w.heap.size ∧ T < w.heap.size ∧ R < w.heap.size ∧ b < w.heap.size from by
    obtain ⟨sc, _, hs⟩ := h.ss
    obtain ⟨x, y, z, _, ht⟩ := h.ts
    obtain ⟨p, hp⟩ := h.rd
    exact ⟨Blk.lt hs, Blk.lt ht, Blk.lt hp, h.seg.lt (by have := h.len; omega)⟩)
  have HC := Lib.hid (readnPartial_ok S T R b n cap i k l m w h hk0 hk hik hm hm2)
  have HE := Lib.hid (show 1 < w.heap.size from by obtain ⟨q, hq⟩ := h.eof; exact World.block_lt_of_cell? _ _ hq)
  clear h hkl
  go_enter Tryz.func263, Tryz.ntmps263
  go_wp2_with fail
  refine HC.out.mono ?_
  rintro e w1 ⟨rfl, hseg1, hC1, hO1⟩
  have HG1 := Lib.hid hseg1
  have HC1 := Lib.hid hC1
  have HO1 := Lib.hid hO1
  clear hseg1 hC1 hO1
  go_wp2_with (first
    | (at_builtin
       refine wpList_append_own_at _ rfl _ _ 47 rfl w1.heap.size 5 i0 _ 1 1 Tryz.underlying47 hi hz0 hz1 hz2 rfl (by decide) (.slice none 0 0) 0 [] rfl (World.ownsRow_nil _ _ _ _) ⟨S, 1, none⟩ k 32 (Lib.byteCells ((l.drop i).take k)) rfl (by rw [Lib.byteCells_length, HKL.out, Nat.mul_one]) HG1.out.cells (byteCells_one _) (by unfold maxLen; omega) (by omega) (Nat.le_refl _) ?_
       intro v5 w5 hown5 hgr hnil hat
       have HO5 := Lib.hid hown5
       have HG5 := Lib.hid hgr
       have HA5 := Lib.hid hat
       clear hown5 hgr hnil hat))
  go_ret2
  obtain ⟨g, cp, cur, rfl, hg, hgg, hcp, hmx, hsz, htk⟩ : ∃ g cap cur, v5 = .slice (some ⟨g, 0, none⟩) (0 + k) cap ∧ w1.heap.size ≤ g ∧ w5.heap[g]? = some (.cells cur 5 (0, 0)) ∧ 0 + k ≤ cap ∧ cap ≤ maxLen ∧ cur.size = cap * 1 ∧ cur.toList.take ((0 + k) * 1) = [] ++ Lib.byteCells ((l.drop i).take k) := by
    rcases HO5.out.2 with ⟨_, h0⟩ | h0
    · omega
    · exact h0
  have hz1 := HO1.out.size
  have hOf : Off [] w1 w5 := off_grown_own (S := []) HG5.out (fun x hx => by simp [Value.ownBlock] at hx)
  have hgl : g < w5.heap.size := (Array.getElem?_eq_some_iff.1 hgg).1
  obtain ⟨n1, n2, n3, n4⟩ := HN.out
  refine ⟨g, cp, by first | rfl | simp, by omega, hgl, by omega, ?_, HC1.out.off hOf ⟨by simp, by simp, by simp, by simp, by simp⟩, HO1.out.then hOf (fun x hx => by simp at hx)⟩
  have htk2 : cur.toList.take k = Lib.byteCells ((l.drop i).take k) := by
    rw [Nat.zero_add, Nat.mul_one] at htk
    simpa using htk
  have hcur : cur = (Lib.byteCells ((l.drop i).take k) ++ cur.toList.drop k).toArray := by
    rw [← htk2, List.take_append_drop]
  refine Blk.seg (post := cur.toList.drop k) (t := 5) ?_
  rw [← hcur]
  exact hgg

theorem Chain.count (h : Chain w S T R b n cap i l m) (m' : Int) : Chain (w.setCell ⟨S, 33, none⟩ (.int .i64 m')) S T R b n cap i l m' := by
  obtain ⟨sc, hl, hs⟩ := h.ss
  obtain ⟨x, y, z, hy, ht⟩ := h.ts
  obtain ⟨p, hp⟩ := h.rd
  have hO : Off [S] w (w.setCell ⟨S, 33, none⟩ (.int .i64 m')) := (Off.refl [S] w).setCell (p := ⟨S, 33, none⟩) (Or.inl (by simp)) _
  have hes := h.es
  exact { h with ss := ⟨sc, hl, hs.count hl m'⟩, ts := ⟨x, y, z, hy, ht.far (p := ⟨S, 33, none⟩) h.ts' _⟩, rd := ⟨p, Blk.far hp (p := ⟨S, 33, none⟩) h.rs _⟩, seg := hO.seg h.seg (ni1 h.sb.symm), eof := h.eof.off hO (ni1 (by omega)) }

theorem readN_g (g : Nat) (W : World) (hW : Drew w W) (h : Chain w S T R b n cap i l m) (hg : Blk w g 5 (zeroBytes k).toArray) (h1 : g ≠ S) (h2 : g ≠ T) (h3 : g ≠ R) (h4 : g ≠ b) (h5 : 1 ≠ g) (hk0 : 0 < k) (hik : i + k ≤ n) :
    Calls Tryz.prog 270 #[.pointer (some ⟨T, 0, none⟩), .slice (some ⟨g, 0, none⟩) k k] W fun e w' => e = .returned (.tuple #[.int .i64 k, .nilIface]) ∧ Chain w' S T R b n cap (i + k) l m ∧ Blk w' g 5 (Lib.byteCells ((l.drop i).take k)).toArray ∧ Off [T, R, g] w w' := by
  have hh := h.drew hW
  obtain ⟨sc, hl, hs⟩ := hh.ss
  obtain ⟨x, y, z, hy, ht⟩ := hh.ts
  obtain ⟨p, hp⟩ := hh.rd
  have her := h.er
  have het := h.et
  have hes := h.es
  refine (tRead T R g 0 k k b n cap i k p x y z l (zeroBytes k) _ W hh.len ht hy hp hh.seg (hW.blk hg) hh.rb hh.rt h3.symm h2.symm (by omega) (by show k = min (n - i) k; omega) hk0 (by rw [zeroBytes_length]; omega) hh.big hh.cap hh.eof (by omega) (by omega) h5).mono ?_
  rintro e w' ⟨rfl, ⟨x', hT⟩, hR, hG, hO⟩
  have hbl : (Lib.byteCells ((l.drop i).take k)).length = k := by rw [Lib.byteCells_length]; have := hh.len; simp; omega
  have es : splice (zeroBytes k) 0 (Lib.byteCells ((l.drop i).take k)) = Lib.byteCells ((l.drop i).take k) := by
    have hcl := zeroBytes_length k
    simp only [splice]
    rw [hbl]
    simp [hcl]
  rw [es] at hG
  exact ⟨rfl, { hh with ss := ⟨sc, hl, hO.blk hs (ni3 hh.ts'.symm hh.rs.symm h1.symm)⟩, ts := ⟨x', 2, z, by decide, hT⟩, rd := ⟨-1, hR⟩, seg := hO.seg hh.seg (ni3 hh.tb.symm hh.rb.symm h4.symm), eof := hh.eof.off hO (ni3 (by omega) (by omega) h5) }, hG, (Off.ofDrew (S := []) hW).trans hO |>.mono (fun x h => by simp at h; rcases h with h | h | h <;> simp [h])⟩

set_option maxRecDepth 100000 in
set_option maxHeartbeats 2000000 in
theorem readnPartial_big (h : Chain w S T R b n cap i l m) (hk0 : 32 ≤ k) (hk : k ≤ 4096) (hik : i + k ≤ n) (hm : 0 ≤ m) (hm2 : m < 4611686018427387904) :
    Calls Tryz.prog 269 #[.pointer (some ⟨S, 0, none⟩), .int .i64 k] w fun e w' => ∃ g c, e = .returned (.tuple #[.slice (some ⟨g, 0, none⟩) k c, .nilIface]) ∧ Got w S T R b n cap i k l m g c w' := by
  obtain ⟨i0, hi, hz0, hz1, hz2⟩ := info_parts Tryz.infoByte
  have hmk := fun W => run_make0 (P := Tryz.prog) Tryz.underlying47 hi hz0 hz1 hz2 k (by omega) W
  have hn : S < w.heap.size ∧ T < w.heap.size ∧ R < w.heap.size ∧ b < w.heap.size ∧ 1 < w.heap.size := by
    obtain ⟨sc, _, hs⟩ := h.ss
    obtain ⟨x, y, z, _, ht⟩ := h.ts
    obtain ⟨p, hp⟩ := h.rd
    obtain ⟨q, hq⟩ := h.eof
    exact ⟨Blk.lt hs, Blk.lt ht, Blk.lt hp, h.seg.lt (by have := h.len; omega), World.block_lt_of_cell? _ _ hq⟩
  obtain ⟨n1, n2, n3, n4, n5⟩ := hn
  have hA : Off [] w (w.alloc (.cells (zeroBytes k).toArray 5)) := (Off.refl [] w).alloc _
  have hCA := h.off hA ⟨by simp, by simp, by simp, by simp, by simp⟩
  have HR := Lib.hid (fun W (hW : Drew (w.alloc (.cells (zeroBytes k).toArray 5)) W) => readAtLeast_ts T w.heap.size 0 k k W (fun w' => Chain w' S T R b n cap (i + k) l m ∧ Blk w' w.heap.size 5 (Lib.byteCells ((l.drop i).take k)).toArray ∧ Off [T, R, w.heap.size] (w.alloc (.cells (zeroBytes k).toArray 5)) w') (by omega) (Nat.le_refl _) (by omega) (fun W' hW' => readN_g w.heap.size W' (hW.trans hW') hCA (Blk.new w _ _) (by omega) (by omega) (by omega) (by omega) (by omega) (by omega) hik))
  obtain ⟨sc, hl, hs⟩ := hCA.ss
  obtain ⟨c0, -, -, -⟩ := hs.cells hl
  have HA := Lib.hid hA
  have hw1 : IntKind.i64.wrap (m + k) = m + k := by rw [IntKind.wrap_i64]; omega
  have hb0 : ((k : Int) == 0) = false := beq_eq_false_iff_ne.2 (by omega)
  have hb1 : ¬ ((k : Int) < 32) := by omega
  have hb2 : ¬ ((4096 : Int) < (k : Int)) := by omega
  have hb3 : (0 : Int) < (k : Int) := by omega
  have hlen := h.len
  clear h hs hA hCA
  go_enter Tryz.func269, Tryz.ntmps269
  go_wp2_with fail
  refine wp_loop_rounds 2 ?_
  rw [rounds_succ]
  go_wp2_with fail
  go_region_with (go_at_call 82; refine (HR.out _ (by repeat' (first | exact Drew.refl _ | refine Drew.step ?_))).mono ?_; rintro e w1 ⟨rfl, hC1, hB1, hO1⟩; obtain ⟨sc1, hl1, hs1⟩ := hC1.ss; obtain ⟨c0', c33, c34, c35⟩ := hs1.cells hl1; have f33 := Blk.frozen hs1 33; have HC1 := Lib.hid hC1; have HB1 := Lib.hid hB1; have HO1 := Lib.hid hO1; clear hC1 hB1 hO1 hs1)
  all_goals (go_wp2_with fail)
  all_goals (rw [rounds_succ])
  all_goals (go_wp2_with fail)
  all_goals go_ret2
  all_goals refine ⟨w.heap.size, k, rfl, Nat.le_refl _, ?_, Nat.le_refl _, ?_, HC1.out.count _, ?_⟩
  all_goals first
  | (have := HB1.out.lt; simp [World.setCell]; omega)
  | (exact ((Blk.seg' HB1.out)).setCell (p := ⟨S, 33, none⟩) (by simp; omega) _)
  | (exact ((HA.out.mono (S' := [S, T, R]) (fun x hx => by simp at hx)).then HO1.out (fun x hx => by simp at hx; rcases hx with rfl | rfl | rfl <;> simp)).setCell (p := ⟨S, 33, none⟩) (Or.inl (by simp)) _)

set_option maxRecDepth 100000 in
set_option maxHeartbeats 1000000 in
theorem readn_big (h : Chain w S T R b n cap i l m) (hk0 : 32 ≤ k) (hk : k ≤ 4096) (hik : i + k ≤ n) (hm : 0 ≤ m) (hm2 : m < 4611686018427387904) :
    Calls Tryz.prog 263 #[.pointer (some ⟨S, 0, none⟩), .int .i64 k] w fun e w' => ∃ g c, e = .returned (.tuple #[.slice (some ⟨g, 0, none⟩) k c, .nilIface]) ∧ Got w S T R b n cap i k l m g c w' := by
  have hb2 : ¬ ((k : Int) < 32) := by omega
  have HC := Lib.hid (readnPartial_big h hk0 hk hik hm hm2)
  clear h
  go_enter Tryz.func263, Tryz.ntmps263
  go_wp2_with fail
  refine HC.out.mono ?_
  rintro e w1 ⟨g, c, rfl, hG⟩
  have HG := Lib.hid hG
  clear hG
  go_wp2_with fail
  go_ret2
  exact ⟨g, c, rfl, HG.out⟩

theorem readn_any (h : Chain w S T R b n cap i l m) (hk0 : 0 < k) (hk : k ≤ 4096) (hik : i + k ≤ n) (hm : 0 ≤ m) (hm2 : m < 4611686018427387904) :
    Calls Tryz.prog 263 #[.pointer (some ⟨S, 0, none⟩), .int .i64 k] w fun e w' => ∃ g c, e = .returned (.tuple #[.slice (some ⟨g, 0, none⟩) k c, .nilIface]) ∧ Got w S T R b n cap i k l m g c w' := by
  rcases Nat.lt_or_ge k 32 with h1 | h1
  · exact readn_small h hk0 h1 hik hm hm2
  · exact readn_big h h1 hk hik hm hm2
end
end Go.Proofs.YthmhnknkidkdlaaGreatDoor
namespace Go.Proofs.YthmhnknkidkdlaaGreatDoor
open Go.RowKit

theorem method_readn (a : Addr) (w : World) : (method 480 234 (.pointer (some a)) "Readn").run Tryz.prog w = .ok (263, .pointer (some a)) w := by kernel_rfl

section
variable {A : DA} {Ks : List Nat} {w0 w w' : World} {ph : Int} {sn : Nat} {sa sb : Int} {ln : Nat} {la lb : Int} {i : Nat} {K : Nat}

/-- Some bytes in a row of their own, made since w. -/
def Row0 (w : World) (g c : Nat) (l : List UInt8) (w' : World) : Prop := w.heap.size ≤ g ∧ g < w'.heap.size ∧ l.length ≤ c ∧ Seg w' g 0 l

set_option maxRecDepth 100000 in
set_option maxHeartbeats 1000000 in
theorem d_bytes (h : DSt A Ks w0 ph sn sa sb ln la lb i w) (c v j : Nat) (hh : HdAt A.l i c v j) (hv0 : 0 < v) (hjv : j + v ≤ A.n) :
    Calls Tryz.prog 110 #[.pointer (some ⟨A.D, 0, none⟩), .int .u8 (c : Int)] w fun e w' => ∃ g cp, e = .returned (.tuple #[.slice (some ⟨g, 0, none⟩) v cp, .nilIface]) ∧ Row0 w g cp ((A.l.drop j).take v) w' ∧ DSt A Ks w0 ph sn sa sb ln la lb (j + v) w' ∧ Off [A.S, A.T, A.R] w w' := by
  have hv := hh.lt
  have hb1 : ¬ ((33554432 : Int) < (v : Int)) := by omega
  have hm1 := method_readn
  have hbig := h.chain.big
  have hlen := h.chain.len
  have hvl : ((A.l.drop j).take v).length = v := by simp; omega
  have HVL := Lib.hid hvl
  have HC := Lib.hid (d_len h c v j hh)
  have HR := Lib.hid (fun W (hW : DSt A Ks w0 ph sn sa sb ln la lb j W) => readn_any (k := v) hW.chain hv0 (by omega) hjv (by omega) (by omega))
  clear h hh hvl
  go_enter Tryz.func110, Tryz.ntmps110
  go_wp2_with fail
  refine HC.out.mono ?_
  rintro e w1 ⟨rfl, h3, h4⟩
  have d7 := h3.c7
  have H3 := Lib.hid h3
  have H4 := Lib.hid h4
  have HR1 := Lib.hid (HR.out w1 h3)
  clear h3 h4
  go_wp2_with fail
  refine HR1.out.mono ?_
  rintro e w2 ⟨g, cp, rfl, g1, g2, g3, g4, g5, g6⟩
  have G4 := Lib.hid g4
  have G5 := Lib.hid g5
  have G6 := Lib.hid g6
  clear g4 g5 g6
  go_wp2_with fail
  go_ret2
  have hz := H4.out.size
  refine ⟨g, cp, rfl, ⟨by omega, g2, by rw [HVL.out]; exact g3, G4.out⟩, H3.out.read (by rw [show ((j + v : Nat) : Int) = (j : Int) + v by omega]; exact G5.out) G6.out, H4.out.then G6.out (fun x hx => Or.inl hx)⟩

/-- A link's token before its bytes. -/
def tagTok : Array Value := tokCells 0 0 noBytes (.slice none 0 0) false 0 0 0 true 42

set_option maxRecDepth 100000 in
set_option maxHeartbeats 1000000 in
theorem d_byt (h : DSt A Ks w0 ph sn sa sb ln la lb i w) (hK : Blk w K 203 tagTok) (hf : A.Far K) (hk : K ∈ Ks ∨ w0.heap.size ≤ K) (c v j : Nat) (hh : HdAt A.l i c v j) (hv0 : 0 < v) (hjv : j + v ≤ A.n) (hc1 : 64 ≤ c) (hc2 : c < 95) :
    Calls Tryz.prog 101 #[.pointer (some ⟨A.D, 0, none⟩), .int .u8 (c : Int), .pointer (some ⟨K, 0, none⟩)] w fun e w' => ∃ g cp, e = .returned (.tuple #[.bool true, .nilIface]) ∧ Row0 w g cp ((A.l.drop j).take v) w' ∧ DSt A Ks w0 ph sn sa sb ln la lb (j + v) w' ∧ Blk w' K 203 (tokCells 120 0 noBytes (.slice (some ⟨g, 0, none⟩) v cp) false 0 0 0 true 42) := by
  obtain ⟨q1, q2, q3, q4, q5, q6, q7, q8, q9, q10, q11⟩ := sigils c (Or.inl hc2)
  have g1 : ¬ ((c : Int) < 32) := by omega
  have g2 : ¬ ((c : Int) < 64) := by omega
  have g3 : (c : Int) < 96 := by omega
  have g6 : (32 : Int) ≤ (c : Int) := by omega
  have g7 : (64 : Int) ≤ (c : Int) := by omega
  have k0 := hK.cell 0
  have kf0 := hK.frozen 0
  simp [tagTok, tokCells] at k0
  have hKl := hK.lt
  have HC := Lib.hid (d_bytes (h.tset hf hk 0 (.int .u8 120)) c v j hh hv0 hjv)
  have HK := Lib.hid hK
  have HF := Lib.hid hf
  clear h hK hf hh hc1 hc2
  go_enter Tryz.func101, Tryz.ntmps101
  go_wp2_with fail
  refine HC.out.mono ?_
  rintro e w1 ⟨g, cp, rfl, hr, h1, o1⟩
  have hK1 := o1.blk (HK.out.set_ 0 (.int .u8 120)) (ni3 HF.out.s HF.out.t HF.out.r)
  have k3 := hK1.cell 3
  have kf3 := hK1.frozen 3
  simp [tagTok, tokCells] at k3
  have HK1 := Lib.hid hK1
  have H1 := Lib.hid h1
  have HR1 := Lib.hid hr
  clear hK1 h1 o1 hr
  go_wp2_with fail
  go_ret2
  obtain ⟨r1, r2, r3, r4⟩ := HR1.out
  simp [World.setCell] at r1
  exact ⟨g, cp, rfl, ⟨r1, by simp [World.setCell]; exact r2, r3, r4.setCell (p := ⟨K, 3, none⟩) (by simp; omega) _⟩, H1.out.tset HF.out hk 3 _, HK1.out.set_ 3 _⟩

set_option maxRecDepth 100000 in
set_option maxHeartbeats 1000000 in
theorem d_link (h : DSt A Ks w0 ph sn sa sb ln la lb i w) (hK : Blk w K 203 zeroTok) (hf : A.Far K) (hk : K ∈ Ks ∨ w0.heap.size ≤ K) (ht : HdAt A.l i 216 42 (i + 1)) (c v j : Nat) (hb : (A.l[i + 1]?).map (·.toNat) = some c) (hh : HdAt A.l (i + 1 + 1) c v j) (hv0 : 0 < v) (hjv : j + v ≤ A.n) (hc1 : 64 ≤ c) (hc2 : c < 95) :
    Calls Tryz.prog 101 #[.pointer (some ⟨A.D, 0, none⟩), .int .u8 216, .pointer (some ⟨K, 0, none⟩)] w fun e w' => ∃ g cp, e = .returned (.tuple #[.bool true, .nilIface]) ∧ Row0 w g cp ((A.l.drop j).take v) w' ∧ DSt A Ks w0 ph sn sa sb ln la lb (j + v) w' ∧ Blk w' K 203 (tokCells 120 0 noBytes (.slice (some ⟨g, 0, none⟩) v cp) false 0 0 0 true 42) := by
  have k8 := hK.cell 8
  have kf8 := hK.frozen 8
  simp [zeroTok, tokCells] at k8
  have hm1 := method_readn1
  have HL := Lib.hid (d_len (h.tset hf hk 8 (.bool true)) 216 42 (i + 1) ht)
  have HK := Lib.hid hK
  have HF := Lib.hid hf
  clear h hK hf ht
  go_enter Tryz.func101, Tryz.ntmps101
  go_wp2_with fail
  refine HL.out.mono ?_
  rintro e w1 ⟨rfl, h1, o1⟩
  have hK1 := o1.blk (HK.out.set_ 8 (.bool true)) (ni3 HF.out.s HF.out.t HF.out.r)
  have k9 := hK1.cell 9
  have kf9 := hK1.frozen 9
  simp [zeroTok, tokCells] at k9
  have h2 := h1.tset HF.out hk 9 (.int .i64 42)
  have d7 := h2.c7
  have hK2 := hK1.set_ 9 (.int .i64 42)
  have z1 := o1.size
  simp [World.setCell] at z1
  have HK2 := Lib.hid hK2
  have HB := Lib.hid (h2.byte c hb)
  clear hK1 h1 o1 h2 hK2
  go_wp2_with fail
  refine HB.out.mono ?_
  rintro e w2 ⟨rfl, h3, o3⟩
  have hK3 : Blk w2 K 203 tagTok := o3.blk HK2.out (ni3 HF.out.s HF.out.t HF.out.r)
  have z2 := o3.size
  simp [World.setCell] at z2
  have HY := Lib.hid (d_byt h3 hK3 HF.out hk c v j hh hv0 hjv hc1 hc2)
  clear h3 o3 hK3
  go_wp2_with fail
  refine HY.out.mono ?_
  rintro e w3 ⟨g, cp, rfl, ⟨r1, r2, r3, r4⟩, h4, hK4⟩
  have R4 := Lib.hid r4
  have H4 := Lib.hid h4
  have HK4 := Lib.hid hK4
  clear r4 h4 hK4
  go_wp2_with fail
  go_ret2
  exact ⟨g, cp, rfl, ⟨by omega, r2, r3, R4.out⟩, H4.out, HK4.out⟩
end
end Go.Proofs.YthmhnknkidkdlaaGreatDoor
