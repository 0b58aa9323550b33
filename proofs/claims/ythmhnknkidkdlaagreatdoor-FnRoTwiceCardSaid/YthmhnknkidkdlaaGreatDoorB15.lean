/-
  recordSet: a row of digests with their offsets: its methods; sorted by sort.Sort.
  singleWidthIndex.Less.
  sort.Search over a closure that leaves all old blocks as they were.
  bytes.Equal; the closure of singleWidthIndex.getAll.
  What multiWidthIndex.Load gathers: of each width of digests a row of records of its own.
  (No condition beyond those that each theorem states.)
-/
import Derived.Test.YthmhnknkidkdlaaGreatDoorProg
import Derived.Test.YthmhnknkidkdlaaGreatDoorB02
import Derived.Test.YthmhnknkidkdlaaGreatDoorB14
import Derived.Lib.Bytealg
import Derived.Laws.Externs
import Derived.Deep.MidRow
import Derived.Deep.RegionHeld3
import Derived.Deep.QuietTactic
import Derived.Deep.RegionWith
import Derived.WalkSpells
import Derived.Shelf.Abstract
import Derived.Deep.LoopGhost
import Derived.LoopTactic
import Derived.IntWalk
import Derived.Laws.IdiomStrings
import Derived.Laws.BytesString
import Derived.Test.YthmhnknkidkdlaaGreatDoorB03
import Derived.Test.YthmhnknkidkdlaaGreatDoorB04
namespace Go.Proofs.YthmhnknkidkdlaaGreatDoor
open Go.RowKit

/-- Bytes read by the library's body-less functions. -/
theorem run_loadBytes {P : Program} (w : World) (b : Nat) : ∀ (l : List UInt8) (o : Nat) (acc : ByteArray), Seg w b o l →
    ∃ r : ByteArray, (Extern.Bytes.loadBytes ⟨b, o, none⟩ l.length acc).run P w = .ok r w ∧ r.data.toList = acc.data.toList ++ l
  | [], o, acc, _ => ⟨acc, rfl, by simp⟩
  | x :: l, o, acc, h => by
    have h0 := h 0 (by simp)
    simp only [Nat.add_zero, List.getElem_cons_zero] at h0
    have h1 : Seg w b (o + 1) l := by simpa using h.drop 1 (by simp)
    obtain ⟨r, hr, he⟩ := run_loadBytes (P := P) w b l (o + 1) (acc.push x) h1
    refine ⟨r, ?_, by rw [he]; simp [ByteArray.push]⟩
    have hx : (x.toNat : Int).toNat.toUInt8 = x := by simp
    have hload : (load ⟨b, o, none⟩).run P w = .ok (.int .u8 (x.toNat : Int)) w := by simp [load, Sem.run, h0]
    show (Extern.Bytes.loadBytes ⟨b, o, none⟩ (l.length + 1) acc).run P w = _
    unfold Extern.Bytes.loadBytes
    rw [Sem.run_bind, hload]
    simp only [Result.andThen, hx]
    rw [add_plain]
    exact hr

/-- A slice value that reads as the bytes l in w. -/
def DgIn (w : World) (v : Value) (l : List UInt8) : Prop := ∃ (A : Option Addr) (C b o : Nat), v = .slice A l.length C ∧ (0 < l.length → A = some ⟨b, o, none⟩) ∧ Seg w b o l
theorem DgIn.bytes {P : Program} {w : World} {v : Value} {l : List UInt8} (h : DgIn w v l) : ∃ r : ByteArray, (Extern.Bytes.bytesOf v).run P w = .ok r w ∧ r.data.toList = l := by
  obtain ⟨A, C, b, o, rfl, hA, hs⟩ := h
  rcases Nat.eq_zero_or_pos l.length with h0 | h0
  · obtain rfl : l = [] := List.eq_nil_of_length_eq_zero h0
    cases A with
    | none => exact ⟨ByteArray.empty, rfl, rfl⟩
    | some a => exact ⟨ByteArray.empty, rfl, rfl⟩
  · rw [hA h0]
    obtain ⟨r, hr, he⟩ := run_loadBytes (P := P) w b l o ByteArray.empty hs
    exact ⟨r, hr, by simpa using he⟩

theorem DgIn.off0 {w w' : World} {v : Value} {l : List UInt8} (h : DgIn w v l) (ho : Off [] w w') : DgIn w' v l := by
  obtain ⟨A, C, b, o, h1, h2, h3⟩ := h
  exact ⟨A, C, b, o, h1, h2, h3.off ho (by simp)⟩
theorem compare_lt : ∀ (a b : List UInt8), (Lib.compareBytes a b < 0) ↔ a < b
  | [], [] => by simp [Lib.compareBytes]
  | [], _ :: _ => by simp [Lib.compareBytes]
  | _ :: _, [] => by simp [Lib.compareBytes]
  | x :: a, y :: b => by
    simp only [Lib.compareBytes, List.cons_lt_cons_iff]
    split
    · rename_i h; simp [h]
    · rename_i h
      split
      · rename_i h2
        have : x ≠ y := fun e => by subst e; exact h h2
        simp [h, this]
      · rename_i h2
        have e : x = y := UInt8.le_antisymm (UInt8.not_lt.1 h2) (UInt8.not_lt.1 h)
        simp [e, compare_lt a b]

set_option maxRecDepth 100000 in
set_option maxHeartbeats 1000000 in
theorem bytesCompare_any (v1 v2 : Value) (l1 l2 : List UInt8) (w : World) (h1 : DgIn w v1 l1) (h2 : DgIn w v2 l2) :
    Calls Tryz.prog 281 #[v1, v2] w fun e w' => e = .returned (.int .i64 (Lib.compareBytes l1 l2)) ∧ w' = w := by
  obtain ⟨r1, hr1, e1⟩ := h1.bytes (P := Tryz.prog)
  obtain ⟨r2, hr2, e2⟩ := h2.bytes (P := Tryz.prog)
  have hx : (Extern.BytealgCompare.compare #[v1, v2]).run Tryz.prog w = .ok (.int .i64 (Lib.compareBytes l1 l2)) w := by
    change Sem.run Tryz.prog (do pure (goInt (Extern.BytealgCompare.cmp (← Extern.Bytes.bytesOf v1) (← Extern.Bytes.bytesOf v2)))) w = _
    rw [Sem.run_bind, hr1]
    simp only [Result.andThen]
    rw [Sem.run_bind, hr2]
    simp only [Result.andThen, Sem.run_pure, goInt, Lib.cmp_eq, e1, e2]
  have hc : (callFunc 282 #[v1, v2]).run Tryz.prog w = .ok (.value (.int .i64 (Lib.compareBytes l1 l2))) w := by
    rw [run_callFunc_extern Tryz.func282 (by kernel_rfl) (by kernel_rfl) (by kernel_rfl) (e := Extern.BytealgCompare.compare) (by kernel_rfl), hx]
    rfl
  go_enter Tryz.func281, Tryz.ntmps281
  go_wp2
  go_ret
  exact ⟨rfl, rfl⟩

/-- A digest with its offset, as it lies in a row. -/
structure DR where
  v : Value
  d : List UInt8
  off : Nat
instance : Inhabited DR := ⟨⟨undef, [], 0⟩⟩
def DR.cells (r : DR) : List Value := [r.v, .int .u64 (r.off : Int)]
def flat2 (l : List DR) : List Value := l.flatMap DR.cells
theorem flat2_length (l : List DR) : (flat2 l).length = l.length * 2 := by
  induction l with
  | nil => rfl
  | cons a l ih => simp only [flat2, List.flatMap_cons, List.length_append, List.length_cons] at ih ⊢; rw [ih]; simp [DR.cells]; omega
theorem flat2_append (a b : List DR) : flat2 (a ++ b) = flat2 a ++ flat2 b := by simp [flat2]
theorem flat2_get (l : List DR) (i : Nat) (h : i < l.length) : (flat2 l)[i * 2]? = some l[i].v ∧ (flat2 l)[i * 2 + 1]? = some (.int .u64 (l[i].off : Int)) := by
  have hs : l = l.take i ++ (l[i] :: l.drop (i + 1)) := by rw [← List.drop_eq_getElem_cons h, List.take_append_drop]
  have hp : (flat2 (l.take i)).length = i * 2 := by rw [flat2_length, List.length_take]; omega
  have e : flat2 l = flat2 (l.take i) ++ (l[i].v :: .int .u64 (l[i].off : Int) :: flat2 (l.drop (i + 1))) := by
    conv => lhs; rw [hs, flat2_append]
    rfl
  rw [e]
  constructor
  · rw [List.getElem?_append_right (by omega), hp]; simp
  · rw [List.getElem?_append_right (by omega), hp]; simp
theorem blk_set2 {w : World} {g : Nat} {t : TypeId} (l : List DR) (sp : List Value) (i : Nat) (hi : i < l.length) (r : DR) (h : Blk w g t (flat2 l ++ sp).toArray) :
    Blk ((w.setCell ⟨g, i * 2, none⟩ r.v).setCell ⟨g, i * 2 + 1, none⟩ (.int .u64 (r.off : Int))) g t (flat2 (l.set i r) ++ sp).toArray := by
  have hs : l = l.take i ++ (l[i] :: l.drop (i + 1)) := by rw [← List.drop_eq_getElem_cons hi, List.take_append_drop]
  have hp : (flat2 (l.take i)).length = i * 2 := by rw [flat2_length, List.length_take]; omega
  have e1 : flat2 l ++ sp = flat2 (l.take i) ++ (l[i].cells ++ (flat2 (l.drop (i + 1)) ++ sp)) := by
    conv => lhs; rw [hs, flat2_append]
    simp only [flat2, List.flatMap_cons, List.append_assoc]
  have e2 : flat2 (l.set i r) ++ sp = flat2 (l.take i) ++ (r.cells ++ (flat2 (l.drop (i + 1)) ++ sp)) := by
    rw [List.set_eq_take_append_cons_drop, if_pos hi, flat2_append]
    simp [flat2]
  rw [e1] at h
  rw [e2]
  exact Blk.setCells r.cells (i * 2) w _ l[i].cells _ hp rfl h

/-- What a digest's slice needs to be read whatever is done to block g: it lies in another old block of w0. -/
def RdR (w0 : World) (g : Nat) (r : DR) : Prop := ∃ (A : Option Addr) (C b o : Nat), r.v = .slice A r.d.length C ∧ (0 < r.d.length → A = some ⟨b, o, none⟩ ∧ b < w0.heap.size ∧ b ≠ g) ∧ Seg w0 b o r.d
theorem RdR.dg {w0 w : World} {g : Nat} {r : DR} (h : RdR w0 g r) (ho : Off [g] w0 w) : DgIn w r.v r.d := by
  obtain ⟨A, C, b, o, hv, hA, hs⟩ := h
  refine ⟨A, C, b, o, hv, fun h0 => (hA h0).1, ?_⟩
  by_cases h0 : 0 < r.d.length
  · exact ho.seg hs (by simp; exact (hA h0).2.2)
  · have : r.d = [] := List.eq_nil_of_length_eq_zero (by omega)
    rw [this]
    exact Seg.nil

/-- The row in block g, of N digests and what lies behind them. -/
structure RowAt (w0 : World) (g : Nat) (sp : List Value) (N : Nat) (d : Array DR) (w : World) : Prop where
  off : Off [g] w0 w
  blk : Blk w g 313 (flat2 d.toList ++ sp).toArray
  size : d.size = N
  rd : ∀ r, r ∈ d.toList → RdR w0 g r

def ltDR (a b : DR) : Bool := Sort.ltStr a.d b.d
theorem get_list {α : Type} [Inhabited α] (d : Array α) (i : Nat) (hi : i < d.size) : d[i]! = d.toList[i]'(by simpa using hi) := by
  rw [getElem!_pos d i hi]; simp

set_option maxRecDepth 100000 in
set_option maxHeartbeats 1000000 in
theorem rsLen_any (A : Option Addr) (n c : Nat) (w : World) : Calls Tryz.prog 278 #[.slice A n c] w fun e w' => e = .returned (.int .i64 n) ∧ w = w' := by
  go_enter Tryz.func278, Tryz.ntmps278
  go_wp2
  go_ret
  exact ⟨rfl, rfl⟩

set_option maxRecDepth 100000 in
set_option maxHeartbeats 2000000 in
theorem rsLess_any (g n c : Nat) (w : World) (i j : Nat) (hi : i < n) (hj : j < n) (v1 v2 : Value) (l1 l2 : List UInt8) (hc1 : w.cell? ⟨g, i * 2, none⟩ = some v1) (hc2 : w.cell? ⟨g, j * 2, none⟩ = some v2) (h1 : DgIn w v1 l1) (h2 : DgIn w v2 l2) :
    Calls Tryz.prog 279 #[.slice (some ⟨g, 0, none⟩) n c, .int .i64 i, .int .i64 j] w fun e w' => e = .returned (.bool (Sort.ltStr l1 l2)) ∧ Drew w w' := by
  obtain ⟨A1, C1, b1, o1, rfl, _⟩ := id h1
  obtain ⟨A2, C2, b2, o2, rfl, _⟩ := id h2
  have HC : Hid (∀ W, Drew w W → Calls Tryz.prog 281 #[.slice A1 l1.length C1, .slice A2 l2.length C2] W fun e w' => e = .returned (.int .i64 (Lib.compareBytes l1 l2)) ∧ w' = W) := fun W hW => by
    obtain ⟨q, rfl⟩ := hW
    exact bytesCompare_any _ _ l1 l2 _ h1 h2
  have hlt : decide (Lib.compareBytes l1 l2 < 0) = Sort.ltStr l1 l2 := by
    unfold Sort.ltStr
    exact decide_eq_decide.2 (compare_lt l1 l2)
  have HLT := Lib.hid hlt
  have hii : (i : Int) < (n : Int) := by omega
  have hjj : (j : Int) < (n : Int) := by omega
  have hi0 : (0 : Int) ≤ (i : Int) := by omega
  have hj0 : (0 : Int) ≤ (j : Int) := by omega
  clear h1 h2 hlt
  go_enter Tryz.func279, Tryz.ntmps279
  go_wp2
  go_region_held3 (fun w' => Drew w w' ∧ w'.cell? ⟨g, i * 2, none⟩ = some (.slice A1 l1.length C1) ∧ w'.cell? ⟨g, j * 2, none⟩ = some (.slice A2 l2.length C2))
    (first | (exact ⟨Drew.refl _, hc1, hc2⟩) | (exact ⟨Drew.one _, hc1, hc2⟩)) (first | (go_at_call 281; refine (HC.out _ (by repeat' (first | exact Drew.refl _ | exact Drew.one _ | refine Drew.more ?_ 1))).mono ?_; rintro e w1 ⟨rfl, rfl⟩))
  all_goals go_wp2
  all_goals go_ret
  all_goals exact ⟨by rw [← HLT.out]; rfl, by repeat' (first | exact Drew.refl _ | exact Drew.one _ | refine Drew.more ?_ 1)⟩

set_option maxRecDepth 100000 in
set_option maxHeartbeats 4000000 in
theorem rsSwap_any (g n c : Nat) (w : World) (i j : Nat) (hi : i < n) (hj : j < n) (x y : DR) (hx0 : w.cell? ⟨g, i * 2, none⟩ = some x.v) (hx1 : w.cell? ⟨g, i * 2 + 1, none⟩ = some (.int .u64 (x.off : Int))) (hy0 : w.cell? ⟨g, j * 2, none⟩ = some y.v) (hy1 : w.cell? ⟨g, j * 2 + 1, none⟩ = some (.int .u64 (y.off : Int)))
    (hf : ∀ k, w.frozen? ⟨g, k, none⟩ = false) (hxv : ∃ A l C, x.v = .slice A l C) (hyv : ∃ A l C, y.v = .slice A l C) :
    Calls Tryz.prog 280 #[.slice (some ⟨g, 0, none⟩) n c, .int .i64 i, .int .i64 j] w fun e w' => e = .returned (.tuple #[]) ∧
      Drew ((((w.setCell ⟨g, i * 2, none⟩ y.v).setCell ⟨g, i * 2 + 1, none⟩ (.int .u64 (y.off : Int))).setCell ⟨g, j * 2, none⟩ x.v).setCell ⟨g, j * 2 + 1, none⟩ (.int .u64 (x.off : Int))) w' := by
  obtain ⟨A1, l1, C1, ex⟩ := hxv
  obtain ⟨A2, l2, C2, ey⟩ := hyv
  rw [ex] at hx0 ⊢
  rw [ey] at hy0 ⊢
  have hii : (i : Int) < (n : Int) := by omega
  have hjj : (j : Int) < (n : Int) := by omega
  have hi0 : (0 : Int) ≤ (i : Int) := by omega
  have hj0 : (0 : Int) ≤ (j : Int) := by omega
  have fi0 := hf (i * 2); have fi1 := hf (i * 2 + 1); have fj0 := hf (j * 2); have fj1 := hf (j * 2 + 1)
  obtain ⟨u1, s1⟩ := cell?_setCell_some (w := w) (p := ⟨g, i * 2, none⟩) (x := .slice A2 l2 C2) (q := ⟨g, i * 2 + 1, none⟩) hx1
  obtain ⟨u2, s2⟩ := cell?_setCell_some (w := w) (p := ⟨g, i * 2, none⟩) (x := .slice A2 l2 C2) (q := ⟨g, j * 2, none⟩) hy0
  obtain ⟨u3, s3⟩ := cell?_setCell_some (w := w.setCell ⟨g, i * 2, none⟩ (.slice A2 l2 C2)) (p := ⟨g, i * 2 + 1, none⟩) (x := .int .u64 (y.off : Int)) (q := ⟨g, j * 2, none⟩) s2
  obtain ⟨u4, s4⟩ := cell?_setCell_some (w := w) (p := ⟨g, i * 2, none⟩) (x := .slice A2 l2 C2) (q := ⟨g, j * 2 + 1, none⟩) hy1
  obtain ⟨u5, s5⟩ := cell?_setCell_some (w := w.setCell ⟨g, i * 2, none⟩ (.slice A2 l2 C2)) (p := ⟨g, i * 2 + 1, none⟩) (x := .int .u64 (y.off : Int)) (q := ⟨g, j * 2 + 1, none⟩) s4
  obtain ⟨u6, s6⟩ := cell?_setCell_some (w := (w.setCell ⟨g, i * 2, none⟩ (.slice A2 l2 C2)).setCell ⟨g, i * 2 + 1, none⟩ (.int .u64 (y.off : Int))) (p := ⟨g, j * 2, none⟩) (x := .slice A1 l1 C1) (q := ⟨g, j * 2 + 1, none⟩) s5
  clear hf ex ey
  go_enter Tryz.func280, Tryz.ntmps280
  go_wp2
  go_region
  all_goals (try go_wp2)
  all_goals go_end0
  all_goals exact ⟨rfl, 1, rfl⟩

/-- What stands at place i of a row. -/
theorem RowAt.at {w0 w : World} {g N : Nat} {sp : List Value} {d : Array DR} (h : RowAt w0 g sp N d w) (i : Nat) (hi : i < N) :
    w.cell? ⟨g, i * 2, none⟩ = some d[i]!.v ∧ w.cell? ⟨g, i * 2 + 1, none⟩ = some (.int .u64 (d[i]!.off : Int)) ∧ RdR w0 g d[i]! := by
  have hs := h.size
  have hl : i < d.toList.length := by simp; omega
  have he := get_list d i (by omega)
  obtain ⟨h1, h2⟩ := flat2_get d.toList i hl
  have hlen := flat2_length d.toList
  refine ⟨?_, ?_, h.rd _ (by rw [he]; exact List.getElem_mem _)⟩
  · rw [h.blk.cell, he]
    show (flat2 d.toList ++ sp).toArray[i * 2]? = _
    rw [List.getElem?_toArray, List.getElem?_append_left (by omega)]; exact h1
  · rw [h.blk.cell, he]
    show (flat2 d.toList ++ sp).toArray[i * 2 + 1]? = _
    rw [List.getElem?_toArray, List.getElem?_append_left (by omega)]; exact h2
theorem rdR_slice {w0 : World} {g : Nat} {r : DR} (h : RdR w0 g r) : ∃ A l C, r.v = .slice A l C := by obtain ⟨A, C, b, o, hv, _⟩ := h; exact ⟨A, _, C, hv⟩
theorem swp_toList (d : Array DR) (i j : Nat) (_hi : i < d.size) (_hj : j < d.size) : (Sort.swp d i j).toList = (d.toList.set i d[j]!).set j d[i]! := by simp [Sort.swp]

theorem srt_row (w0 : World) (g n c : Nat) (sp : List Value) (_hn : n < 4611686018427387904) (hg : g < w0.heap.size) :
    Srt (lt := ltDR) 315 (.slice (some ⟨g, 0, none⟩) n c) 279 280 n w0.heap.size (RowAt w0 g sp n) where
  size h := h.size
  room h := h.off.size
  fresh h ho hS := ⟨h.off.then ho (fun x hx => Or.inr (hS x hx)), h.blk.off ho (fun hx => by have := hS _ hx; omega), h.size, h.rd⟩
  mLess w := by kernel_rfl
  mSwap w := by kernel_rfl
  eLess args w := enters_of Tryz.func279 (by kernel_rfl) rfl args w
  eSwap args w := enters_of Tryz.func280 (by kernel_rfl) rfl args w
  less {d w} i j h hi hj := by
    obtain ⟨c1, _, r1⟩ := h.at i hi
    obtain ⟨c2, _, r2⟩ := h.at j hj
    exact rsLess_any g n c w i j hi hj _ _ _ _ c1 c2 (r1.dg h.off) (r2.dg h.off)
  swap {d w} i j h hi hj := by
    obtain ⟨c1, c1', r1⟩ := h.at i hi
    obtain ⟨c2, c2', r2⟩ := h.at j hj
    have hs := h.size
    refine (rsSwap_any g n c w i j hi hj d[i]! d[j]! c1 c1' c2 c2' (fun k => h.blk.frozen k) (rdR_slice r1) (rdR_slice r2)).mono ?_
    rintro e w' ⟨he, hD⟩
    have hb := blk_set2 (d.toList.set i d[j]!) sp j (by simp; omega) d[i]! (blk_set2 d.toList sp i (by simp; omega) d[j]! h.blk)
    refine ⟨he, ⟨?_, ?_, by rw [Sort.size_swp]; exact hs, ?_⟩, ?_⟩
    · exact (((((h.off.setCell (p := ⟨g, _, none⟩) (Or.inl (List.mem_singleton.2 rfl)) _).setCell (p := ⟨g, _, none⟩) (Or.inl (List.mem_singleton.2 rfl)) _).setCell (p := ⟨g, _, none⟩) (Or.inl (List.mem_singleton.2 rfl)) _).setCell (p := ⟨g, _, none⟩) (Or.inl (List.mem_singleton.2 rfl)) _).then (Off.ofDrew (S := []) hD) (fun x hx => by simp at hx))
    · rw [swp_toList d i j (by omega) (by omega)]
      exact hD.blk hb
    · intro r hr
      rw [swp_toList d i j (by omega) (by omega)] at hr
      rcases List.mem_or_eq_of_mem_set hr with hr | rfl
      · rcases List.mem_or_eq_of_mem_set hr with hr | rfl
        · exact h.rd r hr
        · exact r2
      · exact r1
    · obtain ⟨q, rfl⟩ := hD
      refine ⟨by simp [World.setCell], fun k hk => ?_⟩
      have hne : ∀ o, k ≠ (⟨g, o, none⟩ : Addr).block := fun o e => by have : k = g := e; omega
      show (((((_ : World).setCell _ _).setCell _ _).setCell _ _).setCell _ _).heap[k]? = _
      rw [Below.heap_setCell _ _ _ k (hne _), Below.heap_setCell _ _ _ k (hne _), Below.heap_setCell _ _ _ k (hne _), Below.heap_setCell _ _ _ k (hne _)]
end Go.Proofs.YthmhnknkidkdlaaGreatDoor
namespace Go.Proofs.YthmhnknkidkdlaaGreatDoor
open Go.RowKit

end Go.Proofs.YthmhnknkidkdlaaGreatDoor
namespace Go.Proofs.YthmhnknkidkdlaaGreatDoor
open Go.RowKit

end Go.Proofs.YthmhnknkidkdlaaGreatDoor
namespace Go.Proofs.YthmhnknkidkdlaaGreatDoor
open Go.RowKit

end Go.Proofs.YthmhnknkidkdlaaGreatDoor
namespace Go.Proofs.YthmhnknkidkdlaaGreatDoor
open Go.RowKit Go.Maps

def ints (K : List Nat) : List Int := K.map fun m : Nat => (m : Int)
/-- A map whose keys are numbers from 0 up. -/
def MpN (P : Program) (k : TypeId) (q : IntKind) (w : World) (b n : Nat) (K : List Nat) (V : Nat → Value) : Prop := Mp P k q w b n (ints K) (fun x => V x.toNat)
theorem mem_mapN {K : List Nat} {m : Nat} : ((m : Int) ∈ ints K) ↔ m ∈ K := by
  simp only [ints, List.mem_map]
  exact ⟨fun ⟨a, ha, e⟩ => by have : a = m := by omega
                              rw [← this]; exact ha, fun h => ⟨m, h, rfl⟩⟩
theorem MpN.stored {P : Program} {k : TypeId} {q : IntKind} {w : World} {b n m : Nat} {K : List Nat} {V : Nat → Value} {u : Value}
    (h : Mp P k q w b n (if (m : Int) ∈ ints K then ints K else ints K ++ [(m : Int)]) (fun y => if y = (m : Int) then u else V y.toNat)) :
    MpN P k q w b n (if m ∈ K then K else K ++ [m]) (fun j => if j = m then u else V j) := by
  have hk : (if (m : Int) ∈ ints K then ints K else ints K ++ [(m : Int)]) = ints (if m ∈ K then K else K ++ [m]) := by
    by_cases hm : m ∈ K
    · rw [if_pos (mem_mapN.2 hm), if_pos hm]
    · rw [if_neg (fun e => hm (mem_mapN.1 e)), if_neg hm]; simp [ints]
  rw [hk] at h
  refine h.congr fun x hx => ?_
  obtain ⟨j, _, rfl⟩ := List.mem_map.1 hx
  simp only [Int.toNat_natCast]
  by_cases hj : j = m
  · subst hj; simp
  · rw [if_neg hj, if_neg (by omega)]
theorem MpN.off {P : Program} {k : TypeId} {q : IntKind} {w w' : World} {b n : Nat} {K : List Nat} {V : Nat → Value} {S : List Nat} (h : MpN P k q w b n K V) (ho : Off S w w') (hb : b ∉ S) : MpN P k q w' b n K V := Mp.off h ho hb
theorem MpN.mono {P : Program} {k : TypeId} {q : IntKind} {w : World} {b n n' : Nat} {K : List Nat} {V : Nat → Value} (h : MpN P k q w b n K V) (hn : n ≤ n') : MpN P k q w b n' K V := Mp.mono h hn
theorem MpN.congr {P : Program} {k : TypeId} {q : IntKind} {w : World} {b n : Nat} {K : List Nat} {V V' : Nat → Value} (h : MpN P k q w b n K V) (he : ∀ j, j ∈ K → V' j = V j) : MpN P k q w b n K V' :=
  Mp.congr h fun x hx => by obtain ⟨j, hj, rfl⟩ := List.mem_map.1 hx; simp [he j hj]
theorem MpN.nodup {P : Program} {k : TypeId} {q : IntKind} {w : World} {b n : Nat} {K : List Nat} {V : Nat → Value} (h : MpN P k q w b n K V) : K.Nodup :=
  (List.pairwise_map.1 (show (ints K).Pairwise (· ≠ ·) from Mp.nodup h)).imp fun hne e => hne (by rw [e])

/-- An entry: its identifier's bytes, hash function, digest, its offset. -/
structure It where
  s : ByteArray
  code : Nat
  d : List UInt8
  off : Nat
def It.rw (it : It) : Rw := ⟨it.d, it.off⟩
def DR.rw (r : DR) : Rw := ⟨r.d, r.off⟩
structure It.ok (it : It) : Prop where
  cid : IsCid it.s.data.toList it.code it.d
  off : it.off < 18446744073709551616
  small : it.d.length ≤ 1000

/-- Records in memory. -/
structure ItemsAt (w : World) (A : Option Addr) (ib io : Nat) (its : List It) : Prop where
  at_ : 0 < its.length → A = some ⟨ib, io, none⟩ ∧ ib < w.heap.size
  cells : ∀ i (h : i < its.length), w.cell? ⟨ib, io + i * 2, none⟩ = some (.string its[i].s) ∧ w.cell? ⟨ib, io + i * 2 + 1, none⟩ = some (.int .u64 (its[i].off : Int))
theorem ItemsAt.off {w w' : World} {A : Option Addr} {ib io : Nat} {its : List It} {S : List Nat} (h : ItemsAt w A ib io its) (ho : Off S w w') (hS : 0 < its.length → ib ∉ S) : ItemsAt w' A ib io its := by
  refine ⟨fun h0 => ⟨(h.at_ h0).1, Nat.lt_of_lt_of_le (h.at_ h0).2 ho.size⟩, fun i hi => ?_⟩
  have h0 : 0 < its.length := by omega
  have hb := ho.block ib (h.at_ h0).2 (hS h0)
  obtain ⟨h1, h2⟩ := h.cells i hi
  exact ⟨by rw [World.cell?_of_block (a := ⟨ib, io + i * 2, none⟩) hb]; exact h1, by rw [World.cell?_of_block (a := ⟨ib, io + i * 2 + 1, none⟩) hb]; exact h2⟩

/-- What is gathered of the entries its: the widths K, at each a row of its own (block G, records R) of just the entries of that width. -/
structure Gath (w wr : World) (mb : Nat) (its : List It) (K : List Nat) (V : Nat → Value) (G : Nat → Nat) (R : Nat → List DR) : Prop where
  off : Off [] w wr
  hmb : w.heap.size = mb
  mp : MpN Tryz.prog 3 .i64 wr mb (2 * its.length) K V
  mem : ∀ n, n ∈ K ↔ ∃ it, it ∈ its ∧ it.d.length = n
  row : ∀ n, n ∈ K → ∃ cap sp, V n = .slice (some ⟨G n, 0, none⟩) (R n).length cap ∧ (R n).length ≤ cap ∧ cap ≤ maxLen ∧ sp.length + (R n).length * 2 = cap * 2 ∧ Blk wr (G n) 313 (flat2 (R n) ++ sp).toArray ∧ w.heap.size < G n
  inj : ∀ m, m ∈ K → ∀ n, n ∈ K → G m = G n → m = n
  rows : ∀ n, n ∈ K → (R n).map DR.rw = (its.filter fun it => it.d.length == n).map It.rw
  rd : ∀ n, n ∈ K → ∀ r, r ∈ R n → ∃ (A : Option Addr) (C b o : Nat), r.v = .slice A r.d.length C ∧ (0 < r.d.length → A = some ⟨b, o, none⟩ ∧ w.heap.size < b ∧ b < wr.heap.size ∧ ∀ m, m ∈ K → b ≠ G m) ∧ Seg wr b o r.d

/-- One entry more. -/
theorem Gath.step {w wr w6 : World} {mb : Nat} {its : List It} {K : List Nat} {V : Nat → Value} {G : Nat → Nat} {R : Nat → List DR} (h : Gath w wr mb its K V G R) (it : It) (r : DR) (hrd : r.d = it.d) (hro : r.off = it.off)
    (g' cap' : Nat) (sp' : List Value) (b o : Nat) (A : Option Addr) (C : Nat) (hoff : Off (if it.d.length ∈ K then [mb, G it.d.length] else [mb]) wr w6)
    (hmp : MpN Tryz.prog 3 .i64 w6 mb (2 * (its ++ [it]).length) (if it.d.length ∈ K then K else K ++ [it.d.length]) (fun j => if j = it.d.length then .slice (some ⟨g', 0, none⟩) ((if it.d.length ∈ K then R it.d.length else []) ++ [r]).length cap' else V j))
    (hblk : Blk w6 g' 313 (flat2 ((if it.d.length ∈ K then R it.d.length else []) ++ [r]) ++ sp').toArray) (hcap : ((if it.d.length ∈ K then R it.d.length else []) ++ [r]).length ≤ cap') (hcm : cap' ≤ maxLen) (hsp : sp'.length + ((if it.d.length ∈ K then R it.d.length else []) ++ [r]).length * 2 = cap' * 2)
    (hg' : (it.d.length ∈ K ∧ g' = G it.d.length) ∨ wr.heap.size ≤ g') (hgb : b ≠ g') (hv : r.v = .slice A r.d.length C) (hA : 0 < r.d.length → A = some ⟨b, o, none⟩) (hb1 : wr.heap.size ≤ b) (hb2 : 0 < r.d.length → b < w6.heap.size) (hseg : Seg w6 b o r.d) (hmbw : mb < wr.heap.size) :
    Gath w w6 mb (its ++ [it]) (if it.d.length ∈ K then K else K ++ [it.d.length]) (fun j => if j = it.d.length then .slice (some ⟨g', 0, none⟩) ((if it.d.length ∈ K then R it.d.length else []) ++ [r]).length cap' else V j)
      (fun j => if j = it.d.length then g' else G j) (fun j => if j = it.d.length then (if it.d.length ∈ K then R it.d.length else []) ++ [r] else R j) := by
  have hmb := h.hmb
  have hws := h.off.size
  have hG : ∀ n, n ∈ K → G n < wr.heap.size := fun n hn => by obtain ⟨_, _, _, _, _, _, hb, _⟩ := h.row n hn; exact hb.lt
  have hGw : ∀ n, n ∈ K → w.heap.size < G n := fun n hn => by obtain ⟨_, _, _, _, _, _, _, hb⟩ := h.row n hn; exact hb
  have hK' : ∀ n, n ∈ (if it.d.length ∈ K then K else K ++ [it.d.length]) ↔ n ∈ K ∨ n = it.d.length := fun n => by
    by_cases hm : it.d.length ∈ K
    · rw [if_pos hm]
      exact ⟨Or.inl, fun hx => by rcases hx with hx | rfl; exact hx; exact hm⟩
    · rw [if_neg hm]; simp
  have hfar : ∀ k, k < wr.heap.size → k ≠ mb → (it.d.length ∈ K → k ≠ G it.d.length) → k ∉ (if it.d.length ∈ K then [mb, G it.d.length] else [mb]) := fun k _ h1 h2 => by
    by_cases hm : it.d.length ∈ K
    · rw [if_pos hm]; simp; exact ⟨h1, h2 hm⟩
    · rw [if_neg hm]; simp; exact h1
  refine ⟨?_, hmb, hmp, ?_, ?_, ?_, ?_, ?_⟩
  · refine h.off.then hoff (fun x hx => Or.inr ?_)
    by_cases hm : it.d.length ∈ K
    · rw [if_pos hm] at hx
      simp at hx
      rcases hx with rfl | rfl
      · omega
      · have := hGw _ hm; omega
    · rw [if_neg hm] at hx
      simp at hx; omega
  · intro n
    rw [hK', h.mem]
    constructor
    · rintro (⟨x, hx, rfl⟩ | rfl)
      · exact ⟨x, List.mem_append.2 (Or.inl hx), rfl⟩
      · exact ⟨it, by simp, rfl⟩
    · rintro ⟨x, hx, rfl⟩
      rcases List.mem_append.1 hx with hx | hx
      · exact Or.inl ⟨x, hx, rfl⟩
      · simp at hx; subst hx; exact Or.inr rfl
  · intro n hn
    by_cases he : n = it.d.length
    · subst he
      simp only [if_true]
      exact ⟨cap', sp', rfl, hcap, hcm, hsp, hblk, by rcases hg' with ⟨hm, e⟩ | hg; have := hGw _ hm; omega; omega⟩
    · simp only [if_neg he]
      have hn' : n ∈ K := by rcases (hK' n).1 hn with hx | hx; exact hx; exact absurd hx he
      obtain ⟨cap, sp, e1, e2, e3, e4, hb, e6⟩ := h.row n hn'
      exact ⟨cap, sp, e1, e2, e3, e4, hb.off hoff (hfar _ (hG n hn') (by omega) (fun hm e => he (h.inj _ hn' _ hm e))), e6⟩
  · intro m hm n hn hmn
    by_cases h1 : m = it.d.length
    · by_cases h2 : n = it.d.length
      · rw [h1, h2]
      · have hn' : n ∈ K := by rcases (hK' n).1 hn with hx | hx; exact hx; exact absurd hx h2
        simp only [if_pos h1, if_neg h2] at hmn
        rcases hg' with ⟨hk, e⟩ | hg
        · exact absurd (h.inj _ hn' _ hk (by rw [← e, hmn])) h2
        · have := hG n hn'; omega
    · have hm' : m ∈ K := by rcases (hK' m).1 hm with hx | hx; exact hx; exact absurd hx h1
      by_cases h2 : n = it.d.length
      · simp only [if_neg h1, if_pos h2] at hmn
        rcases hg' with ⟨hk, e⟩ | hg
        · exact absurd (h.inj _ hm' _ hk (by rw [hmn, e])) h1
        · have := hG m hm'; omega
      · simp only [if_neg h1, if_neg h2] at hmn
        have hn' : n ∈ K := by rcases (hK' n).1 hn with hx | hx; exact hx; exact absurd hx h2
        exact h.inj _ hm' _ hn' hmn
  · intro n hn
    by_cases he : n = it.d.length
    · subst he
      simp only [if_true, List.filter_append, List.map_append]
      by_cases hm : it.d.length ∈ K
      · rw [if_pos hm, h.rows _ hm]
        simp [DR.rw, It.rw, hrd, hro]
      · rw [if_neg hm]
        have h0 : (its.filter fun x => x.d.length == it.d.length) = [] := List.filter_eq_nil_iff.2 fun x hx e => hm ((h.mem _).2 ⟨x, hx, by simpa using e⟩)
        rw [h0]
        simp [DR.rw, It.rw, hrd, hro]
    · simp only [if_neg he]
      have hn' : n ∈ K := by rcases (hK' n).1 hn with hx | hx; exact hx; exact absurd hx he
      rw [h.rows n hn', List.filter_append]
      have : (it.d.length == n) = false := beq_eq_false_iff_ne.2 (fun e => he e.symm)
      simp [this]
  · intro n hn x hx
    have old : ∀ m, m ∈ K → x ∈ R m → ∃ (A : Option Addr) (C b o : Nat), x.v = .slice A x.d.length C ∧ (0 < x.d.length → A = some ⟨b, o, none⟩ ∧ w.heap.size < b ∧ b < w6.heap.size ∧ ∀ j, j ∈ (if it.d.length ∈ K then K else K ++ [it.d.length]) → b ≠ (if j = it.d.length then g' else G j)) ∧ Seg w6 b o x.d := fun m hm hxm => by
      obtain ⟨A', C', b', o', e1, e2, e3⟩ := h.rd m hm x hxm
      by_cases h0 : 0 < x.d.length
      · obtain ⟨f1, f2, f3, f4⟩ := e2 h0
        refine ⟨A', C', b', o', e1, fun _ => ⟨f1, f2, Nat.lt_of_lt_of_le f3 hoff.size, fun j hj => ?_⟩, e3.off hoff (hfar _ f3 (by omega) (fun hk => f4 _ hk))⟩
        by_cases hj' : j = it.d.length
        · rw [if_pos hj']
          rcases hg' with ⟨hk, e⟩ | hg
          · rw [e]; exact f4 _ hk
          · omega
        · rw [if_neg hj']
          rcases (hK' j).1 hj with hx' | hx'
          · exact f4 _ hx'
          · exact absurd hx' hj'
      · have : x.d = [] := List.eq_nil_of_length_eq_zero (by omega)
        exact ⟨A', C', b', o', e1, fun h1 => absurd h1 h0, by rw [this]; exact Seg.nil⟩
    by_cases he : n = it.d.length
    · subst he
      simp only [if_true] at hx
      rcases List.mem_append.1 hx with hx | hx
      · by_cases hm : it.d.length ∈ K
        · rw [if_pos hm] at hx
          exact old _ hm hx
        · rw [if_neg hm] at hx; simp at hx
      · simp at hx
        subst hx
        refine ⟨A, C, b, o, hv, fun h0 => ⟨hA h0, by omega, hb2 h0, fun j hj => ?_⟩, hseg⟩
        by_cases hj' : j = it.d.length
        · rw [if_pos hj']; exact hgb
        · rw [if_neg hj']
          rcases (hK' j).1 hj with hx' | hx'
          · have := hG j hx'; omega
          · exact absurd hx' hj'
    · simp only [if_neg he] at hx
      have hn' : n ∈ K := by rcases (hK' n).1 hn with hx' | hx'; exact hx'; exact absurd hx' he
      exact old n hn' hx
end Go.Proofs.YthmhnknkidkdlaaGreatDoor
