/-
  Words for memory: a stretch of cells that reads as bytes; what keeps it. No program is named here.
  (No condition beyond those that each theorem states.)
-/
import Derived.WalkKit
import Derived.Lib.Hide
import Derived.Lib.Varint
import Derived.Lib.VarintMem
import Derived.Lib.VarintBits
import Derived.Lib.BitFns
import Derived.Deep.Draws
import Derived.Deep.Upon
import Derived.Laws.BytesArg
import Derived.Laws.IdiomStrings
import Derived.Laws.CopyOwn
namespace Go.Proofs.YthmhnknkidkdlaaGreatDoor
open Go.RowKit

/-- The cells from place o of block b on read as the bytes l. -/
def Seg (w : World) (b o : Nat) (l : List UInt8) : Prop := ∀ i (h : i < l.length), w.cell? ⟨b, o + i, none⟩ = some (.int .u8 (l[i].toNat : Int))

/-- Block g is just the cells cs, of type t, none frozen. -/
def Blk (w : World) (g : Nat) (t : TypeId) (cs : Array Value) : Prop := w.heap[g]? = some (.cells cs t (0, 0))

section
variable {w w' : World} {b o g : Nat} {l l1 l2 : List UInt8} {t : TypeId} {cs : Array Value}

theorem Seg.nil : Seg w b o [] := fun i h => by simp at h
theorem Seg.left (h : Seg w b o (l1 ++ l2)) : Seg w b o l1 := fun i hi => by
  have := h i (by simp; omega)
  rwa [List.getElem_append_left hi] at this
theorem Seg.right (h : Seg w b o (l1 ++ l2)) : Seg w b (o + l1.length) l2 := fun i hi => by
  have := h (l1.length + i) (by simp; omega)
  rw [List.getElem_append_right (by omega)] at this
  simpa [Nat.add_assoc] using this
theorem Seg.drop (h : Seg w b o l) (k : Nat) (hk : k ≤ l.length) : Seg w b (o + k) (l.drop k) := by
  have h2 : Seg w b o (l.take k ++ l.drop k) := by rw [List.take_append_drop]; exact h
  have := h2.right
  rwa [List.length_take, Nat.min_eq_left hk] at this
theorem Seg.take (h : Seg w b o l) (k : Nat) : Seg w b o (l.take k) := by
  have h2 : Seg w b o (l.take k ++ l.drop k) := by rw [List.take_append_drop]; exact h
  exact h2.left
theorem Seg.keep (h : Seg w b o l) (hk : ∀ p : Addr, p.block = b → w'.cell? p = w.cell? p) : Seg w' b o l := fun i hi => (hk _ rfl).trans (h i hi)
theorem Seg.below {B : Nat} (h : Seg w b o l) (hb : Below B w w') (hB : b < B) : Seg w' b o l := h.keep fun p hp => hb.cell (by rw [hp]; exact hB)
theorem Seg.drew (h : Seg w b o l) : Seg w.drew b o l := h
theorem Seg.lt (h : Seg w b o l) (hl : 0 < l.length) : b < w.heap.size := World.block_lt_of_cell? w _ (h 0 hl)
theorem Seg.alloc (h : Seg w b o l) (hb : b < w.heap.size) (ob : Obj) : Seg (w.alloc ob) b o l := h.keep fun p hp => World.cell?_alloc_lt w ob p (by omega)
theorem Seg.setCell (h : Seg w b o l) {p : Addr} (hp : p.block ≠ b) (u : Value) : Seg (w.setCell p u) b o l :=
  h.keep fun q hq => World.cell?_setCell_other w p q u (fun e => hp (by rw [e, hq]))
theorem Seg.cast (h : Seg w b o l) {o' : Nat} (e : o = o') : Seg w b o' l := e ▸ h
theorem Seg.of_block {fr : Nat × Nat} {cs : List Value} (h : w.heap[b]? = some (.cells cs.toArray t fr)) (hc : ∀ i (hi : i < l.length), cs[o + i]? = some (.int .u8 (l[i].toNat : Int))) : Seg w b o l := fun i hi => by
  rw [cell_of_row w b (o + i) _ t fr h]
  simpa using hc i hi
theorem Seg.of_bytes {fr : Nat × Nat} {post : List Value} (h : w.heap[b]? = some (.cells (Lib.byteCells l ++ post).toArray t fr)) : Seg w b 0 l :=
  Seg.of_block h fun i hi => by
    rw [Nat.zero_add, List.getElem?_append_left (by rw [Lib.byteCells_length]; exact hi)]
    simp [Lib.byteCells, List.getElem?_eq_getElem hi]

theorem Blk.lt (h : Blk w g t cs) : g < w.heap.size := by
  rcases Nat.lt_or_ge g w.heap.size with hlt | hge
  · exact hlt
  · unfold Blk at h; rw [Array.getElem?_eq_none hge] at h; cases h
theorem Blk.cell (h : Blk w g t cs) (i : Nat) : w.cell? ⟨g, i, none⟩ = cs[i]? := cell_of_row w g i cs t (0, 0) h
theorem Blk.frozen (h : Blk w g t cs) (i : Nat) : w.frozen? ⟨g, i, none⟩ = false := by
  unfold Blk at h
  simp [World.frozen?, h]
theorem Blk.new (w : World) (t : TypeId) (cs : Array Value) : Blk (w.alloc (.cells cs t)) w.heap.size t cs := heap_alloc_new w _
theorem size_alloc (w : World) (ob : Obj) : (w.alloc ob).heap.size = w.heap.size + 1 := by simp
theorem Blk.new' (w : World) (t : TypeId) (cs : Array Value) {g : Nat} (hg : g = w.heap.size) : Blk (w.alloc (.cells cs t)) g t cs := by rw [hg]; exact heap_alloc_new w _
theorem Blk.drew (h : Blk w g t cs) : Blk w.drew g t cs := h
theorem Blk.drewN (h : Blk w g t cs) (n : Nat) : Blk (w.drewN n) g t cs := h
theorem Blk.alloc (h : Blk w g t cs) (ob : Obj) : Blk (w.alloc ob) g t cs := (Below.heap_alloc w ob g h.lt).trans h
theorem Blk.set_ (h : Blk w g t cs) (i : Nat) (u : Value) : Blk (w.setCell ⟨g, i, none⟩ u) g t (cs.setIfInBounds i u) := by
  unfold Blk at h ⊢
  simp [World.setCell, Array.getElem?_modify, h]
theorem Blk.far (h : Blk w g t cs) {p : Addr} (hp : g ≠ p.block) (u : Value) : Blk (w.setCell p u) g t cs := (Below.heap_setCell w p u g hp).trans h
theorem Blk.below {B : Nat} (h : Blk w g t cs) (hb : Below B w w') (hg : g < B) : Blk w' g t cs := (hb.block g hg).trans h
theorem Blk.seg {post : List Value} (h : Blk w g t (Lib.byteCells l ++ post).toArray) : Seg w g 0 l := Seg.of_bytes (post := post) h
theorem Blk.seg' (h : Blk w g t (Lib.byteCells l).toArray) : Seg w g 0 l := Seg.of_bytes (post := []) (by rw [List.append_nil]; exact h)

/-- Nothing but draws lies between two worlds. -/
def Drew (w w' : World) : Prop := ∃ n, w.drewN n = w'
theorem Drew.refl (w : World) : Drew w w := ⟨0, rfl⟩
theorem Drew.one (w : World) : Drew w w.drew := ⟨1, rfl⟩
theorem Drew.drewN (w : World) (n : Nat) : Drew w (w.drewN n) := ⟨n, rfl⟩
theorem Drew.trans {a b c : World} (h : Drew a b) (k : Drew b c) : Drew a c := by
  obtain ⟨m, rfl⟩ := h
  obtain ⟨n, rfl⟩ := k
  exact ⟨m + n, (World.drewN_drewN ..).symm⟩
theorem Drew.more {a b : World} (h : Drew a b) (n : Nat) : Drew a (b.drewN n) := h.trans (Drew.drewN b n)
theorem Drew.below {a b : World} (h : Drew a b) (B : Nat) : Below B a b := by
  obtain ⟨n, rfl⟩ := h
  exact ⟨rfl, rfl, rfl, Nat.le_refl _, fun _ _ => rfl⟩
theorem Drew.size {a b : World} (h : Drew a b) : b.heap.size = a.heap.size := by obtain ⟨n, rfl⟩ := h; rfl
theorem Drew.seg {a b : World} (h : Drew a b) {g o : Nat} {l : List UInt8} (hs : Seg a g o l) : Seg b g o l := by obtain ⟨n, rfl⟩ := h; exact hs
theorem Drew.blk {a b : World} (h : Drew a b) {g : Nat} {t : TypeId} {cs : Array Value} (hs : Blk a g t cs) : Blk b g t cs := by obtain ⟨n, rfl⟩ := h; exact hs

theorem Blk.fill1 {a a' : Value} (h : Blk w g t #[a]) : Blk (w.setCell ⟨g, 0, none⟩ a') g t #[a'] := h.set_ 0 a'
theorem Blk.fill4 {a b c d a' b' c' d' : Value} (h : Blk w g t #[a, b, c, d]) :
    Blk ((((w.setCell ⟨g, 0, none⟩ a').setCell ⟨g, 1, none⟩ b').setCell ⟨g, 2, none⟩ c').setCell ⟨g, 3, none⟩ d') g t #[a', b', c', d'] := (((h.set_ 0 a').set_ 1 b').set_ 2 c').set_ 3 d'
theorem below_fill4 {B : Nat} {W : World} {a' b' c' d' : Value} (h : Below B W w) (hg : B ≤ g) : Below B W ((((w.setCell ⟨g, 0, none⟩ a').setCell ⟨g, 1, none⟩ b').setCell ⟨g, 2, none⟩ c').setCell ⟨g, 3, none⟩ d') :=
  (((h.setCell (p := ⟨g, 0, none⟩) hg a').setCell (p := ⟨g, 1, none⟩) hg b').setCell (p := ⟨g, 2, none⟩) hg c').setCell (p := ⟨g, 3, none⟩) hg d'
theorem results_row_tmp {P : Program} {fn : Func} {p u : Tmp} {ty : TypeId} (h : fn.results = #[.cell p ty, .tmp u]) (tmps : Array Value) {W : World} {d : TypeDesc}
    (hg : Blk W g t cs) (hp : tmps.getD p undef = .pointer (some ⟨g, 0, none⟩)) (hu : P.underlying ty = some d) (hd : (match d with | .struct _ | .array _ _ => true | _ => false) = true) (hi : (P.info? ty).map (·.size) = some cs.size) :
    (results fn tmps).run P W = .ok (.tuple #[.agg cs, tmps.getD u undef]) W := by
  rw [results_cell_tmp h, hp]
  simp [asAddr, run_loadVar_row W g t ty cs (0, 0) d hg hu hd hi]
theorem results_row {P : Program} {fn : Func} {p : Tmp} {ty : TypeId} (h : fn.results = #[.cell p ty]) (tmps : Array Value) {W : World} {d : TypeDesc}
    (hg : Blk W g t cs) (hp : tmps.getD p undef = .pointer (some ⟨g, 0, none⟩)) (hu : P.underlying ty = some d) (hd : (match d with | .struct _ | .array _ _ => true | _ => false) = true) (hi : (P.info? ty).map (·.size) = some cs.size) :
    (results fn tmps).run P W = .ok (.agg cs) W := results_cell_row h tmps W g t cs (0, 0) d hp hg hu hd hi

/-- A row of bytes, a stretch of which is written over: still the block, with other bytes. -/
theorem Blk.setCells (vs : List Value) : ∀ (o : Nat) (w : World) (pre mid post : List Value), pre.length = o → mid.length = vs.length → Blk w g t (pre ++ (mid ++ post)).toArray → Blk (w.setCells g o vs) g t (pre ++ (vs ++ post)).toArray := by
  induction vs with
  | nil => intro o w pre mid post _ hm h; obtain rfl : mid = [] := List.eq_nil_of_length_eq_zero (by rw [hm]; rfl); exact h
  | cons v vs ih =>
    intro o w pre mid post hp hm h
    match mid, hm with
    | m :: mid, hm =>
      have h1 := h.set_ o v
      have e : ((pre ++ (m :: mid ++ post)).toArray).setIfInBounds o v = ((pre ++ [v]) ++ (mid ++ post)).toArray := by
        subst hp
        simp
      rw [e] at h1
      have h2 := ih (o + 1) (w.setCell ⟨g, o, none⟩ v) (pre ++ [v]) mid post (by simp [hp]) (by simpa using hm) h1
      have e2 : (pre ++ [v]) ++ (vs ++ post) = pre ++ (v :: vs ++ post) := by simp
      rw [e2] at h2
      exact h2
theorem below_setCells {B : Nat} (hg : B ≤ g) (vs : List Value) : ∀ (o : Nat) (w : World), Below B w (w.setCells g o vs) := by
  induction vs with
  | nil => exact fun _ w => Below.refl _ w
  | cons v vs ih => exact fun o w => ((Below.refl B w).setCell (p := ⟨g, o, none⟩) hg v).trans (ih (o + 1) _)
theorem setCells_size (vs : List Value) (g : Nat) : ∀ (o : Nat) (w : World), (w.setCells g o vs).heap.size = w.heap.size := by
  induction vs with
  | nil => exact fun _ _ => rfl
  | cons v vs ih => exact fun o w => (ih (o + 1) _).trans (by simp [World.setCell])
theorem grown_setCells (vs : List Value) (g : Nat) : ∀ (o : Nat) (w : World), w.grownBy (w.setCells g o vs) (some g) := by
  intro o w
  have h1 := below_setCells (B := 0) (Nat.zero_le g) vs o w
  refine ⟨h1.os, h1.tape, h1.output, by rw [setCells_size]; exact Nat.le_refl _, fun k hk hne => World.heap_setCells_other w g o vs hk (fun e => hne (by rw [e]))⟩
end
end Go.Proofs.YthmhnknkidkdlaaGreatDoor
