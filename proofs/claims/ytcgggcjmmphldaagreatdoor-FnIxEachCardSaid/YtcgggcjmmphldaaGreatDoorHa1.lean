/-
  Words for memory: a stretch of cells that reads as bytes; what keeps it. No program is named here.
  Varints: what the number functions of the varint package compute. No condition but those in each statement.
  Rows of bytes: zero bytes, a row that is made, a row's cells.
  (No condition beyond those that each theorem states.)
-/
import Derived.WalkKit
import Derived.Lib.Hide
import Derived.Lib.Varint
import Derived.Lib.VarintMem
import Derived.Lib.VarintBits
import Derived.Lib.BitFns
import Derived.Deep.Draws
import Derived.Deep.Upon
import Derived.Laws.BytesArg
import Derived.Laws.IdiomStrings
import Derived.Laws.CopyOwn
import Derived.Test.YtcgggcjmmphldaaGreatDoorProg
import Derived.WalkSpells
import Derived.WalkLawsBesides
import Derived.Deep.RegionWith
namespace Go.Proofs.YtcgggcjmmphldaaGreatDoor
open Go.RowKit

/-- The cells from place o of block b on read as the bytes l. -/
def Seg (w : World) (b o : Nat) (l : List UInt8) : Prop := ∀ i (h : i < l.length), w.cell? ⟨b, o + i, none⟩ = some (.int .u8 (l[i].toNat : Int))

/-- Block g is just the cells cs, of type t, none frozen. -/
def Blk (w : World) (g : Nat) (t : TypeId) (cs : Array Value) : Prop := w.heap[g]? = some (.cells cs t (0, 0))

section
variable {w w' : World} {b o g : Nat} {l l1 l2 : List UInt8} {t : TypeId} {cs : Array Value}

theorem Seg.nil : Seg w b o [] := fun i h => by simp at h
theorem Seg.left (h : Seg w b o (l1 ++ l2)) : Seg w b o l1 := fun i hi => by
  have := h i (by simp; omega)
  rwa [List.getElem_append_left hi] at this
theorem Seg.right (h : Seg w b o (l1 ++ l2)) : Seg w b (o + l1.length) l2 := fun i hi => by
  have := h (l1.length + i) (by simp; omega)
  rw [List.getElem_append_right (by omega)] at this
  simpa [Nat.add_assoc] using this
theorem Seg.append (h1 : Seg w b o l1) (h2 : Seg w b (o + l1.length) l2) : Seg w b o (l1 ++ l2) := fun i hi => by
  by_cases hlt : i < l1.length
  · rw [List.getElem_append_left hlt]; exact h1 i hlt
  · rw [List.getElem_append_right (by omega)]
    have := h2 (i - l1.length) (by simp at hi; omega)
    rwa [show o + l1.length + (i - l1.length) = o + i from by omega] at this
theorem Seg.drop (h : Seg w b o l) (k : Nat) (hk : k ≤ l.length) : Seg w b (o + k) (l.drop k) := by
  have h2 : Seg w b o (l.take k ++ l.drop k) := by rw [List.take_append_drop]; exact h
  have := h2.right
  rwa [List.length_take, Nat.min_eq_left hk] at this
theorem Seg.take (h : Seg w b o l) (k : Nat) : Seg w b o (l.take k) := by
  have h2 : Seg w b o (l.take k ++ l.drop k) := by rw [List.take_append_drop]; exact h
  exact h2.left
theorem Seg.keep (h : Seg w b o l) (hk : ∀ p : Addr, p.block = b → w'.cell? p = w.cell? p) : Seg w' b o l := fun i hi => (hk _ rfl).trans (h i hi)
theorem Seg.below {B : Nat} (h : Seg w b o l) (hb : Below B w w') (hB : b < B) : Seg w' b o l := h.keep fun p hp => hb.cell (by rw [hp]; exact hB)
theorem Seg.drewN (h : Seg w b o l) (n : Nat) : Seg (w.drewN n) b o l := h
theorem Seg.drew (h : Seg w b o l) : Seg w.drew b o l := h
theorem Seg.lt (h : Seg w b o l) (hl : 0 < l.length) : b < w.heap.size := World.block_lt_of_cell? w _ (h 0 hl)
theorem Seg.alloc (h : Seg w b o l) (hb : b < w.heap.size) (ob : Obj) : Seg (w.alloc ob) b o l := h.keep fun p hp => World.cell?_alloc_lt w ob p (by omega)
theorem Seg.setCell (h : Seg w b o l) {p : Addr} (hp : p.block ≠ b) (u : Value) : Seg (w.setCell p u) b o l :=
  h.keep fun q hq => World.cell?_setCell_other w p q u (fun e => hp (by rw [e, hq]))
theorem Seg.cast (h : Seg w b o l) {o' : Nat} (e : o = o') : Seg w b o' l := e ▸ h
theorem Seg.of_block {fr : Nat × Nat} {cs : List Value} (h : w.heap[b]? = some (.cells cs.toArray t fr)) (hc : ∀ i (hi : i < l.length), cs[o + i]? = some (.int .u8 (l[i].toNat : Int))) : Seg w b o l := fun i hi => by
  rw [cell_of_row w b (o + i) _ t fr h]
  simpa using hc i hi
theorem Seg.of_bytes {fr : Nat × Nat} {post : List Value} (h : w.heap[b]? = some (.cells (Lib.byteCells l ++ post).toArray t fr)) : Seg w b 0 l :=
  Seg.of_block h fun i hi => by
    rw [Nat.zero_add, List.getElem?_append_left (by rw [Lib.byteCells_length]; exact hi)]
    simp [Lib.byteCells, List.getElem?_eq_getElem hi]

theorem Blk.lt (h : Blk w g t cs) : g < w.heap.size := by
  rcases Nat.lt_or_ge g w.heap.size with hlt | hge
  · exact hlt
  · unfold Blk at h; rw [Array.getElem?_eq_none hge] at h; cases h
theorem Blk.cell (h : Blk w g t cs) (i : Nat) : w.cell? ⟨g, i, none⟩ = cs[i]? := cell_of_row w g i cs t (0, 0) h
theorem Blk.frozen (h : Blk w g t cs) (i : Nat) : w.frozen? ⟨g, i, none⟩ = false := by
  unfold Blk at h
  simp [World.frozen?, h]
theorem Blk.new (w : World) (t : TypeId) (cs : Array Value) : Blk (w.alloc (.cells cs t)) w.heap.size t cs := heap_alloc_new w _
theorem size_alloc (w : World) (ob : Obj) : (w.alloc ob).heap.size = w.heap.size + 1 := by simp
theorem Blk.new' (w : World) (t : TypeId) (cs : Array Value) {g : Nat} (hg : g = w.heap.size) : Blk (w.alloc (.cells cs t)) g t cs := by rw [hg]; exact heap_alloc_new w _
theorem Blk.drew (h : Blk w g t cs) : Blk w.drew g t cs := h
theorem Blk.drewN (h : Blk w g t cs) (n : Nat) : Blk (w.drewN n) g t cs := h
theorem Blk.alloc (h : Blk w g t cs) (ob : Obj) : Blk (w.alloc ob) g t cs := (Below.heap_alloc w ob g h.lt).trans h
theorem Blk.set_ (h : Blk w g t cs) (i : Nat) (u : Value) : Blk (w.setCell ⟨g, i, none⟩ u) g t (cs.setIfInBounds i u) := by
  unfold Blk at h ⊢
  simp [World.setCell, Array.getElem?_modify, h]
theorem Blk.far (h : Blk w g t cs) {p : Addr} (hp : g ≠ p.block) (u : Value) : Blk (w.setCell p u) g t cs := (Below.heap_setCell w p u g hp).trans h
theorem Blk.below {B : Nat} (h : Blk w g t cs) (hb : Below B w w') (hg : g < B) : Blk w' g t cs := (hb.block g hg).trans h
theorem Blk.seg {post : List Value} (h : Blk w g t (Lib.byteCells l ++ post).toArray) : Seg w g 0 l := Seg.of_bytes (post := post) h
theorem Blk.seg' (h : Blk w g t (Lib.byteCells l).toArray) : Seg w g 0 l := Seg.of_bytes (post := []) (by rw [List.append_nil]; exact h)

/-- 'copy(dst, src)' into a row that is known whole; what the operands hold is asked behind the law. -/
theorem wpList_copyB {P : Program} {w : World} {ops : Array Oper} {rest : List Oper} {o : Oper} {a : Act} {Q : Exit → Act → World → Prop} (hgd : o.guard = none) (d s : Operand) (dT sT : TypeId)
    (ho : o.op = .call { callee := .builtin .copy, args := #[d, s], argTypes := #[dT, sT] }) (elem : TypeId) (hu : P.underlying dT = some (.slice elem)) (hsz : (P.info? elem).map (·.size) = some 1)
    (g off : Nat) (cur : List Value) (t : TypeId) (hg : w.heap[g]? = some (.cells cur.toArray t (0, 0))) (cs : List Value)
    (hfit : off + cs.length ≤ cur.length) (h1 : ∀ v ∈ cs, v.oneCell' = true) (B : Nat) (w0 : World) (hb : Below B w0 w) (hBg : B ≤ g)
    (hv : ∃ dp sp dLen dCap sLen sCap, a.eval d = .slice dp dLen dCap ∧ a.eval s = .slice sp sLen sCap ∧ cs.length = Nat.min sLen dLen ∧
      (0 < cs.length → dp = some ⟨g, off, none⟩ ∧ ∃ ad, sp = some ad ∧ ∀ j v, cs[j]? = some v → w.cell? (ad.add j) = some v))
    (h : ∀ w', Hid (w'.heap[g]? = some (.cells (splice cur off cs).toArray t (0, 0))) → Below B w0 w' → wpList P ops Q rest (a.put o.dst (goInt cs.length)) w') :
    wpList P ops Q (o :: rest) a w := by
  obtain ⟨dp, sp, dLen, dCap, sLen, sCap, hd, hs, hn, hpos⟩ := hv
  exact wpList_copy_splice hgd d s dT sT ho elem hu hsz dp sp dLen dCap sLen sCap hd hs g off cur t hg cs hn hpos hfit h1 B w0 hb hBg h

/-- Nothing but draws lies between two worlds. -/
def Drew (w w' : World) : Prop := ∃ n, w.drewN n = w'
theorem Drew.refl (w : World) : Drew w w := ⟨0, rfl⟩
theorem Drew.one (w : World) : Drew w w.drew := ⟨1, rfl⟩
theorem Drew.drewN (w : World) (n : Nat) : Drew w (w.drewN n) := ⟨n, rfl⟩
theorem Drew.trans {a b c : World} (h : Drew a b) (k : Drew b c) : Drew a c := by
  obtain ⟨m, rfl⟩ := h
  obtain ⟨n, rfl⟩ := k
  exact ⟨m + n, (World.drewN_drewN ..).symm⟩
theorem Drew.more {a b : World} (h : Drew a b) (n : Nat) : Drew a (b.drewN n) := h.trans (Drew.drewN b n)
theorem Drew.below {a b : World} (h : Drew a b) (B : Nat) : Below B a b := by
  obtain ⟨n, rfl⟩ := h
  exact ⟨rfl, rfl, rfl, Nat.le_refl _, fun _ _ => rfl⟩
theorem Drew.size {a b : World} (h : Drew a b) : b.heap.size = a.heap.size := by obtain ⟨n, rfl⟩ := h; rfl
theorem Drew.cell {a b : World} (h : Drew a b) (p : Addr) : b.cell? p = a.cell? p := by obtain ⟨n, rfl⟩ := h; rfl
theorem Drew.frozen {a b : World} (h : Drew a b) (p : Addr) : b.frozen? p = a.frozen? p := by obtain ⟨n, rfl⟩ := h; rfl
theorem Drew.seg {a b : World} (h : Drew a b) {g o : Nat} {l : List UInt8} (hs : Seg a g o l) : Seg b g o l := by obtain ⟨n, rfl⟩ := h; exact hs
theorem Drew.blk {a b : World} (h : Drew a b) {g : Nat} {t : TypeId} {cs : Array Value} (hs : Blk a g t cs) : Blk b g t cs := by obtain ⟨n, rfl⟩ := h; exact hs

theorem bcell {W w1 : World} (hb : Below W.heap.size W w1) : (∀ b o, b < W.heap.size → w1.cell? ⟨b, o, none⟩ = W.cell? ⟨b, o, none⟩) ∧ (∀ b o, b < W.heap.size → w1.frozen? ⟨b, o, none⟩ = W.frozen? ⟨b, o, none⟩) :=
  ⟨fun b o h => hb.cell (p := ⟨b, o, none⟩) h, fun b o h => hb.frozen (p := ⟨b, o, none⟩) h⟩

theorem Blk.fill1 {a a' : Value} (h : Blk w g t #[a]) : Blk (w.setCell ⟨g, 0, none⟩ a') g t #[a'] := h.set_ 0 a'
theorem Blk.fill2 {a b a' b' : Value} (h : Blk w g t #[a, b]) : Blk ((w.setCell ⟨g, 0, none⟩ a').setCell ⟨g, 1, none⟩ b') g t #[a', b'] := (h.set_ 0 a').set_ 1 b'
theorem Blk.fill4 {a b c d a' b' c' d' : Value} (h : Blk w g t #[a, b, c, d]) :
    Blk ((((w.setCell ⟨g, 0, none⟩ a').setCell ⟨g, 1, none⟩ b').setCell ⟨g, 2, none⟩ c').setCell ⟨g, 3, none⟩ d') g t #[a', b', c', d'] := (((h.set_ 0 a').set_ 1 b').set_ 2 c').set_ 3 d'
theorem below_fill4 {B : Nat} {W : World} {a' b' c' d' : Value} (h : Below B W w) (hg : B ≤ g) : Below B W ((((w.setCell ⟨g, 0, none⟩ a').setCell ⟨g, 1, none⟩ b').setCell ⟨g, 2, none⟩ c').setCell ⟨g, 3, none⟩ d') :=
  (((h.setCell (p := ⟨g, 0, none⟩) hg a').setCell (p := ⟨g, 1, none⟩) hg b').setCell (p := ⟨g, 2, none⟩) hg c').setCell (p := ⟨g, 3, none⟩) hg d'
theorem results_row_tmp {P : Program} {fn : Func} {p u : Tmp} {ty : TypeId} (h : fn.results = #[.cell p ty, .tmp u]) (tmps : Array Value) {W : World} {d : TypeDesc}
    (hg : Blk W g t cs) (hp : tmps.getD p undef = .pointer (some ⟨g, 0, none⟩)) (hu : P.underlying ty = some d) (hd : (match d with | .struct _ | .array _ _ => true | _ => false) = true) (hi : (P.info? ty).map (·.size) = some cs.size) :
    (results fn tmps).run P W = .ok (.tuple #[.agg cs, tmps.getD u undef]) W := by
  rw [results_cell_tmp h, hp]
  simp [asAddr, run_loadVar_row W g t ty cs (0, 0) d hg hu hd hi]
theorem results_row {P : Program} {fn : Func} {p : Tmp} {ty : TypeId} (h : fn.results = #[.cell p ty]) (tmps : Array Value) {W : World} {d : TypeDesc}
    (hg : Blk W g t cs) (hp : tmps.getD p undef = .pointer (some ⟨g, 0, none⟩)) (hu : P.underlying ty = some d) (hd : (match d with | .struct _ | .array _ _ => true | _ => false) = true) (hi : (P.info? ty).map (·.size) = some cs.size) :
    (results fn tmps).run P W = .ok (.agg cs) W := results_cell_row h tmps W g t cs (0, 0) d hp hg hu hd hi

theorem results_row_one {P : Program} {fn : Func} {p q : Tmp} {ty ty2 : TypeId} (h : fn.results = #[.cell p ty, .cell q ty2]) (tmps : Array Value) {W : World} {d d2 : TypeDesc} {k : Nat} {t2 : TypeId} {v : Value}
    (hg : Blk W g t cs) (hk : Blk W k t2 #[v]) (hp : tmps.getD p undef = .pointer (some ⟨g, 0, none⟩)) (hq : tmps.getD q undef = .pointer (some ⟨k, 0, none⟩))
    (hu : P.underlying ty = some d) (hd : (match d with | .struct _ | .array _ _ => true | _ => false) = true) (hi : (P.info? ty).map (·.size) = some cs.size)
    (hu2 : P.underlying ty2 = some d2) (hd2 : (match d2 with | .struct _ | .array _ _ => true | _ => false) = false) :
    (results fn tmps).run P W = .ok (.tuple #[.agg cs, v]) W := by
  have hc : W.cell? ⟨k, 0, none⟩ = some v := by rw [hk.cell]; rfl
  have hagg : (isAgg ty2).run P W = .ok false W := by
    unfold isAgg
    rw [Sem.run_bind, run_underlying hu2 W]
    cases d2 <;> simp_all
  have hl : (loadVar ty2 ⟨k, 0, none⟩).run P W = .ok v W := by
    simp [loadVar, Sem.run_bind, hagg, load, Sem.run, hc]
  have hp' : tmps[p]?.getD undef = .pointer (some ⟨g, 0, none⟩) := by simpa using hp
  have hq' : tmps[q]?.getD undef = .pointer (some ⟨k, 0, none⟩) := by simpa using hq
  simp only [results, h]
  simp [hp', hq', asAddr, run_loadVar_row W g t ty cs (0, 0) d hg hu hd hi, hl, Sem.run_bind]

/-- A row of bytes, a stretch of which is written over: still the block, with other bytes. -/
theorem Blk.setCells (vs : List Value) : ∀ (o : Nat) (w : World) (pre mid post : List Value), pre.length = o → mid.length = vs.length → Blk w g t (pre ++ (mid ++ post)).toArray → Blk (w.setCells g o vs) g t (pre ++ (vs ++ post)).toArray := by
  induction vs with
  | nil => intro o w pre mid post _ hm h; obtain rfl : mid = [] := List.eq_nil_of_length_eq_zero (by rw [hm]; rfl); exact h
  | cons v vs ih =>
    intro o w pre mid post hp hm h
    match mid, hm with
    | m :: mid, hm =>
      have h1 := h.set_ o v
      have e : ((pre ++ (m :: mid ++ post)).toArray).setIfInBounds o v = ((pre ++ [v]) ++ (mid ++ post)).toArray := by
        subst hp
        simp
      rw [e] at h1
      have h2 := ih (o + 1) (w.setCell ⟨g, o, none⟩ v) (pre ++ [v]) mid post (by simp [hp]) (by simpa using hm) h1
      have e2 : (pre ++ [v]) ++ (vs ++ post) = pre ++ (v :: vs ++ post) := by simp
      rw [e2] at h2
      exact h2
theorem below_setCells {B : Nat} (hg : B ≤ g) (vs : List Value) : ∀ (o : Nat) (w : World), Below B w (w.setCells g o vs) := by
  induction vs with
  | nil => exact fun _ w => Below.refl _ w
  | cons v vs ih => exact fun o w => ((Below.refl B w).setCell (p := ⟨g, o, none⟩) hg v).trans (ih (o + 1) _)
theorem Blk.setCells_far (vs : List Value) : ∀ (o : Nat) (w : World) (k : Nat), g ≠ k → Blk w g t cs → Blk (w.setCells k o vs) g t cs := by
  induction vs with
  | nil => exact fun _ _ _ _ h => h
  | cons v vs ih => exact fun o w k hk h => ih (o + 1) _ k hk (h.far (p := ⟨k, o, none⟩) hk v)
theorem setCells_size (vs : List Value) (g : Nat) : ∀ (o : Nat) (w : World), (w.setCells g o vs).heap.size = w.heap.size := by
  induction vs with
  | nil => exact fun _ _ => rfl
  | cons v vs ih => exact fun o w => (ih (o + 1) _).trans (by simp [World.setCell])
theorem grown_setCells (vs : List Value) (g : Nat) : ∀ (o : Nat) (w : World), w.grownBy (w.setCells g o vs) (some g) := by
  intro o w
  have h1 := below_setCells (B := 0) (Nat.zero_le g) vs o w
  refine ⟨h1.os, h1.tape, h1.output, by rw [setCells_size]; exact Nat.le_refl _, fun k hk hne => World.heap_setCells_other w g o vs hk (fun e => hne (by rw [e]))⟩
theorem Blk.grown {row : Option Nat} (h : Blk w g t cs) (hb : w.grownBy w' row) (hg : some g ≠ row) : Blk w' g t cs := (hb.block g h.lt hg).trans h
theorem Blk.grown' (h : Blk w g t cs) {k : Nat} (hb : w.grownBy w' (some k)) (hg : g ≠ k) : Blk w' g t cs := h.grown hb (fun e => hg (by injection e))
theorem Seg.grown (h : Seg w b o l) {k : Nat} (hb : w.grownBy w' (some k)) (hg : b ≠ k) : Seg w' b o l := by
  by_cases hl : 0 < l.length
  · exact h.keep fun p hp => World.cell?_of_block (hb.block p.block (by rw [hp]; exact h.lt hl) (by rw [hp]; exact fun e => hg (by injection e)))
  · obtain rfl : l = [] := List.eq_nil_of_length_eq_zero (by omega)
    exact Seg.nil
theorem below_of_grown {B : Nat} {a : World} (h : Below B a w) {k : Nat} (hb : w.grownBy w' (some k)) (hB : B ≤ w.heap.size) (hk : B ≤ k) : Below B a w' :=
  h.grown hb hB (fun j hj => by injection hj with hj; omega)
end
end Go.Proofs.YtcgggcjmmphldaaGreatDoor
namespace Go.Proofs.YtcgggcjmmphldaaGreatDoor
open Go.RowKit

theorem pow128 (i : Nat) : (128 : Nat) ^ i = 2 ^ (7 * i) := by rw [show (128 : Nat) = 2 ^ 7 from rfl, ← Nat.pow_mul]

theorem or_join (i a y : Nat) (ha : a < 2 ^ (7 * i)) (hy : a + y * 2 ^ (7 * i) < 18446744073709551616) :
    bits .or .u64 (a : Int) ((y * 2 ^ (7 * i) : Nat) : Int) = ((a + y * 2 ^ (7 * i) : Nat) : Int) := by
  rw [u64_or_nat _ _ (by omega) (by omega), Nat.or_comm, nat_join (7 * i) _ _ (by simp) ha, Nat.add_comm]

theorem or_join_w (i a y : Nat) (ha : a < 2 ^ (7 * i)) (hy : a + y * 2 ^ (7 * i) < 18446744073709551616) :
    bits .or .u64 (a : Int) (IntKind.u64.wrap ((y : Int) * 2 ^ (7 * i))) = ((a + y * 2 ^ (7 * i) : Nat) : Int) := by
  have e : ((y : Int) * 2 ^ (7 * i)) = ((y * 2 ^ (7 * i) : Nat) : Int) := by push_cast; rfl
  rw [e, IntKind.wrap_u64, ← or_join i a y ha hy, Int.emod_eq_of_lt (by omega) (by omega)]

theorem ret3 {a a' b b' : Int} {ka kb : IntKind} {v : Value} (h : a = a') (h2 : b = b') : Ending.returned (.tuple #[.int ka a, .int kb b, v]) = Ending.returned (.tuple #[.int ka a', .int kb b', v]) := by rw [h, h2]

set_option maxRecDepth 100000 in
set_option maxHeartbeats 1000000 in
theorem fromUvarint_ok (x b o n c : Nat) (w : World) (hx : x < 9223372036854775808) (hn : (Lib.uvarint x).length ≤ n)
    (hc : Seg w b o (Lib.uvarint x)) :
    Calls Tryz.prog 152 #[.slice (some ⟨b, o, none⟩) n c] w fun e w' =>
      e = .returned (.tuple #[.int .u64 x, .int .i64 (Lib.uvarint x).length, .nilIface]) ∧ w = w' := by
  have HX := Lib.hid hx
  have HC := Lib.hid hc
  have HN := Lib.hid hn
  clear hx hc hn
  go_enter Tryz.func152, Tryz.ntmps152
  go_wp2
  go_loop [5, 6, 11] (fun vx vs vi => ∃ (i y acc : Nat) (pre : List UInt8), pre.length = i ∧ Lib.uvarint x = pre ++ Lib.uvarint y ∧ x = acc + y * 2 ^ (7 * i) ∧ acc < 2 ^ (7 * i) ∧ (0 < i → 0 < y) ∧
      vx = .int .u64 acc ∧ vs = .int .u64 ((7 * i : Nat) : Int) ∧ vi = .int .i64 i) (fun _ _ vi => 10 - (intOf vi).toNat)
  case atStart => exact ⟨0, x, 0, [], rfl, rfl, by simp, by simp, by omega, rfl, rfl, rfl⟩
  case round =>
    obtain ⟨i, y, acc, pre, hpl, hsp, hxe, hacc, hy0, rfl, rfl, rfl⟩ := hrel
    have hul := congrArg List.length hsp
    rw [List.length_append] at hul
    have hyp := Lib.uvarint_pos y
    have hx := HX.out
    have hn := HN.out
    have hin : i < n := by omega
    have hget : ∀ (h : i < (Lib.uvarint x).length), (Lib.uvarint x)[i] = (Lib.uvarint y)[0] := by
      intro h
      have : (Lib.uvarint x)[i]? = (Lib.uvarint y)[0]? := by rw [hsp, List.getElem?_append_right (by omega)]; simp [hpl]
      rw [List.getElem?_eq_getElem h, List.getElem?_eq_getElem (by omega)] at this
      exact Option.some.inj this
    have hi8 : i ≤ 8 := by
      rcases Nat.lt_or_ge i 9 with h | h
      · omega
      · exfalso
        have h1 : 2 ^ 63 ≤ 2 ^ (7 * i) := Nat.pow_le_pow_right (by omega) (by omega)
        have h2 := Nat.le_mul_of_pos_left (2 ^ (7 * i)) (hy0 (by omega))
        omega
    have hcl := HC.out i (by omega)
    rw [hget] at hcl
    clear hget
    by_cases h128 : 128 ≤ y
    · have hb := Lib.uvarint_big h128
      have hm := Lib.toUInt8_toNat (a := y % 128 + 128) (by omega)
      simp only [hb, List.getElem_cons_zero] at hcl
      rw [hm] at hcl
      have hi7 : i ≤ 7 := by
        rcases Nat.lt_or_ge i 8 with h | h
        · omega
        · exfalso
          have h1 : 2 ^ 56 ≤ 2 ^ (7 * i) := Nat.pow_le_pow_right (by omega) (by omega)
          have h2 := Nat.mul_le_mul h128 h1
          omega
      have HS := Lib.hid (And.intro hsp (And.intro hxe (And.intro hacc (And.intro hpl (And.intro hb hul)))))
      clear hsp hxe hacc hpl hb hul hx hn hy0 hm hyp
      go_wp2
      go_roundw
      case rel =>
        obtain ⟨hsp, hxe, hacc, hpl, hb, hul⟩ := HS.out
        have hx := HX.out
        have hpw : 2 ^ (7 * (i + 1)) = 128 * 2 ^ (7 * i) := by rw [show 7 * (i + 1) = 7 + 7 * i from by omega, Nat.pow_add]
        have hdm : y * 2 ^ (7 * i) = y % 128 * 2 ^ (7 * i) + y / 128 * (128 * 2 ^ (7 * i)) := by
          rw [← Nat.mul_assoc, ← Nat.add_mul]; congr 1; omega
        have hlt : y % 128 * 2 ^ (7 * i) + 2 ^ (7 * i) ≤ 128 * 2 ^ (7 * i) := by
          rw [← Nat.succ_mul]; exact Nat.mul_le_mul_right _ (by omega)
        refine ⟨i + 1, y / 128, acc + y % 128 * 2 ^ (7 * i), pre ++ [(y % 128 + 128).toUInt8], by simp [hpl], by rw [hsp, hb]; simp, by rw [hpw]; omega, by rw [hpw]; omega, by omega, ?_, by go_num, by go_num⟩
        have ea : bits .and .u8 ((y : Int) % 128 + 128) 127 = ((y % 128 : Nat) : Int) := by rw [u8_and127 (x := (y : Int) % 128 + 128) (by omega) (by omega)]; omega
        have ew : IntKind.u64.wrap ((y % 128 : Nat) : Int) = ((y % 128 : Nat) : Int) := by rw [IntKind.wrap_u64, Int.emod_eq_of_lt (by omega) (by omega)]
        rw [ea, ew, or_join_w i acc (y % 128) hacc (by omega)]
      case measure => simp [intOf]; omega
    · have hb := Lib.uvarint_small (x := y) (by omega)
      have hm := Lib.toUInt8_toNat (a := y) (by omega)
      simp only [hb, List.getElem_cons_zero] at hcl
      rw [hm] at hcl
      have HS := Lib.hid (And.intro hsp (And.intro hxe (And.intro hacc (And.intro hpl (And.intro hb hul)))))
      clear hsp hxe hacc hpl hb hul hx hn hm hyp
      go_wp2
      all_goals (try go_ret3)
      all_goals
        obtain ⟨hsp, hxe, hacc, hpl, hb, hul⟩ := HS.out
        have hx := HX.out
        rw [hb] at hul
        refine ⟨ret3 ?_ ?_, rfl⟩
        · first
          | (rw [or_join_w i acc y hacc (by rw [← hxe]; omega), ← hxe]; done)
          | (have h0 : i = 8 := by clear hxe hacc; omega
             subst h0
             have hj := or_join_w 8 acc y hacc (by rw [← hxe]; omega)
             rw [← hxe] at hj
             have e : IntKind.u64.wrap ((y : Int) * 2 ^ (7 * 8)) = (y : Int) * 72057594037927936 := by rw [IntKind.wrap_u64, Int.emod_eq_of_lt (by omega) (by omega)]; rfl
             rw [e] at hj
             exact hj)
          | (have h0 : i = 0 := by clear hxe hacc; omega
             subst h0
             have ha : acc = 0 := by simpa using hacc
             subst ha
             have hy : y = 0 := by omega
             rw [hxe, hy]; rfl)
        · simp at hul; omega
end Go.Proofs.YtcgggcjmmphldaaGreatDoor
namespace Go.Proofs.YtcgggcjmmphldaaGreatDoor
open Go.RowKit

theorem Tryz.infoByte : (Tryz.prog.info? 5).map (fun i => (i.zero, i.size, i.bytes)) = some (some (.int .u8 0), 1, 1) := by kernel_rfl

theorem Tryz.sizeByte : (Tryz.prog.info? 5).map (·.size) = some 1 := by kernel_rfl
theorem byteCells_one (l : List UInt8) : ∀ v ∈ Lib.byteCells l, v.oneCell' = true := by
  intro v hv
  simp only [Lib.byteCells, List.mem_map] at hv
  obtain ⟨x, _, rfl⟩ := hv
  rfl
theorem byteCells_get (l : List UInt8) (j : Nat) (v : Value) (h : (Lib.byteCells l)[j]? = some v) : ∃ h : j < l.length, v = .int .u8 (l[j].toNat : Int) := by
  simp only [Lib.byteCells, List.getElem?_map, Option.map_eq_some_iff] at h
  obtain ⟨x, hx, rfl⟩ := h
  obtain ⟨hj, rfl⟩ := List.getElem?_eq_some_iff.1 hx
  exact ⟨hj, rfl⟩
theorem add_plain (b o j : Nat) : (⟨b, o, none⟩ : Addr).add j = ⟨b, o + j, none⟩ := by unfold Addr.add; split <;> simp_all
theorem Seg.cells {w : World} {b o : Nat} {l : List UInt8} (h : Seg w b o l) : ∀ j v, (Lib.byteCells l)[j]? = some v → w.cell? ((⟨b, o, none⟩ : Addr).add j) = some v := by
  intro j v hv
  obtain ⟨hj, rfl⟩ := byteCells_get l j v hv
  rw [add_plain]; exact h j hj

/-- So many zero bytes. -/
def zeroBytes (n : Nat) : List Value := Lib.byteCells (List.replicate n 0)
theorem zeroBytes_length (n : Nat) : (zeroBytes n).length = n := by simp [zeroBytes, Lib.byteCells_length]
theorem zeroBytes_append (m n : Nat) : zeroBytes (m + n) = zeroBytes m ++ zeroBytes n := by simp [zeroBytes, Lib.byteCells, List.replicate_append_replicate]
theorem madeCells_bytes (n : Nat) : madeCells (Value.int .u8 0).cells n = (zeroBytes n).toArray := by
  apply Array.ext
  · simp [size_madeCells, zeroBytes, Lib.byteCells]
  · intro i h1 h2
    simp [madeCells, zeroBytes, Lib.byteCells, Value.cells, Nat.mod_one]
theorem run_makeBytes {P : Program} {t e : TypeId} {i : TypeInfo} (ht : P.underlying t = some (.slice e)) (hi : P.info? e = some i) (hz : i.zero = some (.int .u8 0)) (hs : i.size = 1) (hb : i.bytes = 1)
    (n : Nat) (hn : n ≤ 281474976710656) (w : World) (k : IntKind := .i64) :
    (Instr.makeSlice t (.int k (n : Int)) (.int k (n : Int))).run P w = .ok (.slice (some ⟨w.heap.size, 0, none⟩) n n) (w.alloc (.cells (zeroBytes n).toArray e)) := by
  have hr := run_make (P := P) w t e i (.int .u8 0) ht hi hz k k (n : Int) (n : Int) (by omega) (by omega) (by rw [hb]; omega) (by omega)
  simp only [Int.toNat_natCast, hs, Nat.mul_one, madeCells_bytes] at hr
  exact hr

theorem run_sliceAt_arr {P : Program} {t e n : Nat} {i : TypeInfo} (ht : P.underlying t = some (.array n e)) (hi : P.info? e = some i) (g o h : Nat) (hh : h ≤ n) (W : World) :
    (Instr.sliceAt t (.pointer (some ⟨g, o, none⟩)) none (some (.int .i64 (h : Int))) none).run P W = .ok (.slice (some ⟨g, o, none⟩) h n) W := by
  have hz : (⟨g, o, none⟩ : Addr).add 0 = ⟨g, o, none⟩ := by rw [add_plain]; rfl
  simp [Instr.sliceAt, Instr.sureAddr, run_underlying ht, Instr.sliceBounds, run_sliceBound, sizeOf, typeInfo, hi, hh, hz]
/-- The string of some bytes. -/
abbrev str (l : List UInt8) : ByteArray := ⟨l.toArray⟩

theorem run_convert_seg {P : Program} {W : World} {b o : Nat} {l : List UInt8} {src e dst : TypeId} (hs : P.underlying src = some (.slice e)) (he : P.underlying e = some (.int .u8)) (hd : P.underlying dst = some .string) (cap : Nat) (h : Seg W b o l) :
    (convert src dst (.slice (some ⟨b, o, none⟩) l.length cap)).run P W = .ok (.string (str l)) W := by
  have hr := run_convert_bytes_arg W src e hs he b o l.length cap (l.map fun x => (x.toNat : Int)) (by simp) (fun i hi => by
    rw [h i hi]; simp [List.getD, List.getElem?_eq_getElem hi]) dst hd
  rw [hr]
  have : strOfNums (l.map fun x => (x.toNat : Int)) = str l := by
    apply ByteArray.ext
    apply Array.ext'
    rw [strOfNums_data]
    simp [Function.comp_def]
  rw [this]

theorem bytesRow_list (s : ByteArray) (c : Nat) : (Lib.byteCells s.data.toList ++ List.replicate (c - s.size) (Value.int .u8 0)).toArray = bytesRow s c := by
  apply Array.ext'
  simp [bytesRow, Lib.byteCells]

end Go.Proofs.YtcgggcjmmphldaaGreatDoor
