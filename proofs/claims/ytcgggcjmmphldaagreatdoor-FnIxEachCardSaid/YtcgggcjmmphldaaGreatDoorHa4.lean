/-
  What a call leaves as it was: all old blocks but a few named ones. No program is named here.
  Entries of the thin package: what they are, where they lie.
  (No condition beyond those that each theorem states.)
-/
import Derived.Test.YtcgggcjmmphldaaGreatDoorHa1
import Derived.Deep.RegionLaw
import Derived.Test.YtcgggcjmmphldaaGreatDoorProg
namespace Go.Proofs.YtcgggcjmmphldaaGreatDoor
open Go.RowKit

/-- All blocks of w but those in S are in w' as they were. -/
structure Off (S : List Nat) (w w' : World) : Prop where
  os : w'.os = w.os
  tape : w'.tape = w.tape
  output : w'.output = w.output
  size : w.heap.size ≤ w'.heap.size
  block : ∀ k, k < w.heap.size → k ∉ S → w'.heap[k]? = w.heap[k]?

section
variable {w w' a b c : World} {S S' : List Nat} {g : Nat} {t : TypeId} {cs : Array Value} {l : List UInt8} {o : Nat}

theorem Off.refl (S : List Nat) (w : World) : Off S w w := ⟨rfl, rfl, rfl, Nat.le_refl _, fun _ _ _ => rfl⟩
theorem Off.trans (h : Off S a b) (k : Off S' b c) : Off (S ++ S') a c :=
  ⟨k.os.trans h.os, k.tape.trans h.tape, k.output.trans h.output, Nat.le_trans h.size k.size, fun i hi hn => by
    simp at hn
    exact (k.block i (Nat.lt_of_lt_of_le hi h.size) hn.2).trans (h.block i hi hn.1)⟩
/-- New blocks of the middle world need no name. -/
theorem Off.then (h : Off S a b) (k : Off S' b c) (hs : ∀ x, x ∈ S' → x ∈ S ∨ a.heap.size ≤ x) : Off S a c :=
  ⟨k.os.trans h.os, k.tape.trans h.tape, k.output.trans h.output, Nat.le_trans h.size k.size, fun i hi hn => by
    have hn' : i ∉ S' := fun hx => by
      rcases hs i hx with h1 | h1
      · exact hn h1
      · omega
    exact (k.block i (Nat.lt_of_lt_of_le hi h.size) hn').trans (h.block i hi hn)⟩
theorem Off.mono (h : Off S a b) (hs : ∀ x, x ∈ S → x ∈ S' ∨ a.heap.size ≤ x) : Off S' a b :=
  ⟨h.os, h.tape, h.output, h.size, fun i hi hn => h.block i hi (fun hx => by
    rcases hs i hx with h1 | h1
    · exact hn h1
    · omega)⟩
theorem Off.drew (h : Off S a b) : Off S a b.drew := ⟨h.os, h.tape, h.output, h.size, h.block⟩
theorem Off.drewN (h : Off S a b) (n : Nat) : Off S a (b.drewN n) := ⟨h.os, h.tape, h.output, h.size, h.block⟩
theorem Off.ofDrew (h : Drew a b) : Off S a b := by
  obtain ⟨n, rfl⟩ := h
  exact (Off.refl S a).drewN n
theorem Off.alloc (h : Off S a b) (ob : Obj) : Off S a (b.alloc ob) :=
  ⟨h.os, h.tape, h.output, by have := h.size; simp; omega, fun i hi hn => by
    have hlt : i < b.heap.size := Nat.lt_of_lt_of_le hi h.size
    rw [← h.block i hi hn]
    exact Below.heap_alloc b ob i hlt⟩
theorem Off.setCell (h : Off S a b) {p : Addr} (hp : p.block ∈ S ∨ a.heap.size ≤ p.block) (u : Value) : Off S a (b.setCell p u) :=
  ⟨h.os, h.tape, h.output, by have := h.size; simp [World.setCell]; omega, fun i hi hn => by
    rw [← h.block i hi hn]
    exact Below.heap_setCell b p u i (fun e => by
      rcases hp with h1 | h1
      · exact hn (e ▸ h1)
      · omega)⟩
theorem Off.below (h : Off S a b) (hS : ∀ x, x ∈ S → a.heap.size ≤ x) : Below a.heap.size a b :=
  ⟨h.os, h.tape, h.output, h.size, fun i hi => h.block i hi (fun hx => by have := hS i hx; omega)⟩
theorem Off.below' {B : Nat} (h : Off S a b) (hB : B ≤ a.heap.size) (hS : ∀ x, x ∈ S → B ≤ x) : Below B a b :=
  ⟨h.os, h.tape, h.output, h.size, fun i hi => h.block i (by omega) (fun hx => by have := hS i hx; omega)⟩
theorem Off.ofBelow (h : Below a.heap.size a b) : Off S a b := ⟨h.os, h.tape, h.output, h.size, fun i hi _ => h.block i hi⟩
theorem Off.ofGrown (h : a.grownBy b (some g)) : Off [g] a b := ⟨h.os, h.tape, h.output, h.size, fun i hi hn => h.block i hi (fun e => hn (by injection e with e; simp [e]))⟩
theorem Off.blk (k : Off S a b) (h : Blk a g t cs) (hg : g ∉ S) : Blk b g t cs := (k.block g h.lt hg).trans h
theorem Off.seg (k : Off S a b) (h : Seg a g o l) (hg : g ∉ S) : Seg b g o l := by
  by_cases hl : 0 < l.length
  · exact h.keep fun p hp => World.cell?_of_block (k.block p.block (by rw [hp]; exact h.lt hl) (by rw [hp]; exact hg))
  · obtain rfl : l = [] := List.eq_nil_of_length_eq_zero (by omega)
    exact Seg.nil
/-- .. over a world that is the middle one but for draws. -/
theorem Off.next {b' : World} (h : Off S a b) (k : Off S' b' c) (e : b'.heap = b.heap ∧ b'.os = b.os ∧ b'.tape = b.tape ∧ b'.output = b.output) (hs : ∀ x, x ∈ S' → x ∈ S ∨ a.heap.size ≤ x) : Off S a c :=
  h.then ⟨k.os.trans e.2.1, k.tape.trans e.2.2.1, k.output.trans e.2.2.2, by rw [← e.1]; exact k.size, fun i hi hn => by rw [← e.1] at hi ⊢; exact k.block i hi hn⟩ hs
theorem Blk.off (h : Blk a g t cs) (k : Off S a b) (hg : g ∉ S) : Blk b g t cs := (k.block g h.lt hg).trans h
theorem Seg.off (h : Seg a g o l) (k : Off S a b) (hg : g ∉ S) : Seg b g o l := by
  by_cases hl : 0 < l.length
  · exact h.keep fun p hp => World.cell?_of_block (k.block p.block (by rw [hp]; exact h.lt hl) (by rw [hp]; exact hg))
  · obtain rfl : l = [] := List.eq_nil_of_length_eq_zero (by omega)
    exact Seg.nil
theorem off_setRow {fr : Nat × Nat} {cur : Array Value} (_h : a.heap[g]? = some (.cells cur t fr)) (u : Array Value) : Off [g] a (a.setRow g u) :=
  Off.ofGrown (by
    exact ⟨rfl, rfl, rfl, by simp [World.setRow], fun k _ hne => by
      simp [World.setRow, Array.getElem?_modify]
      intro e
      exact absurd (by rw [e]) hne⟩)

theorem Blk.at {g' : Nat} (h : Blk a g t cs) (e : g = g') : Blk a g' t cs := e ▸ h
theorem Blk.eq {cs' : Array Value} (h : Blk a g t cs) (e : cs = cs') : Blk a g t cs' := e ▸ h
theorem ni1 {x a : Nat} (h : x ≠ a) : x ∉ [a] := by simp; exact h
theorem ni2 {x a b : Nat} (h : x ≠ a) (k : x ≠ b) : x ∉ [a, b] := by simp; exact ⟨h, k⟩
theorem ni3 {x a b c : Nat} (h : x ≠ a) (k : x ≠ b) (l : x ≠ c) : x ∉ [a, b, c] := by simp; exact ⟨h, k, l⟩
theorem ni4 {x a b c d : Nat} (h : x ≠ a) (k : x ≠ b) (l : x ≠ c) (m : x ≠ d) : x ∉ [a, b, c, d] := by simp; exact ⟨h, k, l, m⟩

/-- 'copy' into a row, as one step of a region that draws. -/
theorem step_copyO {P : Program} {ops : Array Oper} {o : Oper} {A : Act} {w : World} {K : Act → World → Prop} {Q : Exit → Act → World → Prop} {E : Prop} (hgd : o.guard = none) (d s : Operand) (dT sT : TypeId)
    (ho : o.op = .call { callee := .builtin .copy, args := #[d, s], argTypes := #[dT, sT] }) (elem : TypeId) (hu : P.underlying dT = some (.slice elem)) (hsz : (P.info? elem).map (·.size) = some 1)
    (g off : Nat) (cur : List Value) (t : TypeId) (hg : Blk w g t cur.toArray) (cs : List Value)
    (hfit : off + cs.length ≤ cur.length) (h1 : ∀ v ∈ cs, v.oneCell' = true) (dLen dCap sLen sCap : Nat) (ad : Addr)
    (hd : A.eval d = .slice (some ⟨g, off, none⟩) dLen dCap) (hs : A.eval s = .slice (some ad) sLen sCap) (hn : cs.length = Nat.min sLen dLen)
    (hpos : ∀ j v, cs[j]? = some v → w.cell? (ad.add j) = some v) (N : Nat) (hN : cs.length = N)
    (h : ∀ w', Hid (Blk w' g t (splice cur off cs).toArray) → Hid (Off [g] w w') → K (A.put o.dst (.int .i64 (N : Int))) w') :
    if Region.wanted o (yielded ops A.tmps) = true then Oper.wp P o A w K Q else E := by
  have hw : Region.wanted o (yielded ops A.tmps) = true := by simp [Region.wanted, hgd]
  rw [if_pos hw]
  have hrun := run_copy_row (P := P) w dT sT o.type elem g off dLen dCap ad sLen sCap cur.toArray t cs hu hsz hg hn hpos (by simpa using hfit) h1
  unfold Oper.wp
  simp [execOp, ho, resolve, invoke, builtin, hd, hs, hrun, Result.andThen]
  subst hN
  exact h _ (Lib.hid (show _ = _ by simpa [splice] using setRow_heap w g _ _ t _ hg)) (Lib.hid (off_setRow hg _))
end
end Go.Proofs.YtcgggcjmmphldaaGreatDoor
namespace Go.Proofs.YtcgggcjmmphldaaGreatDoor
open Go.RowKit

theorem Off.cellE {S : List Nat} {w w' : World} {p : Addr} {v : Value} (h : Off S w w') (hc : w.cell? p = some v) (hp : p.block ∉ S) : w'.cell? p = some v :=
  (World.cell?_of_block (h.block p.block (World.block_lt_of_cell? w _ hc) hp)).trans hc
/-- An entry of the thin package. -/
structure Ent where
  ver : Nat
  codec : Nat
  code : Nat
  dg : ByteArray
  off : Nat
structure Ent.ok (e : Ent) : Prop where
  ver : (e.ver = 0 ∧ e.codec = 112 ∧ e.code = 18 ∧ e.dg.data.toList.length = 32) ∨ (e.ver = 1 ∧ e.codec < 9223372036854775808 ∧ e.code < 9223372036854775808)
  small : e.dg.data.toList.length ≤ 1000
  off : e.off < 18446744073709551616

/-- Entries in memory. -/
structure EntsAt (w : World) (A : Option Addr) (ib io : Nat) (es : List Ent) : Prop where
  at_ : 0 < es.length → A = some ⟨ib, io, none⟩ ∧ ib < w.heap.size
  cells : ∀ i (h : i < es.length), w.cell? ⟨ib, io + i * 5, none⟩ = some (.int .u64 (es[i].ver : Int)) ∧ w.cell? ⟨ib, io + i * 5 + 1, none⟩ = some (.int .u64 (es[i].codec : Int)) ∧ w.cell? ⟨ib, io + i * 5 + 2, none⟩ = some (.int .u64 (es[i].code : Int)) ∧ w.cell? ⟨ib, io + i * 5 + 3, none⟩ = some (.string es[i].dg) ∧ w.cell? ⟨ib, io + i * 5 + 4, none⟩ = some (.int .u64 (es[i].off : Int))
theorem EntsAt.off {w w' : World} {A : Option Addr} {ib io : Nat} {es : List Ent} {S : List Nat} (h : EntsAt w A ib io es) (ho : Off S w w') (hS : 0 < es.length → ib ∉ S) : EntsAt w' A ib io es := by
  refine ⟨fun h0 => ⟨(h.at_ h0).1, Nat.lt_of_lt_of_le (h.at_ h0).2 ho.size⟩, fun i hi => ?_⟩
  have h0 : 0 < es.length := by omega
  obtain ⟨h1, h2, h3, h4, h5⟩ := h.cells i hi
  exact ⟨ho.cellE h1 (hS h0), ho.cellE h2 (hS h0), ho.cellE h3 (hS h0), ho.cellE h4 (hS h0), ho.cellE h5 (hS h0)⟩

end Go.Proofs.YtcgggcjmmphldaaGreatDoor
