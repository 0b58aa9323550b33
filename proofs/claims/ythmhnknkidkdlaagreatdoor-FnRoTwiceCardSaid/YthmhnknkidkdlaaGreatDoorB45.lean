/-
  Entries as a statement's arguments: opened to memory.
  An identifier as a statement's argument: opened.
  A file of roots and blocks as a statement's argument: opened.
  A row of truth values as a statement's argument: opened; a file's parts.
  (No condition beyond those that each theorem states.)
-/
import Derived.Test.YthmhnknkidkdlaaGreatDoorB03
import Derived.Deep.Slices
import Derived.ChangeSame
import Derived.Shelf.Bytes.SlIndexWhole
import Derived.Test.YthmhnknkidkdlaaGreatDoorB35
import Derived.Test.YthmhnknkidkdlaaGreatDoorB08
import Derived.Test.YthmhnknkidkdlaaGreatDoorB11
namespace Go.Proofs.YthmhnknkidkdlaaGreatDoor
open Go.ChangeShapes Go.WideShapes Go.Deep Go.RowKit

section
variable {H : Type} {enc : TypeId × Value → H} {w : World} {base : Nat} {spare : Nat → Bool} {held : Bool}
theorem u64_of_wf {n : Int} (h : (Lit.int .u64 n).wf = true) : ∃ m : Nat, n = (m : Int) ∧ m < 18446744073709551616 := by
  simp [Lit.wf, IntKind.min, IntKind.max, IntKind.bits, IntKind.signed] at h
  exact ⟨n.toNat, by omega, by omega⟩
theorem add_of_plain {a : Addr} (h : a = ⟨a.block, a.off, none⟩) (k : Nat) : a.add k = ⟨a.block, a.off + k, none⟩ := by
  obtain ⟨b, o, s⟩ := a
  injection h with _ _ h
  subst h
  unfold Addr.add
  split
  · rename_i h0; subst h0; rfl
  · rfl
theorem cid_cells : Tryz.prog.cellsOf 41 = 4 := by kernel_rfl
theorem u64_cells : Tryz.prog.cellsOf 30 = 1 := by kernel_rfl
theorem str_cells : Tryz.prog.cellsOf 9 = 1 := by kernel_rfl
end
end Go.Proofs.YthmhnknkidkdlaaGreatDoor
namespace Go.Proofs.YthmhnknkidkdlaaGreatDoor
open Go.ChangeShapes Go.WideShapes Go.Deep Go.RowKit

section
variable {H : Type} {enc : TypeId × Value → H} {w : World} {base : Nat} {spare : Nat → Bool} {held : Bool}
set_option maxRecDepth 100000 in
theorem open_cid {fuel : Nat} {cs : List Value} {x : DataW H × List MemPlace} (h : DataW.trod enc Tryz.prog w base spare held fuel 41 cs = some x) :
    ∃ e : Ent, cs = [.int .u64 (e.ver : Int), .int .u64 (e.codec : Int), .int .u64 (e.code : Int), .string e.dg] ∧ e.off = 0 := by
  obtain ⟨ys, m, hm, hy, hyl, hylen, hf⟩ := DataW.trod_struct Tryz.underlying41 h
  have g0 := hf 0 _ rfl
  have g1 := hf 1 _ rfl
  have g2 := hf 2 _ rfl
  have g3 := hf 3 _ rfl
  rw [cid_cells] at hyl
  match cs, hyl, ys, hylen with
  | [c0, c1, c2, c3], _, [z0, z1, z2, z3], _ =>
    have k0 : DataW.trod enc Tryz.prog w base spare held m 30 [c0] = some z0 := by
      have e : (([c0, c1, c2, c3] : List Value).drop 0).take (Tryz.prog.cellsOf 30) = [c0] := by rw [u64_cells]; rfl
      rw [← e]; exact g0
    have k1 : DataW.trod enc Tryz.prog w base spare held m 30 [c1] = some z1 := by
      have e : (([c0, c1, c2, c3] : List Value).drop 1).take (Tryz.prog.cellsOf 30) = [c1] := by rw [u64_cells]; rfl
      rw [← e]; exact g1
    have k2 : DataW.trod enc Tryz.prog w base spare held m 30 [c2] = some z2 := by
      have e : (([c0, c1, c2, c3] : List Value).drop 2).take (Tryz.prog.cellsOf 30) = [c2] := by rw [u64_cells]; rfl
      rw [← e]; exact g2
    have k3 : DataW.trod enc Tryz.prog w base spare held m 9 [c3] = some z3 := by
      have e : (([c0, c1, c2, c3] : List Value).drop 3).take (Tryz.prog.cellsOf 9) = [c3] := by rw [str_cells]; rfl
      rw [← e]; exact g3
    obtain ⟨n0, q0, _, w0⟩ := DataW.trod_int Tryz.underlying30 k0
    obtain ⟨n1, q1, _, w1⟩ := DataW.trod_int Tryz.underlying30 k1
    obtain ⟨n2, q2, _, w2⟩ := DataW.trod_int Tryz.underlying30 k2
    obtain ⟨s3, q3, _, w3⟩ := DataW.trod_string Tryz.underlying9 k3
    obtain ⟨m0, rfl, _⟩ := u64_of_wf w0
    obtain ⟨m1, rfl, _⟩ := u64_of_wf w1
    obtain ⟨m2, rfl, _⟩ := u64_of_wf w2
    injection q0 with q0 _
    injection q1 with q1 _
    injection q2 with q2 _
    injection q3 with q3 _
    subst q0 q1 q2 q3
    exact ⟨⟨m0, m1, m2, s3, 0⟩, rfl, rfl⟩
end
end Go.Proofs.YthmhnknkidkdlaaGreatDoor
namespace Go.Proofs.YthmhnknkidkdlaaGreatDoor
open Go.ChangeShapes Go.WideShapes Go.Deep Go.RowKit

theorem blk_cells : Tryz.prog.cellsOf 44 = 5 := by kernel_rfl
theorem cids_cells : Tryz.prog.cellsOf 22 = 1 := by kernel_rfl
theorem blks_cells : Tryz.prog.cellsOf 23 = 1 := by kernel_rfl
theorem car_cells : Tryz.prog.cellsOf 25 = 2 := by kernel_rfl
section
variable {H : Type} {enc : TypeId × Value → H} {w : World} {base : Nat} {spare : Nat → Bool} {held : Bool}
set_option maxRecDepth 100000 in
theorem open_blk {fuel : Nat} {cs : List Value} {x : DataW H × List MemPlace} (h : DataW.trod enc Tryz.prog w base spare held fuel 44 cs = some x) : ∃ b : Bk, cs = bkC b ∧ b.1.off = 0 := by
  obtain ⟨y0, y1, n, hx, hl, h0, h1⟩ := trod_struct2 Tryz.underlying44 h
  rw [blk_cells] at hl
  match cs, hl with
  | [c0, c1, c2, c3, c4], _ =>
    have h0' : DataW.trod enc Tryz.prog w base spare held n 41 [c0, c1, c2, c3] = some y0 := by
      have e : (([c0, c1, c2, c3, c4] : List Value).drop 0).take (Tryz.prog.cellsOf 41) = [c0, c1, c2, c3] := by rw [cid_cells]; rfl
      rw [← e]; exact h0
    have h1' : DataW.trod enc Tryz.prog w base spare held n 9 [c4] = some y1 := by
      have e : (([c0, c1, c2, c3, c4] : List Value).drop 4).take (Tryz.prog.cellsOf 9) = [c4] := by rw [str_cells]; rfl
      rw [← e]; exact h1
    obtain ⟨e, he, ho⟩ := open_cid h0'
    obtain ⟨s4, q4, _, w4⟩ := DataW.trod_string Tryz.underlying9 h1'
    injection he with e0 he
    injection he with e1 he
    injection he with e2 he
    injection he with e3 he
    injection q4 with q4 _
    subst e0 e1 e2 e3 q4
    exact ⟨(e, s4), rfl, ho⟩

set_option maxRecDepth 100000 in
theorem open_cids {fuel : Nat} {cs : List Value} {x : DataW H × List MemPlace} (h : DataW.trod enc Tryz.prog w base spare held fuel 22 cs = some x) :
    ∃ (es : List Ent) (A : Option Addr) (ib io n c : Nat), cs = [.slice A n c] ∧ es.length = n ∧ (A = none → n = 0 ∧ c = 0) ∧ n ≤ c ∧ CidsAt w A ib io es ∧ ∀ e, e ∈ es → e.off = 0 := by
  rcases open_slice Tryz.underlying22 h with ⟨h0, _⟩ | ⟨a, len, cap, m, n, D, Pl, hcs, hb, hl, hm, hmm, hx, hi⟩
  · exact ⟨[], none, 0, 0, 0, 0, h0, rfl, fun _ => ⟨rfl, rfl⟩, Nat.le_refl _, ⟨fun h => absurd h (by simp), fun i hi => absurd hi (by simp)⟩, fun e he => absurd he (by simp)⟩
  · have hex : ∀ i, ∃ e : Ent, i < len → w.cells? base (a.add (i * 4)) 4 = some [.int .u64 (e.ver : Int), .int .u64 (e.codec : Int), .int .u64 (e.code : Int), .string e.dg] ∧ e.off = 0 := fun i => by
      by_cases hil : i < len
      · have him : i < m := by rw [hmm]; split <;> omega
        obtain ⟨cs', h1, h2⟩ := hi i him
        rw [cid_cells] at h1
        obtain ⟨e, rfl, he⟩ := open_cid h2
        exact ⟨e, fun _ => ⟨h1, he⟩⟩
      · exact ⟨⟨0, 0, 0, ByteArray.empty, 0⟩, fun h => absurd h hil⟩
    obtain ⟨f, hf⟩ := Classical.skolem.1 hex
    have hpl : 0 < len → a = ⟨a.block, a.off, none⟩ := fun h0 => by
      obtain ⟨_, _, hc⟩ := World.cells?_some (hf 0 h0).1
      have := hc 0 (by omega)
      exact Lib.plain_of_cell (v := .int .u64 ((f 0).ver : Int)) (by simpa [Addr.add] using this)
    refine ⟨(List.range len).map f, some a, a.block, a.off, len, cap, hcs, by simp, (fun h => by cases h), hl, ⟨fun h0 => ?_, fun i hi => ?_⟩, fun e he => ?_⟩
    · have h0' : 0 < len := by simpa using h0
      refine ⟨by rw [← hpl h0'], ?_⟩
      obtain ⟨_, _, hc⟩ := World.cells?_some (hf 0 h0').1
      have := hc 0 (by omega)
      have h2 := World.block_lt_of_cell? (a := (a.add (0 * 4)).add 0) (u := .int .u64 ((f 0).ver : Int)) w (by simpa using this)
      simpa [Addr.add] using h2
    · have hil : i < len := by simpa using hi
      have hp := hpl (by omega)
      obtain ⟨_, _, hc⟩ := World.cells?_some (hf i hil).1
      have hadd : ∀ j, (a.add (i * 4)).add j = ⟨a.block, a.off + i * 4 + j, none⟩ := fun j => by
        rw [Go.Deep.add_add, Nat.add_assoc]
        exact add_of_plain hp _
      have hg : ((List.range len).map f)[i] = f i := by simp
      rw [hg]
      have c0 := hc 0 (by omega)
      have c1 := hc 1 (by omega)
      have c2 := hc 2 (by omega)
      have c3 := hc 3 (by omega)
      rw [hadd] at c0 c1 c2 c3
      exact ⟨c0, c1, c2, c3⟩
    · obtain ⟨i, hi, rfl⟩ := List.mem_map.1 he
      exact (hf i (by simpa using hi)).2

set_option maxRecDepth 100000 in
theorem open_blos {fuel : Nat} {cs : List Value} {x : DataW H × List MemPlace} (h : DataW.trod enc Tryz.prog w base spare held fuel 23 cs = some x) :
    ∃ (es : List Bk) (A : Option Addr) (ib io n c : Nat), cs = [.slice A n c] ∧ es.length = n ∧ (A = none → n = 0 ∧ c = 0) ∧ n ≤ c ∧ BlosAt w A ib io es ∧ ∀ e, e ∈ es → e.1.off = 0 := by
  rcases open_slice Tryz.underlying23 h with ⟨h0, _⟩ | ⟨a, len, cap, m, n, D, Pl, hcs, hb, hl, hm, hmm, hx, hi⟩
  · exact ⟨[], none, 0, 0, 0, 0, h0, rfl, fun _ => ⟨rfl, rfl⟩, Nat.le_refl _, ⟨fun h => absurd h (by simp), fun i hi => absurd hi (by simp)⟩, fun e he => absurd he (by simp)⟩
  · have hex : ∀ i, ∃ e : Bk, i < len → w.cells? base (a.add (i * 5)) 5 = some (bkC e) ∧ e.1.off = 0 := fun i => by
      by_cases hil : i < len
      · have him : i < m := by rw [hmm]; split <;> omega
        obtain ⟨cs', h1, h2⟩ := hi i him
        rw [blk_cells] at h1
        obtain ⟨e, rfl, he⟩ := open_blk h2
        exact ⟨e, fun _ => ⟨h1, he⟩⟩
      · exact ⟨(⟨0, 0, 0, ByteArray.empty, 0⟩, ByteArray.empty), fun h => absurd h hil⟩
    obtain ⟨f, hf⟩ := Classical.skolem.1 hex
    have hpl : 0 < len → a = ⟨a.block, a.off, none⟩ := fun h0 => by
      obtain ⟨_, _, hc⟩ := World.cells?_some (hf 0 h0).1
      have := hc 0 (by omega)
      exact Lib.plain_of_cell (v := .int .u64 ((f 0).1.ver : Int)) (by simpa [Addr.add, bkC] using this)
    refine ⟨(List.range len).map f, some a, a.block, a.off, len, cap, hcs, by simp, (fun h => by cases h), hl, ⟨fun h0 => ?_, fun i hi => ?_⟩, fun e he => ?_⟩
    · have h0' : 0 < len := by simpa using h0
      refine ⟨by rw [← hpl h0'], ?_⟩
      obtain ⟨_, _, hc⟩ := World.cells?_some (hf 0 h0').1
      have := hc 0 (by omega)
      have h2 := World.block_lt_of_cell? (a := (a.add (0 * 5)).add 0) (u := .int .u64 ((f 0).1.ver : Int)) w (by simpa [bkC] using this)
      simpa [Addr.add] using h2
    · have hil : i < len := by simpa using hi
      have hp := hpl (by omega)
      obtain ⟨_, _, hc⟩ := World.cells?_some (hf i hil).1
      have hadd : ∀ j, (a.add (i * 5)).add j = ⟨a.block, a.off + i * 5 + j, none⟩ := fun j => by
        rw [Go.Deep.add_add, Nat.add_assoc]
        exact add_of_plain hp _
      have hg : ((List.range len).map f)[i] = f i := by simp
      rw [hg]
      have c0 := hc 0 (by omega)
      have c1 := hc 1 (by omega)
      have c2 := hc 2 (by omega)
      have c3 := hc 3 (by omega)
      have c4 := hc 4 (by omega)
      rw [hadd] at c0 c1 c2 c3 c4
      exact ⟨c0, c1, c2, c3, c4⟩
    · obtain ⟨i, hi, rfl⟩ := List.mem_map.1 he
      exact (hf i (by simpa using hi)).2

set_option maxRecDepth 100000 in
theorem open_car {fuel : Nat} {cs : List Value} {x : DataW H × List MemPlace} (h : DataW.trod enc Tryz.prog w base spare held fuel 25 cs = some x) :
    ∃ (rs : List Ent) (bs : List Bk) (A B : Option Addr) (ib io n c jb jo m c2 : Nat), cs = [.slice A n c, .slice B m c2] ∧ rs.length = n ∧ bs.length = m ∧ CidsAt w A ib io rs ∧ BlosAt w B jb jo bs ∧ (∀ e, e ∈ rs → e.off = 0) ∧ ∀ b, b ∈ bs → b.1.off = 0 := by
  obtain ⟨y0, y1, n, hx, hl, h0, h1⟩ := trod_struct2 Tryz.underlying25 h
  rw [car_cells] at hl
  match cs, hl with
  | [c0, c1], _ =>
    have h0' : DataW.trod enc Tryz.prog w base spare held n 22 [c0] = some y0 := by
      have e : (([c0, c1] : List Value).drop 0).take (Tryz.prog.cellsOf 22) = [c0] := by rw [cids_cells]; rfl
      rw [← e]; exact h0
    have h1' : DataW.trod enc Tryz.prog w base spare held n 23 [c1] = some y1 := by
      have e : (([c0, c1] : List Value).drop 1).take (Tryz.prog.cellsOf 23) = [c1] := by rw [blks_cells]; rfl
      rw [← e]; exact h1
    obtain ⟨rs, A, ib, io, n1, c, k0, k1, _, _, k2, k3⟩ := open_cids h0'
    obtain ⟨bs, B, jb, jo, m, c2, j0, j1, _, _, j2, j3⟩ := open_blos h1'
    injection k0 with k0 _
    injection j0 with j0 _
    subst k0 j0
    exact ⟨rs, bs, A, B, ib, io, n1, c, jb, jo, m, c2, rfl, k1, j1, k2, j2, k3, j3⟩
end
end Go.Proofs.YthmhnknkidkdlaaGreatDoor
namespace Go.Proofs.YthmhnknkidkdlaaGreatDoor
open Go.ChangeShapes Go.WideShapes Go.Deep Go.RowKit

/-- A row of truth values in memory. -/
structure BolAt (w : World) (A : Option Addr) (ib io : Nat) (ns : List Bool) : Prop where
  at_ : 0 < ns.length → A = some ⟨ib, io, none⟩ ∧ ib < w.heap.size
  cells : ∀ i (h : i < ns.length), w.cell? ⟨ib, io + i, none⟩ = some (.bool ns[i])
theorem BolAt.off {w w' : World} {A : Option Addr} {ib io : Nat} {ns : List Bool} (h : BolAt w A ib io ns) (ho : Off [] w w') : BolAt w' A ib io ns :=
  ⟨fun h0 => ⟨(h.at_ h0).1, Nat.lt_of_lt_of_le (h.at_ h0).2 ho.size⟩, fun i hi => ho.cellE (h.cells i hi) (by simp)⟩

section
variable {H : Type} {enc : TypeId × Value → H} {w : World} {base : Nat} {spare : Nat → Bool} {held : Bool}
theorem bool_cells : Tryz.prog.cellsOf 4 = 1 := by kernel_rfl
set_option maxRecDepth 100000 in
theorem open_bools {fuel : Nat} {cs : List Value} {x : DataW H × List MemPlace} (h : DataW.trod enc Tryz.prog w base spare held fuel 26 cs = some x) :
    ∃ (ns : List Bool) (A : Option Addr) (ib io n c : Nat), cs = [.slice A n c] ∧ ns.length = n ∧ BolAt w A ib io ns := by
  rcases open_slice1 Tryz.underlying26 bool_cells h with ⟨h0, _⟩ | ⟨a, len, cap, m, n, V, D, Pl, hcs, hb, hl, hm, hmm, hx, hi⟩
  · exact ⟨[], none, 0, 0, 0, 0, h0, rfl, ⟨fun h => absurd h (by simp), fun i hi => absurd hi (by simp)⟩⟩
  · have hex : ∀ i, ∃ k : Bool, i < len → w.cell? (a.add i) = some (.bool k) := fun i => by
      by_cases hil : i < len
      · have him : i < m := by rw [hmm]; split <;> omega
        obtain ⟨h1, h2⟩ := hi i him
        obtain ⟨k, q0, _⟩ := DataW.trod_bool Tryz.underlying4 h2
        injection q0 with q0 _
        rw [q0] at h1
        exact ⟨k, fun _ => h1⟩
      · exact ⟨false, fun h => absurd h hil⟩
    obtain ⟨f, hf⟩ := Classical.skolem.1 hex
    have hpl : 0 < len → a = ⟨a.block, a.off, none⟩ := fun h0 => by
      have h1 := hf 0 h0
      exact Lib.plain_of_cell (v := .bool (f 0)) (by simpa [Addr.add] using h1)
    refine ⟨(List.range len).map f, some a, a.block, a.off, len, cap, hcs, by simp, ⟨fun h0 => ?_, fun i hi => ?_⟩⟩
    · have h0' : 0 < len := by simpa using h0
      refine ⟨by rw [← hpl h0'], ?_⟩
      have h1 := hf 0 h0'
      have h2 := World.block_lt_of_cell? (a := a.add 0) (u := .bool (f 0)) w h1
      simpa [Addr.add] using h2
    · have hil : i < len := by simpa using hi
      have h1 := hf i hil
      have hp := hpl (by omega)
      have hadd : a.add i = ⟨a.block, a.off + i, none⟩ := add_of_plain hp i
      rw [hadd] at h1
      have hg : ((List.range len).map f)[i] = f i := by simp
      rw [hg]
      exact h1
end

theorem filePart (hd l r : List UInt8) (h40 : hd.length = 40) : ((pragB ++ hd ++ l ++ r).drop 11).take 40 = hd ∧ ((pragB ++ hd ++ l ++ r).drop 51).take l.length = l ∧ 51 + l.length ≤ (pragB ++ hd ++ l ++ r).length := by
  refine ⟨?_, ?_, ?_⟩
  · rw [show pragB ++ hd ++ l ++ r = pragB ++ (hd ++ (l ++ r)) by simp only [List.append_assoc], List.drop_left' pragB_len, List.take_left' h40]
  · rw [show pragB ++ hd ++ l ++ r = (pragB ++ hd) ++ (l ++ r) by simp only [List.append_assoc], List.drop_left' (by simp only [List.length_append, pragB_len, h40]), List.take_left' rfl]
  · simp only [List.length_append, pragB_len, h40]; omega
theorem car1Eq (rs : List Ent) (bs : List Bk) : car1B (rs.map cidB) (bs.map Bk.b) = hdrB (rs.map cidB) 1 ++ secs bs := rfl
theorem strSize (a : List UInt8) : (str a).size = a.length := by simp [ByteArray.size]
theorem secsLen : ∀ (bs : List Bk), (∀ b, b ∈ bs → b.ok) → (secs bs).length ≤ 33100 * bs.length
  | [], _ => by simp [secs]
  | b :: bs, h => by
    have h1 := secB_len (h b List.mem_cons_self)
    have h2 := secsLen bs (fun x hx => h x (List.mem_cons_of_mem _ hx))
    have hs : (secs (b :: bs)).length = (secB (cidB b.1) b.2.data.toList).length + (secs bs).length := by
      unfold secs
      rw [List.map_cons, List.flatMap_cons, List.length_append]
      rfl
    rw [hs, List.length_cons]
    omega
end Go.Proofs.YthmhnknkidkdlaaGreatDoor
