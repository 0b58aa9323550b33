/-
  laws.FnIxLengths: the entries that it makes, in plain words.
  A row of uint16 as a statement's argument: opened.
  (No condition beyond those that each theorem states.)
-/
import Derived.Test.YtcgggcjmmphldaaGreatDoorHj2
import Derived.Test.YtcgggcjmmphldaaGreatDoorHk1
import Derived.Test.YtcgggcjmmphldaaGreatDoorHa6
namespace Go.Proofs.YtcgggcjmmphldaaGreatDoor
open Go.RowKit

/-- The byte that is repeated in the digest of entry k. -/
def lnB (k : Nat) : UInt8 := ((k + 1) % 256).toUInt8
def lnE (k n : Nat) : Ent := ⟨1, 85, 18, str (List.replicate n (lnB k)), k * 72057594037927936⟩
def lnEs (ns : List Nat) : List Ent := ns.mapIdx fun k n => lnE k n
theorem lnEs_len (ns : List Nat) : (lnEs ns).length = ns.length := List.length_mapIdx
theorem lnEs_snoc (ns : List Nat) (k : Nat) (h : k < ns.length) : lnEs (ns.take (k + 1)) = lnEs (ns.take k) ++ [lnE k ns[k]] := by
  unfold lnEs
  rw [List.take_succ_eq_append_getElem h, List.mapIdx_concat, List.length_take, Nat.min_eq_left (by omega)]
theorem lnE_dg (k n : Nat) : (lnE k n).dg.data.toList = List.replicate n (lnB k) := by simp [lnE, str]
theorem lnE_size (k n : Nat) : (lnE k n).dg.size = n := by
  show (List.replicate n (lnB k)).toArray.size = n
  simp
theorem lnE_ok (k n : Nat) (hn : n ≤ 300) (hk : k < 256) : (lnE k n).ok := by
  refine ⟨Or.inr ⟨rfl, show (85 : Nat) < _ by decide, show (18 : Nat) < _ by decide⟩, ?_, ?_⟩
  · rw [lnE_dg, List.length_replicate]; omega
  · show k * 72057594037927936 < _
    omega
theorem lnEs_ok (ns : List Nat) (h : ∀ n, n ∈ ns → n ≤ 300) (hl : ns.length ≤ 40) : ∀ e, e ∈ lnEs ns → e.ok := fun e he => by
  obtain ⟨i, hi, rfl⟩ := List.mem_mapIdx.1 he
  exact lnE_ok i _ (h _ (List.getElem_mem _)) (by omega)

/-- Lengths in memory. -/
structure U16At (w : World) (A : Option Addr) (ib io : Nat) (ns : List Nat) : Prop where
  at_ : 0 < ns.length → A = some ⟨ib, io, none⟩ ∧ ib < w.heap.size
  cells : ∀ i (h : i < ns.length), w.cell? ⟨ib, io + i, none⟩ = some (.int .u16 (ns[i] : Int))
theorem U16At.off {w w' : World} {A : Option Addr} {ib io : Nat} {ns : List Nat} (h : U16At w A ib io ns) (ho : Off [] w w') : U16At w' A ib io ns :=
  ⟨fun h0 => ⟨(h.at_ h0).1, Nat.lt_of_lt_of_le (h.at_ h0).2 ho.size⟩, fun i hi => ho.cellE (h.cells i hi) (by simp)⟩

theorem lnB_int (k : Nat) (hk : k < 255) : ((lnB k).toNat : Int) = (k : Int) + 1 := by
  have h : (lnB k).toNat = (k + 1) % 256 := by
    show (UInt8.ofNat ((k + 1) % 256)).toNat = _
    rw [UInt8.toNat_ofNat']
    omega
  rw [h]
  omega
theorem fill_step (j n : Nat) (b : UInt8) (h : j < n) : ((Lib.byteCells (List.replicate j b ++ List.replicate (n - j) 0)).toArray).setIfInBounds j (.int .u8 (b.toNat : Int)) = (Lib.byteCells (List.replicate (j + 1) b ++ List.replicate (n - (j + 1)) 0)).toArray := by
  apply Array.ext'
  rw [Array.toList_setIfInBounds]
  obtain ⟨m, hm⟩ : ∃ m, n - j = m + 1 := ⟨n - j - 1, by omega⟩
  rw [hm, show n - (j + 1) = m by omega, List.replicate_succ (a := (0 : UInt8)), List.replicate_succ' (a := b)]
  simp only [Lib.byteCells, List.map_append, List.map_cons, List.map_replicate, List.map_nil]
  rw [List.set_append_right _ _ (by simp)]
  simp
end Go.Proofs.YtcgggcjmmphldaaGreatDoor
namespace Go.Proofs.YtcgggcjmmphldaaGreatDoor
open Go.ChangeShapes Go.WideShapes Go.Deep Go.RowKit

section
variable {H : Type} {enc : TypeId × Value → H} {w : World} {base : Nat} {spare : Nat → Bool} {held : Bool}
theorem u16_of_wf {n : Int} (h : (Lit.int .u16 n).wf = true) : ∃ m : Nat, n = (m : Int) ∧ m < 65536 := by
  simp [Lit.wf, IntKind.min, IntKind.max, IntKind.bits, IntKind.signed] at h
  exact ⟨n.toNat, by omega, by omega⟩
theorem u16_cells : Tryz.prog.cellsOf 45 = 1 := by kernel_rfl
set_option maxRecDepth 100000 in
theorem open_u16s {fuel : Nat} {cs : List Value} {x : DataW H × List MemPlace} (h : DataW.trod enc Tryz.prog w base spare held fuel 44 cs = some x) :
    ∃ (ns : List Nat) (A : Option Addr) (ib io n c : Nat), cs = [.slice A n c] ∧ ns.length = n ∧ (A = none → n = 0 ∧ c = 0) ∧ U16At w A ib io ns ∧ ∀ m, m ∈ ns → m < 65536 := by
  rcases open_slice1 Tryz.underlying44 u16_cells h with ⟨h0, _⟩ | ⟨a, len, cap, m, n, V, D, Pl, hcs, hb, hl, hm, hmm, hx, hi⟩
  · exact ⟨[], none, 0, 0, 0, 0, h0, rfl, fun _ => ⟨rfl, rfl⟩, ⟨fun h => absurd h (by simp), fun i hi => absurd hi (by simp)⟩, fun e he => absurd he (by simp)⟩
  · have hex : ∀ i, ∃ k : Nat, i < len → w.cell? (a.add i) = some (.int .u16 (k : Int)) ∧ k < 65536 := fun i => by
      by_cases hil : i < len
      · have him : i < m := by rw [hmm]; split <;> omega
        obtain ⟨h1, h2⟩ := hi i him
        obtain ⟨n0, q0, _, w0⟩ := DataW.trod_int Tryz.underlying45 h2
        obtain ⟨k, rfl, hk⟩ := u16_of_wf w0
        injection q0 with q0 _
        rw [q0] at h1
        exact ⟨k, fun _ => ⟨h1, hk⟩⟩
      · exact ⟨0, fun h => absurd h hil⟩
    obtain ⟨f, hf⟩ := Classical.skolem.1 hex
    have hpl : 0 < len → a = ⟨a.block, a.off, none⟩ := fun h0 => by
      have h1 := (hf 0 h0).1
      exact Lib.plain_of_cell (v := .int .u16 ((f 0 : Nat) : Int)) (by simpa [Addr.add] using h1)
    refine ⟨(List.range len).map f, some a, a.block, a.off, len, cap, hcs, by simp, (fun h => by cases h), ⟨fun h0 => ?_, fun i hi => ?_⟩, fun e he => ?_⟩
    · have h0' : 0 < len := by simpa using h0
      refine ⟨by rw [← hpl h0'], ?_⟩
      have h1 := (hf 0 h0').1
      have h2 := World.block_lt_of_cell? (a := a.add 0) (u := .int .u16 ((f 0 : Nat) : Int)) w h1
      simpa [Addr.add] using h2
    · have hil : i < len := by simpa using hi
      have h1 := (hf i hil).1
      have hp := hpl (by omega)
      have hadd : a.add i = ⟨a.block, a.off + i, none⟩ := add_of_plain hp i
      rw [hadd] at h1
      have hg : ((List.range len).map f)[i] = f i := by simp
      rw [hg]
      exact h1
    · obtain ⟨i, hi, rfl⟩ := List.mem_map.1 he
      exact (hf i (by simpa using hi)).2
end
end Go.Proofs.YtcgggcjmmphldaaGreatDoor
