/-
  What multiWidthIndex.Load gathers: of each width of digests a row of records of its own.
  What multiWidthIndex.Load lays down: of each width its rows, sorted, as bytes of a block of their own, in the map.
  DERIVED: THE SHELF's CONTRACTS AT THIS DUMP, IN PLAIN WORDS (tools/lay-plain.mjs out of 'TryzShelf.lean', which tools/lay-shelf.mjs wrote): THE SAME DECLARATIONS UNDER THE SAME NAMES: 'import', 'namespace', 'open', 'def', 'theorem' AND NOTHING ELSE: no command of the shelf's: FOR A HAND-IN. Each laying: the table of numbers ('.._ren') and one theorem, a field a fact of the dump's own or the kernel's comparison; each contract: ONE APPLICATION.
  binary.LittleEndian: numbers written into a stretch of a block that is known whole, and read out of bytes.
  DERIVED: THE SHELF's CONTRACTS AT THIS DUMP, IN PLAIN WORDS (tools/lay-plain.mjs out of 'TryzShelf.lean', which tools/lay-shelf.mjs wrote): THE SAME DECLARATIONS UNDER THE SAME NAMES: 'import', 'namespace', 'open', 'def', 'theorem' AND NOTHING ELSE: no command of the shelf's: FOR A HAND-IN. Each laying: the table of numbers ('.._ren') and one theorem, a field a fact of the dump's own or the kernel's comparison; each contract: ONE APPLICATION.
  (No condition beyond those that each theorem states.)
-/
import Derived.Test.YtkdbjocchponfaaGreatDoorM09
import Derived.Test.YtkdbjocchponfaaGreatDoorM05
import Derived.Test.YtkdbjocchponfaaGreatDoorM06
import Derived.Test.YtkdbjocchponfaaGreatDoorM08
import Derived.Ground.MnProg
import Derived.Shelf.Bin.LEPutUint32
import Derived.Shelf.Bin.LEUint64
import Derived.Shelf.Bin.LEPutUint64
import Derived.Test.YtkdbjocchponfaaGreatDoorProg
import Derived.Test.YtkdbjocchponfaaGreatDoorM01
import Derived.Shelf.LaysM
import Derived.Shelf.Bytes.String
import Derived.Shelf.Bytes.WriteKept
import Derived.Shelf.Bytes.BufferK
import Derived.Shelf.Bytes.WriteAny
namespace Go.Proofs.YtkdbjocchponfaaGreatDoor
open Go.RowKit Go.Maps

def ints (K : List Nat) : List Int := K.map fun m : Nat => (m : Int)
/-- A map whose keys are numbers from 0 up. -/
def MpN (P : Program) (k : TypeId) (q : IntKind) (w : World) (b n : Nat) (K : List Nat) (V : Nat → Value) : Prop := Mp P k q w b n (ints K) (fun x => V x.toNat)
theorem mem_mapN {K : List Nat} {m : Nat} : ((m : Int) ∈ ints K) ↔ m ∈ K := by
  simp only [ints, List.mem_map]
  exact ⟨fun ⟨a, ha, e⟩ => by have : a = m := by omega
                              rw [← this]; exact ha, fun h => ⟨m, h, rfl⟩⟩
theorem MpN.stored {P : Program} {k : TypeId} {q : IntKind} {w : World} {b n m : Nat} {K : List Nat} {V : Nat → Value} {u : Value}
    (h : Mp P k q w b n (if (m : Int) ∈ ints K then ints K else ints K ++ [(m : Int)]) (fun y => if y = (m : Int) then u else V y.toNat)) :
    MpN P k q w b n (if m ∈ K then K else K ++ [m]) (fun j => if j = m then u else V j) := by
  have hk : (if (m : Int) ∈ ints K then ints K else ints K ++ [(m : Int)]) = ints (if m ∈ K then K else K ++ [m]) := by
    by_cases hm : m ∈ K
    · rw [if_pos (mem_mapN.2 hm), if_pos hm]
    · rw [if_neg (fun e => hm (mem_mapN.1 e)), if_neg hm]; simp [ints]
  rw [hk] at h
  refine h.congr fun x hx => ?_
  obtain ⟨j, _, rfl⟩ := List.mem_map.1 hx
  simp only [Int.toNat_natCast]
  by_cases hj : j = m
  · subst hj; simp
  · rw [if_neg hj, if_neg (by omega)]
theorem MpN.off {P : Program} {k : TypeId} {q : IntKind} {w w' : World} {b n : Nat} {K : List Nat} {V : Nat → Value} {S : List Nat} (h : MpN P k q w b n K V) (ho : Off S w w') (hb : b ∉ S) : MpN P k q w' b n K V := Mp.off h ho hb
theorem MpN.mono {P : Program} {k : TypeId} {q : IntKind} {w : World} {b n n' : Nat} {K : List Nat} {V : Nat → Value} (h : MpN P k q w b n K V) (hn : n ≤ n') : MpN P k q w b n' K V := Mp.mono h hn
theorem MpN.congr {P : Program} {k : TypeId} {q : IntKind} {w : World} {b n : Nat} {K : List Nat} {V V' : Nat → Value} (h : MpN P k q w b n K V) (he : ∀ j, j ∈ K → V' j = V j) : MpN P k q w b n K V' :=
  Mp.congr h fun x hx => by obtain ⟨j, hj, rfl⟩ := List.mem_map.1 hx; simp [he j hj]
theorem MpN.nodup {P : Program} {k : TypeId} {q : IntKind} {w : World} {b n : Nat} {K : List Nat} {V : Nat → Value} (h : MpN P k q w b n K V) : K.Nodup :=
  (List.pairwise_map.1 (show (ints K).Pairwise (· ≠ ·) from Mp.nodup h)).imp fun hne e => hne (by rw [e])

/-- An entry: its identifier's bytes, hash function, digest, its offset. -/
structure It where
  s : ByteArray
  code : Nat
  d : List UInt8
  off : Nat
def It.rw (it : It) : Rw := ⟨it.d, it.off⟩
def DR.rw (r : DR) : Rw := ⟨r.d, r.off⟩
structure It.ok (it : It) : Prop where
  cid : IsCid it.s.data.toList it.code it.d
  off : it.off < 18446744073709551616
  small : it.d.length ≤ 1000

/-- Records in memory. -/
structure ItemsAt (w : World) (A : Option Addr) (ib io : Nat) (its : List It) : Prop where
  at_ : 0 < its.length → A = some ⟨ib, io, none⟩ ∧ ib < w.heap.size
  cells : ∀ i (h : i < its.length), w.cell? ⟨ib, io + i * 2, none⟩ = some (.string its[i].s) ∧ w.cell? ⟨ib, io + i * 2 + 1, none⟩ = some (.int .u64 (its[i].off : Int))
theorem ItemsAt.off {w w' : World} {A : Option Addr} {ib io : Nat} {its : List It} {S : List Nat} (h : ItemsAt w A ib io its) (ho : Off S w w') (hS : 0 < its.length → ib ∉ S) : ItemsAt w' A ib io its := by
  refine ⟨fun h0 => ⟨(h.at_ h0).1, Nat.lt_of_lt_of_le (h.at_ h0).2 ho.size⟩, fun i hi => ?_⟩
  have h0 : 0 < its.length := by omega
  have hb := ho.block ib (h.at_ h0).2 (hS h0)
  obtain ⟨h1, h2⟩ := h.cells i hi
  exact ⟨by rw [World.cell?_of_block (a := ⟨ib, io + i * 2, none⟩) hb]; exact h1, by rw [World.cell?_of_block (a := ⟨ib, io + i * 2 + 1, none⟩) hb]; exact h2⟩

/-- What is gathered of the entries its: the widths K, at each a row of its own (block G, records R) of just the entries of that width. -/
structure Gath (w wr : World) (mb : Nat) (its : List It) (K : List Nat) (V : Nat → Value) (G : Nat → Nat) (R : Nat → List DR) : Prop where
  off : Off [] w wr
  hmb : w.heap.size = mb
  mp : MpN Tryz.prog 3 .i64 wr mb (2 * its.length) K V
  mem : ∀ n, n ∈ K ↔ ∃ it, it ∈ its ∧ it.d.length = n
  row : ∀ n, n ∈ K → ∃ cap sp, V n = .slice (some ⟨G n, 0, none⟩) (R n).length cap ∧ (R n).length ≤ cap ∧ cap ≤ maxLen ∧ sp.length + (R n).length * 2 = cap * 2 ∧ Blk wr (G n) 357 (flat2 (R n) ++ sp).toArray ∧ w.heap.size < G n
  inj : ∀ m, m ∈ K → ∀ n, n ∈ K → G m = G n → m = n
  rows : ∀ n, n ∈ K → (R n).map DR.rw = (its.filter fun it => it.d.length == n).map It.rw
  rd : ∀ n, n ∈ K → ∀ r, r ∈ R n → ∃ (A : Option Addr) (C b o : Nat), r.v = .slice A r.d.length C ∧ (0 < r.d.length → A = some ⟨b, o, none⟩ ∧ w.heap.size < b ∧ b < wr.heap.size ∧ ∀ m, m ∈ K → b ≠ G m) ∧ Seg wr b o r.d

/-- One entry more. -/
theorem Gath.step {w wr w6 : World} {mb : Nat} {its : List It} {K : List Nat} {V : Nat → Value} {G : Nat → Nat} {R : Nat → List DR} (h : Gath w wr mb its K V G R) (it : It) (r : DR) (hrd : r.d = it.d) (hro : r.off = it.off)
    (g' cap' : Nat) (sp' : List Value) (b o : Nat) (A : Option Addr) (C : Nat) (hoff : Off (if it.d.length ∈ K then [mb, G it.d.length] else [mb]) wr w6)
    (hmp : MpN Tryz.prog 3 .i64 w6 mb (2 * (its ++ [it]).length) (if it.d.length ∈ K then K else K ++ [it.d.length]) (fun j => if j = it.d.length then .slice (some ⟨g', 0, none⟩) ((if it.d.length ∈ K then R it.d.length else []) ++ [r]).length cap' else V j))
    (hblk : Blk w6 g' 357 (flat2 ((if it.d.length ∈ K then R it.d.length else []) ++ [r]) ++ sp').toArray) (hcap : ((if it.d.length ∈ K then R it.d.length else []) ++ [r]).length ≤ cap') (hcm : cap' ≤ maxLen) (hsp : sp'.length + ((if it.d.length ∈ K then R it.d.length else []) ++ [r]).length * 2 = cap' * 2)
    (hg' : (it.d.length ∈ K ∧ g' = G it.d.length) ∨ wr.heap.size ≤ g') (hgb : b ≠ g') (hv : r.v = .slice A r.d.length C) (hA : 0 < r.d.length → A = some ⟨b, o, none⟩) (hb1 : wr.heap.size ≤ b) (hb2 : 0 < r.d.length → b < w6.heap.size) (hseg : Seg w6 b o r.d) (hmbw : mb < wr.heap.size) :
    Gath w w6 mb (its ++ [it]) (if it.d.length ∈ K then K else K ++ [it.d.length]) (fun j => if j = it.d.length then .slice (some ⟨g', 0, none⟩) ((if it.d.length ∈ K then R it.d.length else []) ++ [r]).length cap' else V j)
      (fun j => if j = it.d.length then g' else G j) (fun j => if j = it.d.length then (if it.d.length ∈ K then R it.d.length else []) ++ [r] else R j) := by
  have hmb := h.hmb
  have hws := h.off.size
  have hG : ∀ n, n ∈ K → G n < wr.heap.size := fun n hn => by obtain ⟨_, _, _, _, _, _, hb, _⟩ := h.row n hn; exact hb.lt
  have hGw : ∀ n, n ∈ K → w.heap.size < G n := fun n hn => by obtain ⟨_, _, _, _, _, _, _, hb⟩ := h.row n hn; exact hb
  have hK' : ∀ n, n ∈ (if it.d.length ∈ K then K else K ++ [it.d.length]) ↔ n ∈ K ∨ n = it.d.length := fun n => by
    by_cases hm : it.d.length ∈ K
    · rw [if_pos hm]
      exact ⟨Or.inl, fun hx => by rcases hx with hx | rfl; exact hx; exact hm⟩
    · rw [if_neg hm]; simp
  have hfar : ∀ k, k < wr.heap.size → k ≠ mb → (it.d.length ∈ K → k ≠ G it.d.length) → k ∉ (if it.d.length ∈ K then [mb, G it.d.length] else [mb]) := fun k _ h1 h2 => by
    by_cases hm : it.d.length ∈ K
    · rw [if_pos hm]; simp; exact ⟨h1, h2 hm⟩
    · rw [if_neg hm]; simp; exact h1
  refine ⟨?_, hmb, hmp, ?_, ?_, ?_, ?_, ?_⟩
  · refine h.off.then hoff (fun x hx => Or.inr ?_)
    by_cases hm : it.d.length ∈ K
    · rw [if_pos hm] at hx
      simp at hx
      rcases hx with rfl | rfl
      · omega
      · have := hGw _ hm; omega
    · rw [if_neg hm] at hx
      simp at hx; omega
  · intro n
    rw [hK', h.mem]
    constructor
    · rintro (⟨x, hx, rfl⟩ | rfl)
      · exact ⟨x, List.mem_append.2 (Or.inl hx), rfl⟩
      · exact ⟨it, by simp, rfl⟩
    · rintro ⟨x, hx, rfl⟩
      rcases List.mem_append.1 hx with hx | hx
      · exact Or.inl ⟨x, hx, rfl⟩
      · simp at hx; subst hx; exact Or.inr rfl
  · intro n hn
    by_cases he : n = it.d.length
    · subst he
      simp only [if_true]
      exact ⟨cap', sp', rfl, hcap, hcm, hsp, hblk, by rcases hg' with ⟨hm, e⟩ | hg; have := hGw _ hm; omega; omega⟩
    · simp only [if_neg he]
      have hn' : n ∈ K := by rcases (hK' n).1 hn with hx | hx; exact hx; exact absurd hx he
      obtain ⟨cap, sp, e1, e2, e3, e4, hb, e6⟩ := h.row n hn'
      exact ⟨cap, sp, e1, e2, e3, e4, hb.off hoff (hfar _ (hG n hn') (by omega) (fun hm e => he (h.inj _ hn' _ hm e))), e6⟩
  · intro m hm n hn hmn
    by_cases h1 : m = it.d.length
    · by_cases h2 : n = it.d.length
      · rw [h1, h2]
      · have hn' : n ∈ K := by rcases (hK' n).1 hn with hx | hx; exact hx; exact absurd hx h2
        simp only [if_pos h1, if_neg h2] at hmn
        rcases hg' with ⟨hk, e⟩ | hg
        · exact absurd (h.inj _ hn' _ hk (by rw [← e, hmn])) h2
        · have := hG n hn'; omega
    · have hm' : m ∈ K := by rcases (hK' m).1 hm with hx | hx; exact hx; exact absurd hx h1
      by_cases h2 : n = it.d.length
      · simp only [if_neg h1, if_pos h2] at hmn
        rcases hg' with ⟨hk, e⟩ | hg
        · exact absurd (h.inj _ hm' _ hk (by rw [hmn, e])) h1
        · have := hG m hm'; omega
      · simp only [if_neg h1, if_neg h2] at hmn
        have hn' : n ∈ K := by rcases (hK' n).1 hn with hx | hx; exact hx; exact absurd hx h2
        exact h.inj _ hm' _ hn' hmn
  · intro n hn
    by_cases he : n = it.d.length
    · subst he
      simp only [if_true, List.filter_append, List.map_append]
      by_cases hm : it.d.length ∈ K
      · rw [if_pos hm, h.rows _ hm]
        simp [DR.rw, It.rw, hrd, hro]
      · rw [if_neg hm]
        have h0 : (its.filter fun x => x.d.length == it.d.length) = [] := List.filter_eq_nil_iff.2 fun x hx e => hm ((h.mem _).2 ⟨x, hx, by simpa using e⟩)
        rw [h0]
        simp [DR.rw, It.rw, hrd, hro]
    · simp only [if_neg he]
      have hn' : n ∈ K := by rcases (hK' n).1 hn with hx | hx; exact hx; exact absurd hx he
      rw [h.rows n hn', List.filter_append]
      have : (it.d.length == n) = false := beq_eq_false_iff_ne.2 (fun e => he e.symm)
      simp [this]
  · intro n hn x hx
    have old : ∀ m, m ∈ K → x ∈ R m → ∃ (A : Option Addr) (C b o : Nat), x.v = .slice A x.d.length C ∧ (0 < x.d.length → A = some ⟨b, o, none⟩ ∧ w.heap.size < b ∧ b < w6.heap.size ∧ ∀ j, j ∈ (if it.d.length ∈ K then K else K ++ [it.d.length]) → b ≠ (if j = it.d.length then g' else G j)) ∧ Seg w6 b o x.d := fun m hm hxm => by
      obtain ⟨A', C', b', o', e1, e2, e3⟩ := h.rd m hm x hxm
      by_cases h0 : 0 < x.d.length
      · obtain ⟨f1, f2, f3, f4⟩ := e2 h0
        refine ⟨A', C', b', o', e1, fun _ => ⟨f1, f2, Nat.lt_of_lt_of_le f3 hoff.size, fun j hj => ?_⟩, e3.off hoff (hfar _ f3 (by omega) (fun hk => f4 _ hk))⟩
        by_cases hj' : j = it.d.length
        · rw [if_pos hj']
          rcases hg' with ⟨hk, e⟩ | hg
          · rw [e]; exact f4 _ hk
          · omega
        · rw [if_neg hj']
          rcases (hK' j).1 hj with hx' | hx'
          · exact f4 _ hx'
          · exact absurd hx' hj'
      · have : x.d = [] := List.eq_nil_of_length_eq_zero (by omega)
        exact ⟨A', C', b', o', e1, fun h1 => absurd h1 h0, by rw [this]; exact Seg.nil⟩
    by_cases he : n = it.d.length
    · subst he
      simp only [if_true] at hx
      rcases List.mem_append.1 hx with hx | hx
      · by_cases hm : it.d.length ∈ K
        · rw [if_pos hm] at hx
          exact old _ hm hx
        · rw [if_neg hm] at hx; simp at hx
      · simp at hx
        subst hx
        refine ⟨A, C, b, o, hv, fun h0 => ⟨hA h0, by omega, hb2 h0, fun j hj => ?_⟩, hseg⟩
        by_cases hj' : j = it.d.length
        · rw [if_pos hj']; exact hgb
        · rw [if_neg hj']
          rcases (hK' j).1 hj with hx' | hx'
          · have := hG j hx'; omega
          · exact absurd hx' hj'
    · simp only [if_neg he] at hx
      have hn' : n ∈ K := by rcases (hK' n).1 hn with hx' | hx'; exact hx'; exact absurd hx' he
      exact old n hn' hx
end Go.Proofs.YtkdbjocchponfaaGreatDoor
namespace Go.Proofs.YtkdbjocchponfaaGreatDoor
open Go.RowKit Go.Maps

/-- A width's index as it lies in the map: its width, its number of rows, its bytes. -/
def swv (n k C : Nat) : Value := .agg #[.int .u32 ((n + 8 : Nat) : Int), .int .u64 (k : Int), .slice (some ⟨C, 0, none⟩) ((n + 8) * k) ((n + 8) * k)]

/-- Block mm is a multiWidthIndex: the widths of digests D, at each the rows S, their bytes in blocks from B on. -/
structure MwAt (B : Nat) (w : World) (mm : Nat) (D : List Nat) (S : Nat → List Rw) : Prop where
  ex : ∃ (V : Nat → Value) (C : Nat → Nat), MpN Tryz.prog 233 .u32 w mm D.length (D.map (· + 8)) V ∧ ∀ n, n ∈ D → V (n + 8) = swv n (S n).length (C n) ∧ Seg w (C n) 0 (rowsB (S n)) ∧ B ≤ C n ∧ C n < w.heap.size ∧ ∀ r, r ∈ S n → r.d.length = n

theorem MwAt.off {B : Nat} {w w' : World} {mm : Nat} {D : List Nat} {S : Nat → List Rw} {T : List Nat} (h : MwAt B w mm D S) (ho : Off T w w') (hm : mm ∉ T) (hT : ∀ x, x ∈ T → x < B ∨ w.heap.size ≤ x) : MwAt B w' mm D S := by
  obtain ⟨V, C, hmp, hrow⟩ := h.ex
  exact ⟨V, C, hmp.off ho hm, fun n hn => by
    obtain ⟨h1, h2, h3, h4, h5⟩ := hrow n hn
    exact ⟨h1, h2.off ho (fun hx => by have := hT _ hx; omega), h3, Nat.lt_of_lt_of_le h4 ho.size, h5⟩⟩
theorem MwAt.lt {B : Nat} {w : World} {mm : Nat} {D : List Nat} {S : Nat → List Rw} (h : MwAt B w mm D S) : mm < w.heap.size := by obtain ⟨V, C, hmp, _⟩ := h.ex; exact hmp.lt
theorem MwAt.nodup {B : Nat} {w : World} {mm : Nat} {D : List Nat} {S : Nat → List Rw} (h : MwAt B w mm D S) : D.Nodup := by
  obtain ⟨V, C, hmp, _⟩ := h.ex
  exact (List.pairwise_map.1 hmp.nodup).imp fun hne e => hne (by rw [e])

structure Pack (w wr : World) (mb mm rb n : Nat) (K : List Nat) (V : Nat → Value) (G : Nat → Nat) (R : Nat → List DR) (L : List Int) (D : List Nat) (S : Nat → List Rw) : Prop where
  off : Off [mm] w wr
  rg : Rg Tryz.prog 3 .i64 wr mb rb (2 * n) (ints K) (fun x => V x.toNat) L
  mw : MwAt (rb + 1) wr mm D S
  dmem : ∀ j, j ∈ D ↔ j ∈ K ∧ (j : Int) ∉ L
  srt : ∀ j, j ∈ D → (S j).Perm ((R j).map DR.rw) ∧ Srtd (S j)
  row : ∀ j, j ∈ K → (j : Int) ∈ L → ∃ cap sp, V j = .slice (some ⟨G j, 0, none⟩) (R j).length cap ∧ (R j).length ≤ cap ∧ cap ≤ maxLen ∧ sp.length + (R j).length * 2 = cap * 2 ∧ Blk wr (G j) 357 (flat2 (R j) ++ sp).toArray
  gb : ∀ j, j ∈ K → w.heap.size < G j ∧ G j < rb
  inj : ∀ j, j ∈ K → ∀ k, k ∈ K → G j = G k → j = k
  wid : ∀ j, j ∈ K → ∀ r, r ∈ R j → r.d.length = j
  rd : ∀ j, j ∈ K → ∀ r, r ∈ R j → ∃ (A : Option Addr) (C b o : Nat), r.v = .slice A r.d.length C ∧ (0 < r.d.length → A = some ⟨b, o, none⟩ ∧ w.heap.size < b ∧ b < rb ∧ ∀ m, m ∈ K → b ≠ G m) ∧ Seg wr b o r.d
  hmb : mb = w.heap.size
  hmm : mm < w.heap.size
  hrb : w.heap.size < rb ∧ rb < wr.heap.size

theorem Pack.step {w wr w' : World} {mb mm rb n : Nat} {K : List Nat} {V : Nat → Value} {G : Nat → Nat} {R : Nat → List DR} {L : List Int} {D : List Nat} {S : Nat → List Rw} (h : Pack w wr mb mm rb n K V G R L D S) (j : Nat) (hj : j ∈ K) (hjL : (j : Int) ∈ L)
    (hoff : Off [rb, G j, mm] wr w') (hrg : Rg Tryz.prog 3 .i64 w' mb rb (2 * n) (ints K) (fun x => V x.toNat) (L.erase (j : Int))) (V2 : Nat → Value) (C : Nat → Nat) (C' : Nat) (s : List Rw)
    (hold : ∀ k, k ∈ D → V2 (k + 8) = swv k (S k).length (C k) ∧ Seg wr (C k) 0 (rowsB (S k)) ∧ rb + 1 ≤ C k ∧ C k < wr.heap.size ∧ ∀ r, r ∈ S k → r.d.length = k)
    (hmp : MpN Tryz.prog 233 .u32 w' mm (D.length + 1) (if j + 8 ∈ D.map (· + 8) then D.map (· + 8) else D.map (· + 8) ++ [j + 8]) (fun k => if k = j + 8 then swv j s.length C' else V2 k))
    (hC : wr.heap.size ≤ C') (hC2 : C' < w'.heap.size) (hseg : Seg w' C' 0 (rowsB s)) (hperm : s.Perm ((R j).map DR.rw)) (hsrt : Srtd s) :
    Pack w w' mb mm rb n K V G R (L.erase (j : Int)) (D ++ [j]) (fun k => if k = j then s else S k) := by
  have hjD : j ∉ D := fun hx => ((h.dmem j).1 hx).2 hjL
  have hjD8 : j + 8 ∉ D.map (· + 8) := fun hx => by
    obtain ⟨k, hk, e⟩ := List.mem_map.1 hx
    exact hjD (by rw [show j = k by omega]; exact hk)
  rw [if_neg hjD8] at hmp
  have hLn := h.rg.nodup
  have hmm := h.hmm
  have hrb := h.hrb
  have hgj := h.gb j hj
  have hws := h.off.size
  refine ⟨?_, hrg, ?_, ?_, ?_, ?_, h.gb, h.inj, h.wid, ?_, h.hmb, hmm, ⟨hrb.1, Nat.lt_of_lt_of_le hrb.2 hoff.size⟩⟩
  · refine h.off.then hoff (fun x hx => ?_)
    simp at hx
    rcases hx with rfl | rfl | rfl
    · right; omega
    · right; omega
    · left; simp
  · refine ⟨fun k => if k = j + 8 then swv j s.length C' else V2 k, fun k => if k = j then C' else C k, by simpa using hmp, fun k hk => ?_⟩
    rcases List.mem_append.1 hk with hk | hk
    · have hne : k ≠ j := fun e => hjD (by rw [← e]; exact hk)
      obtain ⟨h1, h2, h3, h4, h5⟩ := hold k hk
      simp only [if_neg hne, if_neg (show ¬ k + 8 = j + 8 by omega)]
      exact ⟨h1, h2.off hoff (by simp; omega), h3, Nat.lt_of_lt_of_le h4 hoff.size, h5⟩
    · simp at hk
      subst hk
      simp only [if_true]
      refine ⟨trivial, hseg, by omega, hC2, fun r hr => ?_⟩
      obtain ⟨x, hx, rfl⟩ := List.mem_map.1 (hperm.mem_iff.1 hr)
      exact h.wid k hj x hx
  · intro k
    rw [List.mem_append, h.dmem]
    constructor
    · rintro (⟨h1, h2⟩ | h1)
      · exact ⟨h1, fun hx => h2 (List.mem_of_mem_erase hx)⟩
      · simp at h1
        subst h1
        exact ⟨hj, hLn.not_mem_erase⟩
    · rintro ⟨h1, h2⟩
      by_cases he : k = j
      · right; simp [he]
      · left
        exact ⟨h1, fun hx => h2 ((List.mem_erase_of_ne (by omega)).2 hx)⟩
  · intro k hk
    by_cases he : k = j
    · subst he; simp only [if_true]; exact ⟨hperm, hsrt⟩
    · simp only [if_neg he]
      rcases List.mem_append.1 hk with hk | hk
      · exact h.srt k hk
      · simp at hk; exact absurd hk he
  · intro k hk hkL
    have hne : k ≠ j := fun e => by subst e; exact hLn.not_mem_erase hkL
    obtain ⟨cap, sp, e1, e2, e3, e4, hb⟩ := h.row k hk (List.mem_of_mem_erase hkL)
    have hgk := h.gb k hk
    exact ⟨cap, sp, e1, e2, e3, e4, hb.off hoff (by simp; exact ⟨by omega, fun e => hne (h.inj k hk j hj e), by omega⟩)⟩
  · intro k hk r hr
    obtain ⟨A, C0, b, o, e1, e2, e3⟩ := h.rd k hk r hr
    refine ⟨A, C0, b, o, e1, e2, ?_⟩
    by_cases h0 : 0 < r.d.length
    · obtain ⟨f1, f2, f3, f4⟩ := e2 h0
      exact e3.off hoff (by simp; exact ⟨by omega, f4 j hj, by omega⟩)
    · have : r.d = [] := List.eq_nil_of_length_eq_zero (by omega)
      rw [this]; exact Seg.nil

theorem perm_of_in {d d' : Array DR} {N : Nat} (hN : d.size = N) (h : Sort.PermIn 0 N d d') : d'.toList.Perm d.toList := by
  obtain ⟨h1, _, h3⟩ := h
  subst hN
  have e1 : d.extract 0 d.size = d := by simp
  have e2 : d'.extract 0 d.size = d' := by rw [← h1]; simp
  rwa [e1, e2] at h3
theorem srtd_of {d : Array DR} {N : Nat} (hN : d.size = N) (h : Sort.SortedIn ltDR 0 N d) : Srtd (d.toList.map DR.rw) := by
  unfold Srtd
  rw [List.pairwise_map]
  refine List.pairwise_iff_getElem.2 fun i k hi hk hik => ?_
  have := h i k (Nat.zero_le _) hik (by rw [← hN]; simpa using hk)
  rw [get_list d i (by simpa using hi), get_list d k (by simpa using hk)] at this
  simpa [ltDR, Sort.ltStr, DR.rw] using this
end Go.Proofs.YtkdbjocchponfaaGreatDoor
namespace Go.Proofs
open Go.Shelf
def Tryz.laysBin31_ren : Go.Shelf.Ren := ⟨fun | 31 => 229 | n => n, fun | 25 => 173 | 22 => 32 | 29 => 233 | 0 => 0 | 5 => 5 | 45 => 90 | n => n, fun | n => n⟩
theorem Tryz.laysBin31 : Go.Proofs.LaysBin.n31 Tryz.prog Tryz.laysBin31_ren := {
  mixed := by kernel_rfl
  f31 := Tryz.func229.trans (congrArg some (by kernel_rfl))
  t0 := Tryz.underlying0
  a0 := Tryz.isAgg0
  z0 := Tryz.sizeOf0
  v0 := Tryz.zeroValue0
  i0 := by kernel_rfl
  t5 := Tryz.underlying5
  a5 := Tryz.isAgg5
  z5 := Tryz.sizeOf5
  v5 := Tryz.zeroValue5
  i5 := by kernel_rfl
  t22 := Tryz.underlying32
  a22 := Tryz.isAgg32
  z22 := Tryz.sizeOf32
  v22 := Tryz.zeroValue32
  i22 := by kernel_rfl
  t25 := Tryz.underlying173
  a25 := Tryz.isAgg173
  z25 := Tryz.sizeOf173
  v25 := Tryz.zeroValue173
  i25 := by kernel_rfl
  t29 := Tryz.underlying233
  a29 := Tryz.isAgg233
  z29 := Tryz.sizeOf233
  v29 := Tryz.zeroValue233
  i29 := by kernel_rfl
  t45 := Tryz.underlying90
  a45 := Tryz.isAgg90
  z45 := Tryz.sizeOf90
  v45 := Tryz.zeroValue90
  i45 := by kernel_rfl }
open Go.RowKit in
/-- binary.LittleEndian.PutUint32: "PutUint32 stores v into b[0:4].": v's 4 BYTES, the least first ('Lib.leBytes 4 v'), ARE LAID IN THE SLICE's FIRST 4 CELLS ('World.setCells'); nothing else turns (the receiver, an empty struct, is laid in a new block without cells). (LAID: no walk: one application.) -/
theorem Tryz.binary_LE_PutUint32 (g o n c v : Nat) (hv : v < 4294967296) (x0 x1 x2 x3 : Value) (w : World) (hn : 4 ≤ n) (c0 : w.cell? ⟨g, o, none⟩ = some x0) (c1 : w.cell? ⟨g, o + 1, none⟩ = some x1) (c2 : w.cell? ⟨g, o + 2, none⟩ = some x2) (c3 : w.cell? ⟨g, o + 3, none⟩ = some x3) (f0 : w.frozen? ⟨g, o, none⟩ = false) (f1 : w.frozen? ⟨g, o + 1, none⟩ = false) (f2 : w.frozen? ⟨g, o + 2, none⟩ = false) (f3 : w.frozen? ⟨g, o + 3, none⟩ = false) :
    Calls Tryz.prog 229 #[.agg #[], .slice (some ⟨g, o, none⟩) n c, .int .u32 v] w fun e w' => e = .returned (.tuple #[]) ∧ w' = (w.alloc (.cells #[] 173)).setCells g o (Lib.byteCells (Lib.leBytes 4 v)) := Any.binary_LE_PutUint32 Tryz.laysBin31 g o n c v hv x0 x1 x2 x3 w hn c0 c1 c2 c3 f0 f1 f2 f3
def Tryz.laysBin33_ren : Go.Shelf.Ren := ⟨fun | 33 => 80 | n => n, fun | 25 => 173 | 22 => 32 | 33 => 30 | 0 => 0 | 5 => 5 | 45 => 90 | n => n, fun | n => n⟩
open Go.RowKit in
def Tryz.laysBin34_ren : Go.Shelf.Ren := ⟨fun | 34 => 235 | n => n, fun | 25 => 173 | 22 => 32 | 33 => 30 | 0 => 0 | 5 => 5 | 45 => 90 | n => n, fun | n => n⟩
theorem Tryz.laysBin34 : Go.Proofs.LaysBin.n34 Tryz.prog Tryz.laysBin34_ren := {
  mixed := by kernel_rfl
  f34 := Tryz.func235.trans (congrArg some (by kernel_rfl))
  t0 := Tryz.underlying0
  a0 := Tryz.isAgg0
  z0 := Tryz.sizeOf0
  v0 := Tryz.zeroValue0
  i0 := by kernel_rfl
  t5 := Tryz.underlying5
  a5 := Tryz.isAgg5
  z5 := Tryz.sizeOf5
  v5 := Tryz.zeroValue5
  i5 := by kernel_rfl
  t22 := Tryz.underlying32
  a22 := Tryz.isAgg32
  z22 := Tryz.sizeOf32
  v22 := Tryz.zeroValue32
  i22 := by kernel_rfl
  t25 := Tryz.underlying173
  a25 := Tryz.isAgg173
  z25 := Tryz.sizeOf173
  v25 := Tryz.zeroValue173
  i25 := by kernel_rfl
  t33 := Tryz.underlying30
  a33 := Tryz.isAgg30
  z33 := Tryz.sizeOf30
  v33 := Tryz.zeroValue30
  i33 := by kernel_rfl
  t45 := Tryz.underlying90
  a45 := Tryz.isAgg90
  z45 := Tryz.sizeOf90
  v45 := Tryz.zeroValue90
  i45 := by kernel_rfl }
open Go.RowKit in
/-- binary.LittleEndian.PutUint64: "PutUint64 stores v into b[0:8].": v's 8 BYTES, the least first ('Lib.leBytes 8 v'), ARE LAID IN THE SLICE's FIRST 8 CELLS ('World.setCells'); nothing else turns (the receiver, an empty struct, is laid in a new block without cells). (LAID: no walk: one application.) -/
theorem Tryz.binary_LE_PutUint64 (g o n c v : Nat) (hv : v < 18446744073709551616) (x0 x1 x2 x3 x4 x5 x6 x7 : Value) (w : World) (hn : 8 ≤ n) (c0 : w.cell? ⟨g, o, none⟩ = some x0) (c1 : w.cell? ⟨g, o + 1, none⟩ = some x1) (c2 : w.cell? ⟨g, o + 2, none⟩ = some x2) (c3 : w.cell? ⟨g, o + 3, none⟩ = some x3) (c4 : w.cell? ⟨g, o + 4, none⟩ = some x4) (c5 : w.cell? ⟨g, o + 5, none⟩ = some x5) (c6 : w.cell? ⟨g, o + 6, none⟩ = some x6) (c7 : w.cell? ⟨g, o + 7, none⟩ = some x7) (f0 : w.frozen? ⟨g, o, none⟩ = false) (f1 : w.frozen? ⟨g, o + 1, none⟩ = false) (f2 : w.frozen? ⟨g, o + 2, none⟩ = false) (f3 : w.frozen? ⟨g, o + 3, none⟩ = false) (f4 : w.frozen? ⟨g, o + 4, none⟩ = false) (f5 : w.frozen? ⟨g, o + 5, none⟩ = false) (f6 : w.frozen? ⟨g, o + 6, none⟩ = false) (f7 : w.frozen? ⟨g, o + 7, none⟩ = false) :
    Calls Tryz.prog 235 #[.agg #[], .slice (some ⟨g, o, none⟩) n c, .int .u64 v] w fun e w' => e = .returned (.tuple #[]) ∧ w' = (w.alloc (.cells #[] 173)).setCells g o (Lib.byteCells (Lib.leBytes 8 v)) := Any.binary_LE_PutUint64 Tryz.laysBin34 g o n c v hv x0 x1 x2 x3 x4 x5 x6 x7 w hn c0 c1 c2 c3 c4 c5 c6 c7 f0 f1 f2 f3 f4 f5 f6 f7
end Go.Proofs
namespace Go.Proofs.YtkdbjocchponfaaGreatDoor
open Go.RowKit

theorem blk_parts {w : World} {g o : Nat} {t : TypeId} {pre mid post : List Value} (hb : Blk w g t (pre ++ (mid ++ post)).toArray) (hp : pre.length = o) (j : Nat) (hj : j < mid.length) :
    w.cell? ⟨g, o + j, none⟩ = some mid[j] ∧ w.frozen? ⟨g, o + j, none⟩ = false := by
  refine ⟨?_, hb.frozen _⟩
  rw [hb.cell, List.getElem?_toArray, List.getElem?_append_right (by omega), List.getElem?_append_left (by omega)]
  simp [← hp, hj]

theorem off_setCells (g : Nat) : ∀ (vs : List Value) (o : Nat) (w : World), Off [g] w (w.setCells g o vs)
  | [], _, w => Off.refl [g] w
  | v :: vs, o, w => by
    show Off [g] w ((w.setCell ⟨g, o, none⟩ v).setCells g (o + 1) vs)
    exact ((Off.refl [g] w).setCell (p := ⟨g, o, none⟩) (Or.inl (List.mem_singleton.2 rfl)) v).then (off_setCells g vs (o + 1) _) (fun x hx => Or.inl hx)

theorem putLE32_blk (g o n c v : Nat) (t : TypeId) (pre mid post : List Value) (hv : v < 4294967296) (w : World) (hn : 4 ≤ n) (hp : pre.length = o) (hm : mid.length = 4) (hb : Blk w g t (pre ++ (mid ++ post)).toArray) :
    Calls Tryz.prog 229 #[.agg #[], .slice (some ⟨g, o, none⟩) n c, .int .u32 v] w fun e w' => e = .returned (.tuple #[]) ∧ Blk w' g t (pre ++ (Lib.byteCells (Lib.leBytes 4 v) ++ post)).toArray ∧ Off [g] w w' := by
  have h := fun j hj => blk_parts hb hp j hj
  refine (Tryz.binary_LE_PutUint32 g o n c v hv _ _ _ _ w hn (h 0 (by omega)).1 (h 1 (by omega)).1 (h 2 (by omega)).1 (h 3 (by omega)).1 (h 0 (by omega)).2 (h 1 (by omega)).2 (h 2 (by omega)).2 (h 3 (by omega)).2).mono ?_
  rintro e w' ⟨he, rfl⟩
  exact ⟨he, Blk.setCells _ o _ pre mid post hp (by rw [hm]; rfl) (hb.alloc _), (Off.alloc (Off.refl [g] w) _).then (off_setCells g _ o _) (fun x hx => Or.inl hx)⟩

theorem putLE64_blk (g o n c v : Nat) (t : TypeId) (pre mid post : List Value) (hv : v < 18446744073709551616) (w : World) (hn : 8 ≤ n) (hp : pre.length = o) (hm : mid.length = 8) (hb : Blk w g t (pre ++ (mid ++ post)).toArray) :
    Calls Tryz.prog 235 #[.agg #[], .slice (some ⟨g, o, none⟩) n c, .int .u64 v] w fun e w' => e = .returned (.tuple #[]) ∧ Blk w' g t (pre ++ (Lib.byteCells (Lib.leBytes 8 v) ++ post)).toArray ∧ Off [g] w w' := by
  have h := fun j hj => blk_parts hb hp j hj
  refine (Tryz.binary_LE_PutUint64 g o n c v hv _ _ _ _ _ _ _ _ w hn (h 0 (by omega)).1 (h 1 (by omega)).1 (h 2 (by omega)).1 (h 3 (by omega)).1 (h 4 (by omega)).1 (h 5 (by omega)).1 (h 6 (by omega)).1 (h 7 (by omega)).1
    (h 0 (by omega)).2 (h 1 (by omega)).2 (h 2 (by omega)).2 (h 3 (by omega)).2 (h 4 (by omega)).2 (h 5 (by omega)).2 (h 6 (by omega)).2 (h 7 (by omega)).2).mono ?_
  rintro e w' ⟨he, rfl⟩
  exact ⟨he, Blk.setCells _ o _ pre mid post hp (by rw [hm]; rfl) (hb.alloc _), (Off.alloc (Off.refl [g] w) _).then (off_setCells g _ o _) (fun x hx => Or.inl hx)⟩

end Go.Proofs.YtkdbjocchponfaaGreatDoor
namespace Go.Proofs
open Go.Shelf
def Tryz.laysM182_ren : Go.Shelf.Ren := ⟨fun | 182 => 44 | n => n, fun | 130 => 88 | 9 => 9 | 4 => 4 | 0 => 0 | 93 => 85 | 37 => 32 | 3 => 3 | 91 => 83 | 5 => 5 | n => n, fun | n => n⟩
theorem Tryz.laysM182 : Go.Proofs.LaysM.n182 Tryz.prog Tryz.laysM182_ren := {
  mixed := by kernel_rfl
  f182 := Tryz.func44.trans (congrArg some (by kernel_rfl))
  t0 := Tryz.underlying0
  a0 := Tryz.isAgg0
  z0 := Tryz.sizeOf0
  v0 := Tryz.zeroValue0
  t3 := Tryz.underlying3
  a3 := Tryz.isAgg3
  z3 := Tryz.sizeOf3
  v3 := Tryz.zeroValue3
  t4 := Tryz.underlying4
  a4 := Tryz.isAgg4
  z4 := Tryz.sizeOf4
  v4 := Tryz.zeroValue4
  t9 := Tryz.underlying9
  a9 := Tryz.isAgg9
  z9 := Tryz.sizeOf9
  v9 := Tryz.zeroValue9
  t37 := Tryz.underlying32
  a37 := Tryz.isAgg32
  z37 := Tryz.sizeOf32
  v37 := Tryz.zeroValue32
  t93 := Tryz.underlying85
  a93 := Tryz.isAgg85
  z93 := Tryz.sizeOf85
  v93 := Tryz.zeroValue85
  t130 := Tryz.underlying88
  a130 := Tryz.isAgg88
  z130 := Tryz.sizeOf88
  v130 := Tryz.zeroValue88
  t5 := Tryz.underlying5
  a5 := Tryz.isAgg5
  z5 := Tryz.sizeOf5
  v5 := Tryz.zeroValue5
  t91 := Tryz.underlying83
  a91 := Tryz.isAgg83
  z91 := Tryz.sizeOf83
  v91 := Tryz.zeroValue83
  i0 := by kernel_rfl
  i3 := by kernel_rfl
  i4 := by kernel_rfl
  i5 := by kernel_rfl
  i9 := by kernel_rfl
  i37 := by kernel_rfl
  i91 := by kernel_rfl
  i93 := by kernel_rfl
  i130 := by kernel_rfl }
open Go.RowKit in
/-- (*bytes.Buffer).String: "String returns the contents of the unread portion of the buffer as a string.": THE BYTES THAT WERE WRITTEN. The world is as it was but for the count of draws (the statement has two reads: its order is drawn). (LAID: no walk: one application.) -/
theorem Tryz.Buffer_String (B b : Nat) (l : List UInt8) (w : World) (h : Lib.IsBuffer 85 5 B b (Lib.byteCells l) w) :
    Calls Tryz.prog 44 #[.pointer (some ⟨b, 0, none⟩)] w fun e w' => e = .returned (.string ⟨l.toArray⟩) ∧ ∃ n, w' = w.drewN n := Any.Buffer_String Tryz.laysM182 B b l w h
def Tryz.laysM180_ren : Go.Shelf.Ren := ⟨fun | 180 => 207 | 251 => 209 | 252 => 210 | 181 => 211 | 184 => 206 | 290 => 212 | 324 => 213 | n => n, fun | 130 => 88 | 37 => 32 | 3 => 3 | 75 => 55 | 0 => 0 | 93 => 85 | 91 => 83 | 131 => 241 | 4 => 4 | 20 => 20 | 5 => 5 | 80 => 89 | 9 => 9 | n => n, fun | 14 => 22 | n => n⟩
theorem Tryz.laysM180 : Go.Proofs.LaysM.n180 Tryz.prog Tryz.laysM180_ren := {
  mixed := by kernel_rfl
  f180 := Tryz.func207.trans (congrArg some (by kernel_rfl))
  f181 := Tryz.func211.trans (congrArg some (by kernel_rfl))
  f184 := Tryz.func206.trans (congrArg some (by kernel_rfl))
  f251 := Tryz.func209.trans (congrArg some (by kernel_rfl))
  f252 := Tryz.func210.trans (congrArg some (by kernel_rfl))
  f290 := Tryz.func212.trans (congrArg some (by kernel_rfl))
  f324 := Tryz.func213.trans (congrArg some (by kernel_rfl))
  t0 := Tryz.underlying0
  a0 := Tryz.isAgg0
  z0 := Tryz.sizeOf0
  v0 := Tryz.zeroValue0
  t3 := Tryz.underlying3
  a3 := Tryz.isAgg3
  z3 := Tryz.sizeOf3
  v3 := Tryz.zeroValue3
  t4 := Tryz.underlying4
  a4 := Tryz.isAgg4
  z4 := Tryz.sizeOf4
  v4 := Tryz.zeroValue4
  t20 := Tryz.underlying20
  a20 := Tryz.isAgg20
  z20 := Tryz.sizeOf20
  v20 := Tryz.zeroValue20
  t37 := Tryz.underlying32
  a37 := Tryz.isAgg32
  z37 := Tryz.sizeOf32
  v37 := Tryz.zeroValue32
  t75 := Tryz.underlying55
  a75 := Tryz.isAgg55
  z75 := Tryz.sizeOf55
  v75 := Tryz.zeroValue55
  t91 := Tryz.underlying83
  a91 := Tryz.isAgg83
  z91 := Tryz.sizeOf83
  v91 := Tryz.zeroValue83
  t93 := Tryz.underlying85
  a93 := Tryz.isAgg85
  z93 := Tryz.sizeOf85
  v93 := Tryz.zeroValue85
  t130 := Tryz.underlying88
  a130 := Tryz.isAgg88
  z130 := Tryz.sizeOf88
  v130 := Tryz.zeroValue88
  t131 := Tryz.underlying241
  a131 := Tryz.isAgg241
  z131 := Tryz.sizeOf241
  v131 := Tryz.zeroValue241
  g14 := by kernel_rfl
  t5 := Tryz.underlying5
  a5 := Tryz.isAgg5
  z5 := Tryz.sizeOf5
  v5 := Tryz.zeroValue5
  t9 := Tryz.underlying9
  a9 := Tryz.isAgg9
  z9 := Tryz.sizeOf9
  v9 := Tryz.zeroValue9
  t80 := Tryz.underlying89
  a80 := Tryz.isAgg89
  z80 := Tryz.sizeOf89
  v80 := Tryz.zeroValue89
  i0 := by kernel_rfl
  i3 := by kernel_rfl
  i4 := by kernel_rfl
  i5 := by kernel_rfl
  i9 := by kernel_rfl
  i20 := by kernel_rfl
  i37 := by kernel_rfl
  i75 := by kernel_rfl
  i80 := by kernel_rfl
  i91 := by kernel_rfl
  i93 := by kernel_rfl
  i130 := by kernel_rfl
  i131 := by kernel_rfl
  m14 := by kernel_rfl }
open Go.RowKit in
open Go.RowKit in
open Go.RowKit in
open Go.RowKit in
/-- (*bytes.Buffer).Write: "Write appends the contents of p to the buffer, growing the buffer as needed. The return value n is the length of p; err is always nil." (LAID: no walk: one application.) -/
theorem Tryz.Buffer_Write_any (B b : Nat) (bs cs : List Value) (a : Addr) (n c : Nat) (w : World) (h : Lib.IsBuffer 85 5 B b bs w) (hBw : B ≤ w.heap.size) (h1 : ∀ v ∈ bs, v.oneCell' = true) (hn : cs.length = n) (hab : a.block ≠ b) (hsrc : ∀ j v, cs[j]? = some v → w.cell? (a.add j) = some v) (h1c : ∀ v ∈ cs, v.oneCell' = true) (hlim : bs.length + n ≤ 140737488355328) :
    Calls Tryz.prog 207 #[.pointer (some ⟨b, 0, none⟩), .slice (some a) n c] w fun e w' => e = .returned (.tuple #[.int .i64 n, .nilIface]) ∧ Lib.IsBuffer 85 5 B b (bs ++ cs) w' ∧ Below B w w' ∧ Lib.OthersKept 5 (some b) w w' := Any.Buffer_Write_any Tryz.laysM180 B b bs cs a n c w h hBw h1 hn hab hsrc h1c hlim
end Go.Proofs
