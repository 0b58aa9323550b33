/-
  What multiWidthIndex.Load gathers: of each width of digests a row of records of its own.
  What multiWidthIndex.Load lays down: of each width its rows, sorted, as bytes of a block of their own, in the map.
  (No condition beyond those that each theorem states.)
-/
import Derived.Test.YtcgggcjmmphldaaGreatDoorHb2
import Derived.Test.YtcgggcjmmphldaaGreatDoorHa6
import Derived.Test.YtcgggcjmmphldaaGreatDoorHa3
import Derived.Test.YtcgggcjmmphldaaGreatDoorHa7
namespace Go.Proofs.YtcgggcjmmphldaaGreatDoor
open Go.RowKit Go.Maps

def ints (K : List Nat) : List Int := K.map fun m : Nat => (m : Int)
/-- A map whose keys are numbers from 0 up. -/
def MpN (P : Program) (k : TypeId) (q : IntKind) (w : World) (b n : Nat) (K : List Nat) (V : Nat → Value) : Prop := Mp P k q w b n (ints K) (fun x => V x.toNat)
theorem mem_mapN {K : List Nat} {m : Nat} : ((m : Int) ∈ ints K) ↔ m ∈ K := by
  simp only [ints, List.mem_map]
  exact ⟨fun ⟨a, ha, e⟩ => by have : a = m := by omega
                              rw [← this]; exact ha, fun h => ⟨m, h, rfl⟩⟩
theorem MpN.stored {P : Program} {k : TypeId} {q : IntKind} {w : World} {b n m : Nat} {K : List Nat} {V : Nat → Value} {u : Value}
    (h : Mp P k q w b n (if (m : Int) ∈ ints K then ints K else ints K ++ [(m : Int)]) (fun y => if y = (m : Int) then u else V y.toNat)) :
    MpN P k q w b n (if m ∈ K then K else K ++ [m]) (fun j => if j = m then u else V j) := by
  have hk : (if (m : Int) ∈ ints K then ints K else ints K ++ [(m : Int)]) = ints (if m ∈ K then K else K ++ [m]) := by
    by_cases hm : m ∈ K
    · rw [if_pos (mem_mapN.2 hm), if_pos hm]
    · rw [if_neg (fun e => hm (mem_mapN.1 e)), if_neg hm]; simp [ints]
  rw [hk] at h
  refine h.congr fun x hx => ?_
  obtain ⟨j, _, rfl⟩ := List.mem_map.1 hx
  simp only [Int.toNat_natCast]
  by_cases hj : j = m
  · subst hj; simp
  · rw [if_neg hj, if_neg (by omega)]
theorem MpN.off {P : Program} {k : TypeId} {q : IntKind} {w w' : World} {b n : Nat} {K : List Nat} {V : Nat → Value} {S : List Nat} (h : MpN P k q w b n K V) (ho : Off S w w') (hb : b ∉ S) : MpN P k q w' b n K V := Mp.off h ho hb
theorem MpN.mono {P : Program} {k : TypeId} {q : IntKind} {w : World} {b n n' : Nat} {K : List Nat} {V : Nat → Value} (h : MpN P k q w b n K V) (hn : n ≤ n') : MpN P k q w b n' K V := Mp.mono h hn
theorem MpN.congr {P : Program} {k : TypeId} {q : IntKind} {w : World} {b n : Nat} {K : List Nat} {V V' : Nat → Value} (h : MpN P k q w b n K V) (he : ∀ j, j ∈ K → V' j = V j) : MpN P k q w b n K V' :=
  Mp.congr h fun x hx => by obtain ⟨j, hj, rfl⟩ := List.mem_map.1 hx; simp [he j hj]
theorem MpN.nodup {P : Program} {k : TypeId} {q : IntKind} {w : World} {b n : Nat} {K : List Nat} {V : Nat → Value} (h : MpN P k q w b n K V) : K.Nodup :=
  (List.pairwise_map.1 (show (ints K).Pairwise (· ≠ ·) from Mp.nodup h)).imp fun hne e => hne (by rw [e])

/-- An entry: its identifier's bytes, hash function, digest, its offset. -/
structure It where
  s : ByteArray
  code : Nat
  d : List UInt8
  off : Nat
def It.rw (it : It) : Rw := ⟨it.d, it.off⟩
def DR.rw (r : DR) : Rw := ⟨r.d, r.off⟩
structure It.ok (it : It) : Prop where
  cid : IsCid it.s.data.toList it.code it.d
  off : it.off < 18446744073709551616
  small : it.d.length ≤ 1000

/-- Records in memory. -/
structure ItemsAt (w : World) (A : Option Addr) (ib io : Nat) (its : List It) : Prop where
  at_ : 0 < its.length → A = some ⟨ib, io, none⟩ ∧ ib < w.heap.size
  cells : ∀ i (h : i < its.length), w.cell? ⟨ib, io + i * 2, none⟩ = some (.string its[i].s) ∧ w.cell? ⟨ib, io + i * 2 + 1, none⟩ = some (.int .u64 (its[i].off : Int))
theorem ItemsAt.off {w w' : World} {A : Option Addr} {ib io : Nat} {its : List It} {S : List Nat} (h : ItemsAt w A ib io its) (ho : Off S w w') (hS : 0 < its.length → ib ∉ S) : ItemsAt w' A ib io its := by
  refine ⟨fun h0 => ⟨(h.at_ h0).1, Nat.lt_of_lt_of_le (h.at_ h0).2 ho.size⟩, fun i hi => ?_⟩
  have h0 : 0 < its.length := by omega
  have hb := ho.block ib (h.at_ h0).2 (hS h0)
  obtain ⟨h1, h2⟩ := h.cells i hi
  exact ⟨by rw [World.cell?_of_block (a := ⟨ib, io + i * 2, none⟩) hb]; exact h1, by rw [World.cell?_of_block (a := ⟨ib, io + i * 2 + 1, none⟩) hb]; exact h2⟩

/-- What is gathered of the entries its: the widths K, at each a row of its own (block G, records R) of just the entries of that width. -/
structure Gath (w wr : World) (mb : Nat) (its : List It) (K : List Nat) (V : Nat → Value) (G : Nat → Nat) (R : Nat → List DR) : Prop where
  off : Off [] w wr
  hmb : w.heap.size = mb
  mp : MpN Tryz.prog 3 .i64 wr mb (2 * its.length) K V
  mem : ∀ n, n ∈ K ↔ ∃ it, it ∈ its ∧ it.d.length = n
  row : ∀ n, n ∈ K → ∃ cap sp, V n = .slice (some ⟨G n, 0, none⟩) (R n).length cap ∧ (R n).length ≤ cap ∧ cap ≤ maxLen ∧ sp.length + (R n).length * 2 = cap * 2 ∧ Blk wr (G n) 300 (flat2 (R n) ++ sp).toArray ∧ w.heap.size < G n
  inj : ∀ m, m ∈ K → ∀ n, n ∈ K → G m = G n → m = n
  rows : ∀ n, n ∈ K → (R n).map DR.rw = (its.filter fun it => it.d.length == n).map It.rw
  rd : ∀ n, n ∈ K → ∀ r, r ∈ R n → ∃ (A : Option Addr) (C b o : Nat), r.v = .slice A r.d.length C ∧ (0 < r.d.length → A = some ⟨b, o, none⟩ ∧ w.heap.size < b ∧ b < wr.heap.size ∧ ∀ m, m ∈ K → b ≠ G m) ∧ Seg wr b o r.d

/-- One entry more. -/
theorem Gath.step {w wr w6 : World} {mb : Nat} {its : List It} {K : List Nat} {V : Nat → Value} {G : Nat → Nat} {R : Nat → List DR} (h : Gath w wr mb its K V G R) (it : It) (r : DR) (hrd : r.d = it.d) (hro : r.off = it.off)
    (g' cap' : Nat) (sp' : List Value) (b o : Nat) (A : Option Addr) (C : Nat) (hoff : Off (if it.d.length ∈ K then [mb, G it.d.length] else [mb]) wr w6)
    (hmp : MpN Tryz.prog 3 .i64 w6 mb (2 * (its ++ [it]).length) (if it.d.length ∈ K then K else K ++ [it.d.length]) (fun j => if j = it.d.length then .slice (some ⟨g', 0, none⟩) ((if it.d.length ∈ K then R it.d.length else []) ++ [r]).length cap' else V j))
    (hblk : Blk w6 g' 300 (flat2 ((if it.d.length ∈ K then R it.d.length else []) ++ [r]) ++ sp').toArray) (hcap : ((if it.d.length ∈ K then R it.d.length else []) ++ [r]).length ≤ cap') (hcm : cap' ≤ maxLen) (hsp : sp'.length + ((if it.d.length ∈ K then R it.d.length else []) ++ [r]).length * 2 = cap' * 2)
    (hg' : (it.d.length ∈ K ∧ g' = G it.d.length) ∨ wr.heap.size ≤ g') (hgb : b ≠ g') (hv : r.v = .slice A r.d.length C) (hA : 0 < r.d.length → A = some ⟨b, o, none⟩) (hb1 : wr.heap.size ≤ b) (hb2 : 0 < r.d.length → b < w6.heap.size) (hseg : Seg w6 b o r.d) (hmbw : mb < wr.heap.size) :
    Gath w w6 mb (its ++ [it]) (if it.d.length ∈ K then K else K ++ [it.d.length]) (fun j => if j = it.d.length then .slice (some ⟨g', 0, none⟩) ((if it.d.length ∈ K then R it.d.length else []) ++ [r]).length cap' else V j)
      (fun j => if j = it.d.length then g' else G j) (fun j => if j = it.d.length then (if it.d.length ∈ K then R it.d.length else []) ++ [r] else R j) := by
  have hmb := h.hmb
  have hws := h.off.size
  have hG : ∀ n, n ∈ K → G n < wr.heap.size := fun n hn => by obtain ⟨_, _, _, _, _, _, hb, _⟩ := h.row n hn; exact hb.lt
  have hGw : ∀ n, n ∈ K → w.heap.size < G n := fun n hn => by obtain ⟨_, _, _, _, _, _, _, hb⟩ := h.row n hn; exact hb
  have hK' : ∀ n, n ∈ (if it.d.length ∈ K then K else K ++ [it.d.length]) ↔ n ∈ K ∨ n = it.d.length := fun n => by
    by_cases hm : it.d.length ∈ K
    · rw [if_pos hm]
      exact ⟨Or.inl, fun hx => by rcases hx with hx | rfl; exact hx; exact hm⟩
    · rw [if_neg hm]; simp
  have hfar : ∀ k, k < wr.heap.size → k ≠ mb → (it.d.length ∈ K → k ≠ G it.d.length) → k ∉ (if it.d.length ∈ K then [mb, G it.d.length] else [mb]) := fun k _ h1 h2 => by
    by_cases hm : it.d.length ∈ K
    · rw [if_pos hm]; simp; exact ⟨h1, h2 hm⟩
    · rw [if_neg hm]; simp; exact h1
  refine ⟨?_, hmb, hmp, ?_, ?_, ?_, ?_, ?_⟩
  · refine h.off.then hoff (fun x hx => Or.inr ?_)
    by_cases hm : it.d.length ∈ K
    · rw [if_pos hm] at hx
      simp at hx
      rcases hx with rfl | rfl
      · omega
      · have := hGw _ hm; omega
    · rw [if_neg hm] at hx
      simp at hx; omega
  · intro n
    rw [hK', h.mem]
    constructor
    · rintro (⟨x, hx, rfl⟩ | rfl)
      · exact ⟨x, List.mem_append.2 (Or.inl hx), rfl⟩
      · exact ⟨it, by simp, rfl⟩
    · rintro ⟨x, hx, rfl⟩
      rcases List.mem_append.1 hx with hx | hx
      · exact Or.inl ⟨x, hx, rfl⟩
      · simp at hx; subst hx; exact Or.inr rfl
  · intro n hn
    by_cases he : n = it.d.length
    · subst he
      simp only [if_true]
      exact ⟨cap', sp', rfl, hcap, hcm, hsp, hblk, by rcases hg' with ⟨hm, e⟩ | hg; have := hGw _ hm; omega; omega⟩
    · simp only [if_neg he]
      have hn' : n ∈ K := by rcases (hK' n).1 hn with hx | hx; exact hx; exact absurd hx he
      obtain ⟨cap, sp, e1, e2, e3, e4, hb, e6⟩ := h.row n hn'
      exact ⟨cap, sp, e1, e2, e3, e4, hb.off hoff (hfar _ (hG n hn') (by omega) (fun hm e => he (h.inj _ hn' _ hm e))), e6⟩
  · intro m hm n hn hmn
    by_cases h1 : m = it.d.length
    · by_cases h2 : n = it.d.length
      · rw [h1, h2]
      · have hn' : n ∈ K := by rcases (hK' n).1 hn with hx | hx; exact hx; exact absurd hx h2
        simp only [if_pos h1, if_neg h2] at hmn
        rcases hg' with ⟨hk, e⟩ | hg
        · exact absurd (h.inj _ hn' _ hk (by rw [← e, hmn])) h2
        · have := hG n hn'; omega
    · have hm' : m ∈ K := by rcases (hK' m).1 hm with hx | hx; exact hx; exact absurd hx h1
      by_cases h2 : n = it.d.length
      · simp only [if_neg h1, if_pos h2] at hmn
        rcases hg' with ⟨hk, e⟩ | hg
        · exact absurd (h.inj _ hm' _ hk (by rw [hmn, e])) h1
        · have := hG m hm'; omega
      · simp only [if_neg h1, if_neg h2] at hmn
        have hn' : n ∈ K := by rcases (hK' n).1 hn with hx | hx; exact hx; exact absurd hx h2
        exact h.inj _ hm' _ hn' hmn
  · intro n hn
    by_cases he : n = it.d.length
    · subst he
      simp only [if_true, List.filter_append, List.map_append]
      by_cases hm : it.d.length ∈ K
      · rw [if_pos hm, h.rows _ hm]
        simp [DR.rw, It.rw, hrd, hro]
      · rw [if_neg hm]
        have h0 : (its.filter fun x => x.d.length == it.d.length) = [] := List.filter_eq_nil_iff.2 fun x hx e => hm ((h.mem _).2 ⟨x, hx, by simpa using e⟩)
        rw [h0]
        simp [DR.rw, It.rw, hrd, hro]
    · simp only [if_neg he]
      have hn' : n ∈ K := by rcases (hK' n).1 hn with hx | hx; exact hx; exact absurd hx he
      rw [h.rows n hn', List.filter_append]
      have : (it.d.length == n) = false := beq_eq_false_iff_ne.2 (fun e => he e.symm)
      simp [this]
  · intro n hn x hx
    have old : ∀ m, m ∈ K → x ∈ R m → ∃ (A : Option Addr) (C b o : Nat), x.v = .slice A x.d.length C ∧ (0 < x.d.length → A = some ⟨b, o, none⟩ ∧ w.heap.size < b ∧ b < w6.heap.size ∧ ∀ j, j ∈ (if it.d.length ∈ K then K else K ++ [it.d.length]) → b ≠ (if j = it.d.length then g' else G j)) ∧ Seg w6 b o x.d := fun m hm hxm => by
      obtain ⟨A', C', b', o', e1, e2, e3⟩ := h.rd m hm x hxm
      by_cases h0 : 0 < x.d.length
      · obtain ⟨f1, f2, f3, f4⟩ := e2 h0
        refine ⟨A', C', b', o', e1, fun _ => ⟨f1, f2, Nat.lt_of_lt_of_le f3 hoff.size, fun j hj => ?_⟩, e3.off hoff (hfar _ f3 (by omega) (fun hk => f4 _ hk))⟩
        by_cases hj' : j = it.d.length
        · rw [if_pos hj']
          rcases hg' with ⟨hk, e⟩ | hg
          · rw [e]; exact f4 _ hk
          · omega
        · rw [if_neg hj']
          rcases (hK' j).1 hj with hx' | hx'
          · exact f4 _ hx'
          · exact absurd hx' hj'
      · have : x.d = [] := List.eq_nil_of_length_eq_zero (by omega)
        exact ⟨A', C', b', o', e1, fun h1 => absurd h1 h0, by rw [this]; exact Seg.nil⟩
    by_cases he : n = it.d.length
    · subst he
      simp only [if_true] at hx
      rcases List.mem_append.1 hx with hx | hx
      · by_cases hm : it.d.length ∈ K
        · rw [if_pos hm] at hx
          exact old _ hm hx
        · rw [if_neg hm] at hx; simp at hx
      · simp at hx
        subst hx
        refine ⟨A, C, b, o, hv, fun h0 => ⟨hA h0, by omega, hb2 h0, fun j hj => ?_⟩, hseg⟩
        by_cases hj' : j = it.d.length
        · rw [if_pos hj']; exact hgb
        · rw [if_neg hj']
          rcases (hK' j).1 hj with hx' | hx'
          · have := hG j hx'; omega
          · exact absurd hx' hj'
    · simp only [if_neg he] at hx
      have hn' : n ∈ K := by rcases (hK' n).1 hn with hx' | hx'; exact hx'; exact absurd hx' he
      exact old n hn' hx
end Go.Proofs.YtcgggcjmmphldaaGreatDoor
namespace Go.Proofs.YtcgggcjmmphldaaGreatDoor
open Go.RowKit Go.Maps

/-- A width's index as it lies in the map: its width, its number of rows, its bytes. -/
def swv (n k C : Nat) : Value := .agg #[.int .u32 ((n + 8 : Nat) : Int), .int .u64 (k : Int), .slice (some ⟨C, 0, none⟩) ((n + 8) * k) ((n + 8) * k)]

/-- Block mm is a multiWidthIndex: the widths of digests D, at each the rows S, their bytes in blocks from B on. -/
structure MwAt (B : Nat) (w : World) (mm : Nat) (D : List Nat) (S : Nat → List Rw) : Prop where
  ex : ∃ (V : Nat → Value) (C : Nat → Nat), MpN Tryz.prog 143 .u32 w mm D.length (D.map (· + 8)) V ∧ ∀ n, n ∈ D → V (n + 8) = swv n (S n).length (C n) ∧ Seg w (C n) 0 (rowsB (S n)) ∧ B ≤ C n ∧ C n < w.heap.size ∧ ∀ r, r ∈ S n → r.d.length = n

theorem MwAt.off {B : Nat} {w w' : World} {mm : Nat} {D : List Nat} {S : Nat → List Rw} {T : List Nat} (h : MwAt B w mm D S) (ho : Off T w w') (hm : mm ∉ T) (hT : ∀ x, x ∈ T → x < B ∨ w.heap.size ≤ x) : MwAt B w' mm D S := by
  obtain ⟨V, C, hmp, hrow⟩ := h.ex
  exact ⟨V, C, hmp.off ho hm, fun n hn => by
    obtain ⟨h1, h2, h3, h4, h5⟩ := hrow n hn
    exact ⟨h1, h2.off ho (fun hx => by have := hT _ hx; omega), h3, Nat.lt_of_lt_of_le h4 ho.size, h5⟩⟩
theorem MwAt.lt {B : Nat} {w : World} {mm : Nat} {D : List Nat} {S : Nat → List Rw} (h : MwAt B w mm D S) : mm < w.heap.size := by obtain ⟨V, C, hmp, _⟩ := h.ex; exact hmp.lt
theorem MwAt.nodup {B : Nat} {w : World} {mm : Nat} {D : List Nat} {S : Nat → List Rw} (h : MwAt B w mm D S) : D.Nodup := by
  obtain ⟨V, C, hmp, _⟩ := h.ex
  exact (List.pairwise_map.1 hmp.nodup).imp fun hne e => hne (by rw [e])

structure Pack (w wr : World) (mb mm rb n : Nat) (K : List Nat) (V : Nat → Value) (G : Nat → Nat) (R : Nat → List DR) (L : List Int) (D : List Nat) (S : Nat → List Rw) : Prop where
  off : Off [mm] w wr
  rg : Rg Tryz.prog 3 .i64 wr mb rb (2 * n) (ints K) (fun x => V x.toNat) L
  mw : MwAt (rb + 1) wr mm D S
  dmem : ∀ j, j ∈ D ↔ j ∈ K ∧ (j : Int) ∉ L
  srt : ∀ j, j ∈ D → (S j).Perm ((R j).map DR.rw) ∧ Srtd (S j)
  row : ∀ j, j ∈ K → (j : Int) ∈ L → ∃ cap sp, V j = .slice (some ⟨G j, 0, none⟩) (R j).length cap ∧ (R j).length ≤ cap ∧ cap ≤ maxLen ∧ sp.length + (R j).length * 2 = cap * 2 ∧ Blk wr (G j) 300 (flat2 (R j) ++ sp).toArray
  gb : ∀ j, j ∈ K → w.heap.size < G j ∧ G j < rb
  inj : ∀ j, j ∈ K → ∀ k, k ∈ K → G j = G k → j = k
  wid : ∀ j, j ∈ K → ∀ r, r ∈ R j → r.d.length = j
  rd : ∀ j, j ∈ K → ∀ r, r ∈ R j → ∃ (A : Option Addr) (C b o : Nat), r.v = .slice A r.d.length C ∧ (0 < r.d.length → A = some ⟨b, o, none⟩ ∧ w.heap.size < b ∧ b < rb ∧ ∀ m, m ∈ K → b ≠ G m) ∧ Seg wr b o r.d
  hmb : mb = w.heap.size
  hmm : mm < w.heap.size
  hrb : w.heap.size < rb ∧ rb < wr.heap.size

theorem Pack.step {w wr w' : World} {mb mm rb n : Nat} {K : List Nat} {V : Nat → Value} {G : Nat → Nat} {R : Nat → List DR} {L : List Int} {D : List Nat} {S : Nat → List Rw} (h : Pack w wr mb mm rb n K V G R L D S) (j : Nat) (hj : j ∈ K) (hjL : (j : Int) ∈ L)
    (hoff : Off [rb, G j, mm] wr w') (hrg : Rg Tryz.prog 3 .i64 w' mb rb (2 * n) (ints K) (fun x => V x.toNat) (L.erase (j : Int))) (V2 : Nat → Value) (C : Nat → Nat) (C' : Nat) (s : List Rw)
    (hold : ∀ k, k ∈ D → V2 (k + 8) = swv k (S k).length (C k) ∧ Seg wr (C k) 0 (rowsB (S k)) ∧ rb + 1 ≤ C k ∧ C k < wr.heap.size ∧ ∀ r, r ∈ S k → r.d.length = k)
    (hmp : MpN Tryz.prog 143 .u32 w' mm (D.length + 1) (if j + 8 ∈ D.map (· + 8) then D.map (· + 8) else D.map (· + 8) ++ [j + 8]) (fun k => if k = j + 8 then swv j s.length C' else V2 k))
    (hC : wr.heap.size ≤ C') (hC2 : C' < w'.heap.size) (hseg : Seg w' C' 0 (rowsB s)) (hperm : s.Perm ((R j).map DR.rw)) (hsrt : Srtd s) :
    Pack w w' mb mm rb n K V G R (L.erase (j : Int)) (D ++ [j]) (fun k => if k = j then s else S k) := by
  have hjD : j ∉ D := fun hx => ((h.dmem j).1 hx).2 hjL
  have hjD8 : j + 8 ∉ D.map (· + 8) := fun hx => by
    obtain ⟨k, hk, e⟩ := List.mem_map.1 hx
    exact hjD (by rw [show j = k by omega]; exact hk)
  rw [if_neg hjD8] at hmp
  have hLn := h.rg.nodup
  have hmm := h.hmm
  have hrb := h.hrb
  have hgj := h.gb j hj
  have hws := h.off.size
  refine ⟨?_, hrg, ?_, ?_, ?_, ?_, h.gb, h.inj, h.wid, ?_, h.hmb, hmm, ⟨hrb.1, Nat.lt_of_lt_of_le hrb.2 hoff.size⟩⟩
  · refine h.off.then hoff (fun x hx => ?_)
    simp at hx
    rcases hx with rfl | rfl | rfl
    · right; omega
    · right; omega
    · left; simp
  · refine ⟨fun k => if k = j + 8 then swv j s.length C' else V2 k, fun k => if k = j then C' else C k, by simpa using hmp, fun k hk => ?_⟩
    rcases List.mem_append.1 hk with hk | hk
    · have hne : k ≠ j := fun e => hjD (by rw [← e]; exact hk)
      obtain ⟨h1, h2, h3, h4, h5⟩ := hold k hk
      simp only [if_neg hne, if_neg (show ¬ k + 8 = j + 8 by omega)]
      exact ⟨h1, h2.off hoff (by simp; omega), h3, Nat.lt_of_lt_of_le h4 hoff.size, h5⟩
    · simp at hk
      subst hk
      simp only [if_true]
      refine ⟨trivial, hseg, by omega, hC2, fun r hr => ?_⟩
      obtain ⟨x, hx, rfl⟩ := List.mem_map.1 (hperm.mem_iff.1 hr)
      exact h.wid k hj x hx
  · intro k
    rw [List.mem_append, h.dmem]
    constructor
    · rintro (⟨h1, h2⟩ | h1)
      · exact ⟨h1, fun hx => h2 (List.mem_of_mem_erase hx)⟩
      · simp at h1
        subst h1
        exact ⟨hj, hLn.not_mem_erase⟩
    · rintro ⟨h1, h2⟩
      by_cases he : k = j
      · right; simp [he]
      · left
        exact ⟨h1, fun hx => h2 ((List.mem_erase_of_ne (by omega)).2 hx)⟩
  · intro k hk
    by_cases he : k = j
    · subst he; simp only [if_true]; exact ⟨hperm, hsrt⟩
    · simp only [if_neg he]
      rcases List.mem_append.1 hk with hk | hk
      · exact h.srt k hk
      · simp at hk; exact absurd hk he
  · intro k hk hkL
    have hne : k ≠ j := fun e => by subst e; exact hLn.not_mem_erase hkL
    obtain ⟨cap, sp, e1, e2, e3, e4, hb⟩ := h.row k hk (List.mem_of_mem_erase hkL)
    have hgk := h.gb k hk
    exact ⟨cap, sp, e1, e2, e3, e4, hb.off hoff (by simp; exact ⟨by omega, fun e => hne (h.inj k hk j hj e), by omega⟩)⟩
  · intro k hk r hr
    obtain ⟨A, C0, b, o, e1, e2, e3⟩ := h.rd k hk r hr
    refine ⟨A, C0, b, o, e1, e2, ?_⟩
    by_cases h0 : 0 < r.d.length
    · obtain ⟨f1, f2, f3, f4⟩ := e2 h0
      exact e3.off hoff (by simp; exact ⟨by omega, f4 j hj, by omega⟩)
    · have : r.d = [] := List.eq_nil_of_length_eq_zero (by omega)
      rw [this]; exact Seg.nil

theorem perm_of_in {d d' : Array DR} {N : Nat} (hN : d.size = N) (h : Sort.PermIn 0 N d d') : d'.toList.Perm d.toList := by
  obtain ⟨h1, _, h3⟩ := h
  subst hN
  have e1 : d.extract 0 d.size = d := by simp
  have e2 : d'.extract 0 d.size = d' := by rw [← h1]; simp
  rwa [e1, e2] at h3
theorem srtd_of {d : Array DR} {N : Nat} (hN : d.size = N) (h : Sort.SortedIn ltDR 0 N d) : Srtd (d.toList.map DR.rw) := by
  unfold Srtd
  rw [List.pairwise_map]
  refine List.pairwise_iff_getElem.2 fun i k hi hk hik => ?_
  have := h i k (Nat.zero_le _) hik (by rw [← hN]; simpa using hk)
  rw [get_list d i (by simpa using hi), get_list d k (by simpa using hk)] at this
  simpa [ltDR, Sort.ltStr, DR.rw] using this
end Go.Proofs.YtcgggcjmmphldaaGreatDoor
