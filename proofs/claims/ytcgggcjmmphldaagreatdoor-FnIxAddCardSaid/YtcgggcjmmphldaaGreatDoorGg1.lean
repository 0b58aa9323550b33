/-
  What MultihashIndexSorted.Load gathers: of each hash function a row of records of its own.
  What MultihashIndexSorted.Load lays down: of each hash function a multiWidthCodedIndex.
  (No condition beyond those that each theorem states.)
-/
import Derived.Test.YtcgggcjmmphldaaGreatDoorGb4
namespace Go.Proofs.YtcgggcjmmphldaaGreatDoor
open Go.RowKit Go.Maps

def It.cells (it : It) : List Value := [.string it.s, .int .u64 (it.off : Int)]
def flatI (l : List It) : List Value := l.flatMap It.cells
theorem flatI_length (l : List It) : (flatI l).length = l.length * 2 := by
  induction l with
  | nil => rfl
  | cons a l ih => simp only [flatI, List.flatMap_cons, List.length_append, List.length_cons] at ih ⊢; rw [ih]; simp [It.cells]; omega
theorem flatI_append (a b : List It) : flatI (a ++ b) = flatI a ++ flatI b := by simp [flatI]
theorem flatI_get (l : List It) (i : Nat) (h : i < l.length) : (flatI l)[i * 2]? = some (.string l[i].s) ∧ (flatI l)[i * 2 + 1]? = some (.int .u64 (l[i].off : Int)) := by
  have hs : l = l.take i ++ (l[i] :: l.drop (i + 1)) := by rw [← List.drop_eq_getElem_cons h, List.take_append_drop]
  have hp : (flatI (l.take i)).length = i * 2 := by rw [flatI_length, List.length_take]; omega
  have e : flatI l = flatI (l.take i) ++ (.string l[i].s :: .int .u64 (l[i].off : Int) :: flatI (l.drop (i + 1))) := by
    conv => lhs; rw [hs, flatI_append]
    rfl
  rw [e]
  constructor
  · rw [List.getElem?_append_right (by omega), hp]; simp
  · rw [List.getElem?_append_right (by omega), hp]; simp
theorem itemsAt_blk {w : World} {g : Nat} {t : TypeId} {its : List It} {sp : List Value} (h : Blk w g t (flatI its ++ sp).toArray) : ItemsAt w (some ⟨g, 0, none⟩) g 0 its := by
  refine ⟨fun _ => ⟨rfl, h.lt⟩, fun i hi => ?_⟩
  have hl := flatI_length its
  obtain ⟨h1, h2⟩ := flatI_get its i hi
  rw [Nat.zero_add]
  refine ⟨?_, ?_⟩
  · rw [h.cell, List.getElem?_toArray, List.getElem?_append_left (by omega)]; exact h1
  · rw [h.cell, List.getElem?_toArray, List.getElem?_append_left (by omega)]; exact h2

structure GathC (w wr : World) (mb : Nat) (its : List It) (K : List Nat) (V : Nat → Value) (G : Nat → Nat) (R : Nat → List It) : Prop where
  off : Off [] w wr
  hmb : w.heap.size = mb
  mp : MpN Tryz.prog 23 .u64 wr mb (2 * its.length) K V
  mem : ∀ n, n ∈ K ↔ ∃ it, it ∈ its ∧ it.code = n
  row : ∀ n, n ∈ K → ∃ cap sp, V n = .slice (some ⟨G n, 0, none⟩) (R n).length cap ∧ (R n).length ≤ cap ∧ cap ≤ maxLen ∧ sp.length + (R n).length * 2 = cap * 2 ∧ Blk wr (G n) 82 (flatI (R n) ++ sp).toArray ∧ w.heap.size < G n
  inj : ∀ m, m ∈ K → ∀ n, n ∈ K → G m = G n → m = n
  rows : ∀ n, n ∈ K → R n = its.filter fun it => it.code == n

theorem GathC.step {w wr w6 : World} {mb : Nat} {its : List It} {K : List Nat} {V : Nat → Value} {G : Nat → Nat} {R : Nat → List It} (h : GathC w wr mb its K V G R) (it : It)
    (g' cap' : Nat) (sp' : List Value) (hoff : Off (if it.code ∈ K then [mb, G it.code] else [mb]) wr w6)
    (hmp : MpN Tryz.prog 23 .u64 w6 mb (2 * (its ++ [it]).length) (if it.code ∈ K then K else K ++ [it.code]) (fun j => if j = it.code then .slice (some ⟨g', 0, none⟩) ((if it.code ∈ K then R it.code else []) ++ [it]).length cap' else V j))
    (hblk : Blk w6 g' 82 (flatI ((if it.code ∈ K then R it.code else []) ++ [it]) ++ sp').toArray) (hcap : ((if it.code ∈ K then R it.code else []) ++ [it]).length ≤ cap') (hcm : cap' ≤ maxLen) (hsp : sp'.length + ((if it.code ∈ K then R it.code else []) ++ [it]).length * 2 = cap' * 2)
    (hg' : (it.code ∈ K ∧ g' = G it.code) ∨ wr.heap.size ≤ g') (hmbw : mb < wr.heap.size) :
    GathC w w6 mb (its ++ [it]) (if it.code ∈ K then K else K ++ [it.code]) (fun j => if j = it.code then .slice (some ⟨g', 0, none⟩) ((if it.code ∈ K then R it.code else []) ++ [it]).length cap' else V j)
      (fun j => if j = it.code then g' else G j) (fun j => if j = it.code then (if it.code ∈ K then R it.code else []) ++ [it] else R j) := by
  have hmb := h.hmb
  have hws := h.off.size
  have hG : ∀ n, n ∈ K → G n < wr.heap.size := fun n hn => by obtain ⟨_, _, _, _, _, _, hb, _⟩ := h.row n hn; exact hb.lt
  have hGw : ∀ n, n ∈ K → w.heap.size < G n := fun n hn => by obtain ⟨_, _, _, _, _, _, _, hb⟩ := h.row n hn; exact hb
  have hK' : ∀ n, n ∈ (if it.code ∈ K then K else K ++ [it.code]) ↔ n ∈ K ∨ n = it.code := fun n => by
    by_cases hm : it.code ∈ K
    · rw [if_pos hm]
      exact ⟨Or.inl, fun hx => by rcases hx with hx | rfl; exact hx; exact hm⟩
    · rw [if_neg hm]; simp
  have hfar : ∀ k, k < wr.heap.size → k ≠ mb → (it.code ∈ K → k ≠ G it.code) → k ∉ (if it.code ∈ K then [mb, G it.code] else [mb]) := fun k _ h1 h2 => by
    by_cases hm : it.code ∈ K
    · rw [if_pos hm]; simp; exact ⟨h1, h2 hm⟩
    · rw [if_neg hm]; simp; exact h1
  refine ⟨?_, hmb, hmp, ?_, ?_, ?_, ?_⟩
  · refine h.off.then hoff (fun x hx => Or.inr ?_)
    by_cases hm : it.code ∈ K
    · rw [if_pos hm] at hx
      simp at hx
      rcases hx with rfl | rfl
      · omega
      · have := hGw _ hm; omega
    · rw [if_neg hm] at hx
      simp at hx; omega
  · intro n
    rw [hK', h.mem]
    constructor
    · rintro (⟨x, hx, rfl⟩ | rfl)
      · exact ⟨x, List.mem_append.2 (Or.inl hx), rfl⟩
      · exact ⟨it, by simp, rfl⟩
    · rintro ⟨x, hx, rfl⟩
      rcases List.mem_append.1 hx with hx | hx
      · exact Or.inl ⟨x, hx, rfl⟩
      · simp at hx; subst hx; exact Or.inr rfl
  · intro n hn
    by_cases he : n = it.code
    · subst he
      simp only [if_true]
      exact ⟨cap', sp', rfl, hcap, hcm, hsp, hblk, by rcases hg' with ⟨hm, e⟩ | hg; have := hGw _ hm; omega; omega⟩
    · simp only [if_neg he]
      have hn' : n ∈ K := by rcases (hK' n).1 hn with hx | hx; exact hx; exact absurd hx he
      obtain ⟨cap, sp, e1, e2, e3, e4, hb, e6⟩ := h.row n hn'
      exact ⟨cap, sp, e1, e2, e3, e4, hb.off hoff (hfar _ (hG n hn') (by omega) (fun hm e => he (h.inj _ hn' _ hm e))), e6⟩
  · intro m hm n hn hmn
    by_cases h1 : m = it.code
    · by_cases h2 : n = it.code
      · rw [h1, h2]
      · have hn' : n ∈ K := by rcases (hK' n).1 hn with hx | hx; exact hx; exact absurd hx h2
        simp only [if_pos h1, if_neg h2] at hmn
        rcases hg' with ⟨hk, e⟩ | hg
        · exact absurd (h.inj _ hn' _ hk (by rw [← e, hmn])) h2
        · have := hG n hn'; omega
    · have hm' : m ∈ K := by rcases (hK' m).1 hm with hx | hx; exact hx; exact absurd hx h1
      by_cases h2 : n = it.code
      · simp only [if_neg h1, if_pos h2] at hmn
        rcases hg' with ⟨hk, e⟩ | hg
        · exact absurd (h.inj _ hm' _ hk (by rw [hmn, e])) h1
        · have := hG m hm'; omega
      · simp only [if_neg h1, if_neg h2] at hmn
        have hn' : n ∈ K := by rcases (hK' n).1 hn with hx | hx; exact hx; exact absurd hx h2
        exact h.inj _ hm' _ hn' hmn
  · intro n hn
    by_cases he : n = it.code
    · subst he
      simp only [if_true, List.filter_append]
      by_cases hm : it.code ∈ K
      · rw [if_pos hm, h.rows _ hm]
        simp
      · rw [if_neg hm]
        have h0 : (its.filter fun x => x.code == it.code) = [] := List.filter_eq_nil_iff.2 fun x hx e => hm ((h.mem _).2 ⟨x, hx, by simpa using e⟩)
        rw [h0]
        simp
    · simp only [if_neg he]
      have hn' : n ∈ K := by rcases (hK' n).1 hn with hx | hx; exact hx; exact absurd hx he
      rw [h.rows n hn', List.filter_append]
      have : (it.code == n) = false := beq_eq_false_iff_ne.2 (fun e => he e.symm)
      simp [this]
end Go.Proofs.YtcgggcjmmphldaaGreatDoor
namespace Go.Proofs.YtcgggcjmmphldaaGreatDoor
open Go.RowKit Go.Maps

theorem MwAt.mono {B B' : Nat} {w : World} {mm : Nat} {D : List Nat} {S : Nat → List Rw} (h : MwAt B w mm D S) (hB : B' ≤ B) : MwAt B' w mm D S := by
  obtain ⟨V, C, h1, h2⟩ := h.ex
  exact ⟨V, C, h1, fun n hn => by obtain ⟨a1, a2, a3, a4, a5⟩ := h2 n hn; exact ⟨a1, a2, by omega, a4, a5⟩⟩

/-- Block mm is a MultihashIndexSorted: the hash functions Cs, of each a multiWidthCodedIndex; all in blocks from B on. -/
structure MisAt (B : Nat) (w : World) (mm : Nat) (Cs : List Nat) (D : Nat → List Nat) (S : Nat → Nat → List Rw) : Prop where
  ex : ∃ (V : Nat → Value) (q m : Nat → Nat), MpN Tryz.prog 23 .u64 w mm Cs.length Cs V ∧ ∀ c, c ∈ Cs → V c = .pointer (some ⟨q c, 0, none⟩) ∧ Blk w (q c) 273 #[.map (some (m c)), .int .u64 (c : Int)] ∧ MwAt B w (m c) (D c) (S c) ∧ B ≤ q c ∧ B ≤ m c
theorem MisAt.off {B : Nat} {w w' : World} {mm : Nat} {Cs : List Nat} {D : Nat → List Nat} {S : Nat → Nat → List Rw} {T : List Nat} (h : MisAt B w mm Cs D S) (ho : Off T w w') (hm : mm ∉ T) (hT : ∀ x, x ∈ T → x < B ∨ w.heap.size ≤ x) : MisAt B w' mm Cs D S := by
  obtain ⟨V, q, m, hmp, hrow⟩ := h.ex
  refine ⟨V, q, m, hmp.off ho hm, fun c hc => ?_⟩
  obtain ⟨h1, h2, h3, h4, h5⟩ := hrow c hc
  have hq := h2.lt
  have hml := h3.lt
  exact ⟨h1, h2.off ho (fun hx => by have := hT _ hx; omega), h3.off ho (fun hx => by have := hT _ hx; omega) hT, h4, h5⟩
theorem MisAt.lt {B : Nat} {w : World} {mm : Nat} {Cs : List Nat} {D : Nat → List Nat} {S : Nat → Nat → List Rw} (h : MisAt B w mm Cs D S) : mm < w.heap.size := by obtain ⟨V, q, m, hmp, _⟩ := h.ex; exact hmp.lt
theorem MisAt.nodup {B : Nat} {w : World} {mm : Nat} {Cs : List Nat} {D : Nat → List Nat} {S : Nat → Nat → List Rw} (h : MisAt B w mm Cs D S) : Cs.Nodup := by obtain ⟨V, q, m, hmp, _⟩ := h.ex; exact hmp.nodup

structure PackC (w wr : World) (mb mm rb n : Nat) (K : List Nat) (V : Nat → Value) (G : Nat → Nat) (R : Nat → List It) (L : List Int) (Cs : List Nat) (D : Nat → List Nat) (S : Nat → Nat → List Rw) : Prop where
  off : Off [mm] w wr
  rg : Rg Tryz.prog 23 .u64 wr mb rb (2 * n) (ints K) (fun x => V x.toNat) L
  mis : MisAt (rb + 1) wr mm Cs D S
  dmem : ∀ j, j ∈ Cs ↔ j ∈ K ∧ (j : Int) ∉ L
  res : ∀ j, j ∈ Cs → (∀ n, n ∈ D j ↔ ∃ it, it ∈ R j ∧ it.d.length = n) ∧ ∀ n, n ∈ D j → (S j n).Perm (((R j).filter fun it => it.d.length == n).map It.rw) ∧ Srtd (S j n)
  row : ∀ j, j ∈ K → (j : Int) ∈ L → ∃ cap sp, V j = .slice (some ⟨G j, 0, none⟩) (R j).length cap ∧ Blk wr (G j) 82 (flatI (R j) ++ sp).toArray
  gb : ∀ j, j ∈ K → w.heap.size < G j ∧ G j < rb
  hmb : mb = w.heap.size
  hmm : mm < w.heap.size
  hrb : w.heap.size < rb ∧ rb < wr.heap.size

theorem PackC.step {w wr w' : World} {mb mm rb n : Nat} {K : List Nat} {V : Nat → Value} {G : Nat → Nat} {R : Nat → List It} {L : List Int} {Cs : List Nat} {D : Nat → List Nat} {S : Nat → Nat → List Rw} (h : PackC w wr mb mm rb n K V G R L Cs D S) (j : Nat) (hj : j ∈ K) (hjL : (j : Int) ∈ L)
    (hoff : Off [rb, mm] wr w') (hrg : Rg Tryz.prog 23 .u64 w' mb rb (2 * n) (ints K) (fun x => V x.toNat) (L.erase (j : Int))) (V2 : Nat → Value) (q m : Nat → Nat) (q' m' : Nat) (D' : List Nat) (S' : Nat → List Rw)
    (hold : ∀ c, c ∈ Cs → V2 c = .pointer (some ⟨q c, 0, none⟩) ∧ Blk wr (q c) 273 #[.map (some (m c)), .int .u64 (c : Int)] ∧ MwAt (rb + 1) wr (m c) (D c) (S c) ∧ rb + 1 ≤ q c ∧ rb + 1 ≤ m c)
    (hmp : MpN Tryz.prog 23 .u64 w' mm (Cs.length + 1) (if j ∈ Cs then Cs else Cs ++ [j]) (fun k => if k = j then .pointer (some ⟨q', 0, none⟩) else V2 k))
    (hq : wr.heap.size ≤ q') (hm : wr.heap.size ≤ m') (hblk : Blk w' q' 273 #[.map (some m'), .int .u64 (j : Int)]) (hmw : MwAt (rb + 1) w' m' D' S')
    (hres : (∀ n, n ∈ D' ↔ ∃ it, it ∈ R j ∧ it.d.length = n) ∧ ∀ n, n ∈ D' → (S' n).Perm (((R j).filter fun it => it.d.length == n).map It.rw) ∧ Srtd (S' n)) :
    PackC w w' mb mm rb n K V G R (L.erase (j : Int)) (Cs ++ [j]) (fun k => if k = j then D' else D k) (fun k => if k = j then S' else S k) := by
  have hjD : j ∉ Cs := fun hx => ((h.dmem j).1 hx).2 hjL
  rw [if_neg hjD] at hmp
  have hLn := h.rg.nodup
  have hmm := h.hmm
  have hrb := h.hrb
  have hgj := h.gb j hj
  have hws := h.off.size
  refine ⟨?_, hrg, ?_, ?_, ?_, ?_, h.gb, h.hmb, hmm, ⟨hrb.1, Nat.lt_of_lt_of_le hrb.2 hoff.size⟩⟩
  · refine h.off.then hoff (fun x hx => ?_)
    simp at hx
    rcases hx with rfl | rfl
    · right; omega
    · left; simp
  · refine ⟨fun k => if k = j then .pointer (some ⟨q', 0, none⟩) else V2 k, fun k => if k = j then q' else q k, fun k => if k = j then m' else m k, by simpa using hmp, fun k hk => ?_⟩
    rcases List.mem_append.1 hk with hk | hk
    · have hne : k ≠ j := fun e => hjD (by rw [← e]; exact hk)
      obtain ⟨h1, h2, h3, h4, h5⟩ := hold k hk
      simp only [if_neg hne]
      have hT : ∀ x, x ∈ [rb, mm] → x < rb + 1 ∨ wr.heap.size ≤ x := fun x hx => by
        simp at hx
        rcases hx with rfl | rfl <;> omega
      exact ⟨h1, h2.off hoff (by simp; omega), h3.off hoff (by simp; omega) hT, h4, h5⟩
    · simp at hk
      subst hk
      simp only [if_true]
      exact ⟨trivial, hblk, hmw, by omega, by omega⟩
  · intro k
    rw [List.mem_append, h.dmem]
    constructor
    · rintro (⟨h1, h2⟩ | h1)
      · exact ⟨h1, fun hx => h2 (List.mem_of_mem_erase hx)⟩
      · simp at h1
        subst h1
        exact ⟨hj, hLn.not_mem_erase⟩
    · rintro ⟨h1, h2⟩
      by_cases he : k = j
      · right; simp [he]
      · left
        exact ⟨h1, fun hx => h2 ((List.mem_erase_of_ne (by omega)).2 hx)⟩
  · intro k hk
    by_cases he : k = j
    · subst he; simp only [if_true]; exact hres
    · simp only [if_neg he]
      rcases List.mem_append.1 hk with hk | hk
      · exact h.res k hk
      · simp at hk; exact absurd hk he
  · intro k hk hkL
    obtain ⟨cap, sp, e1, hb⟩ := h.row k hk (List.mem_of_mem_erase hkL)
    have hgk := h.gb k hk
    exact ⟨cap, sp, e1, hb.off hoff (by simp; omega)⟩
end Go.Proofs.YtcgggcjmmphldaaGreatDoor
