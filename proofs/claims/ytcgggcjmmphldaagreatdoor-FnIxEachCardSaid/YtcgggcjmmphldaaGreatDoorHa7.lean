/-
  An index's bytes, in plain words: rows, buckets of rows of one width, buckets by hash functions; what is looked up in them. No program is named here.
  Rows in the order of their digests: what stands from the first place on at which a digest is not less; buckets out of rows by width. No program is named here.
  The bytes of an index of entries of a kind (whatever order equal digests stand in); how much longer it is for an entry more; what is found in it. No program is named here.
  What an index of few entries has of lengths and numbers: the premises of ReadFrom; what is found. No program is named here.
  (No condition beyond those that each theorem states.)
-/
import Derived.Lib.Endian
import Derived.Lib.Varint
import Derived.Sort.LotA
namespace Go.Proofs.YtcgggcjmmphldaaGreatDoor

/-- A row of an index: a digest and an offset. -/
structure Rw where
  d : List UInt8
  off : Nat
deriving DecidableEq, Inhabited

def rowB (r : Rw) : List UInt8 := r.d ++ Lib.leBytes 8 r.off
def rowsB (l : List Rw) : List UInt8 := l.flatMap rowB
/-- Rows of one width behind their head. -/
def bucketB (p : Nat × List Rw) : List UInt8 := Lib.leBytes 4 (p.1 + 8) ++ (Lib.leBytes 8 ((p.1 + 8) * p.2.length) ++ rowsB p.2)
def mwB (G : List (Nat × List Rw)) : List UInt8 := Lib.leBytes 4 G.length ++ G.flatMap bucketB
def codedB (p : Nat × List (Nat × List Rw)) : List UInt8 := Lib.leBytes 8 p.1 ++ mwB p.2
def mhiB (H : List (Nat × List (Nat × List Rw))) : List UInt8 := Lib.leBytes 4 H.length ++ H.flatMap codedB

/-- Buckets as they stand in an index: the widths in increasing order; of each one at least one row, of digests of that width, in the digests' order. -/
structure Bks (G : List (Nat × List Rw)) : Prop where
  asc : (G.map (·.1)).Pairwise (· < ·)
  ne : ∀ p, p ∈ G → p.2 ≠ []
  wid : ∀ p, p ∈ G → ∀ r, r ∈ p.2 → r.d.length = p.1
  srt : ∀ p, p ∈ G → p.2.Pairwise (fun a b => ¬ b.d < a.d)

def flat (G : List (Nat × List Rw)) : List Rw := G.flatMap (·.2)
/-- .. the buckets of just these rows. -/
structure Grp (l : List Rw) (G : List (Nat × List Rw)) : Prop where
  bks : Bks G
  perm : (flat G).Perm l

def cflat (H : List (Nat × List (Nat × List Rw))) : List (Nat × Rw) := H.flatMap fun p => (flat p.2).map fun r => (p.1, r)
/-- Hash functions in increasing order, each with its rows' buckets, at least one. -/
structure CGrp (es : List (Nat × Rw)) (H : List (Nat × List (Nat × List Rw))) : Prop where
  asc : (H.map (·.1)).Pairwise (· < ·)
  bks : ∀ p, p ∈ H → Bks p.2
  ne : ∀ p, p ∈ H → p.2 ≠ []
  perm : (cflat H).Perm es

/-- What is found under a digest. -/
def look (d : List UInt8) (G : List (Nat × List Rw)) : List Nat := match G.lookup d.length with | some L => (L.filter fun r => r.d == d).map (·.off) | none => []
def clook (c : Nat) (d : List UInt8) (H : List (Nat × List (Nat × List Rw))) : List Nat := match H.lookup c with | some G => look d G | none => []

theorem rowB_length (r : Rw) : (rowB r).length = r.d.length + 8 := by simp [rowB, Lib.leBytes_length]
theorem rowsB_length (l : List Rw) (n : Nat) (h : ∀ r, r ∈ l → r.d.length = n) : (rowsB l).length = (n + 8) * l.length := by
  induction l with
  | nil => rfl
  | cons a l ih =>
    have e := ih (fun r hr => h r (List.mem_cons_of_mem _ hr))
    simp only [rowsB, List.flatMap_cons, List.length_append, rowB_length, List.length_cons] at e ⊢
    rw [show (l.flatMap rowB).length = (n + 8) * l.length from e, h a (List.mem_cons_self ..), Nat.mul_add, Nat.mul_one]
    omega
def rsum (l : List Rw) : Nat := (l.map fun r => r.d.length + 8).sum
theorem rsum_perm {l l' : List Rw} (h : l.Perm l') : rsum l = rsum l' := (h.map _).sum_nat
theorem rsum_append (l l' : List Rw) : rsum (l ++ l') = rsum l + rsum l' := by simp [rsum]
theorem rsum_const (l : List Rw) (n : Nat) (h : ∀ r, r ∈ l → r.d.length = n) : rsum l = (n + 8) * l.length := by
  induction l with
  | nil => rfl
  | cons a l ih =>
    have e := ih (fun r hr => h r (List.mem_cons_of_mem _ hr))
    simp only [rsum, List.map_cons, List.sum_cons, List.length_cons] at e ⊢
    rw [e, h a (List.mem_cons_self ..), Nat.mul_add, Nat.mul_one]
    omega
theorem bucketB_length (p : Nat × List Rw) (h : ∀ r, r ∈ p.2 → r.d.length = p.1) : (bucketB p).length = 12 + rsum p.2 := by
  simp only [bucketB, List.length_append, Lib.leBytes_length, rowsB_length p.2 p.1 h, rsum_const p.2 p.1 h]
  omega
theorem buckets_length (G : List (Nat × List Rw)) (h : ∀ p, p ∈ G → ∀ r, r ∈ p.2 → r.d.length = p.1) : (G.flatMap bucketB).length = 12 * G.length + rsum (flat G) := by
  induction G with
  | nil => rfl
  | cons a G ih =>
    have e := ih (fun p hp => h p (List.mem_cons_of_mem _ hp))
    simp only [List.flatMap_cons, List.length_append, flat, rsum_append, List.length_cons, bucketB_length a (h a (List.mem_cons_self ..))] at e ⊢
    rw [e]
    omega
theorem Bks.length {G : List (Nat × List Rw)} (h : Bks G) : (mwB G).length = 4 + 12 * G.length + rsum (flat G) := by
  simp only [mwB, List.length_append, Lib.leBytes_length, buckets_length G h.wid]
  omega
theorem Grp.length {l : List Rw} {G : List (Nat × List Rw)} (h : Grp l G) : (mwB G).length = 4 + 12 * G.length + rsum l := by rw [h.bks.length, rsum_perm h.perm]
theorem mem_flat {r : Rw} {G : List (Nat × List Rw)} : r ∈ flat G ↔ ∃ p, p ∈ G ∧ r ∈ p.2 := by simp [flat]
theorem Grp.widths {l : List Rw} {G : List (Nat × List Rw)} (h : Grp l G) (n : Nat) : n ∈ G.map (·.1) ↔ ∃ r, r ∈ l ∧ r.d.length = n := by
  constructor
  · intro hn
    obtain ⟨p, hp, rfl⟩ := List.mem_map.1 hn
    obtain ⟨r, hr⟩ := List.exists_mem_of_ne_nil _ (h.bks.ne p hp)
    exact ⟨r, h.perm.mem_iff.1 (mem_flat.2 ⟨p, hp, hr⟩), h.bks.wid p hp r hr⟩
  · rintro ⟨r, hr, rfl⟩
    obtain ⟨p, hp, hrp⟩ := mem_flat.1 (h.perm.mem_iff.2 hr)
    exact List.mem_map.2 ⟨p, hp, (h.bks.wid p hp r hrp).symm⟩
theorem nodup_asc {l : List Nat} (h : l.Pairwise (· < ·)) : l.Nodup := h.imp (fun hab => Nat.ne_of_lt hab)
theorem length_more {α : Type} [DecidableEq α] {A B : List α} (hA : A.Nodup) (hB : B.Nodup) (e : α) (h : ∀ x, x ∈ B ↔ x ∈ A ∨ x = e) : B.length = A.length + if e ∈ A then 0 else 1 := by
  by_cases he : e ∈ A
  · rw [if_pos he]
    exact ((List.perm_ext_iff_of_nodup hB hA).2 fun x => ⟨fun hx => by rcases (h x).1 hx with h1 | rfl; exact h1; exact he, fun hx => (h x).2 (Or.inl hx)⟩).length_eq
  · rw [if_neg he]
    have := ((List.perm_ext_iff_of_nodup hB (List.nodup_cons.2 ⟨he, hA⟩)).2 fun x => by rw [h x, List.mem_cons]; exact Or.comm).length_eq
    simpa using this

/-! ### what is found -/
theorem filter_flat (d : List UInt8) : ∀ G : List (Nat × List Rw), (G.map (·.1)).Nodup → (∀ p, p ∈ G → ∀ r, r ∈ p.2 → r.d.length = p.1) → ((flat G).filter fun r => r.d == d).map (·.off) = look d G
  | [], _, _ => rfl
  | (n, L) :: G, hn, hw => by
    have hn' : n ∉ G.map (·.1) ∧ (G.map (·.1)).Nodup := by simpa using hn
    have ih := filter_flat d G hn'.2 (fun p hp => hw p (List.mem_cons_of_mem _ hp))
    have hL := hw (n, L) (List.mem_cons_self ..)
    have hfl : flat ((n, L) :: G) = L ++ flat G := rfl
    rw [hfl, List.filter_append, List.map_append]
    by_cases he : d.length = n
    · have h0 : ((flat G).filter fun r => r.d == d) = [] := List.filter_eq_nil_iff.2 fun r hr => by
        obtain ⟨p, hp, hrp⟩ := mem_flat.1 hr
        have hlen := hw p (List.mem_cons_of_mem _ hp) r hrp
        intro e
        rw [beq_iff_eq] at e
        exact hn'.1 (List.mem_map.2 ⟨p, hp, by rw [← hlen, e, he]⟩)
      rw [h0]
      simp [look, List.lookup, he]
    · have h0 : (L.filter fun r => r.d == d) = [] := List.filter_eq_nil_iff.2 fun r hr => by
        intro e
        rw [beq_iff_eq] at e
        exact he (by rw [← e]; exact hL r hr)
      rw [h0, ih]
      have hb : (d.length == n) = false := beq_eq_false_iff_ne.2 he
      simp [look, List.lookup, hb]
theorem Grp.look {l : List Rw} {G : List (Nat × List Rw)} (h : Grp l G) (d : List UInt8) : (look d G).Perm ((l.filter fun r => r.d == d).map (·.off)) := by
  rw [← filter_flat d G (nodup_asc h.bks.asc) h.bks.wid]
  exact (h.perm.filter _).map _
theorem filter_cflat (c : Nat) (d : List UInt8) : ∀ H : List (Nat × List (Nat × List Rw)), (H.map (·.1)).Nodup → (∀ p, p ∈ H → Bks p.2) → ((cflat H).filter fun r => r.1 == c && r.2.d == d).map (fun r => r.2.off) = clook c d H
  | [], _, _ => rfl
  | (n, G) :: H, hn, hw => by
    have hn' : n ∉ H.map (·.1) ∧ (H.map (·.1)).Nodup := by simpa using hn
    have ih := filter_cflat c d H hn'.2 (fun p hp => hw p (List.mem_cons_of_mem _ hp))
    have hG := hw (n, G) (List.mem_cons_self ..)
    have hfl : cflat ((n, G) :: H) = (flat G).map (fun r => (n, r)) ++ cflat H := rfl
    rw [hfl, List.filter_append, List.map_append]
    by_cases he : c = n
    · subst he
      have h0 : ((cflat H).filter fun r => r.1 == c && r.2.d == d) = [] := List.filter_eq_nil_iff.2 fun r hr => by
        obtain ⟨p, hp, hrp⟩ := List.mem_flatMap.1 hr
        obtain ⟨x, _, rfl⟩ := List.mem_map.1 hrp
        intro e
        simp at e
        exact hn'.1 (List.mem_map.2 ⟨p, hp, e.1⟩)
      rw [h0]
      have h1 : (((flat G).map fun r => (c, r)).filter fun r => r.1 == c && r.2.d == d) = ((flat G).filter fun r => r.d == d).map fun r => (c, r) := by
        rw [List.filter_map]
        congr 1
        exact List.filter_congr fun r _ => by simp
      rw [h1]
      simp only [List.map_map, List.map_nil, List.append_nil]
      rw [show ((fun r : Nat × Rw => r.2.off) ∘ fun r => (c, r)) = (·.off) from rfl, filter_flat d G (nodup_asc hG.asc) hG.wid]
      simp [clook, List.lookup]
    · have h0 : (((flat G).map fun r => (n, r)).filter fun r => r.1 == c && r.2.d == d) = [] := List.filter_eq_nil_iff.2 fun r hr => by
        obtain ⟨x, _, rfl⟩ := List.mem_map.1 hr
        intro e
        simp at e
        exact he e.1.symm
      rw [h0, ih]
      have hb : (c == n) = false := beq_eq_false_iff_ne.2 he
      simp [clook, List.lookup, hb]
theorem CGrp.look {es : List (Nat × Rw)} {H : List (Nat × List (Nat × List Rw))} (h : CGrp es H) (c : Nat) (d : List UInt8) : (clook c d H).Perm ((es.filter fun r => r.1 == c && r.2.d == d).map fun r => r.2.off) := by
  rw [← filter_cflat c d H (nodup_asc h.asc) h.bks]
  exact (h.perm.filter _).map _

/-! ### how long it is -/
def cwid (H : List (Nat × List (Nat × List Rw))) : List (Nat × Nat) := H.flatMap fun p => p.2.map fun q => (p.1, q.1)
def crsum (es : List (Nat × Rw)) : Nat := (es.map fun r => r.2.d.length + 8).sum
theorem crsum_perm {l l' : List (Nat × Rw)} (h : l.Perm l') : crsum l = crsum l' := (h.map _).sum_nat
theorem coded_length : ∀ H : List (Nat × List (Nat × List Rw)), (∀ p, p ∈ H → Bks p.2) → (H.flatMap codedB).length = 12 * H.length + 12 * (cwid H).length + crsum (cflat H)
  | [], _ => rfl
  | (c, G) :: H, hb => by
    have ih := coded_length H (fun p hp => hb p (List.mem_cons_of_mem _ hp))
    have hG := (hb (c, G) (List.mem_cons_self ..)).length
    have e1 : crsum (cflat ((c, G) :: H)) = rsum (flat G) + crsum (cflat H) := by simp [crsum, cflat, rsum, Function.comp_def]
    have e2 : (cwid ((c, G) :: H)).length = G.length + (cwid H).length := by simp [cwid]
    rw [e1, e2]
    simp only [List.flatMap_cons, List.length_append, codedB, Lib.leBytes_length, hG, ih, List.length_cons]
    omega
theorem CGrp.length {es : List (Nat × Rw)} {H : List (Nat × List (Nat × List Rw))} (h : CGrp es H) : (mhiB H).length = 4 + 12 * H.length + 12 * (cwid H).length + crsum es := by
  simp only [mhiB, List.length_append, Lib.leBytes_length, coded_length H h.bks, crsum_perm h.perm]
  omega
theorem CGrp.codes {es : List (Nat × Rw)} {H : List (Nat × List (Nat × List Rw))} (h : CGrp es H) (c : Nat) : c ∈ H.map (·.1) ↔ ∃ r, r ∈ es ∧ r.1 = c := by
  constructor
  · intro hc
    obtain ⟨p, hp, rfl⟩ := List.mem_map.1 hc
    obtain ⟨q, hq⟩ := List.exists_mem_of_ne_nil _ (h.ne p hp)
    obtain ⟨r, hr⟩ := List.exists_mem_of_ne_nil _ ((h.bks p hp).ne q hq)
    exact ⟨(p.1, r), h.perm.mem_iff.1 (List.mem_flatMap.2 ⟨p, hp, List.mem_map.2 ⟨r, mem_flat.2 ⟨q, hq, hr⟩, rfl⟩⟩), rfl⟩
  · rintro ⟨r, hr, rfl⟩
    obtain ⟨p, hp, hrp⟩ := List.mem_flatMap.1 (h.perm.mem_iff.2 hr)
    obtain ⟨x, _, rfl⟩ := List.mem_map.1 hrp
    exact List.mem_map.2 ⟨p, hp, rfl⟩
theorem CGrp.cwids {es : List (Nat × Rw)} {H : List (Nat × List (Nat × List Rw))} (h : CGrp es H) (x : Nat × Nat) : x ∈ cwid H ↔ ∃ r, r ∈ es ∧ (r.1, r.2.d.length) = x := by
  constructor
  · intro hc
    obtain ⟨p, hp, hx⟩ := List.mem_flatMap.1 hc
    obtain ⟨q, hq, rfl⟩ := List.mem_map.1 hx
    obtain ⟨r, hr⟩ := List.exists_mem_of_ne_nil _ ((h.bks p hp).ne q hq)
    exact ⟨(p.1, r), h.perm.mem_iff.1 (List.mem_flatMap.2 ⟨p, hp, List.mem_map.2 ⟨r, mem_flat.2 ⟨q, hq, hr⟩, rfl⟩⟩), by rw [(h.bks p hp).wid q hq r hr]⟩
  · rintro ⟨r, hr, rfl⟩
    obtain ⟨p, hp, hrp⟩ := List.mem_flatMap.1 (h.perm.mem_iff.2 hr)
    obtain ⟨y, hy, rfl⟩ := List.mem_map.1 hrp
    obtain ⟨q, hq, hyq⟩ := mem_flat.1 hy
    exact List.mem_flatMap.2 ⟨p, hp, List.mem_map.2 ⟨q, hq, by rw [(h.bks p hp).wid q hq y hyq]⟩⟩
theorem nodup_cwid : ∀ H : List (Nat × List (Nat × List Rw)), (H.map (·.1)).Nodup → (∀ p, p ∈ H → Bks p.2) → (cwid H).Nodup
  | [], _, _ => List.nodup_nil
  | (c, G) :: H, hn, hb => by
    have hn' : c ∉ H.map (·.1) ∧ (H.map (·.1)).Nodup := by simpa using hn
    have ih := nodup_cwid H hn'.2 (fun p hp => hb p (List.mem_cons_of_mem _ hp))
    have hG := nodup_asc (hb (c, G) (List.mem_cons_self ..)).asc
    show (G.map (fun q => (c, q.1)) ++ cwid H).Nodup
    refine List.nodup_append.2 ⟨?_, ih, ?_⟩
    · rw [show (fun q : Nat × List Rw => (c, q.1)) = (fun n => (c, n)) ∘ (·.1) from rfl, ← List.map_map]
      exact List.Pairwise.map _ (fun a b hab e => hab (by injection e)) hG
    · intro a ha b hb' e
      obtain ⟨q, _, rfl⟩ := List.mem_map.1 ha
      obtain ⟨p, hp, hx⟩ := List.mem_flatMap.1 hb'
      obtain ⟨q', _, rfl⟩ := List.mem_map.1 hx
      exact hn'.1 (List.mem_map.2 ⟨p, hp, by injection e with e1 _; exact e1.symm⟩)
end Go.Proofs.YtcgggcjmmphldaaGreatDoor
namespace Go.Proofs.YtcgggcjmmphldaaGreatDoor
open Go.Sort

theorem lt_irr (x : List UInt8) : ¬ x < x := List.lt_irrefl x
theorem lt_tr {x y z : List UInt8} (h : x < y) (k : y < z) : x < z := List.lt_trans h k
theorem lt_or {x y : List UInt8} (h : ¬ x < y) (k : ¬ y < x) : x = y := List.le_antisymm (α := UInt8) (by simpa [List.not_lt] using k) (by simpa [List.not_lt] using h)

def Srtd (L : List Rw) : Prop := L.Pairwise (fun a b => ¬ b.d < a.d)

theorem takeWhile_eq (d : List UInt8) : ∀ L : List Rw, Srtd L → (∀ r, r ∈ L → ¬ r.d < d) → (L.takeWhile fun r => r.d == d) = L.filter fun r => r.d == d
  | [], _, _ => rfl
  | a :: L, hs, hd => by
    have hs' := List.pairwise_cons.1 hs
    by_cases he : a.d = d
    · have hb : (a.d == d) = true := beq_iff_eq.2 he
      rw [List.takeWhile_cons, List.filter_cons, hb]
      simp only [if_true]
      rw [takeWhile_eq d L hs'.2 (fun r hr => hd r (List.mem_cons_of_mem _ hr))]
    · have hb : (a.d == d) = false := beq_eq_false_iff_ne.2 he
      rw [List.takeWhile_cons, List.filter_cons, hb]
      simp only [Bool.false_eq_true, if_false]
      have hda : d < a.d := by
        by_cases h : d < a.d
        · exact h
        · exact absurd (lt_or (hd a (List.mem_cons_self ..)) h) he
      exact (List.filter_eq_nil_iff.2 fun r hr e => by
        rw [beq_iff_eq] at e
        exact hs'.1 r hr (by rw [e]; exact hda)).symm

/-- From the first place on at which d is not less than the row's digest: the rows with just d. -/
theorem seek_eq (d : List UInt8) (L : List Rw) (hs : Srtd L) (i : Nat) (hi : i ≤ L.length) (h1 : ∀ j (hj : j < L.length), j < i → L[j].d < d) (h2 : ∀ hi : i < L.length, ¬ L[i].d < d) :
    ((L.drop i).takeWhile fun r => r.d == d) = L.filter fun r => r.d == d := by
  have hsp : L = L.take i ++ L.drop i := (List.take_append_drop i L).symm
  have h0 : ((L.take i).filter fun r => r.d == d) = [] := List.filter_eq_nil_iff.2 fun r hr e => by
    rw [beq_iff_eq] at e
    obtain ⟨j, hj, rfl⟩ := List.getElem_of_mem hr
    rw [List.getElem_take] at e
    have hj' : j < i := by simp at hj; omega
    have := h1 j (by omega) hj'
    rw [e] at this
    exact lt_irr d this
  have hsd : Srtd (L.drop i) := List.Pairwise.drop hs
  have hge : ∀ r, r ∈ L.drop i → ¬ r.d < d := fun r hr => by
    obtain ⟨j, hj, rfl⟩ := List.getElem_of_mem hr
    rw [List.getElem_drop]
    simp at hj
    have hi' : i < L.length := by omega
    intro hlt
    rcases Nat.eq_zero_or_pos j with rfl | hj0
    · exact h2 hi' hlt
    · have := List.pairwise_iff_getElem.1 hs i (i + j) hi' (by omega) (by omega)
      -- not (L[i+j] < L[i]), L[i+j] < d: so L[i] ≤ L[i+j] < d
      by_cases hc : L[i].d < L[i + j].d
      · exact h2 hi' (lt_tr hc hlt)
      · have := lt_or hc this
        exact h2 hi' (by rw [this]; exact hlt)
  rw [takeWhile_eq d _ hsd hge]
  conv => rhs; rw [hsp, List.filter_append, h0, List.nil_append]

/-- Rows by width: each width's rows together. -/
theorem count_byWidth (l : List Rw) (a : Rw) : ∀ W : List Nat, W.Nodup → (W.flatMap fun n => l.filter fun r => r.d.length == n).count a = if a.d.length ∈ W then l.count a else 0
  | [], _ => rfl
  | n :: W, hn => by
    have hn' := List.nodup_cons.1 hn
    rw [List.flatMap_cons, List.count_append, count_byWidth l a W hn'.2]
    by_cases he : a.d.length = n
    · have h1 : a.d.length ∉ W := by rw [he]; exact hn'.1
      rw [if_neg h1, List.count_filter (by simp [he])]
      simp [he]
    · have h0 : (l.filter fun r => r.d.length == n).count a = 0 := List.count_eq_zero.2 fun hm => he (by have := (List.mem_filter.1 hm).2; simpa using this)
      rw [h0]
      simp [he]
theorem perm_byWidth (l : List Rw) (W : List Nat) (hn : W.Nodup) (hW : ∀ r, r ∈ l → r.d.length ∈ W) : (W.flatMap fun n => l.filter fun r => r.d.length == n).Perm l :=
  List.perm_iff_count.2 fun a => by
    rw [count_byWidth l a W hn]
    by_cases h : a.d.length ∈ W
    · rw [if_pos h]
    · rw [if_neg h]
      exact (List.count_eq_zero.2 fun hm => h (hW a hm)).symm

theorem perm_flatMap {α β : Type} {f g : α → List β} : ∀ l : List α, (∀ x, x ∈ l → (f x).Perm (g x)) → (l.flatMap f).Perm (l.flatMap g)
  | [], _ => List.Perm.nil
  | a :: l, h => by
    rw [List.flatMap_cons, List.flatMap_cons]
    exact (h a (List.mem_cons_self ..)).append (perm_flatMap l fun x hx => h x (List.mem_cons_of_mem _ hx))

/-- Buckets made of each width's rows, sorted. -/
theorem grp_made (l : List Rw) (W : List Nat) (S : Nat → List Rw) (hasc : W.Pairwise (· < ·)) (hW : ∀ n, n ∈ W ↔ ∃ r, r ∈ l ∧ r.d.length = n) (hp : ∀ n, n ∈ W → (S n).Perm (l.filter fun r => r.d.length == n)) (hs : ∀ n, n ∈ W → Srtd (S n)) :
    Grp l (W.map fun n => (n, S n)) := by
  have hw : ∀ n, n ∈ W → ∀ r, r ∈ S n → r.d.length = n := fun n hn r hr => by
    have := (List.mem_filter.1 ((hp n hn).mem_iff.1 hr)).2
    simpa using this
  refine ⟨⟨?_, ?_, ?_, ?_⟩, ?_⟩
  · simpa [List.map_map, Function.comp_def] using hasc
  · intro p hp'
    obtain ⟨n, hn, rfl⟩ := List.mem_map.1 hp'
    obtain ⟨r, hr, hl⟩ := (hW n).1 hn
    intro e
    have : r ∈ S n := (hp n hn).mem_iff.2 (List.mem_filter.2 ⟨hr, by simp [hl]⟩)
    simp only at e
    rw [e] at this
    simp at this
  · intro p hp'
    obtain ⟨n, hn, rfl⟩ := List.mem_map.1 hp'
    exact hw n hn
  · intro p hp'
    obtain ⟨n, hn, rfl⟩ := List.mem_map.1 hp'
    exact hs n hn
  · have e : flat (W.map fun n => (n, S n)) = W.flatMap S := by simp [flat, List.flatMap_map]
    rw [e]
    exact (perm_flatMap W hp).trans (perm_byWidth l W (nodup_asc hasc) fun r hr => (hW _).2 ⟨r, hr, rfl⟩)
end Go.Proofs.YtcgggcjmmphldaaGreatDoor
namespace Go.Proofs.YtcgggcjmmphldaaGreatDoor

/-- s is an index of the kind of just these entries (hash function, row). -/
def Enc (kind : Nat) (es : List (Nat × Rw)) (s : List UInt8) : Prop :=
  (kind = 1024 ∧ ∃ G, Grp (es.map (·.2)) G ∧ s = Lib.uvarint 1024 ++ mwB G) ∨ (kind = 1025 ∧ ∃ H, CGrp es H ∧ s = Lib.uvarint 1025 ++ mhiB H)
/-- The offsets that it has for a hash function and a digest, in the entries' order. -/
def founds (kind : Nat) (es : List (Nat × Rw)) (c : Nat) (d : List UInt8) : List Nat := (es.filter fun r => (kind == 1024 || r.1 == c) && r.2.d == d).map fun r => r.2.off

theorem rsum_snd (es : List (Nat × Rw)) : rsum (es.map (·.2)) = crsum es := by simp [rsum, crsum, List.map_map, Function.comp_def]
theorem crsum_snoc (es : List (Nat × Rw)) (e : Nat × Rw) : crsum (es ++ [e]) = crsum es + (e.2.d.length + 8) := by simp [crsum]
theorem uv1024 : (Lib.uvarint 1024).length = 2 := by rw [Lib.uvarint_big (by omega), Lib.uvarint_small (by omega)]; rfl
theorem uv1025 : (Lib.uvarint 1025).length = 2 := by rw [Lib.uvarint_big (by omega), Lib.uvarint_small (by omega)]; rfl

theorem enc_more {kind : Nat} {es : List (Nat × Rw)} {e : Nat × Rw} {s s' : List UInt8} (h : Enc kind es s) (h' : Enc kind (es ++ [e]) s') :
    s'.length = s.length + (e.2.d.length + 8) + (if ∃ x, x ∈ es ∧ (kind = 1024 ∨ x.1 = e.1) ∧ x.2.d.length = e.2.d.length then 0 else 12) + (if kind = 1025 ∧ ¬ ∃ x, x ∈ es ∧ x.1 = e.1 then 12 else 0) := by
  rcases h with ⟨rfl, G, hG, rfl⟩ | ⟨rfl, H, hH, rfl⟩
  · rcases h' with ⟨_, G', hG', rfl⟩ | ⟨h1, _⟩
    · have hl := hG.length
      have hl' := hG'.length
      rw [rsum_snd] at hl hl'
      rw [crsum_snoc] at hl'
      have hm := length_more (nodup_asc hG.bks.asc) (nodup_asc hG'.bks.asc) e.2.d.length (fun x => by
        rw [hG.widths, hG'.widths]
        constructor
        · rintro ⟨r, hr, rfl⟩
          simp only [List.map_append, List.mem_append, List.map_cons, List.map_nil, List.mem_singleton] at hr
          rcases hr with hr | rfl
          · exact Or.inl ⟨r, hr, rfl⟩
          · exact Or.inr rfl
        · rintro (⟨r, hr, rfl⟩ | rfl)
          · exact ⟨r, by simp only [List.map_append, List.mem_append]; exact Or.inl hr, rfl⟩
          · exact ⟨e.2, by simp, rfl⟩)
      simp only [List.length_map] at hm
      have hc : (e.2.d.length ∈ G.map (·.1)) ↔ ∃ x, x ∈ es ∧ (1024 = 1024 ∨ x.1 = e.1) ∧ x.2.d.length = e.2.d.length := by
        rw [hG.widths]
        constructor
        · rintro ⟨r, hr, hl⟩
          obtain ⟨x, hx, rfl⟩ := List.mem_map.1 hr
          exact ⟨x, hx, Or.inl rfl, hl⟩
        · rintro ⟨x, hx, _, hl⟩
          exact ⟨x.2, List.mem_map.2 ⟨x, hx, rfl⟩, hl⟩
      rw [List.length_append, List.length_append, hl, hl', hm, uv1024]
      by_cases hq : e.2.d.length ∈ G.map (·.1)
      · rw [if_pos hq, if_pos (hc.1 hq), if_neg (by omega)]; omega
      · rw [if_neg hq, if_neg (fun x => hq (hc.2 x)), if_neg (by omega)]; omega
    · omega
  · rcases h' with ⟨h1, _⟩ | ⟨_, H', hH', rfl⟩
    · omega
    · have hl := hH.length
      have hl' := hH'.length
      rw [crsum_snoc] at hl'
      have hm := length_more (nodup_asc hH.asc) (nodup_asc hH'.asc) e.1 (fun x => by
        rw [hH.codes, hH'.codes]
        constructor
        · rintro ⟨r, hr, rfl⟩
          rcases List.mem_append.1 hr with hr | hr
          · exact Or.inl ⟨r, hr, rfl⟩
          · exact Or.inr (by rw [List.mem_singleton.1 hr])
        · rintro (⟨r, hr, rfl⟩ | rfl)
          · exact ⟨r, List.mem_append.2 (Or.inl hr), rfl⟩
          · exact ⟨e, by simp, rfl⟩)
      have hm2 := length_more (nodup_cwid H (nodup_asc hH.asc) hH.bks) (nodup_cwid H' (nodup_asc hH'.asc) hH'.bks) (e.1, e.2.d.length) (fun x => by
        rw [hH.cwids, hH'.cwids]
        constructor
        · rintro ⟨r, hr, rfl⟩
          rcases List.mem_append.1 hr with hr | hr
          · exact Or.inl ⟨r, hr, rfl⟩
          · exact Or.inr (by rw [List.mem_singleton.1 hr])
        · rintro (⟨r, hr, rfl⟩ | rfl)
          · exact ⟨r, List.mem_append.2 (Or.inl hr), rfl⟩
          · exact ⟨e, by simp, rfl⟩)
      simp only [List.length_map] at hm
      have hc : (e.1 ∈ H.map (·.1)) ↔ ∃ x, x ∈ es ∧ x.1 = e.1 := hH.codes e.1
      have hc2 : ((e.1, e.2.d.length) ∈ cwid H) ↔ ∃ x, x ∈ es ∧ (1025 = 1024 ∨ x.1 = e.1) ∧ x.2.d.length = e.2.d.length := by
        rw [hH.cwids]
        constructor
        · rintro ⟨x, hx, he⟩
          injection he with h1 h2
          exact ⟨x, hx, Or.inr h1, h2⟩
        · rintro ⟨x, hx, h1, h2⟩
          rcases h1 with h1 | h1
          · omega
          · exact ⟨x, hx, by rw [h1, h2]⟩
      rw [List.length_append, List.length_append, hl, hl', hm, hm2, uv1025]
      by_cases hq : e.1 ∈ H.map (·.1)
      · rw [if_pos hq, if_neg (show ¬ (1025 = 1025 ∧ ¬ ∃ x, x ∈ es ∧ x.1 = e.1) from fun x => x.2 (hc.1 hq))]
        by_cases hq2 : (e.1, e.2.d.length) ∈ cwid H
        · rw [if_pos hq2, if_pos (hc2.1 hq2)]; omega
        · rw [if_neg hq2, if_neg (fun x => hq2 (hc2.2 x))]; omega
      · rw [if_neg hq, if_pos (show (1025 = 1025 ∧ ¬ ∃ x, x ∈ es ∧ x.1 = e.1) from ⟨rfl, fun x => hq (hc.2 x)⟩)]
        by_cases hq2 : (e.1, e.2.d.length) ∈ cwid H
        · rw [if_pos hq2, if_pos (hc2.1 hq2)]; omega
        · rw [if_neg hq2, if_neg (fun x => hq2 (hc2.2 x))]; omega

/-- An entry of another digest changes nothing of what is found. -/
theorem founds_other (kind : Nat) (es : List (Nat × Rw)) (e : Nat × Rw) (c : Nat) (d : List UInt8) (h : e.2.d ≠ d) : founds kind (es ++ [e]) c d = founds kind es c d := by
  have : (e.2.d == d) = false := beq_eq_false_iff_ne.2 h
  simp [founds, this]
theorem founds_self (kind : Nat) (es : List (Nat × Rw)) (e : Nat × Rw) : e.2.off ∈ founds kind (es ++ [e]) e.1 e.2.d := by
  simp only [founds, List.mem_map, List.mem_filter]
  exact ⟨e, ⟨by simp, by simp⟩, rfl⟩
end Go.Proofs.YtcgggcjmmphldaaGreatDoor
namespace Go.Proofs.YtcgggcjmmphldaaGreatDoor

theorem mem_len_flat {p : Nat × List Rw} : ∀ {G : List (Nat × List Rw)}, p ∈ G → p.2.length ≤ (flat G).length
  | [], h => by simp at h
  | a :: G, h => by
    have e : flat (a :: G) = a.2 ++ flat G := rfl
    rw [e, List.length_append]
    rcases List.mem_cons.1 h with rfl | h
    · omega
    · have := mem_len_flat h
      omega
theorem len_flat : ∀ {G : List (Nat × List Rw)}, (∀ p, p ∈ G → p.2 ≠ []) → G.length ≤ (flat G).length
  | [], _ => by simp
  | a :: G, h => by
    have e : flat (a :: G) = a.2 ++ flat G := rfl
    have h1 := List.length_pos_iff.2 (h a (List.mem_cons_self ..))
    have h2 := len_flat (G := G) (fun p hp => h p (List.mem_cons_of_mem _ hp))
    rw [e, List.length_append, List.length_cons]
    omega
theorem mem_len_cflat {p : Nat × List (Nat × List Rw)} : ∀ {H : List (Nat × List (Nat × List Rw))}, p ∈ H → (flat p.2).length ≤ (cflat H).length
  | [], h => by simp at h
  | a :: H, h => by
    have e : cflat (a :: H) = (flat a.2).map (fun r => (a.1, r)) ++ cflat H := rfl
    rw [e, List.length_append, List.length_map]
    rcases List.mem_cons.1 h with rfl | h
    · omega
    · have := mem_len_cflat h
      omega
theorem len_cflat : ∀ {H : List (Nat × List (Nat × List Rw))}, (∀ p, p ∈ H → Bks p.2) → (∀ p, p ∈ H → p.2 ≠ []) → H.length ≤ (cflat H).length
  | [], _, _ => by simp
  | a :: H, hb, hn => by
    have e : cflat (a :: H) = (flat a.2).map (fun r => (a.1, r)) ++ cflat H := rfl
    have h1 := List.length_pos_iff.2 (hn a (List.mem_cons_self ..))
    have h3 := len_flat (hb a (List.mem_cons_self ..)).ne
    have h2 := len_cflat (H := H) (fun p hp => hb p (List.mem_cons_of_mem _ hp)) (fun p hp => hn p (List.mem_cons_of_mem _ hp))
    rw [e, List.length_append, List.length_map, List.length_cons]
    omega

theorem Bks.small {G : List (Nat × List Rw)} (h : Bks G) (h1 : (flat G).length ≤ 1000) (h2 : ∀ r, r ∈ flat G → r.d.length ≤ 1000) : G.length ≤ 1000 ∧ ∀ p, p ∈ G → p.1 ≤ 1000 ∧ p.2.length ≤ 1000 := by
  refine ⟨Nat.le_trans (len_flat h.ne) h1, fun p hp => ⟨?_, Nat.le_trans (mem_len_flat hp) h1⟩⟩
  obtain ⟨r, hr⟩ := List.exists_mem_of_ne_nil _ (h.ne p hp)
  rw [← h.wid p hp r hr]
  exact h2 r (mem_flat.2 ⟨p, hp, hr⟩)
theorem mem_cflat {c : Nat} {r : Rw} {H : List (Nat × List (Nat × List Rw))} : (c, r) ∈ cflat H ↔ ∃ p, p ∈ H ∧ p.1 = c ∧ r ∈ flat p.2 := by
  simp only [cflat, List.mem_flatMap, List.mem_map, Prod.mk.injEq]
  constructor
  · rintro ⟨p, hp, r', hr, h1, rfl⟩
    exact ⟨p, hp, h1, hr⟩
  · rintro ⟨p, hp, h1, hr⟩
    exact ⟨p, hp, r, hr, h1, rfl⟩
theorem Grp.small {l : List Rw} {G : List (Nat × List Rw)} (h : Grp l G) (h1 : l.length ≤ 1000) (h2 : ∀ r, r ∈ l → r.d.length ≤ 1000) : G.length ≤ 1000 ∧ ∀ p, p ∈ G → p.1 ≤ 1000 ∧ p.2.length ≤ 1000 :=
  h.bks.small (by rw [h.perm.length_eq]; exact h1) (fun r hr => h2 r (h.perm.mem_iff.1 hr))
theorem CGrp.small {es : List (Nat × Rw)} {H : List (Nat × List (Nat × List Rw))} (h : CGrp es H) (h1 : es.length ≤ 1000) (h2 : ∀ e, e ∈ es → e.1 < 18446744073709551616 ∧ e.2.d.length ≤ 1000) :
    H.length ≤ 1000 ∧ ∀ p, p ∈ H → p.1 < 18446744073709551616 ∧ Bks p.2 ∧ p.2.length ≤ 1000 ∧ ∀ x, x ∈ p.2 → x.1 ≤ 1000 ∧ x.2.length ≤ 1000 := by
  have hl : (cflat H).length ≤ 1000 := by rw [h.perm.length_eq]; exact h1
  refine ⟨Nat.le_trans (len_cflat h.bks h.ne) hl, fun p hp => ?_⟩
  have hb := h.bks p hp
  have hs := hb.small (Nat.le_trans (mem_len_cflat hp) hl) (fun r hr => (h2 (p.1, r) (h.perm.mem_iff.1 (mem_cflat.2 ⟨p, hp, rfl, hr⟩))).2)
  obtain ⟨q, hq⟩ := List.exists_mem_of_ne_nil _ (h.ne p hp)
  obtain ⟨r, hr⟩ := List.exists_mem_of_ne_nil _ (hb.ne q hq)
  exact ⟨(h2 (p.1, r) (h.perm.mem_iff.1 (mem_cflat.2 ⟨p, hp, rfl, mem_flat.2 ⟨q, hq, hr⟩⟩))).1, hb, hs.1, hs.2⟩

theorem rsum_le : ∀ (l : List Rw), (∀ r, r ∈ l → r.d.length ≤ 1000) → rsum l ≤ 1008 * l.length
  | [], _ => by simp [rsum]
  | a :: l, h => by
    have h1 := rsum_le l (fun r hr => h r (List.mem_cons_of_mem _ hr))
    have h2 := h a (List.mem_cons_self ..)
    have e : rsum (a :: l) = (a.d.length + 8) + rsum l := by simp [rsum]
    rw [e, List.length_cons]
    omega
theorem len_cwid : ∀ {H : List (Nat × List (Nat × List Rw))}, (∀ p, p ∈ H → Bks p.2) → (cwid H).length ≤ (cflat H).length
  | [], _ => by simp [cwid]
  | a :: H, hb => by
    have e1 : cwid (a :: H) = a.2.map (fun q => (a.1, q.1)) ++ cwid H := rfl
    have e2 : cflat (a :: H) = (flat a.2).map (fun r => (a.1, r)) ++ cflat H := rfl
    have h1 := len_flat (hb a (List.mem_cons_self ..)).ne
    have h2 := len_cwid (H := H) (fun p hp => hb p (List.mem_cons_of_mem _ hp))
    rw [e1, e2, List.length_append, List.length_append, List.length_map, List.length_map]
    omega
theorem Enc.len {kind : Nat} {es : List (Nat × Rw)} {s : List UInt8} (h : Enc kind es s) (h1 : es.length ≤ 1000) (h2 : ∀ e, e ∈ es → e.2.d.length ≤ 1000) : s.length ≤ 2000000 := by
  have hr : rsum (es.map (·.2)) ≤ 1008 * es.length := by
    have := rsum_le (es.map (·.2)) (fun r hr => by obtain ⟨e, he, rfl⟩ := List.mem_map.1 hr; exact h2 e he)
    rwa [List.length_map] at this
  rcases h with ⟨rfl, G, hG, rfl⟩ | ⟨rfl, H, hH, rfl⟩
  · have hl := hG.length
    have hn := len_flat hG.bks.ne
    rw [hG.perm.length_eq, List.length_map] at hn
    rw [List.length_append, uv1024, hl]
    omega
  · have hl := hH.length
    have hn := len_cflat hH.bks hH.ne
    have hc := len_cwid hH.bks
    rw [hH.perm.length_eq] at hn hc
    rw [List.length_append, uv1025, hl, ← rsum_snd]
    omega
end Go.Proofs.YtcgggcjmmphldaaGreatDoor
