/-
  The library's sort over a pair of functions (less, swap), where less may make memory: what the caller's row must give; insertion.
  An index's bytes, in plain words: rows, buckets of rows of one width, buckets by hash functions; what is looked up in them. No program is named here.
  Rows in the order of their digests: what stands from the first place on at which a digest is not less; buckets out of rows by width. No program is named here.
  A row of entries under spec.ByDigest's closure and the library's swap: what the sort over a pair of functions asks.
  The bytes of an index of entries of a kind (whatever order equal digests stand in); how much longer it is for an entry more; what is found in it. No program is named here.
  What an index of few entries has of lengths and numbers: the premises of ReadFrom; what is found. No program is named here.
  (No condition beyond those that each theorem states.)
-/
import Derived.Test.YtkdbjocchponfaaGreatDoorM07
import Derived.Lib.Endian
import Derived.Lib.Varint
import Derived.Sort.LotA
import Derived.Lib.ReflectliteSwap
namespace Go.Proofs.YtkdbjocchponfaaGreatDoor
open Go.RowKit Go.Sort Go.Lib

/-- The blocks from B on that were there are as they were. -/
def KeepG (B : Nat) (w w' : World) : Prop := w.heap.size ≤ w'.heap.size ∧ ∀ k, B ≤ k → k < w.heap.size → w'.heap[k]? = w.heap[k]?
theorem KeepG.trans {B : Nat} {a b c : World} (h : KeepG B a b) (k : KeepG B b c) : KeepG B a c := ⟨Nat.le_trans h.1 k.1, fun i hi hl => (k.2 i hi (Nat.lt_of_lt_of_le hl h.1)).trans (h.2 i hi hl)⟩
theorem KeepG.ofOff {B : Nat} {a b : World} (h : Off [] a b) : KeepG B a b := ⟨h.size, fun i _ hl => h.block i hl (by simp)⟩
theorem KeepG.ofKeep {B : Nat} {a b : World} (h : Keep B a b) : KeepG B a b := ⟨by rw [h.1]; exact Nat.le_refl _, fun i hi _ => h.2 i hi⟩
theorem KeepG.blk {B g : Nat} {a b : World} {t : TypeId} {cs : Array Value} (h : KeepG B a b) (hb : Blk a g t cs) (hg : B ≤ g) : Blk b g t cs := (h.2 g hg hb.lt).trans hb

/-- A row that sort.SliceStable can sort: 'At d w': in the world w it holds d. -/
structure SrtF {α : Type} [Inhabited α] (g : Nat) (lb : Array Value) (gs : Nat) (sb : Array Value) (lt : α → α → Bool) (N B : Nat) (At : Array α → World → Prop) : Prop where
  size : ∀ {d : Array α} {w : World}, At d w → d.size = N
  room : ∀ {d : Array α} {w : World}, At d w → B ≤ w.heap.size
  fresh : ∀ {d : Array α} {w w' : World} {S : List Nat}, At d w → Off S w w' → (∀ x, x ∈ S → B ≤ x) → At d w'
  eLess : ∀ args w, (callFunc g args).run Tryz.prog w = .ok (.enter g args) w
  less : ∀ {d : Array α} {w : World} (i j : Nat), At d w → i < N → j < N → Calls Tryz.prog g (#[.int .i64 i, .int .i64 j] ++ lb) w fun e w' => e = .returned (.bool (lt d[i]! d[j]!)) ∧ Off [] w w'
  swap : ∀ {d : Array α} {w : World} (i j : Nat), At d w → i < N → j < N → ∃ w', (callFunc gs (#[.int .i64 i, .int .i64 j] ++ sb)).run Tryz.prog w = .ok (.value (.tuple #[])) w' ∧ At (swp d i j) w' ∧ Keep B w w'

section
variable {α : Type} [Inhabited α] {g gs : Nat} {lb sb : Array Value} {lt : α → α → Bool} {N B : Nat} {At : Array α → World → Prop}
theorem SrtF.drew (S : SrtF g lb gs sb lt N B At) {d : Array α} {w w' : World} (h : At d w) (k : Off [] w w') : At d w' := S.fresh h k (fun x hx => by simp at hx)
theorem SrtF.lessV (S : SrtF g lb gs sb lt N B At) {d : Array α} {w : World} (h : At d w) (i j : Nat) (hi : i < N) (hj : j < N) {v : Bool} (hv : lt d[i]! d[j]! = v) {x y : Int} (hx : (i : Int) = x) (hy : (j : Int) = y) :
    Calls Tryz.prog g (#[.int .i64 x, .int .i64 y] ++ lb) w fun e w2 => e = .returned (.bool v) ∧ Off [] w w2 := by
  subst hx hy hv
  exact S.less i j h hi hj

set_option maxHeartbeats 2000000 in
set_option maxRecDepth 100000 in
theorem insF (S : SrtF g lb gs sb lt N B At) (a b : Nat) (d : Array α) (w : World) (hA : At d w) (hab : a ≤ b) (hb : b ≤ N) (hN : N < 4611686018427387904) :
    Calls Tryz.prog 115 #[.agg #[.func (.func g) #[] lb, .func (.func gs) #[] sb], .int .i64 a, .int .i64 b] w fun e w' => e = .returned (.tuple #[]) ∧ At (insertionSort lt d a b) w' ∧ KeepG B w w' := by
  have eL := S.eLess
  have hBw := S.room hA
  have hA0 : At d (w.alloc (.cells #[.func (.func g) #[] lb, .func (.func gs) #[] sb] 206)) := S.drew hA (Off.alloc (Off.refl [] w) _)
  have hbx := Blk.new w 206 #[.func (.func g) #[] lb, .func (.func gs) #[] sb]
  have HA0 := Lib.hid hA0
  have HBX := Lib.hid hbx
  clear hA hA0 hbx
  go_enter Tryz.func115, Tryz.ntmps115
  go_wp2
  go_loopw [6] (fun vi wr => ∃ (i : Nat) (dk : Array α), vi = .int .i64 i ∧ a < i ∧ i ≤ b + 1 ∧ At dk wr ∧ Hid (Blk wr w.heap.size 206 #[.func (.func g) #[] lb, .func (.func gs) #[] sb] ∧ KeepG B w wr) ∧ Hid (insOuter lt a b i dk = insOuter lt a b (a + 1) d)) (fun vi _ => b + 1 - (intOf vi).toNat)
  case atStart => exact ⟨a + 1, d, by go_num, by omega, by omega, HA0.out, Lib.hid ⟨HBX.out, KeepG.ofOff (Off.alloc (Off.refl [] w) _)⟩, rfl⟩
  case round =>
    obtain ⟨i, dk, rfl, hai, hib, hA, HB, HO⟩ := hrel
    go_wp2
    · go_loopw [7] (fun vj wr2 => ∃ (j : Nat) (dj : Array α), vj = .int .i64 j ∧ a ≤ j ∧ j ≤ i ∧ At dj wr2 ∧ Hid (Blk wr2 w.heap.size 206 #[.func (.func g) #[] lb, .func (.func gs) #[] sb] ∧ KeepG B w wr2) ∧ Hid (insInner lt a j dj = insInner lt a i dk)) (fun vj _ => (intOf vj).toNat)
      case atStart => exact ⟨i, dk, rfl, by omega, Nat.le_refl _, hA, HB, rfl⟩
      case round =>
        clear hA HB
        obtain ⟨j, dj, rfl, haj, hji, hA, HB, HI⟩ := hrel
        rename World => wq
        have hlt : i < b := by assumption
        have out : (j ≤ a ∨ lt dj[j]! dj[j - 1]! = false) → ∀ W, At dj W → (Blk W w.heap.size 206 #[.func (.func g) #[] lb, .func (.func gs) #[] sb] ∧ KeepG B w W) → ∃ i' dk', Value.int .i64 ((i : Int) + 1) = .int .i64 (i' : Nat) ∧ a < i' ∧ i' ≤ b + 1 ∧ At dk' W ∧ Hid (Blk W w.heap.size 206 #[.func (.func g) #[] lb, .func (.func gs) #[] sb] ∧ KeepG B w W) ∧ Hid (insOuter lt a b i' dk' = insOuter lt a b (a + 1) d) := fun hs W hW hX =>
          ⟨i + 1, dj, by go_num, by omega, by omega, hW, hX, by show _ = _; rw [← HO.out, insOuter_go _ _ _ _ _ hlt, ← HI.out, insInner_stop _ _ _ _ hs]⟩
        have OUT : Hid _ := out
        clear out
        have c0 : wq.cell? ⟨w.heap.size, 0, none⟩ = some (.func (.func g) #[] lb) := HB.out.1.cell 0
        have c1 : wq.cell? ⟨w.heap.size, 1, none⟩ = some (.func (.func gs) #[] sb) := HB.out.1.cell 1
        by_cases hja : a < j
        · have HA := Lib.hid hA
          have hsz : j < N ∧ j - 1 < N := by omega
          cases hlv : lt dj[j]! dj[j - 1]! with
          | true =>
            have hl := S.lessV hA j (j - 1) (by omega) (by omega) hlv rfl (show ((j - 1 : Nat) : Int) = (j : Int) - 1 by omega)
            clear hA
            go_wp2_with (first
              | (go_at_fn g
                 refine hl.mono ?_
                 rintro e w' ⟨rfl, ho⟩
                 have hB' := HB.out.1.off ho (by simp)
                 have c0' : w'.cell? ⟨w.heap.size, 0, none⟩ = some (.func (.func g) #[] lb) := hB'.cell 0
                 have c1' : w'.cell? ⟨w.heap.size, 1, none⟩ = some (.func (.func gs) #[] sb) := hB'.cell 1
                 obtain ⟨w5, hs5, hA5, hK5⟩ := S.swap j (j - 1) (S.drew HA.out ho) hsz.1 hsz.2
                 rw [show ((j - 1 : Nat) : Int) = (j : Int) - 1 by omega] at hs5
                 have HB5 := Lib.hid (And.intro (hK5.blk hB' hBw) ((HB.out.2.trans (KeepG.ofOff ho)).trans (KeepG.ofKeep hK5)))
                 clear hB' hK5))
            go_roundw
            case rel =>
              (repeat apply Exists.intro)
              exact ⟨⟨j - 1, swp dj j (j - 1), by congr 1 <;> omega, by omega, by omega, hA5, HB5, by show _ = _; rw [← HI.out, insInner_go lt a j dj hja hlv]⟩, by rw [decide_eq_true hlt, show ((j - 1 : Nat) : Int) = (j : Int) - 1 by omega]⟩
            case measure => simp [intOf]; omega
          | false =>
            have hl := S.lessV hA j (j - 1) (by omega) (by omega) hlv rfl (show ((j - 1 : Nat) : Int) = (j : Int) - 1 by omega)
            clear hA
            go_wp2_with (go_at_fn g; refine hl.mono ?_; rintro e w' ⟨rfl, ho⟩; have HO' := Lib.hid ho; clear ho)
            go_roundw
            case rel => exact OUT.out (Or.inr hlv) _ (S.drew HA.out HO'.out) ⟨HB.out.1.off HO'.out (by simp), HB.out.2.trans (KeepG.ofOff HO'.out)⟩
            case measure => simp [intOf]; omega
        · go_wp2
          go_roundw
          case rel => exact OUT.out (Or.inl (by omega)) _ hA HB.out
          case measure => simp [intOf]; omega
    · have hge : ¬ i < b := by assumption
      go_end0
      exact ⟨rfl, by unfold insertionSort; rw [← HO.out, insOuter_stop _ _ _ _ _ hge]; exact hA, HB.out.2⟩
end
end Go.Proofs.YtkdbjocchponfaaGreatDoor
namespace Go.Proofs.YtkdbjocchponfaaGreatDoor

/-- A row of an index: a digest and an offset. -/
structure Rw where
  d : List UInt8
  off : Nat
deriving DecidableEq, Inhabited

def rowB (r : Rw) : List UInt8 := r.d ++ Lib.leBytes 8 r.off
def rowsB (l : List Rw) : List UInt8 := l.flatMap rowB
/-- Rows of one width behind their head. -/
def bucketB (p : Nat × List Rw) : List UInt8 := Lib.leBytes 4 (p.1 + 8) ++ (Lib.leBytes 8 ((p.1 + 8) * p.2.length) ++ rowsB p.2)
def mwB (G : List (Nat × List Rw)) : List UInt8 := Lib.leBytes 4 G.length ++ G.flatMap bucketB
def codedB (p : Nat × List (Nat × List Rw)) : List UInt8 := Lib.leBytes 8 p.1 ++ mwB p.2
def mhiB (H : List (Nat × List (Nat × List Rw))) : List UInt8 := Lib.leBytes 4 H.length ++ H.flatMap codedB

/-- Buckets as they stand in an index: the widths in increasing order; of each one at least one row, of digests of that width, in the digests' order. -/
structure Bks (G : List (Nat × List Rw)) : Prop where
  asc : (G.map (·.1)).Pairwise (· < ·)
  ne : ∀ p, p ∈ G → p.2 ≠ []
  wid : ∀ p, p ∈ G → ∀ r, r ∈ p.2 → r.d.length = p.1
  srt : ∀ p, p ∈ G → p.2.Pairwise (fun a b => ¬ b.d < a.d)

def flat (G : List (Nat × List Rw)) : List Rw := G.flatMap (·.2)
/-- .. the buckets of just these rows. -/
structure Grp (l : List Rw) (G : List (Nat × List Rw)) : Prop where
  bks : Bks G
  perm : (flat G).Perm l

def cflat (H : List (Nat × List (Nat × List Rw))) : List (Nat × Rw) := H.flatMap fun p => (flat p.2).map fun r => (p.1, r)
/-- Hash functions in increasing order, each with its rows' buckets, at least one. -/
structure CGrp (es : List (Nat × Rw)) (H : List (Nat × List (Nat × List Rw))) : Prop where
  asc : (H.map (·.1)).Pairwise (· < ·)
  bks : ∀ p, p ∈ H → Bks p.2
  ne : ∀ p, p ∈ H → p.2 ≠ []
  perm : (cflat H).Perm es

theorem rowB_length (r : Rw) : (rowB r).length = r.d.length + 8 := by simp [rowB, Lib.leBytes_length]
theorem rowsB_length (l : List Rw) (n : Nat) (h : ∀ r, r ∈ l → r.d.length = n) : (rowsB l).length = (n + 8) * l.length := by
  induction l with
  | nil => rfl
  | cons a l ih =>
    have e := ih (fun r hr => h r (List.mem_cons_of_mem _ hr))
    simp only [rowsB, List.flatMap_cons, List.length_append, rowB_length, List.length_cons] at e ⊢
    rw [show (l.flatMap rowB).length = (n + 8) * l.length from e, h a (List.mem_cons_self ..), Nat.mul_add, Nat.mul_one]
    omega
def rsum (l : List Rw) : Nat := (l.map fun r => r.d.length + 8).sum
theorem rsum_perm {l l' : List Rw} (h : l.Perm l') : rsum l = rsum l' := (h.map _).sum_nat
theorem rsum_append (l l' : List Rw) : rsum (l ++ l') = rsum l + rsum l' := by simp [rsum]
theorem rsum_const (l : List Rw) (n : Nat) (h : ∀ r, r ∈ l → r.d.length = n) : rsum l = (n + 8) * l.length := by
  induction l with
  | nil => rfl
  | cons a l ih =>
    have e := ih (fun r hr => h r (List.mem_cons_of_mem _ hr))
    simp only [rsum, List.map_cons, List.sum_cons, List.length_cons] at e ⊢
    rw [e, h a (List.mem_cons_self ..), Nat.mul_add, Nat.mul_one]
    omega
theorem bucketB_length (p : Nat × List Rw) (h : ∀ r, r ∈ p.2 → r.d.length = p.1) : (bucketB p).length = 12 + rsum p.2 := by
  simp only [bucketB, List.length_append, Lib.leBytes_length, rowsB_length p.2 p.1 h, rsum_const p.2 p.1 h]
  omega
theorem buckets_length (G : List (Nat × List Rw)) (h : ∀ p, p ∈ G → ∀ r, r ∈ p.2 → r.d.length = p.1) : (G.flatMap bucketB).length = 12 * G.length + rsum (flat G) := by
  induction G with
  | nil => rfl
  | cons a G ih =>
    have e := ih (fun p hp => h p (List.mem_cons_of_mem _ hp))
    simp only [List.flatMap_cons, List.length_append, flat, rsum_append, List.length_cons, bucketB_length a (h a (List.mem_cons_self ..))] at e ⊢
    rw [e]
    omega
theorem Bks.length {G : List (Nat × List Rw)} (h : Bks G) : (mwB G).length = 4 + 12 * G.length + rsum (flat G) := by
  simp only [mwB, List.length_append, Lib.leBytes_length, buckets_length G h.wid]
  omega
theorem Grp.length {l : List Rw} {G : List (Nat × List Rw)} (h : Grp l G) : (mwB G).length = 4 + 12 * G.length + rsum l := by rw [h.bks.length, rsum_perm h.perm]
theorem mem_flat {r : Rw} {G : List (Nat × List Rw)} : r ∈ flat G ↔ ∃ p, p ∈ G ∧ r ∈ p.2 := by simp [flat]
theorem Grp.widths {l : List Rw} {G : List (Nat × List Rw)} (h : Grp l G) (n : Nat) : n ∈ G.map (·.1) ↔ ∃ r, r ∈ l ∧ r.d.length = n := by
  constructor
  · intro hn
    obtain ⟨p, hp, rfl⟩ := List.mem_map.1 hn
    obtain ⟨r, hr⟩ := List.exists_mem_of_ne_nil _ (h.bks.ne p hp)
    exact ⟨r, h.perm.mem_iff.1 (mem_flat.2 ⟨p, hp, hr⟩), h.bks.wid p hp r hr⟩
  · rintro ⟨r, hr, rfl⟩
    obtain ⟨p, hp, hrp⟩ := mem_flat.1 (h.perm.mem_iff.2 hr)
    exact List.mem_map.2 ⟨p, hp, (h.bks.wid p hp r hrp).symm⟩
theorem nodup_asc {l : List Nat} (h : l.Pairwise (· < ·)) : l.Nodup := h.imp (fun hab => Nat.ne_of_lt hab)
/-! ### what is found -/
/-! ### how long it is -/
def cwid (H : List (Nat × List (Nat × List Rw))) : List (Nat × Nat) := H.flatMap fun p => p.2.map fun q => (p.1, q.1)
def crsum (es : List (Nat × Rw)) : Nat := (es.map fun r => r.2.d.length + 8).sum
theorem crsum_perm {l l' : List (Nat × Rw)} (h : l.Perm l') : crsum l = crsum l' := (h.map _).sum_nat
theorem coded_length : ∀ H : List (Nat × List (Nat × List Rw)), (∀ p, p ∈ H → Bks p.2) → (H.flatMap codedB).length = 12 * H.length + 12 * (cwid H).length + crsum (cflat H)
  | [], _ => rfl
  | (c, G) :: H, hb => by
    have ih := coded_length H (fun p hp => hb p (List.mem_cons_of_mem _ hp))
    have hG := (hb (c, G) (List.mem_cons_self ..)).length
    have e1 : crsum (cflat ((c, G) :: H)) = rsum (flat G) + crsum (cflat H) := by simp [crsum, cflat, rsum, Function.comp_def]
    have e2 : (cwid ((c, G) :: H)).length = G.length + (cwid H).length := by simp [cwid]
    rw [e1, e2]
    simp only [List.flatMap_cons, List.length_append, codedB, Lib.leBytes_length, hG, ih, List.length_cons]
    omega
theorem CGrp.length {es : List (Nat × Rw)} {H : List (Nat × List (Nat × List Rw))} (h : CGrp es H) : (mhiB H).length = 4 + 12 * H.length + 12 * (cwid H).length + crsum es := by
  simp only [mhiB, List.length_append, Lib.leBytes_length, coded_length H h.bks, crsum_perm h.perm]
  omega
theorem CGrp.codes {es : List (Nat × Rw)} {H : List (Nat × List (Nat × List Rw))} (h : CGrp es H) (c : Nat) : c ∈ H.map (·.1) ↔ ∃ r, r ∈ es ∧ r.1 = c := by
  constructor
  · intro hc
    obtain ⟨p, hp, rfl⟩ := List.mem_map.1 hc
    obtain ⟨q, hq⟩ := List.exists_mem_of_ne_nil _ (h.ne p hp)
    obtain ⟨r, hr⟩ := List.exists_mem_of_ne_nil _ ((h.bks p hp).ne q hq)
    exact ⟨(p.1, r), h.perm.mem_iff.1 (List.mem_flatMap.2 ⟨p, hp, List.mem_map.2 ⟨r, mem_flat.2 ⟨q, hq, hr⟩, rfl⟩⟩), rfl⟩
  · rintro ⟨r, hr, rfl⟩
    obtain ⟨p, hp, hrp⟩ := List.mem_flatMap.1 (h.perm.mem_iff.2 hr)
    obtain ⟨x, _, rfl⟩ := List.mem_map.1 hrp
    exact List.mem_map.2 ⟨p, hp, rfl⟩
end Go.Proofs.YtkdbjocchponfaaGreatDoor
namespace Go.Proofs.YtkdbjocchponfaaGreatDoor
open Go.Sort

theorem lt_irr (x : List UInt8) : ¬ x < x := List.lt_irrefl x
theorem lt_tr {x y z : List UInt8} (h : x < y) (k : y < z) : x < z := List.lt_trans h k
theorem lt_or {x y : List UInt8} (h : ¬ x < y) (k : ¬ y < x) : x = y := List.le_antisymm (α := UInt8) (by simpa [List.not_lt] using k) (by simpa [List.not_lt] using h)

def Srtd (L : List Rw) : Prop := L.Pairwise (fun a b => ¬ b.d < a.d)

/-- Rows by width: each width's rows together. -/
theorem count_byWidth (l : List Rw) (a : Rw) : ∀ W : List Nat, W.Nodup → (W.flatMap fun n => l.filter fun r => r.d.length == n).count a = if a.d.length ∈ W then l.count a else 0
  | [], _ => rfl
  | n :: W, hn => by
    have hn' := List.nodup_cons.1 hn
    rw [List.flatMap_cons, List.count_append, count_byWidth l a W hn'.2]
    by_cases he : a.d.length = n
    · have h1 : a.d.length ∉ W := by rw [he]; exact hn'.1
      rw [if_neg h1, List.count_filter (by simp [he])]
      simp [he]
    · have h0 : (l.filter fun r => r.d.length == n).count a = 0 := List.count_eq_zero.2 fun hm => he (by have := (List.mem_filter.1 hm).2; simpa using this)
      rw [h0]
      simp [he]
theorem perm_byWidth (l : List Rw) (W : List Nat) (hn : W.Nodup) (hW : ∀ r, r ∈ l → r.d.length ∈ W) : (W.flatMap fun n => l.filter fun r => r.d.length == n).Perm l :=
  List.perm_iff_count.2 fun a => by
    rw [count_byWidth l a W hn]
    by_cases h : a.d.length ∈ W
    · rw [if_pos h]
    · rw [if_neg h]
      exact (List.count_eq_zero.2 fun hm => h (hW a hm)).symm

theorem perm_flatMap {α β : Type} {f g : α → List β} : ∀ l : List α, (∀ x, x ∈ l → (f x).Perm (g x)) → (l.flatMap f).Perm (l.flatMap g)
  | [], _ => List.Perm.nil
  | a :: l, h => by
    rw [List.flatMap_cons, List.flatMap_cons]
    exact (h a (List.mem_cons_self ..)).append (perm_flatMap l fun x hx => h x (List.mem_cons_of_mem _ hx))

/-- Buckets made of each width's rows, sorted. -/
theorem grp_made (l : List Rw) (W : List Nat) (S : Nat → List Rw) (hasc : W.Pairwise (· < ·)) (hW : ∀ n, n ∈ W ↔ ∃ r, r ∈ l ∧ r.d.length = n) (hp : ∀ n, n ∈ W → (S n).Perm (l.filter fun r => r.d.length == n)) (hs : ∀ n, n ∈ W → Srtd (S n)) :
    Grp l (W.map fun n => (n, S n)) := by
  have hw : ∀ n, n ∈ W → ∀ r, r ∈ S n → r.d.length = n := fun n hn r hr => by
    have := (List.mem_filter.1 ((hp n hn).mem_iff.1 hr)).2
    simpa using this
  refine ⟨⟨?_, ?_, ?_, ?_⟩, ?_⟩
  · simpa [List.map_map, Function.comp_def] using hasc
  · intro p hp'
    obtain ⟨n, hn, rfl⟩ := List.mem_map.1 hp'
    obtain ⟨r, hr, hl⟩ := (hW n).1 hn
    intro e
    have : r ∈ S n := (hp n hn).mem_iff.2 (List.mem_filter.2 ⟨hr, by simp [hl]⟩)
    simp only at e
    rw [e] at this
    simp at this
  · intro p hp'
    obtain ⟨n, hn, rfl⟩ := List.mem_map.1 hp'
    exact hw n hn
  · intro p hp'
    obtain ⟨n, hn, rfl⟩ := List.mem_map.1 hp'
    exact hs n hn
  · have e : flat (W.map fun n => (n, S n)) = W.flatMap S := by simp [flat, List.flatMap_map]
    rw [e]
    exact (perm_flatMap W hp).trans (perm_byWidth l W (nodup_asc hasc) fun r hr => (hW _).2 ⟨r, hr, rfl⟩)
end Go.Proofs.YtkdbjocchponfaaGreatDoor
namespace Go.Proofs.YtkdbjocchponfaaGreatDoor
open Go.RowKit Go.Sort Go.Lib

instance : Inhabited Ent := ⟨⟨0, 0, 0, ByteArray.empty, 0⟩⟩

theorem lessE_eq (a b : Ent) : lessE a b = decide (a.dg.data.toList < b.dg.data.toList ∨ (a.dg.data.toList = b.dg.data.toList ∧ a.off < b.off)) := by
  unfold lessE
  rw [bytesLess_eq, Lib.toList_data, Lib.toList_data]
  generalize a.dg.data.toList = x
  generalize b.dg.data.toList = y
  by_cases h : x = y
  · subst h
    have hx := lt_irr x
    simp
    exact fun k => absurd k hx
  · have hb : (x == y) = false := beq_eq_false_iff_ne.2 h
    simp [hb, h]
theorem lessE_t {a b : Ent} : lessE a b = true ↔ (a.dg.data.toList < b.dg.data.toList ∨ (a.dg.data.toList = b.dg.data.toList ∧ a.off < b.off)) := by rw [lessE_eq, decide_eq_true_iff]
theorem lessE_f {a b : Ent} : lessE a b = false ↔ ¬ (a.dg.data.toList < b.dg.data.toList ∨ (a.dg.data.toList = b.dg.data.toList ∧ a.off < b.off)) := by rw [lessE_eq, decide_eq_false_iff_not]
theorem swo_lessE : SWO lessE where
  irrefl x := by rw [lessE_f]; simp
  trans x y z h1 h2 := by
    rw [lessE_t] at h1 h2 ⊢
    rcases h1 with h1 | ⟨e1, h1⟩
    · rcases h2 with h2 | ⟨e2, h2⟩
      · exact Or.inl (lt_tr h1 h2)
      · exact Or.inl (e2 ▸ h1)
    · rcases h2 with h2 | ⟨e2, h2⟩
      · exact Or.inl (e1 ▸ h2)
      · exact Or.inr ⟨e1.trans e2, Nat.lt_trans h1 h2⟩
  ntrans x y z h1 h2 := by
    rw [lessE_f] at h1 h2 ⊢
    rintro (h | ⟨e, h⟩)
    · by_cases hyx : y.dg.data.toList < x.dg.data.toList
      · exact h2 (Or.inl (lt_tr hyx h))
      · have e := lt_or (fun k => h1 (Or.inl k)) hyx
        exact h2 (Or.inl (e ▸ h))
    · by_cases hyx : y.dg.data.toList < x.dg.data.toList
      · exact h2 (Or.inl (e ▸ hyx))
      · have e1 := lt_or (fun k => h1 (Or.inl k)) hyx
        have a1 : ¬ x.off < y.off := fun k => h1 (Or.inr ⟨e1, k⟩)
        have a2 : ¬ y.off < z.off := fun k => h2 (Or.inr ⟨e1.symm.trans e, k⟩)
        omega

theorem heap_setCells_ne {g k : Nat} (hk : k ≠ g) : ∀ (vs : List Value) (o : Nat) (w : World), (w.setCells g o vs).heap[k]? = w.heap[k]?
  | [], _, _ => rfl
  | v :: vs, o, w => (heap_setCells_ne hk vs (o + 1) _).trans (Below.heap_setCell w ⟨g, o, none⟩ v k hk)

theorem blk_setE {w : World} {g : Nat} {t : TypeId} (l : List Ent) (sp : List Value) (i : Nat) (hi : i < l.length) (e : Ent) (h : Blk w g t (entsC l ++ sp).toArray) :
    Blk (w.setCells g (i * 5) (entC e)) g t (entsC (l.set i e) ++ sp).toArray := by
  have hs : l = l.take i ++ (l[i] :: l.drop (i + 1)) := by rw [← List.drop_eq_getElem_cons hi, List.take_append_drop]
  have hp : (entsC (l.take i)).length = i * 5 := by rw [entsC_len, List.length_take]; omega
  have ha : ∀ a b : List Ent, entsC (a ++ b) = entsC a ++ entsC b := fun a b => by simp [entsC]
  have hc : ∀ (x : Ent) (b : List Ent), entsC (x :: b) = entC x ++ entsC b := fun x b => rfl
  have e1 : entsC l ++ sp = entsC (l.take i) ++ (entC l[i] ++ (entsC (l.drop (i + 1)) ++ sp)) := by
    conv => lhs; rw [hs, ha, hc]
    simp only [List.append_assoc]
  have e2 : entsC (l.set i e) ++ sp = entsC (l.take i) ++ (entC e ++ (entsC (l.drop (i + 1)) ++ sp)) := by
    rw [List.set_eq_take_append_cons_drop, if_pos hi, ha, hc]
    simp only [List.append_assoc]
  rw [e1] at h
  rw [e2]
  exact Blk.setCells (entC e) (i * 5) w _ (entC l[i]) _ hp rfl h

/-- The entries d in block g, the closure's box in block Bs; all else of w0 as it was. -/
structure RowES (w0 : World) (g Bs c : Nat) (sp : List Value) (N : Nat) (d : Array Ent) (w : World) : Prop where
  off : Off [g] w0 w
  size : d.size = N
  blk : Blk w g 49 (entsC d.toList ++ sp).toArray
  box : Blk w Bs 27 #[.slice (some ⟨g, 0, none⟩) N c]
theorem getE (d : Array Ent) (i : Nat) (hi : i < d.size) : d[i]! = d.toList[i]'(by simpa using hi) := by
  rw [getElem!_pos d i hi]; simp
theorem RowES.at {w0 : World} {g Bs c N : Nat} {sp : List Value} {d : Array Ent} {w : World} (h : RowES w0 g Bs c sp N d w) (i : Nat) (hi : i < N) : ∀ k v, (entC d[i]!)[k]? = some v → w.cell? ⟨g, i * 5 + k, none⟩ = some v := fun k v hk => by
  have hs := h.size
  have hl : i < d.toList.length := by simp; omega
  have hk5 : k < 5 := (List.getElem?_eq_some_iff.1 hk).1
  have hlen := entsC_len d.toList
  rw [h.blk.cell, List.getElem?_toArray, List.getElem?_append_left (by omega), entsC_at d.toList i hl k hk5, ← getE d i (by omega)]
  exact hk
theorem swp_toListE (d : Array Ent) (i j : Nat) (_hi : i < d.size) (_hj : j < d.size) : (Sort.swp d i j).toList = (d.toList.set i d[j]!).set j d[i]! := by simp [Sort.swp]
theorem off_setCellsE (vs : List Value) (g o : Nat) (w : World) : Off [g] w (w.setCells g o vs) := Off.ofGrown (grown_setCells vs g o w)

theorem srtF_row (w0 : World) (g Bs c N : Nat) (sp : List Value) (hg : g < w0.heap.size) (hb : Bs < w0.heap.size) (hne : Bs ≠ g) :
    SrtF (lt := lessE) 89 #[.pointer (some ⟨Bs, 0, none⟩)] 112 #[.slice (some ⟨g, 0, none⟩) N c, typeHandle Tryz.prog 49] N w0.heap.size (RowES w0 g Bs c sp N) where
  size h := h.size
  room h := h.off.size
  fresh h ho hS := ⟨h.off.then ho (fun x hx => Or.inr (hS x hx)), h.size, h.blk.off ho (fun hx => by have := hS _ hx; omega), h.box.off ho (fun hx => by have := hS _ hx; omega)⟩
  eLess args w := enters_of Tryz.func89 (by kernel_rfl) rfl args w
  less {d w} i j h hi hj := by
    have a := h.at i hi
    have b := h.at j hj
    exact lessBD w Bs g c N i j d[i]! d[j]! (h.box.cell 0) hi hj (a 0 _ rfl) (a 1 _ rfl) (a 2 _ rfl) (a 3 _ rfl) (a 4 _ rfl) (b 0 _ rfl) (b 1 _ rfl) (b 2 _ rfl) (b 3 _ rfl) (b 4 _ rfl)
  swap {d w} i j h hi hj := by
    have hs := h.size
    obtain ⟨i0, hi0, hz0, hz1, hz2⟩ := info_parts Tryz.infoEnt2
    have a := h.at i hi
    have b := h.at j hj
    have hsw := run_swap_cells (P := Tryz.prog) false 49 i0 hi0 (fun w => by kernel_rfl) g 0 N c i j hi hj (entC d[i]!) (entC d[j]!) (by rw [hz1]; rfl) (by rw [hz1]; rfl) (entC_one _) (entC_one _) w
      (fun k v hk => by rw [hz1, Nat.zero_add]; exact a k v hk) (fun k v hk => by rw [hz1, Nat.zero_add]; exact b k v hk) (fun k _ => h.blk.frozen _) (fun k _ => h.blk.frozen _)
    rw [hz1, Nat.zero_add, Nat.zero_add] at hsw
    have hl1 : i < d.toList.length := by simp; omega
    have hl2 : j < (d.toList.set i d[j]!).length := by simp; omega
    have hb2 := blk_setE (d.toList.set i d[j]!) sp j hl2 d[i]! (blk_setE d.toList sp i hl1 d[j]! h.blk)
    refine ⟨(w.setCells g (i * 5) (entC d[j]!)).setCells g (j * 5) (entC d[i]!), ?_, ⟨?_, by rw [Sort.size_swp]; exact hs, ?_, ?_⟩, ?_, ?_⟩
    · rw [run_callFunc_extern Tryz.func112 (by kernel_rfl) (by kernel_rfl) (by kernel_rfl) (e := Extern.ReflectliteSwapper.swap false) (by kernel_rfl)]
      have e : (#[Value.int .i64 (i : Int), .int .i64 (j : Int)] ++ #[.slice (some ⟨g, 0, none⟩) N c, typeHandle Tryz.prog 49] : Array Value) = #[.int .i64 (i : Int), .int .i64 (j : Int), .slice (some ⟨g, 0, none⟩) N c, typeHandle Tryz.prog 49] := rfl
      rw [e, hsw]
      rfl
    · exact (h.off.then (off_setCellsE _ _ _ _) (fun x hx => Or.inl hx)).then (off_setCellsE _ _ _ _) (fun x hx => Or.inl hx)
    · rw [swp_toListE d i j (by omega) (by omega)]
      exact hb2
    · exact Blk.setCells_far _ _ _ _ hne (Blk.setCells_far _ _ _ _ hne h.box)
    · rw [setCells_size, setCells_size]
    · intro k hk
      rw [heap_setCells_ne (by omega), heap_setCells_ne (by omega)]
end Go.Proofs.YtkdbjocchponfaaGreatDoor
namespace Go.Proofs.YtkdbjocchponfaaGreatDoor

/-- s is an index of the kind of just these entries (hash function, row). -/
def Enc (kind : Nat) (es : List (Nat × Rw)) (s : List UInt8) : Prop :=
  (kind = 1024 ∧ ∃ G, Grp (es.map (·.2)) G ∧ s = Lib.uvarint 1024 ++ mwB G) ∨ (kind = 1025 ∧ ∃ H, CGrp es H ∧ s = Lib.uvarint 1025 ++ mhiB H)
theorem rsum_snd (es : List (Nat × Rw)) : rsum (es.map (·.2)) = crsum es := by simp [rsum, crsum, List.map_map, Function.comp_def]
theorem uv1024 : (Lib.uvarint 1024).length = 2 := by rw [Lib.uvarint_big (by omega), Lib.uvarint_small (by omega)]; rfl
theorem uv1025 : (Lib.uvarint 1025).length = 2 := by rw [Lib.uvarint_big (by omega), Lib.uvarint_small (by omega)]; rfl

end Go.Proofs.YtkdbjocchponfaaGreatDoor
namespace Go.Proofs.YtkdbjocchponfaaGreatDoor

theorem len_flat : ∀ {G : List (Nat × List Rw)}, (∀ p, p ∈ G → p.2 ≠ []) → G.length ≤ (flat G).length
  | [], _ => by simp
  | a :: G, h => by
    have e : flat (a :: G) = a.2 ++ flat G := rfl
    have h1 := List.length_pos_iff.2 (h a (List.mem_cons_self ..))
    have h2 := len_flat (G := G) (fun p hp => h p (List.mem_cons_of_mem _ hp))
    rw [e, List.length_append, List.length_cons]
    omega
theorem len_cflat : ∀ {H : List (Nat × List (Nat × List Rw))}, (∀ p, p ∈ H → Bks p.2) → (∀ p, p ∈ H → p.2 ≠ []) → H.length ≤ (cflat H).length
  | [], _, _ => by simp
  | a :: H, hb, hn => by
    have e : cflat (a :: H) = (flat a.2).map (fun r => (a.1, r)) ++ cflat H := rfl
    have h1 := List.length_pos_iff.2 (hn a (List.mem_cons_self ..))
    have h3 := len_flat (hb a (List.mem_cons_self ..)).ne
    have h2 := len_cflat (H := H) (fun p hp => hb p (List.mem_cons_of_mem _ hp)) (fun p hp => hn p (List.mem_cons_of_mem _ hp))
    rw [e, List.length_append, List.length_map, List.length_cons]
    omega

theorem rsum_le : ∀ (l : List Rw), (∀ r, r ∈ l → r.d.length ≤ 1000) → rsum l ≤ 1008 * l.length
  | [], _ => by simp [rsum]
  | a :: l, h => by
    have h1 := rsum_le l (fun r hr => h r (List.mem_cons_of_mem _ hr))
    have h2 := h a (List.mem_cons_self ..)
    have e : rsum (a :: l) = (a.d.length + 8) + rsum l := by simp [rsum]
    rw [e, List.length_cons]
    omega
theorem len_cwid : ∀ {H : List (Nat × List (Nat × List Rw))}, (∀ p, p ∈ H → Bks p.2) → (cwid H).length ≤ (cflat H).length
  | [], _ => by simp [cwid]
  | a :: H, hb => by
    have e1 : cwid (a :: H) = a.2.map (fun q => (a.1, q.1)) ++ cwid H := rfl
    have e2 : cflat (a :: H) = (flat a.2).map (fun r => (a.1, r)) ++ cflat H := rfl
    have h1 := len_flat (hb a (List.mem_cons_self ..)).ne
    have h2 := len_cwid (H := H) (fun p hp => hb p (List.mem_cons_of_mem _ hp))
    rw [e1, e2, List.length_append, List.length_append, List.length_map, List.length_map]
    omega
theorem Enc.len {kind : Nat} {es : List (Nat × Rw)} {s : List UInt8} (h : Enc kind es s) (h1 : es.length ≤ 1000) (h2 : ∀ e, e ∈ es → e.2.d.length ≤ 1000) : s.length ≤ 2000000 := by
  have hr : rsum (es.map (·.2)) ≤ 1008 * es.length := by
    have := rsum_le (es.map (·.2)) (fun r hr => by obtain ⟨e, he, rfl⟩ := List.mem_map.1 hr; exact h2 e he)
    rwa [List.length_map] at this
  rcases h with ⟨rfl, G, hG, rfl⟩ | ⟨rfl, H, hH, rfl⟩
  · have hl := hG.length
    have hn := len_flat hG.bks.ne
    rw [hG.perm.length_eq, List.length_map] at hn
    rw [List.length_append, uv1024, hl]
    omega
  · have hl := hH.length
    have hn := len_cflat hH.bks hH.ne
    have hc := len_cwid hH.bks
    rw [hH.perm.length_eq] at hn hc
    rw [List.length_append, uv1025, hl, ← rsum_snd]
    omega
end Go.Proofs.YtkdbjocchponfaaGreatDoor
