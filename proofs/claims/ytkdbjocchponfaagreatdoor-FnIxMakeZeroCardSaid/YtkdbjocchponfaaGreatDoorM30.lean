/-
  Rows of sorted entries by width, in plain words; a row of ints in increasing order.
  swapRange_func over a row of the caller's.
  rotate_func over a row of the caller's.
  What swapRange and rotate leave, place by place. No program is named here.
  One step of the symmetric merge, in plain words. No program is named here.
  The symmetric merge's ends, in plain words: two sorted halves; one element put into a sorted run. No program is named here.
  (No condition beyond those that each theorem states.)
-/
import Derived.Test.YtkdbjocchponfaaGreatDoorM08
import Derived.Test.YtkdbjocchponfaaGreatDoorM29
import Derived.Sort.LotA
namespace Go.Proofs.YtkdbjocchponfaaGreatDoor
open Go.RowKit Go.Sort

/-- The entry as a row of an index. -/
def Ent.rw (e : Ent) : Rw := ⟨e.dg.data.toList, e.off⟩
theorem ent_wid (e : Ent) : e.rw.d.length = e.dg.size := by
  show e.dg.data.toList.length = e.dg.size
  rw [Array.length_toList]; rfl
/-- The rows of one width, in the sorted entries' order. -/
def widS (es : List Ent) (n : Nat) : List Rw := (es.filter fun e => e.dg.size == n).map Ent.rw
def grpG (es : List Ent) (n : Nat) : Nat × List Rw := (n, widS es n)

theorem srtd_ents {es : List Ent} (hs : es.Pairwise (fun a b => lessE b a = false)) : Srtd (es.map Ent.rw) := by
  unfold Srtd
  rw [List.pairwise_map]
  refine hs.imp fun {a b} h => ?_
  rw [lessE_f] at h
  exact fun k => h (Or.inl k)

theorem grp_sorted (es es' : List Ent) (Ws : List Nat) (hp : es'.Perm es) (hs : es'.Pairwise (fun a b => lessE b a = false)) (hasc : Ws.Pairwise (· < ·)) (hW : ∀ k, k ∈ Ws ↔ ∃ e, e ∈ es ∧ e.dg.size = k) : Grp (es.map Ent.rw) (Ws.map (grpG es')) := by
  refine grp_made (es.map Ent.rw) Ws (widS es') hasc (fun n => ?_) (fun n _ => ?_) (fun n _ => ?_)
  · rw [hW]
    constructor
    · rintro ⟨e, he, rfl⟩
      exact ⟨e.rw, List.mem_map.2 ⟨e, he, rfl⟩, ent_wid e⟩
    · rintro ⟨r, hr, rfl⟩
      obtain ⟨e, he, rfl⟩ := List.mem_map.1 hr
      exact ⟨e, he, (ent_wid e).symm⟩
  · have e1 : ((es.map Ent.rw).filter fun r => r.d.length == n) = (es.filter fun e => e.dg.size == n).map Ent.rw := by
      rw [List.filter_map]
      congr 1
    rw [e1]
    exact (hp.filter _).map _
  · exact srtd_ents (hs.filter _)

theorem grp_len {es : List Ent} {G : List (Nat × List Rw)} (h : Grp (es.map Ent.rw) G) (hn : es.length ≤ 100) (hdg : ∀ e, e ∈ es → e.dg.size ≤ 1000) : (mwB G).length ≤ 102004 := by
  rw [h.length]
  have h1 : G.length ≤ (flat G).length := len_flat h.bks.ne
  have h2 : (flat G).length = es.length := by rw [h.perm.length_eq, List.length_map]
  have h3 : rsum (es.map Ent.rw) ≤ 1008 * (es.map Ent.rw).length := rsum_le _ fun r hr => by
    obtain ⟨e, he, rfl⟩ := List.mem_map.1 hr
    rw [ent_wid]
    exact hdg e he
  rw [List.length_map] at h3
  omega

theorem widS_len (es : List Ent) (n j : Nat) (hn : n ≤ 1000) (hj : j ≤ 100) : (rowsB (widS (es.take j) n)).length = (n + 8) * (widS (es.take j) n).length ∧ (rowsB (widS (es.take j) n)).length ≤ 100800 := by
  have h1 := rowsB_length (widS (es.take j) n) n (fun r hr => by
    obtain ⟨e, he, rfl⟩ := List.mem_map.1 hr
    have := (List.mem_filter.1 he).2
    rw [ent_wid]
    simpa using this)
  refine ⟨h1, ?_⟩
  rw [h1]
  have h2 : (widS (es.take j) n).length ≤ 100 := by
    unfold widS
    rw [List.length_map]
    refine Nat.le_trans (List.length_filter_le _ _) ?_
    rw [List.length_take]
    omega
  exact Nat.le_trans (Nat.mul_le_mul (show n + 8 ≤ 1008 by omega) h2) (by decide)
theorem widS_take (es : List Ent) (n j : Nat) (hj : j < es.length) : widS (es.take (j + 1)) n = widS (es.take j) n ++ if es[j].dg.size = n then [es[j].rw] else [] := by
  unfold widS
  rw [List.take_succ_eq_append_getElem hj, List.filter_append, List.map_append]
  congr 1
  by_cases h : es[j].dg.size = n
  · rw [if_pos h, List.filter_cons_of_pos (by simpa using h)]; rfl
  · rw [if_neg h, List.filter_cons_of_neg (by simpa using h)]; rfl
theorem widS_all (es : List Ent) (n j : Nat) (hj : es.length ≤ j) : widS (es.take j) n = widS es n := by rw [List.take_of_length_le hj]
theorem rowsB_snoc (l : List Rw) (r : Rw) : rowsB (l ++ [r]) = rowsB l ++ (r.d ++ Lib.leBytes 8 r.off) := by simp [rowsB, rowB]

/-- Ints in increasing order in a row (or none). -/
def IntsAt (w : World) (t : Nat → Value) (A : Option Addr) (b : Nat) (Ws : List Nat) : Prop := (0 < Ws.length → A = some ⟨b, 0, none⟩ ∧ b < w.heap.size) ∧ ∀ j (h : j < Ws.length), w.cell? ⟨b, j, none⟩ = some (t Ws[j])
theorem IntsAt.off {w w' : World} {t : Nat → Value} {A : Option Addr} {b : Nat} {Ws : List Nat} {S : List Nat} (h : IntsAt w t A b Ws) (ho : Off S w w') (hS : 0 < Ws.length → b ∉ S) : IntsAt w' t A b Ws :=
  ⟨fun h0 => ⟨(h.1 h0).1, Nat.lt_of_lt_of_le (h.1 h0).2 ho.size⟩, fun j hj => ho.cellE (h.2 j hj) (hS (by omega))⟩

theorem nodup_lenN : ∀ (a l : List Nat), a.Nodup → (∀ x, x ∈ a → x ∈ l) → a.length ≤ l.length
  | [], _, _, _ => Nat.zero_le _
  | x :: a, l, hn, h => by
    have hn' := List.nodup_cons.1 hn
    have hx := h x (List.mem_cons_self ..)
    have ih := nodup_lenN a (l.erase x) hn'.2 (fun y hy => (List.mem_erase_of_ne (fun e => by subst e; exact hn'.1 hy)).2 (h y (List.mem_cons_of_mem _ hy)))
    rw [List.length_erase_of_mem hx] at ih
    have := List.length_pos_of_mem hx
    simp only [List.length_cons]
    omega
theorem ints_at {zs : List Int} {Ws : List Nat} (hs : zs = ints Ws) (j : Nat) (hj : j < zs.length) (hj2 : j < Ws.length) : zs[j] = (Ws[j] : Int) := by
  subst hs
  simp [ints]
theorem asc_of_outs (outs : List Nat) (hnd : outs.Nodup) : ∃ Ws : List Nat, Ws.Pairwise (· < ·) ∧ (∀ k, k ∈ Ws ↔ k ∈ outs) ∧ srtI (ints outs) = ints Ws ∧ Ws.length = outs.length := by
  have hp : (srtI (ints outs)).Perm (ints outs) := List.mergeSort_perm _ _
  have hs : (srtI (ints outs)).Pairwise (fun x y : Int => decide (x ≤ y) = true) := List.pairwise_mergeSort (le := fun x y : Int => decide (x ≤ y)) (by intro a b c; simp; omega) (by intro a b; simp; omega) _
  have he : srtI (ints outs) = ints ((srtI (ints outs)).map Int.toNat) := by
    unfold ints
    rw [List.map_map]
    refine (List.map_id' _).symm.trans (List.map_congr_left fun x hx => ?_)
    obtain ⟨m, _, rfl⟩ := List.mem_map.1 (hp.mem_iff.1 hx)
    simp
  have hperm : ((srtI (ints outs)).map Int.toNat).Perm outs := by
    have h1 := hp.map Int.toNat
    have h2 : (ints outs).map Int.toNat = outs := by
      unfold ints
      rw [List.map_map]
      exact (List.map_congr_left fun x _ => by simp).trans (List.map_id' _)
    rw [h2] at h1
    exact h1
  refine ⟨(srtI (ints outs)).map Int.toNat, ?_, fun k => hperm.mem_iff, he, hperm.length_eq⟩
  have hn2 : ((srtI (ints outs)).map Int.toNat).Nodup := hperm.nodup_iff.2 hnd
  have hs2 : ((srtI (ints outs)).map Int.toNat).Pairwise (· ≤ ·) := by
    rw [List.pairwise_map]
    refine hs.imp fun {x y} h => ?_
    have h' : x ≤ y := by simpa using h
    omega
  exact (List.pairwise_and_iff.2 ⟨hs2, hn2⟩).imp fun {x y} h => by
    obtain ⟨h1, h2⟩ := h
    omega
theorem intsAt_of_srtI {w : World} {B : Nat} {v : Value} {outs : List Nat} (h : SrtRowI w B v outs) {Ws : List Nat} (hs : srtI (ints outs) = ints Ws) (hl : Ws.length = outs.length) :
    ∃ A b c, v = .slice A Ws.length c ∧ (0 < Ws.length → B ≤ b) ∧ IntsAt w (fun n => .int .i64 (n : Int)) A b Ws := by
  rcases h with ⟨rfl, rfl⟩ | ⟨b, c, rfl, hb, hB, hc⟩
  · have h0 : Ws = [] := List.eq_nil_of_length_eq_zero (by simpa using hl)
    subst h0
    exact ⟨none, 0, 0, rfl, fun h => by simp at h, fun h => by simp at h, fun j h => by simp at h⟩
  · refine ⟨some ⟨b, 0, none⟩, b, c, by rw [hl], fun _ => hB, fun _ => ⟨rfl, hb⟩, fun j hj => ?_⟩
    have hj' : j < (srtI (ints outs)).length := by rw [hs]; simpa [ints] using hj
    rw [hc j hj', ints_at hs j hj' hj]
theorem intsAt_of_srt {w : World} {v : Value} {outs : List Nat} (h : SrtRow w v outs) {Ws : List Nat} (hs : srtI (ints outs) = ints Ws) (hl : Ws.length = outs.length) :
    ∃ A b o c, v = .slice A Ws.length c ∧ (0 < Ws.length → A = some ⟨b, o, none⟩ ∧ b < w.heap.size) ∧ ∀ j (h : j < Ws.length), w.cell? ⟨b, o + j, none⟩ = some (.int .u64 (Ws[j] : Int)) := by
  rcases h with ⟨rfl, rfl⟩ | ⟨A, c, rfl, b, o, rfl, hb, hc⟩
  · have h0 : Ws = [] := List.eq_nil_of_length_eq_zero (by simpa using hl)
    subst h0
    exact ⟨none, 0, 0, 0, rfl, fun h => by simp at h, fun j h => by simp at h⟩
  · refine ⟨some ⟨b, o, none⟩, b, o, c, by rw [hl], fun _ => ⟨rfl, hb⟩, fun j hj => ?_⟩
    have hj' : j < (srtI (ints outs)).length := by rw [hs]; simpa [ints] using hj
    rw [hc j hj', ints_at hs j hj' hj]
end Go.Proofs.YtkdbjocchponfaaGreatDoor
namespace Go.Proofs.YtkdbjocchponfaaGreatDoor
open Go.RowKit Go.Sort Go.Lib

/-- The first n places from a on changed with those from b on: from the i-th. -/
def swapFrom {α : Type} [Inhabited α] (a b : Nat) : Nat → Nat → Array α → Array α
  | 0, _, d => d
  | n + 1, i, d => swapFrom a b n (i + 1) (swp d (a + i) (b + i))

section
variable {α : Type} [Inhabited α] {g gs : Nat} {lb sb : Array Value} {lt : α → α → Bool} {N B : Nat} {At : Array α → World → Prop}
set_option maxHeartbeats 2000000 in
set_option maxRecDepth 100000 in
theorem swapRangeF (S : SrtF g lb gs sb lt N B At) (a b n : Nat) (d : Array α) (w : World) (hA : At d w) (ha : a + n ≤ N) (hb : b + n ≤ N) (hN : N < 4611686018427387904) :
    Calls Tryz.prog 171 #[.agg #[.func (.func g) #[] lb, .func (.func gs) #[] sb], .int .i64 a, .int .i64 b, .int .i64 n] w fun e w' => e = .returned (.tuple #[]) ∧ At (swapFrom a b n 0 d) w' ∧ KeepG B w w' := by
  have hBw := S.room hA
  have hA0 : At d (w.alloc (.cells #[.func (.func g) #[] lb, .func (.func gs) #[] sb] 206)) := S.drew hA (Off.alloc (Off.refl [] w) _)
  have hbx := Blk.new w 206 #[.func (.func g) #[] lb, .func (.func gs) #[] sb]
  have HA0 := Lib.hid hA0
  have HBX := Lib.hid hbx
  clear hA hA0 hbx
  go_enter Tryz.func171, Tryz.ntmps171
  go_wp2
  go_loopg [8] n (fun kx s8 wr => ∃ (i : Nat) (dk : Array α), s8 = .int .i64 (i : Int) ∧ i ≤ n ∧ n - i ≤ kx ∧ At dk wr ∧ Hid (Blk wr w.heap.size 206 #[.func (.func g) #[] lb, .func (.func gs) #[] sb] ∧ KeepG B w wr) ∧ Hid (swapFrom a b (n - i) i dk = swapFrom a b n 0 d))
  case atStart => exact ⟨0, d, rfl, Nat.zero_le _, by omega, HA0.out, Lib.hid ⟨HBX.out, KeepG.ofOff (Off.alloc (Off.refl [] w) _)⟩, rfl⟩
  case round =>
    rename World => wr
    obtain ⟨i, dk, rfl, hin, hkx, hA, HB, HE⟩ := hrel
    by_cases hlt : i < n
    · have c1 : wr.cell? ⟨w.heap.size, 1, none⟩ = some (.func (.func gs) #[] sb) := HB.out.1.cell 1
      obtain ⟨w5, hs5, hA5, hK5⟩ := S.swap (a + i) (b + i) hA (by omega) (by omega)
      rw [show ((a + i : Nat) : Int) = (a : Int) + (i : Int) by omega, show ((b + i : Nat) : Int) = (b : Int) + (i : Int) by omega] at hs5
      have HB5 := Lib.hid (And.intro (hK5.blk HB.out.1 hBw) (HB.out.2.trans (KeepG.ofKeep hK5)))
      clear hK5 hA
      go_wp2
      go_roundg (n - (i + 1))
      case measure => omega
      case rel =>
        refine ⟨i + 1, swp dk (a + i) (b + i), rfl, by omega, by omega, hA5, HB5, ?_⟩
        show _ = _
        rw [← HE.out, show n - i = (n - (i + 1)) + 1 by omega]
        rfl
    · obtain rfl : n = i := by omega
      go_wp2
      go_end0
      refine ⟨rfl, ?_, HB.out.2⟩
      have h := HE.out
      rw [Nat.sub_self] at h
      rw [← h]
      exact hA
end
end Go.Proofs.YtkdbjocchponfaaGreatDoor
namespace Go.Proofs.YtkdbjocchponfaaGreatDoor
open Go.RowKit Go.Sort Go.Lib

/-- Blocks of i places ahead of m and of j from m on change places. -/
def rotG {α : Type} [Inhabited α] (m : Nat) : Nat → Nat → Nat → Array α → Array α
  | 0, _, _, d => d
  | f + 1, i, j, d => if i = j then swapFrom (m - i) m i 0 d else if j < i then rotG m f (i - j) j (swapFrom (m - i) m j 0 d) else rotG m f i (j - i) (swapFrom (m - i) (m + j - i) i 0 d)

section
variable {α : Type} [Inhabited α] {g gs : Nat} {lb sb : Array Value} {lt : α → α → Bool} {N B : Nat} {At : Array α → World → Prop}
set_option maxHeartbeats 2000000 in
set_option maxRecDepth 100000 in
theorem rotateF (S : SrtF g lb gs sb lt N B At) (a m b : Nat) (d : Array α) (w : World) (hA : At d w) (ham : a < m) (hmb : m < b) (hb : b ≤ N) (hN : N < 4611686018427387904) :
    Calls Tryz.prog 154 #[.agg #[.func (.func g) #[] lb, .func (.func gs) #[] sb], .int .i64 a, .int .i64 m, .int .i64 b] w fun e w' => e = .returned (.tuple #[]) ∧ At (rotG m (b - a) (m - a) (b - m) d) w' ∧ KeepG B w w' := by
  have hBw := S.room hA
  have hA0 : At d (w.alloc (.cells #[.func (.func g) #[] lb, .func (.func gs) #[] sb] 206)) := S.drew hA (Off.alloc (Off.refl [] w) _)
  have hbx := Blk.new w 206 #[.func (.func g) #[] lb, .func (.func gs) #[] sb]
  have HA0 := Lib.hid hA0
  have HBX := Lib.hid hbx
  clear hA hA0 hbx
  go_enter Tryz.func154, Tryz.ntmps154
  go_wp2
  go_loopg [8, 9] (b - a) (fun kx s8 s9 wr => ∃ (i j f : Nat) (dk : Array α), s8 = .int .i64 (i : Int) ∧ s9 = .int .i64 (j : Int) ∧ 0 < i ∧ 0 < j ∧ i ≤ m - a ∧ j ≤ b - m ∧ i + j ≤ kx ∧ i + j ≤ f ∧ At dk wr ∧ Hid (Blk wr w.heap.size 206 #[.func (.func g) #[] lb, .func (.func gs) #[] sb] ∧ KeepG B w wr) ∧ Hid (rotG m f i j dk = rotG m (b - a) (m - a) (b - m) d))
  case atStart => exact ⟨m - a, b - m, b - a, d, by go_num, by go_num, by omega, by omega, by omega, by omega, by omega, by omega, HA0.out, Lib.hid ⟨HBX.out, KeepG.ofOff (Off.alloc (Off.refl [] w) _)⟩, rfl⟩
  case round =>
    rename World => wr
    obtain ⟨i, j, f, dk, rfl, rfl, hi0, hj0, him, hjb, hkx, hf, hA, HB, HE⟩ := hrel
    obtain ⟨f, rfl⟩ : ∃ f', f = f' + 1 := ⟨f - 1, by omega⟩
    have c0 : wr.cell? ⟨w.heap.size, 0, none⟩ = some (.func (.func g) #[] lb) := HB.out.1.cell 0
    have c1 : wr.cell? ⟨w.heap.size, 1, none⟩ = some (.func (.func gs) #[] sb) := HB.out.1.cell 1
    by_cases hij : i = j
    · have hr := swapRangeF S (m - i) m i dk wr hA (by omega) (by omega) hN
      rw [show ((m - i : Nat) : Int) = (m : Int) - (i : Int) by omega] at hr
      have HR := Lib.hid hr
      have HIJ := Lib.hid hij
      clear hr hA
      subst hij
      go_wp2_with (go_at_call 171; refine HR.out.mono ?_; rintro r w5 ⟨rfl, hA5, hK5⟩; have HA5 := Lib.hid hA5; have HK5 := Lib.hid hK5; clear hA5 hK5)
      go_end0
      refine ⟨rfl, ?_, HB.out.2.trans HK5.out⟩
      have h := HE.out
      rw [rotG, if_pos rfl] at h
      rw [← h]
      exact HA5.out
    · by_cases hlt : j < i
      · have hr := swapRangeF S (m - i) m j dk wr hA (by omega) (by omega) hN
        rw [show ((m - i : Nat) : Int) = (m : Int) - (i : Int) by omega] at hr
        have HR := Lib.hid hr
        clear hr hA
        go_wp2_with (go_at_call 171; refine HR.out.mono ?_; rintro r w5 ⟨rfl, hA5, hK5⟩; have HA5 := Lib.hid hA5; have HK5 := Lib.hid hK5; clear hA5 hK5)
        go_roundg i
        case measure => omega
        case rel =>
          refine ⟨i - j, j, f, swapFrom (m - i) m j 0 dk, by go_num, rfl, by omega, by omega, by omega, by omega, by omega, by omega, HA5.out, Lib.hid ⟨HK5.out.blk HB.out.1 hBw, HB.out.2.trans HK5.out⟩, ?_⟩
          show _ = _
          rw [← HE.out, rotG, if_neg hij, if_pos hlt]
      · have hr := swapRangeF S (m - i) (m + j - i) i dk wr hA (by omega) (by omega) hN
        rw [show ((m - i : Nat) : Int) = (m : Int) - (i : Int) by omega, show ((m + j - i : Nat) : Int) = (m : Int) + (j : Int) - (i : Int) by omega] at hr
        have HR := Lib.hid hr
        clear hr hA
        go_wp2_with (go_at_call 171; refine HR.out.mono ?_; rintro r w5 ⟨rfl, hA5, hK5⟩; have HA5 := Lib.hid hA5; have HK5 := Lib.hid hK5; clear hA5 hK5)
        go_roundg j
        case measure => omega
        case rel =>
          refine ⟨i, j - i, f, swapFrom (m - i) (m + j - i) i 0 dk, rfl, by go_num, by omega, by omega, by omega, by omega, by omega, by omega, HA5.out, Lib.hid ⟨HK5.out.blk HB.out.1 hBw, HB.out.2.trans HK5.out⟩, ?_⟩
          show _ = _
          rw [← HE.out, rotG, if_neg hij, if_neg hlt]
end
end Go.Proofs.YtkdbjocchponfaaGreatDoor
namespace Go.Proofs.YtkdbjocchponfaaGreatDoor
open Go.Sort

variable {α : Type} [Inhabited α]
theorem swapFrom_size (a b : Nat) : ∀ (n i : Nat) (d : Array α), (swapFrom a b n i d).size = d.size
  | 0, _, _ => rfl
  | n + 1, i, d => by rw [swapFrom, swapFrom_size a b n, swp_size]
theorem swapFrom_get (a b : Nat) : ∀ (n i : Nat) (d : Array α), a + i + n ≤ b + i → b + i + n ≤ d.size → ∀ k, (swapFrom a b n i d)[k]! = if a + i ≤ k ∧ k < a + i + n then d[k + b - a]! else if b + i ≤ k ∧ k < b + i + n then d[k + a - b]! else d[k]!
  | 0, i, d, _, _, k => by
    rw [swapFrom, if_neg (by omega), if_neg (by omega)]
  | n + 1, i, d, h1, h2, k => by
    have hs := swp_size d (a + i) (b + i)
    rw [swapFrom, swapFrom_get a b n (i + 1) _ (by omega) (by rw [hs]; omega) k]
    have hg := fun k => swp_get d (i := a + i) (j := b + i) (by omega) (by omega) k
    by_cases c1 : a + i ≤ k ∧ k < a + i + (n + 1)
    · rw [if_pos c1]
      by_cases e1 : k = a + i
      · subst e1
        rw [if_neg (by omega), if_neg (by omega), hg, if_neg (by omega), if_pos rfl]
        congr 1; omega
      · rw [if_pos (by omega), hg, if_neg (by omega), if_neg (by omega)]
    · rw [if_neg c1, if_neg (by omega)]
      by_cases c2 : b + i ≤ k ∧ k < b + i + (n + 1)
      · rw [if_pos c2]
        by_cases e2 : k = b + i
        · subst e2
          rw [if_neg (by omega), hg, if_pos rfl]
          congr 1; omega
        · rw [if_pos (by omega), hg, if_neg (by omega), if_neg (by omega)]
      · rw [if_neg c2, if_neg (by omega), hg, if_neg (by omega), if_neg (by omega)]
/-- The i places ahead of m and the j from m on have changed places. -/
theorem rotG_get (m : Nat) : ∀ (f i j : Nat) (d : Array α), 0 < i → 0 < j → i + j ≤ f → i ≤ m → m + j ≤ d.size → ∀ k, (rotG m f i j d)[k]! = if m - i ≤ k ∧ k < m - i + j then d[k + i]! else if m - i + j ≤ k ∧ k < m + j then d[k - j]! else d[k]!
  | 0, i, j, d, hi, hj, hf, _, _, k => by omega
  | f + 1, i, j, d, hi, hj, hf, him, hmj, k => by
    rw [rotG]
    by_cases hij : i = j
    · subst hij
      rw [if_pos rfl, swapFrom_get _ _ _ _ _ (by omega) (by omega)]
      by_cases c1 : m - i ≤ k ∧ k < m - i + i
      · rw [if_pos (by omega), if_pos c1]; congr 1; omega
      · rw [if_neg (by omega), if_neg c1]
        by_cases c2 : m - i + i ≤ k ∧ k < m + i
        · rw [if_pos (by omega), if_pos c2]; congr 1; omega
        · rw [if_neg (by omega), if_neg c2]
    · rw [if_neg hij]
      by_cases hlt : j < i
      · rw [if_pos hlt, rotG_get m f (i - j) j _ (by omega) hj (by omega) (by omega) (by rw [swapFrom_size]; omega)]
        have hg := fun q => swapFrom_get (m - i) m j 0 d (by omega) (by omega) q
        simp only [hg]
        repeat' split
        all_goals first | (exfalso; omega) | rfl | (congr 1; omega)
      · rw [if_neg hlt, rotG_get m f i (j - i) _ hi (by omega) (by omega) him (by rw [swapFrom_size]; omega)]
        have hg := fun q => swapFrom_get (m - i) (m + j - i) i 0 d (by omega) (by omega) q
        simp only [hg]
        repeat' split
        all_goals first | (exfalso; omega) | rfl | (congr 1; omega)

theorem swapFrom_perm (lo hi a b : Nat) : ∀ (n i : Nat) (d : Array α), lo ≤ a + i → lo ≤ b + i → a + i + n ≤ hi → b + i + n ≤ hi → hi ≤ d.size → PermIn lo hi d (swapFrom a b n i d)
  | 0, _, d, _, _, _, _, _ => permIn_refl _ _ _
  | n + 1, i, d, h1, h2, h3, h4, h5 => by
    rw [swapFrom]
    have hs : PermIn lo hi d (swp d (a + i) (b + i)) := swp_permIn d lo hi (a + i) (b + i) (by omega) (by omega) (by omega) (by omega) h5
    exact permIn_trans _ _ _ _ _ hs (swapFrom_perm lo hi a b n (i + 1) _ (by omega) (by omega) (by omega) (by omega) (by rw [swp_size]; exact h5))
theorem rotG_perm (lo hi m : Nat) : ∀ (f i j : Nat) (d : Array α), lo + i ≤ m → m + j ≤ hi → hi ≤ d.size → PermIn lo hi d (rotG m f i j d)
  | 0, _, _, _, _, _, _ => permIn_refl _ _ _
  | f + 1, i, j, d, h1, h2, h3 => by
    rw [rotG]
    by_cases hij : i = j
    · subst hij
      rw [if_pos rfl]
      exact swapFrom_perm lo hi _ _ _ _ _ (by omega) (by omega) (by omega) (by omega) h3
    · rw [if_neg hij]
      by_cases hlt : j < i
      · rw [if_pos hlt]
        exact permIn_trans _ _ _ _ _ (swapFrom_perm lo hi (m - i) m j 0 d (by omega) (by omega) (by omega) (by omega) h3) (rotG_perm lo hi m f (i - j) j _ (by omega) h2 (by rw [swapFrom_size]; exact h3))
      · rw [if_neg hlt]
        exact permIn_trans _ _ _ _ _ (swapFrom_perm lo hi (m - i) (m + j - i) i 0 d (by omega) (by omega) (by omega) (by omega) h3) (rotG_perm lo hi m f i (j - i) _ h1 (by omega) (by rw [swapFrom_size]; exact h3))
end Go.Proofs.YtkdbjocchponfaaGreatDoor
namespace Go.Proofs.YtkdbjocchponfaaGreatDoor
open Go.Sort

variable {α : Type} [Inhabited α] {lt : α → α → Bool}
omit [Inhabited α] in
theorem SWO.asymm (hS : SWO lt) {x y : α} (h : lt x y = true) : lt y x = false := by
  cases hc : lt y x with
  | false => rfl
  | true => have := hS.trans x y x h hc; rw [hS.irrefl] at this; cases this
theorem srt_le (hS : SWO lt) {a b : Nat} {d : Array α} (h : SortedIn lt a b d) {i j : Nat} (hi : a ≤ i) (hij : i ≤ j) (hj : j < b) : lt d[j]! d[i]! = false := by
  rcases Nat.eq_or_lt_of_le hij with rfl | hlt
  · exact hS.irrefl _
  · exact h i j hi hlt hj

/-- Behind the rotation: four sorted runs; nothing from mid on is less than what stands ahead of it. -/
theorem merge_step (hS : SWO lt) (a m b s e mid : Nat) (d d1 : Array α) (has : a ≤ s) (hsm : s ≤ m) (hme : m ≤ e) (heb : e ≤ b) (hsd : s ≤ mid) (_hde : mid ≤ e) (he : e + s = mid + m) (h1 : SortedIn lt a m d) (h2 : SortedIn lt m b d)
    (hlow : s = a ∨ e = b ∨ lt d[e]! d[s - 1]! = false) (hhigh : s = m ∨ e = m ∨ lt d[e - 1]! d[s]! = true)
    (hd1 : ∀ k, d1[k]! = if s ≤ k ∧ k < mid then d[k + (m - s)]! else if mid ≤ k ∧ k < e then d[k - (e - m)]! else d[k]!) :
    SortedIn lt a s d1 ∧ SortedIn lt s mid d1 ∧ SortedIn lt mid e d1 ∧ SortedIn lt e b d1 ∧ ∀ x y, a ≤ x → x < mid → mid ≤ y → y < b → lt d1[y]! d1[x]! = false := by
  have t1 : ∀ k, k < s → d1[k]! = d[k]! := fun k hk => by rw [hd1, if_neg (by omega), if_neg (by omega)]
  have t2 : ∀ k, s ≤ k → k < mid → d1[k]! = d[k + (m - s)]! := fun k h h' => by rw [hd1, if_pos ⟨h, h'⟩]
  have t3 : ∀ k, mid ≤ k → k < e → d1[k]! = d[k - (e - m)]! := fun k h h' => by rw [hd1, if_neg (by omega), if_pos ⟨h, h'⟩]
  have t4 : ∀ k, e ≤ k → d1[k]! = d[k]! := fun k h => by rw [hd1, if_neg (by omega), if_neg (by omega)]
  refine ⟨fun i j hi hij hj => ?_, fun i j hi hij hj => ?_, fun i j hi hij hj => ?_, fun i j hi hij hj => ?_, fun x y hx hxm hy hyb => ?_⟩
  · rw [t1 i (by omega), t1 j (by omega)]; exact h1 i j hi hij (by omega)
  · rw [t2 i hi (by omega), t2 j (by omega) hj]; exact h2 _ _ (by omega) (by omega) (by omega)
  · rw [t3 i hi (by omega), t3 j (by omega) hj]; exact h1 _ _ (by omega) (by omega) (by omega)
  · rw [t4 i hi, t4 j (by omega)]; exact h2 i j (by omega) hij hj
  · by_cases hxs : x < s
    · rw [t1 x hxs]
      by_cases hye : y < e
      · rw [t3 y hy hye]
        exact srt_le hS h1 hx (by omega) (by omega)
      · rw [t4 y (by omega)]
        rcases hlow with h | h | h
        · omega
        · omega
        · exact hS.ntrans _ _ _ (hS.ntrans _ _ _ (srt_le hS h2 (i := e) (by omega) (by omega) hyb) h) (srt_le hS h1 hx (by omega) (by omega))
    · rw [t2 x (by omega) hxm]
      by_cases hye : y < e
      · rw [t3 y hy hye]
        rcases hhigh with h | h | h
        · omega
        · omega
        · exact hS.ntrans _ _ _ (hS.ntrans _ _ _ (srt_le hS h1 (i := s) has (by omega) (by omega)) (SWO.asymm hS h)) (srt_le hS h2 (by omega) (j := e - 1) (by omega) (by omega))
      · rw [t4 y (by omega)]
        exact srt_le hS h2 (by omega) (by omega) hyb
end Go.Proofs.YtkdbjocchponfaaGreatDoor
namespace Go.Proofs.YtkdbjocchponfaaGreatDoor
open Go.Sort

variable {α : Type} [Inhabited α] {lt : α → α → Bool}
theorem merge_join (a mid b : Nat) (d1 d2 d3 : Array α) (ham : a ≤ mid) (hmb : mid ≤ b) (hb : b ≤ d1.size) (hx : ∀ x y, a ≤ x → x < mid → mid ≤ y → y < b → lt d1[y]! d1[x]! = false)
    (p1 : PermIn a mid d1 d2) (s1 : SortedIn lt a mid d2) (p2 : PermIn mid b d2 d3) (s2 : SortedIn lt mid b d3) : SortedIn lt a b d3 ∧ PermIn a b d1 d3 := by
  have hs2 : d2.size = d1.size := p1.1
  refine ⟨fun i j hi hij hj => ?_, permIn_trans _ _ _ _ _ (permIn_mono _ _ _ _ _ _ (Nat.le_refl _) hmb hb p1) (permIn_mono _ _ _ _ _ _ ham (Nat.le_refl _) (by omega) p2)⟩
  by_cases hjm : j < mid
  · rw [p2.2.1 i (by omega), p2.2.1 j (by omega)]
    exact s1 i j hi hij hjm
  · by_cases him : mid ≤ i
    · exact s2 i j him hij hj
    · rw [p2.2.1 i (by omega)]
      have h1 : ∀ y, mid ≤ y → y < b → lt d2[y]! d2[i]! = false := fun y hy hyb => by
        rw [p1.2.1 y (by omega)]
        exact permIn_all d1 d2 a mid (fun v => lt d1[y]! v = false) (by omega) p1 (fun x hx1 hx2 => hx x y hx1 hx2 hy hyb) i hi (by omega)
      exact permIn_all d2 d3 mid b (fun v => lt v d2[i]! = false) (by omega) p2 h1 j (by omega) hj

/-- The first of a run goes behind those that are less. -/
theorem ins_up (hS : SWO lt) (a b i : Nat) (d d' : Array α) (hai : a < i) (hib : i ≤ b) (h2 : SortedIn lt (a + 1) b d) (hlo : i = a + 1 ∨ lt d[i - 1]! d[a]! = true) (hhi : i = b ∨ lt d[i]! d[a]! = false)
    (hd : ∀ x, d'[x]! = if a ≤ x ∧ x < i - 1 then d[x + 1]! else if x = i - 1 then d[a]! else d[x]!) : SortedIn lt a b d' := by
  intro p q hp hpq hq
  have e1 : ∀ x, a ≤ x → x < i - 1 → d'[x]! = d[x + 1]! := fun x h h' => by rw [hd, if_pos ⟨h, h'⟩]
  have e2 : d'[i - 1]! = d[a]! := by rw [hd, if_neg (by omega), if_pos rfl]
  have e3 : ∀ x, i ≤ x → d'[x]! = d[x]! := fun x h => by rw [hd, if_neg (by omega), if_neg (by omega)]
  by_cases c1 : q < i - 1
  · rw [e1 p hp (by omega), e1 q (by omega) c1]
    exact h2 _ _ (by omega) (by omega) (by omega)
  · by_cases c2 : q = i - 1
    · subst c2
      rw [e1 p hp hpq, e2]
      rcases hlo with h | h
      · omega
      · exact hS.ntrans _ _ _ (SWO.asymm hS h) (srt_le hS h2 (by omega) (by omega) (by omega))
    · rw [e3 q (by omega)]
      by_cases c3 : p < i - 1
      · rw [e1 p hp c3]
        exact h2 _ _ (by omega) (by omega) (by omega)
      · by_cases c4 : p = i - 1
        · subst c4
          rw [e2]
          rcases hhi with h | h
          · omega
          · exact hS.ntrans _ _ _ (srt_le hS h2 (i := i) (by omega) (by omega) hq) h
        · rw [e3 p (by omega)]
          exact h2 _ _ (by omega) hpq hq

/-- The one behind a run goes ahead of those that are greater. -/
theorem ins_down (hS : SWO lt) (a m i : Nat) (d d' : Array α) (hai : a ≤ i) (him : i ≤ m) (h1 : SortedIn lt a m d) (hlo : i = a ∨ lt d[m]! d[i - 1]! = false) (hhi : i = m ∨ lt d[m]! d[i]! = true)
    (hd : ∀ x, d'[x]! = if i < x ∧ x ≤ m then d[x - 1]! else if x = i then d[m]! else d[x]!) : SortedIn lt a (m + 1) d' := by
  intro p q hp hpq hq
  have e1 : ∀ x, i < x → x ≤ m → d'[x]! = d[x - 1]! := fun x h h' => by rw [hd, if_pos ⟨h, h'⟩]
  have e2 : d'[i]! = d[m]! := by rw [hd, if_neg (by omega), if_pos rfl]
  have e3 : ∀ x, x < i → d'[x]! = d[x]! := fun x h => by rw [hd, if_neg (by omega), if_neg (by omega)]
  by_cases c1 : i < p
  · rw [e1 p c1 (by omega), e1 q (by omega) (by omega)]
    exact h1 _ _ (by omega) (by omega) (by omega)
  · by_cases c2 : p = i
    · subst c2
      rw [e1 q hpq (by omega), e2]
      rcases hhi with h | h
      · omega
      · exact hS.ntrans _ _ _ (srt_le hS h1 (i := p) (by omega) (by omega) (by omega)) (SWO.asymm hS h)
    · rw [e3 p (by omega)]
      by_cases c3 : i < q
      · rw [e1 q c3 (by omega)]
        exact h1 _ _ (by omega) (by omega) (by omega)
      · by_cases c4 : q = i
        · subst c4
          rw [e2]
          rcases hlo with h | h
          · omega
          · exact hS.ntrans _ _ _ h (srt_le hS h1 (by omega) (by omega) (by omega))
        · rw [e3 q (by omega)]
          exact h1 _ _ hp hpq (by omega)
end Go.Proofs.YtkdbjocchponfaaGreatDoor
