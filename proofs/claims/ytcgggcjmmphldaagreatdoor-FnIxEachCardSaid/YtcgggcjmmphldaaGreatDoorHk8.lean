/-
  spec.Varint at the index codes.
  Rows of sorted entries by width, in plain words; a row of ints in increasing order.
  (No condition beyond those that each theorem states.)
-/
import Derived.Test.YtcgggcjmmphldaaGreatDoorHk1
import Derived.Lib.Varint
import Derived.Test.YtcgggcjmmphldaaGreatDoorHk5
import Derived.Test.YtcgggcjmmphldaaGreatDoorHa7
import Derived.Test.YtcgggcjmmphldaaGreatDoorHk7
namespace Go.Proofs.YtcgggcjmmphldaaGreatDoor
open Go.RowKit
theorem Row8.base {w : World} {B : Nat} {v : Value} {l : List UInt8} (h : Row8 w B v l) : ∀ x, x ∈ ob v → B ≤ x := fun x hx => by
  rcases id h.2 with ⟨rfl, _⟩ | ⟨g, cap, cur, rfl, hg, hgg, rest⟩
  · simp [ob, Value.ownBlock] at hx
  · simp [ob, Value.ownBlock] at hx
    omega

set_option maxRecDepth 100000 in
set_option maxHeartbeats 2000000 in
theorem varint_1024 (w : World) :
    Calls Tryz.prog 27 #[.int .u64 1024] w fun r w' => ∃ v', r = .returned v' ∧ Row8 w' w.heap.size v' (Lib.uvarint 1024) ∧ Off [] w w' := by
  obtain ⟨i0, hi, hz0, hz1, hz2⟩ := info_parts Tryz.infoByte
  have hu : Lib.uvarint 1024 = [128, 8] := by rw [Lib.uvarint_big (by omega), Lib.uvarint_small (by omega)]; rfl
  rw [hu]
  obtain ⟨B, hB⟩ : ∃ B, B = w.heap.size := ⟨_, rfl⟩
  rw [← hB]
  have HB := Lib.hid hB
  have hbt : bits BinOp.or IntKind.u8 0 128 = 128 := by kernel_rfl
  clear hu hB
  go_enter Tryz.func27, Tryz.ntmps27
  go_wp2_with fail
  go_loopg [0, 3] 2 (fun kx s0 s3 wr => (s0 = .int .u64 1024 ∧ s3 = .slice none 0 0 ∧ kx = 2 ∧ Hid (wr = w)) ∨ (s0 = .int .u64 8 ∧ kx = 1 ∧ Hid (Row8 wr B s3 [128] ∧ Off [] w wr)))
  case atStart => exact Or.inl ⟨rfl, rfl, rfl, Lib.hid rfl⟩
  case round =>
    rename World => wr
    rcases hrel with ⟨rfl, rfl, rfl, hwr⟩ | ⟨rfl, rfl, hh⟩
    · go_wp2_with (first
        | (at_builtin
           refine wpList_append_own_at _ rfl _ _ 46 rfl B 5 i0 _ 1 1 Tryz.underlying46 hi hz0 hz1 hz2 rfl (by decide) (.slice none 0 0) 0 [] rfl (World.ownsRow_nil _ _ _ _) ⟨wr.heap.size, 0, none⟩ 1 1 [.int .u8 128] rfl rfl (new_one wr _ _) (fun u hu => by simp at hu; subst hu; rfl) (by unfold maxLen; omega) (by omega) (by have h1 := HB.out; have h2 := hwr.out; subst h2; simp; omega) ?_
           intro v5 w5 hown5 hgr hnil hat
           have HO5 := Lib.hid hown5
           have HG5 := Lib.hid hgr
           clear hown5 hgr hnil hat))
      go_roundg 1
      case measure => omega
      case rel =>
        have hw := hwr.out
        subst hw
        refine Or.inr ⟨rfl, rfl, Lib.hid ⟨?_, (Off.alloc (Off.refl [] wr) _).then (off_grown_own (S := []) HG5.out (fun g hg => by simp [Value.ownBlock] at hg)) (fun x hx => by simp at hx)⟩⟩
        exact HO5.out
    · obtain ⟨h1, h2⟩ := hh.out
      have hb2 := h2.size
      have HBW := Lib.hid (show B ≤ wr.heap.size by have := HB.out; omega)
      have hown := h1.off (S := []) (Off.alloc (Off.refl [] wr) (.cells #[.int .u8 8] 5)) (fun x _ => by simp)
      have H1 := Lib.hid hown
      have H2 := Lib.hid h2
      have HBS := Lib.hid h1.base
      clear h1 h2 hh hown hb2
      go_wp2_with (first
        | (at_builtin
           refine wpList_append_own_at _ rfl _ _ 46 rfl B 5 i0 _ 1 1 Tryz.underlying46 hi hz0 hz1 hz2 rfl (by decide) u3 1 (Lib.byteCells [128]) rfl H1.out ⟨wr.heap.size, 0, none⟩ 1 1 [.int .u8 8] rfl rfl (new_one wr _ _) (fun u hu => by simp at hu; subst hu; rfl) (by unfold maxLen; omega) (by omega) (by have := HBW.out; simp; omega) ?_
           intro v5 w5 hown5 hgr hnil hat
           have HO5 := Lib.hid hown5
           have HG5 := Lib.hid hgr
           clear hown5 hgr hnil hat))
      go_ret
      refine ⟨v5, rfl, HO5.out, ?_⟩
      exact H2.out.then ((Off.alloc (Off.refl (ob u3) wr) _).then (off_grown_own (S := ob u3) HG5.out (fun g hg => by simp [ob, hg])) (fun x hx => Or.inl hx)) (fun x hx => Or.inr (by have := HBS.out x hx; rw [← HB.out]; exact this))

set_option maxRecDepth 100000 in
set_option maxHeartbeats 2000000 in
theorem varint_1025 (w : World) :
    Calls Tryz.prog 27 #[.int .u64 1025] w fun r w' => ∃ v', r = .returned v' ∧ Row8 w' w.heap.size v' (Lib.uvarint 1025) ∧ Off [] w w' := by
  obtain ⟨i0, hi, hz0, hz1, hz2⟩ := info_parts Tryz.infoByte
  have hu : Lib.uvarint 1025 = [129, 8] := by rw [Lib.uvarint_big (by omega), Lib.uvarint_small (by omega)]; rfl
  rw [hu]
  obtain ⟨B, hB⟩ : ∃ B, B = w.heap.size := ⟨_, rfl⟩
  rw [← hB]
  have HB := Lib.hid hB
  have hbt : bits BinOp.or IntKind.u8 1 128 = 129 := by kernel_rfl
  clear hu hB
  go_enter Tryz.func27, Tryz.ntmps27
  go_wp2_with fail
  go_loopg [0, 3] 2 (fun kx s0 s3 wr => (s0 = .int .u64 1025 ∧ s3 = .slice none 0 0 ∧ kx = 2 ∧ Hid (wr = w)) ∨ (s0 = .int .u64 8 ∧ kx = 1 ∧ Hid (Row8 wr B s3 [129] ∧ Off [] w wr)))
  case atStart => exact Or.inl ⟨rfl, rfl, rfl, Lib.hid rfl⟩
  case round =>
    rename World => wr
    rcases hrel with ⟨rfl, rfl, rfl, hwr⟩ | ⟨rfl, rfl, hh⟩
    · go_wp2_with (first
        | (at_builtin
           refine wpList_append_own_at _ rfl _ _ 46 rfl B 5 i0 _ 1 1 Tryz.underlying46 hi hz0 hz1 hz2 rfl (by decide) (.slice none 0 0) 0 [] rfl (World.ownsRow_nil _ _ _ _) ⟨wr.heap.size, 0, none⟩ 1 1 [.int .u8 129] rfl rfl (new_one wr _ _) (fun u hu => by simp at hu; subst hu; rfl) (by unfold maxLen; omega) (by omega) (by have h1 := HB.out; have h2 := hwr.out; subst h2; simp; omega) ?_
           intro v5 w5 hown5 hgr hnil hat
           have HO5 := Lib.hid hown5
           have HG5 := Lib.hid hgr
           clear hown5 hgr hnil hat))
      go_roundg 1
      case measure => omega
      case rel =>
        have hw := hwr.out
        subst hw
        refine Or.inr ⟨rfl, rfl, Lib.hid ⟨?_, (Off.alloc (Off.refl [] wr) _).then (off_grown_own (S := []) HG5.out (fun g hg => by simp [Value.ownBlock] at hg)) (fun x hx => by simp at hx)⟩⟩
        exact HO5.out
    · obtain ⟨h1, h2⟩ := hh.out
      have hb2 := h2.size
      have HBW := Lib.hid (show B ≤ wr.heap.size by have := HB.out; omega)
      have hown := h1.off (S := []) (Off.alloc (Off.refl [] wr) (.cells #[.int .u8 8] 5)) (fun x _ => by simp)
      have H1 := Lib.hid hown
      have H2 := Lib.hid h2
      have HBS := Lib.hid h1.base
      clear h1 h2 hh hown hb2
      go_wp2_with (first
        | (at_builtin
           refine wpList_append_own_at _ rfl _ _ 46 rfl B 5 i0 _ 1 1 Tryz.underlying46 hi hz0 hz1 hz2 rfl (by decide) u3 1 (Lib.byteCells [129]) rfl H1.out ⟨wr.heap.size, 0, none⟩ 1 1 [.int .u8 8] rfl rfl (new_one wr _ _) (fun u hu => by simp at hu; subst hu; rfl) (by unfold maxLen; omega) (by omega) (by have := HBW.out; simp; omega) ?_
           intro v5 w5 hown5 hgr hnil hat
           have HO5 := Lib.hid hown5
           have HG5 := Lib.hid hgr
           clear hown5 hgr hnil hat))
      go_ret
      refine ⟨v5, rfl, HO5.out, ?_⟩
      exact H2.out.then ((Off.alloc (Off.refl (ob u3) wr) _).then (off_grown_own (S := ob u3) HG5.out (fun g hg => by simp [ob, hg])) (fun x hx => Or.inl hx)) (fun x hx => Or.inr (by have := HBS.out x hx; rw [← HB.out]; exact this))
end Go.Proofs.YtcgggcjmmphldaaGreatDoor
namespace Go.Proofs.YtcgggcjmmphldaaGreatDoor
open Go.RowKit Go.Sort

/-- The entry as a row of an index. -/
def Ent.rw (e : Ent) : Rw := ⟨e.dg.data.toList, e.off⟩
theorem ent_wid (e : Ent) : e.rw.d.length = e.dg.size := by
  show e.dg.data.toList.length = e.dg.size
  rw [Array.length_toList]; rfl
/-- The rows of one width, in the sorted entries' order. -/
def widS (es : List Ent) (n : Nat) : List Rw := (es.filter fun e => e.dg.size == n).map Ent.rw
def grpG (es : List Ent) (n : Nat) : Nat × List Rw := (n, widS es n)

theorem srtd_ents {es : List Ent} (hs : es.Pairwise (fun a b => lessE b a = false)) : Srtd (es.map Ent.rw) := by
  unfold Srtd
  rw [List.pairwise_map]
  refine hs.imp fun {a b} h => ?_
  rw [lessE_f] at h
  exact fun k => h (Or.inl k)

theorem grp_sorted (es es' : List Ent) (Ws : List Nat) (hp : es'.Perm es) (hs : es'.Pairwise (fun a b => lessE b a = false)) (hasc : Ws.Pairwise (· < ·)) (hW : ∀ k, k ∈ Ws ↔ ∃ e, e ∈ es ∧ e.dg.size = k) : Grp (es.map Ent.rw) (Ws.map (grpG es')) := by
  refine grp_made (es.map Ent.rw) Ws (widS es') hasc (fun n => ?_) (fun n _ => ?_) (fun n _ => ?_)
  · rw [hW]
    constructor
    · rintro ⟨e, he, rfl⟩
      exact ⟨e.rw, List.mem_map.2 ⟨e, he, rfl⟩, ent_wid e⟩
    · rintro ⟨r, hr, rfl⟩
      obtain ⟨e, he, rfl⟩ := List.mem_map.1 hr
      exact ⟨e, he, (ent_wid e).symm⟩
  · have e1 : ((es.map Ent.rw).filter fun r => r.d.length == n) = (es.filter fun e => e.dg.size == n).map Ent.rw := by
      rw [List.filter_map]
      congr 1
    rw [e1]
    exact (hp.filter _).map _
  · exact srtd_ents (hs.filter _)

theorem grp_len {es : List Ent} {G : List (Nat × List Rw)} (h : Grp (es.map Ent.rw) G) (hn : es.length ≤ 100) (hdg : ∀ e, e ∈ es → e.dg.size ≤ 1000) : (mwB G).length ≤ 102004 := by
  rw [h.length]
  have h1 : G.length ≤ (flat G).length := len_flat h.bks.ne
  have h2 : (flat G).length = es.length := by rw [h.perm.length_eq, List.length_map]
  have h3 : rsum (es.map Ent.rw) ≤ 1008 * (es.map Ent.rw).length := rsum_le _ fun r hr => by
    obtain ⟨e, he, rfl⟩ := List.mem_map.1 hr
    rw [ent_wid]
    exact hdg e he
  rw [List.length_map] at h3
  omega

theorem widS_len (es : List Ent) (n j : Nat) (hn : n ≤ 1000) (hj : j ≤ 100) : (rowsB (widS (es.take j) n)).length = (n + 8) * (widS (es.take j) n).length ∧ (rowsB (widS (es.take j) n)).length ≤ 100800 := by
  have h1 := rowsB_length (widS (es.take j) n) n (fun r hr => by
    obtain ⟨e, he, rfl⟩ := List.mem_map.1 hr
    have := (List.mem_filter.1 he).2
    rw [ent_wid]
    simpa using this)
  refine ⟨h1, ?_⟩
  rw [h1]
  have h2 : (widS (es.take j) n).length ≤ 100 := by
    unfold widS
    rw [List.length_map]
    refine Nat.le_trans (List.length_filter_le _ _) ?_
    rw [List.length_take]
    omega
  exact Nat.le_trans (Nat.mul_le_mul (show n + 8 ≤ 1008 by omega) h2) (by decide)
theorem widS_take (es : List Ent) (n j : Nat) (hj : j < es.length) : widS (es.take (j + 1)) n = widS (es.take j) n ++ if es[j].dg.size = n then [es[j].rw] else [] := by
  unfold widS
  rw [List.take_succ_eq_append_getElem hj, List.filter_append, List.map_append]
  congr 1
  by_cases h : es[j].dg.size = n
  · rw [if_pos h, List.filter_cons_of_pos (by simpa using h)]; rfl
  · rw [if_neg h, List.filter_cons_of_neg (by simpa using h)]; rfl
theorem widS_all (es : List Ent) (n j : Nat) (hj : es.length ≤ j) : widS (es.take j) n = widS es n := by rw [List.take_of_length_le hj]
theorem rowsB_snoc (l : List Rw) (r : Rw) : rowsB (l ++ [r]) = rowsB l ++ (r.d ++ Lib.leBytes 8 r.off) := by simp [rowsB, rowB]

/-- Ints in increasing order in a row (or none). -/
def IntsAt (w : World) (t : Nat → Value) (A : Option Addr) (b : Nat) (Ws : List Nat) : Prop := (0 < Ws.length → A = some ⟨b, 0, none⟩ ∧ b < w.heap.size) ∧ ∀ j (h : j < Ws.length), w.cell? ⟨b, j, none⟩ = some (t Ws[j])
theorem IntsAt.off {w w' : World} {t : Nat → Value} {A : Option Addr} {b : Nat} {Ws : List Nat} {S : List Nat} (h : IntsAt w t A b Ws) (ho : Off S w w') (hS : 0 < Ws.length → b ∉ S) : IntsAt w' t A b Ws :=
  ⟨fun h0 => ⟨(h.1 h0).1, Nat.lt_of_lt_of_le (h.1 h0).2 ho.size⟩, fun j hj => ho.cellE (h.2 j hj) (hS (by omega))⟩

theorem nodup_lenN : ∀ (a l : List Nat), a.Nodup → (∀ x, x ∈ a → x ∈ l) → a.length ≤ l.length
  | [], _, _, _ => Nat.zero_le _
  | x :: a, l, hn, h => by
    have hn' := List.nodup_cons.1 hn
    have hx := h x (List.mem_cons_self ..)
    have ih := nodup_lenN a (l.erase x) hn'.2 (fun y hy => (List.mem_erase_of_ne (fun e => by subst e; exact hn'.1 hy)).2 (h y (List.mem_cons_of_mem _ hy)))
    rw [List.length_erase_of_mem hx] at ih
    have := List.length_pos_of_mem hx
    simp only [List.length_cons]
    omega
theorem ints_at {zs : List Int} {Ws : List Nat} (hs : zs = ints Ws) (j : Nat) (hj : j < zs.length) (hj2 : j < Ws.length) : zs[j] = (Ws[j] : Int) := by
  subst hs
  simp [ints]
theorem ints_inj : ∀ {a b : List Nat}, ints a = ints b → a = b
  | [], [], _ => rfl
  | [], _ :: _, h => by simp [ints] at h
  | _ :: _, [], h => by simp [ints] at h
  | x :: a, y :: b, h => by
    simp only [ints, List.map_cons, List.cons.injEq] at h
    rw [show x = y by omega, ints_inj (a := a) (b := b) h.2]
theorem asc_of_outs (outs : List Nat) (hnd : outs.Nodup) : ∃ Ws : List Nat, Ws.Pairwise (· < ·) ∧ (∀ k, k ∈ Ws ↔ k ∈ outs) ∧ srtI (ints outs) = ints Ws ∧ Ws.length = outs.length := by
  have hp : (srtI (ints outs)).Perm (ints outs) := List.mergeSort_perm _ _
  have hs : (srtI (ints outs)).Pairwise (fun x y : Int => decide (x ≤ y) = true) := List.pairwise_mergeSort (le := fun x y : Int => decide (x ≤ y)) (by intro a b c; simp; omega) (by intro a b; simp; omega) _
  have he : srtI (ints outs) = ints ((srtI (ints outs)).map Int.toNat) := by
    unfold ints
    rw [List.map_map]
    refine (List.map_id' _).symm.trans (List.map_congr_left fun x hx => ?_)
    obtain ⟨m, _, rfl⟩ := List.mem_map.1 (hp.mem_iff.1 hx)
    simp
  have hperm : ((srtI (ints outs)).map Int.toNat).Perm outs := by
    have h1 := hp.map Int.toNat
    have h2 : (ints outs).map Int.toNat = outs := by
      unfold ints
      rw [List.map_map]
      exact (List.map_congr_left fun x _ => by simp).trans (List.map_id' _)
    rw [h2] at h1
    exact h1
  refine ⟨(srtI (ints outs)).map Int.toNat, ?_, fun k => hperm.mem_iff, he, hperm.length_eq⟩
  have hn2 : ((srtI (ints outs)).map Int.toNat).Nodup := hperm.nodup_iff.2 hnd
  have hs2 : ((srtI (ints outs)).map Int.toNat).Pairwise (· ≤ ·) := by
    rw [List.pairwise_map]
    refine hs.imp fun {x y} h => ?_
    have h' : x ≤ y := by simpa using h
    omega
  exact (List.pairwise_and_iff.2 ⟨hs2, hn2⟩).imp fun {x y} h => by
    obtain ⟨h1, h2⟩ := h
    omega
theorem intsAt_of_srtI {w : World} {B : Nat} {v : Value} {outs : List Nat} (h : SrtRowI w B v outs) {Ws : List Nat} (hs : srtI (ints outs) = ints Ws) (hl : Ws.length = outs.length) :
    ∃ A b c, v = .slice A Ws.length c ∧ (0 < Ws.length → B ≤ b) ∧ IntsAt w (fun n => .int .i64 (n : Int)) A b Ws := by
  rcases h with ⟨rfl, rfl⟩ | ⟨b, c, rfl, hb, hB, hc⟩
  · have h0 : Ws = [] := List.eq_nil_of_length_eq_zero (by simpa using hl)
    subst h0
    exact ⟨none, 0, 0, rfl, fun h => by simp at h, fun h => by simp at h, fun j h => by simp at h⟩
  · refine ⟨some ⟨b, 0, none⟩, b, c, by rw [hl], fun _ => hB, fun _ => ⟨rfl, hb⟩, fun j hj => ?_⟩
    have hj' : j < (srtI (ints outs)).length := by rw [hs]; simpa [ints] using hj
    rw [hc j hj', ints_at hs j hj' hj]
theorem intsAt_of_srt {w : World} {v : Value} {outs : List Nat} (h : SrtRow w v outs) {Ws : List Nat} (hs : srtI (ints outs) = ints Ws) (hl : Ws.length = outs.length) :
    ∃ A b o c, v = .slice A Ws.length c ∧ (0 < Ws.length → A = some ⟨b, o, none⟩ ∧ b < w.heap.size) ∧ ∀ j (h : j < Ws.length), w.cell? ⟨b, o + j, none⟩ = some (.int .u64 (Ws[j] : Int)) := by
  rcases h with ⟨rfl, rfl⟩ | ⟨A, c, rfl, b, o, rfl, hb, hc⟩
  · have h0 : Ws = [] := List.eq_nil_of_length_eq_zero (by simpa using hl)
    subst h0
    exact ⟨none, 0, 0, 0, rfl, fun h => by simp at h, fun j h => by simp at h⟩
  · refine ⟨some ⟨b, o, none⟩, b, o, c, by rw [hl], fun _ => ⟨rfl, hb⟩, fun j hj => ?_⟩
    have hj' : j < (srtI (ints outs)).length := by rw [hs]; simpa [ints] using hj
    rw [hc j hj', ints_at hs j hj' hj]
end Go.Proofs.YtcgggcjmmphldaaGreatDoor
