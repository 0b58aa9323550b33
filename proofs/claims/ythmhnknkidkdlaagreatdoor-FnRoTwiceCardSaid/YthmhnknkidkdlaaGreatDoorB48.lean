/-
  An index's bytes as a function of the entries: in plain words, sort.Sort's work on a row being srtL.
  The two kinds of an index: made, loaded with entries, written: what is written is a function of the entries.
  (No condition beyond those that each theorem states.)
-/
import Derived.Test.YthmhnknkidkdlaaGreatDoorB24
import Derived.Test.YthmhnknkidkdlaaGreatDoorB31
import Derived.Test.YthmhnknkidkdlaaGreatDoorB30
import Derived.Test.YthmhnknkidkdlaaGreatDoorB42
namespace Go.Proofs.YthmhnknkidkdlaaGreatDoor
open Go.RowKit

/-- The buckets of entries: of each width, the least first, what sort.Sort makes of its rows. -/
def MwF (its : List It) (G : List (Nat × List Rw)) : Prop := ∃ Ds : List Nat, Ds.Pairwise (· < ·) ∧ (∀ n, n ∈ Ds ↔ ∃ it, it ∈ its ∧ it.d.length = n) ∧ G = Ds.map fun n => (n, srtL ((its.filter fun it => it.d.length == n).map It.rw))
/-- .. of each hash function, the least first, its entries' buckets. -/
def MhF (its : List It) (H : List (Nat × List (Nat × List Rw))) : Prop := (H.map (·.1)).Pairwise (· < ·) ∧ (∀ c, c ∈ H.map (·.1) ↔ ∃ it, it ∈ its ∧ it.code = c) ∧ ∀ p, p ∈ H → MwF (its.filter fun it => it.code == p.1) p.2
/-- The bytes of an index of the kind kd of entries. -/
def IdxF (kd : Nat) (es : List Ent) (X : List UInt8) : Prop := (kd = 1024 ∧ ∃ G, MwF (es.map Ent.it) G ∧ X = Lib.uvarint 1024 ++ mwB G) ∨ (kd = 1025 ∧ ∃ H, MhF (es.map Ent.it) H ∧ X = Lib.uvarint 1025 ++ mhiB H)

theorem asc_unique : ∀ (A B : List Nat), A.Pairwise (· < ·) → B.Pairwise (· < ·) → (∀ n, n ∈ A ↔ n ∈ B) → A = B
  | [], [], _, _, _ => rfl
  | [], b :: B, _, _, h => by have := (h b).2 (List.mem_cons_self ..); simp at this
  | a :: A, [], _, _, h => by have := (h a).1 (List.mem_cons_self ..); simp at this
  | a :: A, b :: B, hA, hB, h => by
    have hA' := List.pairwise_cons.1 hA
    have hB' := List.pairwise_cons.1 hB
    have e : a = b := by
      have h1 := (h a).1 (List.mem_cons_self ..)
      have h2 := (h b).2 (List.mem_cons_self ..)
      rcases List.mem_cons.1 h1 with h1 | h1
      · exact h1
      · rcases List.mem_cons.1 h2 with h2 | h2
        · exact h2.symm
        · have := hA'.1 b h2
          have := hB'.1 a h1
          omega
    subst e
    rw [asc_unique A B hA'.2 hB'.2 (fun n => ?_)]
    constructor
    · intro hn
      have h1 := (h n).1 (List.mem_cons_of_mem _ hn)
      have h2 := hA'.1 n hn
      rcases List.mem_cons.1 h1 with h1 | h1
      · omega
      · exact h1
    · intro hn
      have h1 := (h n).2 (List.mem_cons_of_mem _ hn)
      have h2 := hB'.1 n hn
      rcases List.mem_cons.1 h1 with h1 | h1
      · omega
      · exact h1
theorem MwF.unique {its : List It} {G G' : List (Nat × List Rw)} (h : MwF its G) (h' : MwF its G') : G = G' := by
  obtain ⟨D, h1, h2, rfl⟩ := h
  obtain ⟨D', k1, k2, rfl⟩ := h'
  rw [asc_unique D D' h1 k1 (fun n => (h2 n).trans (k2 n).symm)]
theorem pairs_eq : ∀ (H H' : List (Nat × List (Nat × List Rw))), H.map (·.1) = H'.map (·.1) → (∀ p, p ∈ H → ∀ p', p' ∈ H' → p.1 = p'.1 → p.2 = p'.2) → H = H'
  | [], [], _, _ => rfl
  | [], _ :: _, h, _ => by simp at h
  | _ :: _, [], h, _ => by simp at h
  | p :: H, p' :: H', h, hp => by
    have h0 : p.1 = p'.1 ∧ H.map (·.1) = H'.map (·.1) := by simpa using h
    have e : p = p' := Prod.ext h0.1 (hp p (List.mem_cons_self ..) p' (List.mem_cons_self ..) h0.1)
    rw [e, pairs_eq H H' h0.2 (fun q hq q' hq' => hp q (List.mem_cons_of_mem _ hq) q' (List.mem_cons_of_mem _ hq'))]
theorem MhF.unique {its : List It} {H H' : List (Nat × List (Nat × List Rw))} (h : MhF its H) (h' : MhF its H') : H = H' := by
  obtain ⟨h1, h2, h3⟩ := h
  obtain ⟨k1, k2, k3⟩ := h'
  refine pairs_eq H H' (asc_unique _ _ h1 k1 (fun n => (h2 n).trans (k2 n).symm)) (fun p hp p' hp' e => ?_)
  have a := h3 p hp
  have b := k3 p' hp'
  rw [← e] at b
  exact a.unique b
theorem IdxF.unique {kd : Nat} {es : List Ent} {X Y : List UInt8} (h : IdxF kd es X) (h' : IdxF kd es Y) : X = Y := by
  rcases h with ⟨rfl, G, h1, rfl⟩ | ⟨rfl, G, h1, rfl⟩ <;> rcases h' with ⟨e, G', h2, rfl⟩ | ⟨e, G', h2, rfl⟩
  · rw [h1.unique h2]
  · omega
  · omega
  · rw [h1.unique h2]
end Go.Proofs.YthmhnknkidkdlaaGreatDoor
namespace Go.Proofs.YthmhnknkidkdlaaGreatDoor
open Go.RowKit Go.Maps

/-- Entries that an index of a file may have. -/
structure FewE (es : List Ent) : Prop where
  ok : ∀ e, e ∈ es → e.ok
  n : es.length ≤ 50
  dg : ∀ e, e ∈ es → e.dg.size ≤ 200

/-- A kind of index: type ty, its Load fL; empty (Emp), with entries (Full). -/
structure Knd (kd ty fL : Nat) (Emp : Nat → Nat → World → Prop) (Full : Nat → Nat → Nat → List Ent → World → Prop) : Prop where
  ent : ∀ args W, (callFunc fL args).run Tryz.prog W = .ok (.enter fL args) W
  meth : ∀ (a : Addr) W, (method 480 ty (.pointer (some a)) "Load").run Tryz.prog W = .ok (fL, .pointer (some a)) W
  empOff : ∀ pb mm w w' S, Emp pb mm w → Off S w w' → pb ∉ S → mm ∉ S → Emp pb mm w'
  fullOff : ∀ B0 pb mm es w w' S, Full B0 pb mm es w → Off S w w' → pb ∉ S → mm ∉ S → (∀ x, x ∈ S → x < B0 ∨ w.heap.size ≤ x) → Full B0 pb mm es w'
  new : ∀ w, Calls Tryz.prog 26 #[.int .u64 (kd : Int)] w fun e w' => ∃ pb mm, e = .returned (.tuple #[.iface ty (.pointer (some ⟨pb, 0, none⟩)), .nilIface]) ∧ Emp pb mm w' ∧ Off [] w w' ∧ w.heap.size ≤ pb ∧ w.heap.size ≤ mm ∧ pb ≠ mm ∧ pb < w'.heap.size ∧ mm < w'.heap.size
  load : ∀ es A cap g pb mm W, FewE es → ItemsAt W A g 0 (es.map Ent.it) → Emp pb mm W → pb ≠ mm → Calls Tryz.prog fL #[.pointer (some ⟨pb, 0, none⟩), .slice A es.length cap] W fun e w' => e = .returned .nilIface ∧ Off [mm] W w' ∧ Full W.heap.size pb mm es w'
  write : ∀ EX B0 b w0 w l pb mm es, WrG EX B0 b w0 l w → Full B0 pb mm es w0 → FewE es → pb ∉ EX → mm ∉ EX → l.length ≤ 900000000 → Calls Tryz.prog 32 #[.iface ty (.pointer (some ⟨pb, 0, none⟩)), .iface 57 (.pointer (some ⟨b, 0, none⟩))] w fun e w' => ∃ (X : List UInt8) (n : Int), (IdxF kd es X ∧ X.length ≤ 26030614) ∧ e = .returned (.tuple #[.int .u64 n, .nilIface]) ∧ WrG EX B0 b w0 (l ++ X) w'

theorem few_its {es : List Ent} (h : FewE es) : ∀ it, it ∈ es.map Ent.it → it.ok := fun it hit => by
  obtain ⟨e, he, rfl⟩ := List.mem_map.1 hit
  exact Ent.it_ok (h.ok e he)
theorem few_len {es : List Ent} (h : FewE es) (p : It → Bool) : ((es.map Ent.it).filter p).length ≤ 50 := by
  have h1 := List.length_filter_le p (es.map Ent.it)
  rw [List.length_map] at h1
  exact Nat.le_trans h1 h.n
theorem few_wid {es : List Ent} (h : FewE es) {it : It} (hi : it ∈ es.map Ent.it) : it.d.length ≤ 200 := by
  obtain ⟨e, he, rfl⟩ := List.mem_map.1 hi
  have h1 := h.dg e he
  have h2 : e.it.d.length = e.dg.size := by show e.dg.data.toList.length = _; simp
  omega
/-- Widths are few, and narrow. -/
theorem few_ds {es : List Ent} (h : FewE es) (p : It → Bool) (D : List Nat) (hnd : D.Nodup) (hD : ∀ n, n ∈ D ↔ ∃ it, it ∈ (es.map Ent.it).filter p ∧ it.d.length = n) : D.length ≤ 50 ∧ ∀ n, n ∈ D → n ≤ 200 := by
  refine ⟨?_, fun n hn => ?_⟩
  · have hsub : D.length ≤ (((es.map Ent.it).filter p).map fun it => it.d.length).length := nodup_len D _ hnd (fun x hx => by
      obtain ⟨it, hit, hx⟩ := (hD x).1 hx
      exact List.mem_map.2 ⟨it, hit, hx⟩)
    rw [List.length_map] at hsub
    exact Nat.le_trans hsub (few_len h p)
  · obtain ⟨it, hit, rfl⟩ := (hD n).1 hn
    exact few_wid h (List.mem_filter.1 hit).1

/-- A multiWidthIndex of entries. -/
def FullMw (B0 pb mm : Nat) (es : List Ent) (w : World) : Prop := w.cell? ⟨pb, 0, none⟩ = some (.map (some mm)) ∧ ∃ D S, MwAt B0 w mm D S ∧ (∀ n, n ∈ D ↔ ∃ it, it ∈ es.map Ent.it ∧ it.d.length = n) ∧ ∀ n, n ∈ D → S n = srtL (((es.map Ent.it).filter fun it => it.d.length == n).map It.rw)
def EmpMw (pb mm : Nat) (w : World) : Prop := w.cell? ⟨pb, 0, none⟩ = some (.map (some mm)) ∧ Mp Tryz.prog 262 .u32 w mm 0 [] (fun _ => undef)
/-- A MultihashIndexSorted of entries. -/
def FullMis (B0 pb mm : Nat) (es : List Ent) (w : World) : Prop := w.cell? ⟨pb, 0, none⟩ = some (.map (some mm)) ∧ ∃ Cs D S, MisAt B0 w mm Cs D S ∧ (∀ c, c ∈ Cs ↔ ∃ it, it ∈ es.map Ent.it ∧ it.code = c) ∧
  ∀ c, c ∈ Cs → (∀ n, n ∈ D c ↔ ∃ it, it ∈ (es.map Ent.it).filter (fun it => it.code == c) ∧ it.d.length = n) ∧ ∀ n, n ∈ D c → S c n = srtL ((((es.map Ent.it).filter fun it => it.code == c).filter fun it => it.d.length == n).map It.rw)
def EmpMis (pb mm : Nat) (w : World) : Prop := w.cell? ⟨pb, 0, none⟩ = some (.map (some mm)) ∧ Mp Tryz.prog 30 .u64 w mm 0 [] (fun _ => undef)

theorem srtL_len (l : List Rw) : (srtL l).length = l.length := (srtL_perm l).length_eq

theorem knd_mw : Knd 1024 160 172 EmpMw FullMw where
  ent := enters_of Tryz.func172 (by kernel_rfl) rfl
  meth := method_mwLoad
  empOff pb mm w w' S h ho h1 h2 := ⟨ho.cell h.1 h1, h.2.off ho h2⟩
  fullOff B0 pb mm es w w' S h ho h1 h2 h3 := by
    obtain ⟨hc, D, S', hm, hD, hS⟩ := h
    exact ⟨ho.cell hc h1, D, S', hm.off ho h2 h3, hD, hS⟩
  new w := (new_mw w).mono fun e w' ⟨pb, mm, he, h1, h2, h3, h4, h5, h6⟩ => ⟨pb, mm, he, ⟨h1, h2⟩, h3, h4, h5, h6, World.block_lt_of_cell? _ _ h1, h2.lt⟩
  load es A cap g pb mm W hf hi he hne := by
    have h := mwLoad_F A g 0 pb 0 mm cap (es.map Ent.it) W (few_its hf) (by rw [List.length_map]; have := hf.n; omega) hi he.1 hne he.2
    rw [List.length_map] at h
    refine h.mono ?_
    rintro e w' ⟨hr, ho, D, S, hm, hD, hS⟩
    exact ⟨hr, ho, ho.cell he.1 (by simp; exact hne), D, S, hm, hD, hS⟩
  write EX B0 b w0 w l pb mm es h hfull hf hpE hmE hlim := by
    obtain ⟨hc, D, S, hm, hD, hS⟩ := hfull
    obtain ⟨hd1, hd2⟩ := few_ds hf (fun _ => true) D hm.nodup (fun n => by rw [List.filter_eq_self.2 (fun _ _ => rfl)]; exact hD n)
    have hlen : ∀ Ds : List Nat, Ds.Perm D → (mwB (Ds.map fun n => (n, S n))).length ≤ 520604 := fun Ds hp => by
      refine mwB_len Ds S (by rw [hp.length_eq]; exact hd1) (fun n hn => ?_)
      have hn' := hp.mem_iff.1 hn
      refine ⟨hd2 n hn', ?_, ?_⟩
      · rw [hS n hn', srtL_len, List.length_map]; exact few_len hf _
      · obtain ⟨V, C, _, h2⟩ := hm.ex
        exact (h2 n hn').2.2.2.2
    refine (writeTo_Gw h pb (fun X => ∃ G, MwF (es.map Ent.it) G ∧ X = mwB G ∧ X.length ≤ 520604) hlim (fun W l' hW hl' => ?_)).mono ?_
    · refine (mwMarshal_G hW pb mm D S hc hm hpE hmE (by omega) (fun n hn => by have := hd2 n hn; omega) (fun Ds hp => by have := hlen Ds hp; omega)).mono ?_
      rintro e w' ⟨Ds, hp, hasc, he, hw, _⟩
      refine ⟨_, _, ⟨_, ⟨Ds, hasc, fun n => by rw [hp.mem_iff]; exact hD n, rfl⟩, ?_, hlen Ds hp⟩, he, hw⟩
      congr 1
      exact List.map_congr_left fun n hn => by rw [hS n (hp.mem_iff.1 hn)]
    · rintro e w' ⟨X, n, ⟨G, hG, rfl, hX⟩, he, hw⟩
      have hu := Lib.uvarint_length64 (x := 1024) (by omega)
      exact ⟨_, n, ⟨Or.inl ⟨rfl, G, hG, rfl⟩, by rw [List.length_append]; omega⟩, he, hw⟩

theorem knd_mis : Knd 1025 114 167 EmpMis FullMis where
  ent := enters_of Tryz.func167 (by kernel_rfl) rfl
  meth := method_misLoad
  empOff pb mm w w' S h ho h1 h2 := ⟨ho.cell h.1 h1, h.2.off ho h2⟩
  fullOff B0 pb mm es w w' S h ho h1 h2 h3 := by
    obtain ⟨hc, Cs, D, S', hm, hD⟩ := h
    exact ⟨ho.cell hc h1, Cs, D, S', hm.off ho h2 h3, hD⟩
  new w := (new_mis w).mono fun e w' ⟨pb, mm, he, h1, h2, h3, h4, h5, h6⟩ => ⟨pb, mm, he, ⟨h1, h2⟩, h3, h4, h5, h6, World.block_lt_of_cell? _ _ h1, h2.lt⟩
  load es A cap g pb mm W hf hi he hne := by
    have h := misLoad_F A g 0 pb 0 mm cap (es.map Ent.it) W (few_its hf) (by rw [List.length_map]; have := hf.n; omega) hi he.1 hne he.2
    rw [List.length_map] at h
    refine h.mono ?_
    rintro e w' ⟨hr, ho, Cs, D, S, hm, hD⟩
    exact ⟨hr, ho, ho.cell he.1 (by simp; exact hne), Cs, D, S, hm, hD⟩
  write EX B0 b w0 w l pb mm es h hfull hf hpE hmE hlim := by
    obtain ⟨hc, Cs, D, S, hm, hC, hD⟩ := hfull
    have hCl : Cs.length ≤ 50 := by
      have hsub : Cs.length ≤ ((es.map Ent.it).map fun it => it.code).length := nodup_len Cs _ hm.nodup (fun x hx => by
        obtain ⟨it, hit, hx⟩ := (hC x).1 hx
        exact List.mem_map.2 ⟨it, hit, hx⟩)
      rw [List.length_map, List.length_map] at hsub
      have := hf.n
      omega
    have hC64 : ∀ c, c ∈ Cs → c < 18446744073709551616 := fun c hc => by
      obtain ⟨it, hit, hx⟩ := (hC c).1 hc
      have := (few_its hf it hit).cid.1
      omega
    have hDD : ∀ c, c ∈ Cs → (D c).length ≤ 50 ∧ ∀ n, n ∈ D c → n ≤ 200 ∧ (S c n).length ≤ 50 := fun c hc => by
      obtain ⟨s1, s2⟩ := hD c hc
      have hnd : (D c).Nodup := by
        obtain ⟨V, q, m, _, h⟩ := hm.ex
        exact (h c hc).2.2.1.nodup
      obtain ⟨hd1, hd2⟩ := few_ds hf (fun it => it.code == c) (D c) hnd s1
      refine ⟨hd1, fun n hn => ⟨hd2 n hn, ?_⟩⟩
      rw [s2 n hn, srtL_len, List.length_map]
      exact Nat.le_trans (List.length_filter_le _ _) (few_len hf _)
    refine (writeTo_G h pb (fun X => ∃ H, MhF (es.map Ent.it) H ∧ X = mhiB H ∧ X.length ≤ 26030604) hlim (fun W l' hW hl' => ?_)).mono ?_
    · refine (misMarshal_G hW pb mm Cs D S hc hm hpE hmE (by omega) hC64 (fun c hc => ⟨by have := (hDD c hc).1; omega, fun n hn => ⟨by have := ((hDD c hc).2 n hn).1; omega, by have := ((hDD c hc).2 n hn).2; omega⟩⟩) hl').mono ?_
      rintro e w' ⟨H, h1, he, h2, _⟩
      refine ⟨mhiB H, _, ⟨H, ⟨h1.asc, fun c => by rw [h1.perm.mem_iff]; exact hC c, fun p hp => ?_⟩, rfl, mhiB_len h1 hm.wid hCl hDD⟩, he, h2⟩
      obtain ⟨Ds, k1, k2, k3⟩ := h1.ex p hp
      have hcp : p.1 ∈ Cs := h1.perm.mem_iff.1 (List.mem_map.2 ⟨p, hp, rfl⟩)
      obtain ⟨s1, s2⟩ := hD p.1 hcp
      refine ⟨Ds, k2, fun n => by rw [k1.mem_iff]; exact s1 n, ?_⟩
      rw [k3]
      exact List.map_congr_left fun n hn => by rw [s2 n (k1.mem_iff.1 hn)]
    · rintro e w' ⟨X, n, ⟨G, hG, rfl, hX⟩, he, hw⟩
      have hu := Lib.uvarint_length64 (x := 1025) (by omega)
      exact ⟨_, n, ⟨Or.inr ⟨rfl, G, hG, rfl⟩, by rw [List.length_append]; omega⟩, he, hw⟩
end Go.Proofs.YthmhnknkidkdlaaGreatDoor
