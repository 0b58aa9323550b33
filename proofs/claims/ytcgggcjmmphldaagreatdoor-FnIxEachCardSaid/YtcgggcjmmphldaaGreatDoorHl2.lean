/-
  spec.Sum and spec.Fitting at the identity hash.
  The bytes of an index are one, where no two entries of a bucket have one digest. No program is named here.
  laws.ixOne: an index of one entry.
  spec.Once: no two entries are one to an index.
  (No condition beyond those that each theorem states.)
-/
import Derived.Test.YtcgggcjmmphldaaGreatDoorHa3
import Derived.Test.YtcgggcjmmphldaaGreatDoorHa4
import Derived.Test.YtcgggcjmmphldaaGreatDoorHa7
import Derived.Test.YtcgggcjmmphldaaGreatDoorHl1
import Derived.Test.YtcgggcjmmphldaaGreatDoorHj2
import Derived.Test.YtcgggcjmmphldaaGreatDoorHa6
import Derived.Deep.DeepCutAuto
import Derived.Deep.LoopGhost
import Derived.LoopTactic
import Derived.WalkKit
namespace Go.Proofs.YtcgggcjmmphldaaGreatDoor
open Go.RowKit

set_option maxRecDepth 100000 in
theorem sum_id (s : ByteArray) (w : World) :
    Calls Tryz.prog 50 #[.int .u64 0, .string s] w fun e w' => e = .returned (.tuple #[.string s, .bool true]) ∧ w = w' := by
  go_enter Tryz.func50, Tryz.ntmps50
  go_wp2_with fail
  go_ret2
  exact ⟨rfl, rfl⟩

set_option maxRecDepth 100000 in
theorem fitting_id (ver codec : Nat) (s : ByteArray) (w : World) :
    Calls Tryz.prog 29 #[.int .u64 ver, .int .u64 codec, .int .u64 0, .string s] w fun e w' => e = .returned (cidV ver codec 0 s) ∧ Off [] w w' := by
  go_enter Tryz.func29, Tryz.ntmps29
  go_wp2_with fail
  refine (sum_id s _).mono ?_
  rintro e w' ⟨rfl, rfl⟩
  go_wp2_with fail
  exact bodyPost_ret (results_row rfl _ (Blk.new _ _ _) rfl Tryz.underlying25 rfl (by kernel_rfl)) rfl ⟨rfl, (Off.refl [] w).alloc _⟩
end Go.Proofs.YtcgggcjmmphldaaGreatDoor
namespace Go.Proofs.YtcgggcjmmphldaaGreatDoor

theorem asc_unique {A B : List Nat} (hA : A.Pairwise (· < ·)) (hB : B.Pairwise (· < ·)) (h : ∀ x, x ∈ A ↔ x ∈ B) : A = B :=
  List.Perm.eq_of_pairwise (le := fun a b => a < b) (fun a b _ _ h1 h2 => by omega) hA hB ((List.perm_ext_iff_of_nodup (nodup_asc hA) (nodup_asc hB)).2 h)

theorem filter_width : ∀ (G : List (Nat × List Rw)), (G.map (·.1)).Nodup → (∀ p, p ∈ G → ∀ r, r ∈ p.2 → r.d.length = p.1) → ∀ p, p ∈ G → ((flat G).filter fun r => r.d.length == p.1) = p.2
  | [], _, _, p, hp => by simp at hp
  | q :: G, hn, hw, p, hp => by
    have hn' : q.1 ∉ G.map (·.1) ∧ (G.map (·.1)).Nodup := by simpa using hn
    have hfl : flat (q :: G) = q.2 ++ flat G := rfl
    rw [hfl, List.filter_append]
    rcases List.mem_cons.1 hp with rfl | hp'
    · have h1 : (p.2.filter fun r => r.d.length == p.1) = p.2 := List.filter_eq_self.2 fun r hr => by simp [hw p (List.mem_cons_self ..) r hr]
      have h0 : ((flat G).filter fun r => r.d.length == p.1) = [] := List.filter_eq_nil_iff.2 fun r hr e => by
        obtain ⟨x, hx, hrx⟩ := mem_flat.1 hr
        rw [beq_iff_eq, hw x (List.mem_cons_of_mem _ hx) r hrx] at e
        exact hn'.1 (List.mem_map.2 ⟨x, hx, e⟩)
      rw [h1, h0, List.append_nil]
    · have h0 : (q.2.filter fun r => r.d.length == p.1) = [] := List.filter_eq_nil_iff.2 fun r hr e => by
        rw [beq_iff_eq, hw q (List.mem_cons_self ..) r hr] at e
        exact hn'.1 (List.mem_map.2 ⟨p, hp', e.symm⟩)
      rw [h0, List.nil_append]
      exact filter_width G hn'.2 (fun x hx => hw x (List.mem_cons_of_mem _ hx)) p hp'

theorem map_unique {β : Type} : ∀ {A B : List (Nat × β)}, A.map (·.1) = B.map (·.1) → (A.map (·.1)).Nodup → (∀ p q, p ∈ A → q ∈ B → p.1 = q.1 → p.2 = q.2) → A = B
  | [], [], _, _, _ => rfl
  | [], _ :: _, h, _, _ => by simp at h
  | _ :: _, [], h, _, _ => by simp at h
  | p :: A, q :: B, h, hn, hp => by
    simp only [List.map_cons, List.cons.injEq] at h
    have e2 := hp p q (List.mem_cons_self ..) (List.mem_cons_self ..) h.1
    have hn' : p.1 ∉ A.map (·.1) ∧ (A.map (·.1)).Nodup := by simpa using hn
    rw [map_unique h.2 hn'.2 (fun x y hx hy => hp x y (List.mem_cons_of_mem _ hx) (List.mem_cons_of_mem _ hy)), show p = q from Prod.ext h.1 e2]

theorem bks_unique {G G' : List (Nat × List Rw)} (h : Bks G) (h' : Bks G') (hp : (flat G).Perm (flat G')) (hU : ∀ x y, x ∈ flat G → y ∈ flat G → x.d = y.d → x = y) : G = G' := by
  have g1 : Grp (flat G) G := ⟨h, List.Perm.refl _⟩
  have g2 : Grp (flat G) G' := ⟨h', hp.symm⟩
  refine map_unique (asc_unique h.asc h'.asc fun n => by rw [g1.widths, g2.widths]) (nodup_asc h.asc) fun p q hpG hqG e => ?_
  have f1 := filter_width G (nodup_asc h.asc) h.wid p hpG
  have f2 := filter_width G' (nodup_asc h'.asc) h'.wid q hqG
  have hpq : p.2.Perm q.2 := by
    rw [← f1, ← f2, ← e]
    exact hp.filter _
  refine List.Perm.eq_of_pairwise (le := fun a b : Rw => ¬ b.d < a.d) (fun a b ha hb h1 h2 => ?_) (h.srt p hpG) (h'.srt q hqG) hpq
  exact hU a b (mem_flat.2 ⟨p, hpG, ha⟩) (mem_flat.2 ⟨p, hpG, hpq.mem_iff.2 hb⟩) (lt_or h2 h1)

theorem filter_code : ∀ (H : List (Nat × List (Nat × List Rw))), (H.map (·.1)).Nodup → ∀ p, p ∈ H → ((cflat H).filter fun r => r.1 == p.1) = (flat p.2).map fun r => (p.1, r)
  | [], _, p, hp => by simp at hp
  | q :: H, hn, p, hp => by
    have hn' : q.1 ∉ H.map (·.1) ∧ (H.map (·.1)).Nodup := by simpa using hn
    have hfl : cflat (q :: H) = (flat q.2).map (fun r => (q.1, r)) ++ cflat H := rfl
    rw [hfl, List.filter_append]
    rcases List.mem_cons.1 hp with rfl | hp'
    · have h1 : (((flat p.2).map fun r => (p.1, r)).filter fun r => r.1 == p.1) = (flat p.2).map fun r => (p.1, r) := List.filter_eq_self.2 fun r hr => by
        obtain ⟨x, _, rfl⟩ := List.mem_map.1 hr
        simp
      have h0 : ((cflat H).filter fun r => r.1 == p.1) = [] := List.filter_eq_nil_iff.2 fun r hr e => by
        obtain ⟨x, hx, hrx⟩ := List.mem_flatMap.1 hr
        obtain ⟨y, _, rfl⟩ := List.mem_map.1 hrx
        rw [beq_iff_eq] at e
        exact hn'.1 (List.mem_map.2 ⟨x, hx, e⟩)
      rw [h1, h0, List.append_nil]
    · have h0 : (((flat q.2).map fun r => (q.1, r)).filter fun r => r.1 == p.1) = [] := List.filter_eq_nil_iff.2 fun r hr e => by
        obtain ⟨y, _, rfl⟩ := List.mem_map.1 hr
        rw [beq_iff_eq] at e
        exact hn'.1 (List.mem_map.2 ⟨p, hp', e.symm⟩)
      rw [h0, List.nil_append]
      exact filter_code H hn'.2 p hp'

theorem cgrp_unique {es : List (Nat × Rw)} {H H' : List (Nat × List (Nat × List Rw))} (h : CGrp es H) (h' : CGrp es H') (hU : ∀ x y, x ∈ es → y ∈ es → x.1 = y.1 → x.2.d = y.2.d → x.2 = y.2) : H = H' := by
  refine map_unique (asc_unique h.asc h'.asc fun c => by rw [h.codes, h'.codes]) (nodup_asc h.asc) fun p q hpH hqH e => ?_
  have f1 := filter_code H (nodup_asc h.asc) p hpH
  have f2 := filter_code H' (nodup_asc h'.asc) q hqH
  have hpq : (flat p.2).Perm (flat q.2) := by
    have h3 : ((cflat H).filter fun r => r.1 == p.1).Perm ((cflat H').filter fun r => r.1 == p.1) := (h.perm.trans h'.perm.symm).filter _
    rw [f1, show ((cflat H').filter fun r => r.1 == p.1) = (flat q.2).map fun r => (q.1, r) by rw [e]; exact f2] at h3
    have h4 := h3.map (·.2)
    simpa [List.map_map, Function.comp_def] using h4
  have hmem : ∀ x, x ∈ flat p.2 → (p.1, x) ∈ es := fun x hx => h.perm.mem_iff.1 (List.mem_flatMap.2 ⟨p, hpH, List.mem_map.2 ⟨x, hx, rfl⟩⟩)
  exact bks_unique (h.bks p hpH) (h'.bks q hqH) hpq fun x y hx hy hd => hU _ _ (hmem x hx) (hmem y hy) rfl hd

theorem grp_unique {l : List Rw} {G G' : List (Nat × List Rw)} (h : Grp l G) (h' : Grp l G') (hU : ∀ x y, x ∈ l → y ∈ l → x.d = y.d → x = y) : G = G' :=
  bks_unique h.bks h'.bks (h.perm.trans h'.perm.symm) fun x y hx hy => hU x y (h.perm.mem_iff.1 hx) (h.perm.mem_iff.1 hy)

/-- No two rows of one digest (in 0x0401 of one hash function). -/
def OneEach (kind : Nat) (es : List (Nat × Rw)) : Prop := ∀ x y, x ∈ es → y ∈ es → (kind = 1024 ∨ x.1 = y.1) → x.2.d = y.2.d → x.2 = y.2

theorem enc_unique {kind : Nat} {es : List (Nat × Rw)} {s s' : List UInt8} (h : Enc kind es s) (h' : Enc kind es s') (hU : OneEach kind es) : s = s' := by
  rcases h with ⟨rfl, G, hG, rfl⟩ | ⟨rfl, H, hH, rfl⟩
  · rcases h' with ⟨_, G', hG', rfl⟩ | ⟨h1, _⟩
    · rw [grp_unique hG hG' fun x y hx hy hd => ?_]
      obtain ⟨a, ha, rfl⟩ := List.mem_map.1 hx
      obtain ⟨b, hb, rfl⟩ := List.mem_map.1 hy
      exact hU a b ha hb (Or.inl rfl) hd
    · omega
  · rcases h' with ⟨h1, _⟩ | ⟨_, H', hH', rfl⟩
    · omega
    · rw [cgrp_unique hH hH' fun x y hx hy hc hd => hU x y hx hy (Or.inr hc) hd]
end Go.Proofs.YtcgggcjmmphldaaGreatDoor
namespace Go.Proofs.YtcgggcjmmphldaaGreatDoor
open Go.RowKit

def ent0 : Ent := ⟨1, 85, 0, ⟨#[97]⟩, 7⟩
theorem ent0_ok : ent0.ok := ⟨Or.inr ⟨rfl, by decide, by decide⟩, by decide, by decide⟩
theorem founds0 (kind : Nat) : founds kind (rws [ent0]) 0 [97] = [7] := by
  have h : ∀ b : Bool, List.map (fun r : Nat × Rw => r.2.off) (List.filter (fun r : Nat × Rw => (b || r.1 == 0) && r.2.d == [97]) [((0 : Nat), (⟨[97], 7⟩ : Rw))]) = [7] := by decide
  exact h (kind == 1024)
theorem one_each0 (kind : Nat) : OneEach kind (rws [ent0]) := fun x y hx hy _ _ => by
  have h1 : x = (ent0.code, ent0.it.rw) := List.mem_singleton.1 hx
  have h2 : y = (ent0.code, ent0.it.rw) := List.mem_singleton.1 hy
  rw [h1, h2]

set_option maxRecDepth 100000 in
set_option maxHeartbeats 4000000 in
theorem ixOne_any (kind : Nat) (hk : kind = 1024 ∨ kind = 1025) (a : Addr) (w : World) (hE : w.cell? ⟨0, 0, none⟩ = some (notF a)) :
    Calls Tryz.prog 17 #[.int .u64 (kind : Int)] w fun r w' => r = .returned (.bool true) ∧ Off [] w w' := by
  have HE := Lib.hid hE
  have HK := Lib.hid hk
  have HF := Lib.hid fun W => fitting_id 1 85 ⟨#[97]⟩ W
  clear hE hk
  go_enter Tryz.func17, Tryz.ntmps17
  have HOK : Hid (∀ e, e ∈ [ent0] → e.ok) := Lib.hid (fun e he => by rw [List.mem_singleton.1 he]; exact ent0_ok)
  go_wp2_with (first
    | (go_at_call 16
       refine (indexBytes_any kind HK.out [ent0] (some ⟨w1.heap.size, 0, none⟩) w1.heap.size 0 1 1 w4 HOK.out rfl (by decide) (fun h => by cases h) (HAT4.out)).mono ?_
       rintro r w5 ⟨s5, hs5, rfl, ho5⟩
       obtain ⟨b5, hb5⟩ : ∃ b, b = (⟨s5.toArray⟩ : ByteArray) := ⟨_, rfl⟩
       rw [← hb5]
       have heq : b3 = b5 := by rw [HB3.out, hb5, enc_unique HS3.out hs5 (one_each0 kind)]
       have hc5 := ho5.cell hc4 (by simp)
       have HO5 := Lib.hid (HO4.out.then ho5 (fun x hx => by simp at hx))
       clear hs5 hb5 ho5
       subst heq)
    | (go_at_call 12
       refine (ixAll_enc kind (rws [ent0]) s3 HS3.out (by decide) (rws_small [ent0] HOK.out) b3 (by rw [HB3.out]) ent0 ent0_ok 9 (by decide) a w3 (HO3.out.cell HE.out (by simp))).mono ?_
       rintro r w4 ⟨v4, o4, hp4, rfl, hr4, ho4⟩
       have e4 : o4 = [7] := List.perm_singleton.1 (hp4.trans (List.Perm.of_eq (founds0 kind)))
       subst e4
       rw [if_neg (by decide)]
       obtain ⟨A4, k4, rfl, bb, bo, rfl, hbl, hcc⟩ := hr4.u64s (by decide)
       have hc4 := hcc 0 (by decide)
       rw [show (ints [7])[0] = 7 from rfl, Nat.add_zero] at hc4
       have HO4 := Lib.hid (HO3.out.then ho4 (fun x hx => by simp at hx))
       have HAT4 := Lib.hid (HAT3.out.off ho4 (by simp))
       clear hp4 hr4 ho4 hbl hcc)
    | (go_at_call 11
       have hal : Off [] w1 (w1.alloc (.cells #[.int .u64 1, .int .u64 85, .int .u64 0, .string ⟨#[97]⟩, .int .u64 7] 27)) := (Off.refl [] w1).alloc _
       have hbl : Blk (w1.alloc (.cells #[.int .u64 1, .int .u64 85, .int .u64 0, .string ⟨#[97]⟩, .int .u64 7] 27)) w1.heap.size 27 #[.int .u64 1, .int .u64 85, .int .u64 0, .string ⟨#[97]⟩, .int .u64 7] := Blk.new _ _ _
       have hat : EntsAt (w1.alloc (.cells #[.int .u64 1, .int .u64 85, .int .u64 0, .string ⟨#[97]⟩, .int .u64 7] 27)) (some ⟨w1.heap.size, 0, none⟩) w1.heap.size 0 [ent0] := EntsAt.of_blk (sp := []) (t := 27) hbl
       refine (ixBytes_enc kind HK.out [ent0] (some ⟨w1.heap.size, 0, none⟩) w1.heap.size 0 1 1 _ HOK.out rfl (by decide) hat).mono ?_
       rintro r w3 ⟨s3, hs3, rfl, ho3⟩
       obtain ⟨b3, hb3⟩ : ∃ b, b = (⟨s3.toArray⟩ : ByteArray) := ⟨_, rfl⟩
       rw [← hb3]
       have hb := ho3.blk hbl (by simp)
       have x0 : w3.cell? ⟨w1.heap.size, 0, none⟩ = some (.int .u64 1) := hb.cell 0
       have x1 : w3.cell? ⟨w1.heap.size, 1, none⟩ = some (.int .u64 85) := hb.cell 1
       have x2 : w3.cell? ⟨w1.heap.size, 2, none⟩ = some (.int .u64 0) := hb.cell 2
       have x3 : w3.cell? ⟨w1.heap.size, 3, none⟩ = some (.string ⟨#[97]⟩) := hb.cell 3
       have HAT3 := Lib.hid (hat.off ho3 (by simp))
       have HS3 := Lib.hid hs3
       have HB3 := Lib.hid hb3
       have HO3 := Lib.hid ((HO1.out.then hal (fun x hx => by simp at hx)).then ho3 (fun x hx => by simp at hx))
       clear hal hbl hat hs3 hb3 hb ho3)
    | (go_at_call 29
       refine (HF.out _).mono ?_
       rintro r w1 ⟨rfl, ho1⟩
       have HO1 := Lib.hid ho1
       clear ho1))
  go_ret
  exact ⟨rfl, HO5.out⟩
end Go.Proofs.YtcgggcjmmphldaaGreatDoor
namespace Go.Proofs.YtcgggcjmmphldaaGreatDoor
open Go.RowKit

/-- One digest; in 0x0401 one hash function besides. -/
def sameP (kind : Nat) (a b : Ent) : Prop := a.dg = b.dg ∧ (kind = 1024 ∨ a.code = b.code)
def onceP (kind : Nat) (es : List Ent) : Prop := ∀ (p q : Nat) (hp : p < es.length) (hq : q < p), ¬ sameP kind es[p] (es[q]'(Nat.lt_trans hq hp))
noncomputable def onceB (kind : Nat) (es : List Ent) : Bool := @decide (onceP kind es) (Classical.propDecidable _)
theorem onceB_t {kind : Nat} {es : List Ent} (h : onceP kind es) : onceB kind es = true := @decide_eq_true _ (Classical.propDecidable _) h
theorem onceB_f {kind : Nat} {es : List Ent} (h : ¬ onceP kind es) : onceB kind es = false := @decide_eq_false _ (Classical.propDecidable _) h
theorem onceP_of {kind : Nat} {es : List Ent} (h : onceB kind es = true) : onceP kind es := @of_decide_eq_true _ (Classical.propDecidable _) h
theorem dg_ne {a b : ByteArray} (h : ¬ a = b) : ¬ a.toList = b.toList := fun k => h (by rw [ByteArray.toList_eq, ByteArray.toList_eq] at k; exact ByteArray.ext (Array.toList_inj.1 k))

def entA (e : Ent) : Array Value := #[.int .u64 (e.ver : Int), .int .u64 (e.codec : Int), .int .u64 (e.code : Int), .string e.dg, .int .u64 (e.off : Int)]

set_option maxRecDepth 100000 in
set_option maxHeartbeats 4000000 in
theorem once_any (es : List Ent) (A : Option Addr) (ib io c n kind : Nat) (w : World) (hn : es.length = n) (hn2 : n ≤ 1000) (hnc : n ≤ c) (hat : EntsAt w A ib io es) :
    Calls Tryz.prog 15 #[.slice A n c, .int .u64 (kind : Int)] w fun r w' => r = .returned (.bool (onceB kind es)) ∧ Off [] w w' := by
  have HN := Lib.hid hn
  have HAT := Lib.hid hat
  obtain ⟨BV, hbv⟩ : ∃ BV, BV = onceB kind es := ⟨_, rfl⟩
  rw [← hbv]
  have HBV := Lib.hid hbv
  clear hn hat hbv
  go_enter Tryz.func15, Tryz.ntmps15
  go_wp2_with fail
  go_loopg [11] n (fun kx s11 wr => ∃ i : Nat, s11 = .int .i64 (i : Int) ∧ i ≤ n ∧ n - i ≤ kx ∧ Hid (Off [] w wr ∧ ∀ (p q : Nat) (hp : p < es.length) (hq : q < p), p < i → ¬ sameP kind es[p] (es[q]'(Nat.lt_trans hq hp))))
  case atStart => exact ⟨0, rfl, Nat.zero_le _, by omega, Lib.hid ⟨Off.refl _ _, fun p q hp hq h => by omega⟩⟩
  case round =>
    rename World => wr
    obtain ⟨i, rfl, hin, hkx, hh⟩ := hrel
    by_cases hlt : i < n
    · have hie : i < es.length := by have := HN.out; omega
      have hat := HAT.out.off hh.out.1 (by simp)
      obtain ⟨hA, hib⟩ := hat.at_ (by omega)
      obtain ⟨c0, c1, c2, c3, c4⟩ := hat.cells i hie
      obtain ⟨ea, hea⟩ : ∃ ea, ea = es[i] := ⟨_, rfl⟩
      rw [← hea] at c0 c1 c2 c3 c4
      have HEA := Lib.hid (show ∃ h : i < es.length, ea = es[i] from ⟨hie, hea⟩)
      clear hat hea hie
      subst hA
      have hii : (i : Int) ≤ (c : Int) := by omega
      go_wp2_with fail
      obtain ⟨w1, hw1⟩ : ∃ w1, w1 = wr.alloc (.cells #[.int .u64 (ea.ver : Int), .int .u64 (ea.codec : Int), .int .u64 (ea.code : Int), .string ea.dg, .int .u64 (ea.off : Int)] 27) := ⟨_, rfl⟩
      have HOA : Hid (Off [] w w1) := Lib.hid (by rw [hw1]; exact hh.out.1.alloc _)
      have HBA : Hid (Blk w1 wr.heap.size 27 (entA ea)) := Lib.hid (by rw [hw1]; exact Blk.new _ _ _)
      rw [← hw1]
      have hzz : wr.heap.size < w1.heap.size := HBA.out.lt
      clear c0 c1 c2 c3 c4 hw1 hii
      go_loopg [20] i (fun kx s20 wr => ∃ j : Nat, s20 = .int .i64 (j : Int) ∧ j ≤ i ∧ i - j ≤ kx ∧ Hid (Off [] w1 wr ∧ ∀ (q : Nat) (hq : q < es.length), q < j → ¬ sameP kind ea es[q]))
      case atStart => exact ⟨0, rfl, Nat.zero_le _, by omega, Lib.hid ⟨Off.refl _ _, fun q hq h => by omega⟩⟩
      case round =>
        rename World => wp
        obtain ⟨j, rfl, hji, hkx2, hh2⟩ := hrel
        by_cases hlt2 : j < i
        · have hje : j < es.length := by have := HN.out; omega
          have hat := (HAT.out.off HOA.out (by simp)).off hh2.out.1 (by simp)
          obtain ⟨_, hib2⟩ := hat.at_ (by omega)
          obtain ⟨c0, c1, c2, c3, c4⟩ := hat.cells j hje
          obtain ⟨eb, heb⟩ : ∃ eb, eb = es[j] := ⟨_, rfl⟩
          rw [← heb] at c0 c1 c2 c3 c4
          have HEB := Lib.hid (show ∃ h : j < es.length, eb = es[j] from ⟨hje, heb⟩)
          have hba := HBA.out.off hh2.out.1 (by simp)
          have hbb := hba.alloc (.cells #[.int .u64 (eb.ver : Int), .int .u64 (eb.codec : Int), .int .u64 (eb.code : Int), .string eb.dg, .int .u64 (eb.off : Int)] 27)
          have a2 : (wp.alloc (.cells #[.int .u64 (eb.ver : Int), .int .u64 (eb.codec : Int), .int .u64 (eb.code : Int), .string eb.dg, .int .u64 (eb.off : Int)] 27)).cell? ⟨wr.heap.size, 2, none⟩ = some (.int .u64 (ea.code : Int)) := hbb.cell 2
          have a3 : (wp.alloc (.cells #[.int .u64 (eb.ver : Int), .int .u64 (eb.codec : Int), .int .u64 (eb.code : Int), .string eb.dg, .int .u64 (eb.off : Int)] 27)).cell? ⟨wr.heap.size, 3, none⟩ = some (.string ea.dg) := hbb.cell 3
          clear hat heb hje hba hbb
          have next : ¬ sameP kind ea eb → Hid (Off [] w1 (wp.alloc (.cells #[.int .u64 (eb.ver : Int), .int .u64 (eb.codec : Int), .int .u64 (eb.code : Int), .string eb.dg, .int .u64 (eb.off : Int)] 27)) ∧ ∀ (q : Nat) (hq : q < es.length), q < j + 1 → ¬ sameP kind ea es[q]) := fun hs => Lib.hid ⟨hh2.out.1.alloc _, fun q hq hqj => by
            by_cases hq2 : q = j
            · obtain ⟨h1, h2⟩ := HEB.out
              subst hq2
              rw [← h2]; exact hs
            · exact hh2.out.2 q hq (by omega)⟩
          have NEXT := Lib.hid next
          have BAD : Hid (sameP kind ea eb → BV = false) := Lib.hid (fun hs => by
            rw [HBV.out]
            obtain ⟨h1, h2⟩ := HEB.out
            obtain ⟨h3, h4⟩ := HEA.out
            exact onceB_f (fun h => h i j h3 hlt2 (by rw [← h2, ← h4]; exact hs)))
          clear next
          by_cases hdg : ea.dg = eb.dg
          · have hdt : ea.dg.toList = eb.dg.toList := by rw [hdg]
            have HDG := Lib.hid hdg
            clear hdg
            by_cases hk : kind = 1024
            · have hkz : (kind : Int) = 1024 := by omega
              have HK := Lib.hid hk
              clear hk
              go_wp2_with fail
              go_ret
              exact ⟨by rw [BAD.out ⟨HDG.out, Or.inl HK.out⟩]; rfl, HOA.out.then (hh2.out.1.alloc _) (fun x hx => Or.inl hx)⟩
            · have hkz : ((kind : Int) == 1024) = false := beq_eq_false_iff_ne.2 (by omega)
              have HK := Lib.hid hk
              clear hk
              by_cases hcd : ea.code = eb.code
              · have hcz : ((ea.code : Int) == (eb.code : Int)) = true := beq_iff_eq.2 (by omega)
                have HC := Lib.hid hcd
                clear hcd
                go_wp2_with fail
                go_ret
                exact ⟨by rw [BAD.out ⟨HDG.out, Or.inr HC.out⟩]; rfl, HOA.out.then (hh2.out.1.alloc _) (fun x hx => Or.inl hx)⟩
              · have hcz : ((ea.code : Int) == (eb.code : Int)) = false := beq_eq_false_iff_ne.2 (by omega)
                have HC := Lib.hid hcd
                clear hcd
                go_wp2_with fail
                go_roundg (i - (j + 1))
                case measure => omega
                case rel => exact ⟨j + 1, rfl, by omega, by omega, NEXT.out (fun h => h.2.elim HK.out HC.out)⟩
          · have hdt : ¬ ea.dg.toList = eb.dg.toList := dg_ne hdg
            have HDG := Lib.hid hdg
            clear hdg
            go_wp2_with fail
            go_roundg (i - (j + 1))
            case measure => omega
            case rel => exact ⟨j + 1, rfl, by omega, by omega, NEXT.out (fun h => HDG.out h.1)⟩
        · obtain rfl : j = i := by omega
          clear hlt2 hkx2
          go_wp2_with fail
          go_roundg (n - (j + 1))
          case measure => omega
          case rel =>
            refine ⟨j + 1, rfl, by omega, by omega, Lib.hid ⟨HOA.out.then hh2.out.1 (fun x hx => Or.inl hx), fun p q hp hq hpj => ?_⟩⟩
            by_cases hpe : p = j
            · subst hpe
              obtain ⟨h3, h4⟩ := HEA.out
              rw [← h4]
              exact hh2.out.2 q (by omega) hq
            · exact hh.out.2 p q hp hq (by omega)
    · obtain rfl : n = i := by omega
      go_wp2_with fail
      go_ret
      obtain ⟨h1, h2⟩ := hh.out
      exact ⟨by rw [HBV.out, onceB_t (fun p q hp hq => h2 p q hp hq (by have := HN.out; omega))]; rfl, h1⟩
end Go.Proofs.YtcgggcjmmphldaaGreatDoor
