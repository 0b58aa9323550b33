/-
  spec.low: a number's bytes, the lowest first, behind a row of bytes.
  spec.Coded: the entries of one hash function.
  The closure of spec.ByDigest: by digests, then by offsets.
  (No condition beyond those that each theorem states.)
-/
import Derived.Test.YtcgggcjmmphldaaGreatDoorHa6
import Derived.Test.YtcgggcjmmphldaaGreatDoorHa1
import Derived.Test.YtcgggcjmmphldaaGreatDoorHa3
import Derived.Lib.Endian
import Derived.Test.YtcgggcjmmphldaaGreatDoorHa4
import Derived.Deep.RegionHeld3
import Derived.WalkLawsBesides
namespace Go.Proofs.YtcgggcjmmphldaaGreatDoor
open Go.RowKit

theorem leBytes_snoc : ∀ (k v : Nat), Lib.leBytes (k + 1) v = Lib.leBytes k v ++ [((v / 256 ^ k) % 256).toUInt8]
  | 0, v => by simp [Lib.leBytes]
  | k + 1, v => by
    have h := leBytes_snoc k (v / 256)
    rw [Lib.leBytes, h, Lib.leBytes, List.cons_append, Nat.div_div_eq_div_mul, show 256 * 256 ^ k = 256 ^ (k + 1) by rw [Nat.pow_succ, Nat.mul_comm]]

/-- A row of bytes over a block of its own (or none). -/
def Row8 (w : World) (B : Nat) (v : Value) (l : List UInt8) : Prop := w.ownsRow B 5 1 v l.length (Lib.byteCells l)
def ob (v : Value) : List Nat := v.ownBlock.toList
/-- What an append leaves: the old block, or a new one. -/
def Grew (w : World) (v v' : Value) : Prop := v'.ownBlock = v.ownBlock ∨ ∃ g, v'.ownBlock = some g ∧ w.heap.size ≤ g
theorem Grew.trans {w w' : World} {v v1 v2 : Value} (h : Grew w v v1) (k : Grew w' v1 v2) (hs : w.heap.size ≤ w'.heap.size) : Grew w v v2 := by
  rcases k with k | ⟨g, k1, k2⟩
  · rcases h with h | ⟨g, h1, h2⟩
    · exact Or.inl (k.trans h)
    · exact Or.inr ⟨g, k.trans h1, h2⟩
  · exact Or.inr ⟨g, k1, Nat.le_trans hs k2⟩
theorem Grew.off {w w' w'' : World} {v v' : Value} (h : Grew w v v') (ho : Off (ob v) w w') (k : Off (ob v') w' w'') : Off (ob v) w w'' := ho.then k (fun x hx => by
  unfold ob at hx ⊢
  rcases h with h | ⟨g, h1, h2⟩
  · rw [h] at hx; exact Or.inl hx
  · rw [h1] at hx; simp at hx; subst hx; exact Or.inr h2)
theorem Row8.off {w w' : World} {B : Nat} {v : Value} {l : List UInt8} {S : List Nat} (h : Row8 w B v l) (ho : Off S w w') (hS : ∀ x, x ∈ ob v → x ∉ S) : Row8 w' B v l := by
  refine ⟨h.1, ?_⟩
  rcases id h.2 with hn | ⟨g, cap, cur, rfl, hg, hgg, rest⟩
  · exact .inl hn
  · exact .inr ⟨g, cap, cur, rfl, hg, by rw [ho.block g (Array.getElem?_eq_some_iff.1 hgg).1 (hS g (by simp [ob, Value.ownBlock]))]; exact hgg, rest⟩

theorem new_one (w : World) (u : Value) (t : TypeId) : ∀ (j : Nat) (x : Value), ([u] : List Value)[j]? = some x → (w.alloc (.cells #[u] t)).cell? ((⟨w.heap.size, 0, none⟩ : Addr).add j) = some x := fun j x hj => by
  have h := Blk.new w t #[u]
  rw [add_plain, Nat.zero_add, h.cell]
  simpa using hj

set_option maxRecDepth 100000 in
set_option maxHeartbeats 2000000 in
theorem low_any (w : World) (B n size : Nat) (v : Value) (l : List UInt8) (hv : Row8 w B v l) (_hn : n < 18446744073709551616) (hs : size ≤ 8) (hl : l.length ≤ 100000000) (hB : B ≤ w.heap.size) :
    Calls Tryz.prog 49 #[v, .int .u64 (n : Int), .int .i64 (size : Int)] w fun r w' => ∃ v', r = .returned v' ∧ Row8 w' B v' (l ++ Lib.leBytes size n) ∧ Off (ob v) w w' ∧ Grew w v v' := by
  obtain ⟨i0, hi, hz0, hz1, hz2⟩ := info_parts Tryz.infoByte
  have HV := Lib.hid hv
  clear hv
  go_enter Tryz.func49, Tryz.ntmps49
  go_wp2_with fail
  go_loopg [0, 7] size (fun kx s0 s7 wr => ∃ j : Nat, s7 = .int .i64 (j : Int) ∧ j ≤ size ∧ size - j ≤ kx ∧ Hid (Row8 wr B s0 (l ++ Lib.leBytes j n) ∧ Off (ob v) w wr ∧ Grew w v s0))
  case atStart => exact ⟨0, rfl, Nat.zero_le _, by omega, Lib.hid ⟨by rw [Lib.leBytes, List.append_nil]; exact HV.out, Off.refl _ _, Or.inl rfl⟩⟩
  case round =>
    rename World => wr
    obtain ⟨j, rfl, hjs, hkx, hh⟩ := hrel
    by_cases hlt : j < size
    · obtain ⟨h1, h2, h3⟩ := hh.out
      have hlen : (l ++ Lib.leBytes j n).length = l.length + j := by rw [List.length_append, Lib.leBytes_length]
      have hown : (wr.alloc (.cells #[.int .u8 ((n : Int) / 2 ^ (8 * j) % 256)] 5)).ownsRow B 5 1 u0 (l.length + j) (Lib.byteCells (l ++ Lib.leBytes j n)) := by
        rw [← hlen]
        exact h1.off (S := []) (Off.alloc (Off.refl [] wr) _) (fun x _ => by simp)
      have HOWN := Lib.hid hown
      have H1 := Lib.hid h1
      have H2 := Lib.hid h2
      have H3 := Lib.hid h3
      have HB := Lib.hid (Nat.le_trans hB h2.size)
      clear hlen hown h1 h2 h3 hh
      go_wp2_with (first
        | (at_builtin
           refine wpList_append_own_at _ rfl _ _ 46 rfl B 5 i0 _ 1 1 Tryz.underlying46 hi hz0 hz1 hz2 rfl (by decide) u0 (l.length + j) (Lib.byteCells (l ++ Lib.leBytes j n)) rfl HOWN.out ⟨wr.heap.size, 0, none⟩ 1 1 [.int .u8 ((n : Int) / 2 ^ (8 * j) % 256)] rfl rfl (new_one wr _ _) (fun u hu => by simp at hu; subst hu; rfl) (by unfold maxLen; omega) (by omega) (by have := HB.out; simp; omega) ?_
           intro v5 w5 hown5 hgr hnil hat
           have HO5 := Lib.hid hown5
           have HG5 := Lib.hid hgr
           have HA5 := Lib.hid hat
           clear hown5 hgr hnil hat))
      go_roundg (size - (j + 1))
      case measure => omega
      case rel =>
        have hoff : Off (ob u0) wr w5 := (Off.alloc (Off.refl (ob u0) wr) _).then (off_grown_own (S := ob u0) HG5.out (fun g hg => by simp [ob, hg])) (fun x hx => Or.inl hx)
        have hgw : Grew wr u0 v5 := by
          rcases HA5.out with h | h
          · exact Or.inl h
          · exact Or.inr ⟨_, h, by simp⟩
        have hb : ((((n / 256 ^ j) % 256).toUInt8.toNat : Nat) : Int) = (n : Int) / 2 ^ (8 * j) % 256 := by
          have e : (256 : Nat) ^ j = 2 ^ (8 * j) := by rw [show (256 : Nat) = 2 ^ 8 from rfl, ← Nat.pow_mul]
          rw [e, Nat.toUInt8_eq, UInt8.toNat_ofNat', Nat.mod_mod]
          push_cast
          rfl
        refine ⟨j + 1, rfl, by omega, by omega, Lib.hid ⟨?_, H3.out.off H2.out hoff, H3.out.trans hgw H2.out.size⟩⟩
        have h6 := HO5.out
        show w5.ownsRow B _ 1 v5 (l ++ Lib.leBytes (j + 1) n).length _
        rw [leBytes_snoc, ← List.append_assoc, List.length_append, List.length_append, Lib.leBytes_length]
        have e2 : Lib.byteCells (l ++ Lib.leBytes j n ++ [((n / 256 ^ j) % 256).toUInt8]) = Lib.byteCells (l ++ Lib.leBytes j n) ++ [.int .u8 ((n : Int) / 2 ^ (8 * j) % 256)] := by
          rw [← hb]; simp [Lib.byteCells]
        rw [e2]
        exact h6
    · obtain rfl : size = j := by omega
      go_wp2_with fail
      go_ret
      obtain ⟨h1, h2, h3⟩ := hh.out
      exact ⟨_, rfl, h1, h2, h3⟩
end Go.Proofs.YtcgggcjmmphldaaGreatDoor
namespace Go.Proofs.YtcgggcjmmphldaaGreatDoor
open Go.RowKit

/-- A row of entries over a block of its own (or none). -/
def RowE (w : World) (B : Nat) (v : Value) (es : List Ent) : Prop := w.ownsRow B 27 5 v es.length (entsC es)
theorem RowE.off {w w' : World} {B : Nat} {v : Value} {es : List Ent} {S : List Nat} (h : RowE w B v es) (ho : Off S w w') (hS : ∀ x, x ∈ ob v → x ∉ S) : RowE w' B v es := by
  refine ⟨h.1, ?_⟩
  rcases id h.2 with hn | ⟨g, cap, cur, rfl, hg, hgg, rest⟩
  · exact .inl hn
  · exact .inr ⟨g, cap, cur, rfl, hg, by rw [ho.block g (Array.getElem?_eq_some_iff.1 hgg).1 (hS g (by simp [ob, Value.ownBlock]))]; exact hgg, rest⟩
theorem RowE.base {w : World} {B : Nat} {v : Value} {es : List Ent} (h : RowE w B v es) : ∀ x, x ∈ ob v → B ≤ x := fun x hx => by
  rcases id h.2 with ⟨rfl, _⟩ | ⟨g, cap, cur, rfl, hg, hgg, rest⟩
  · simp [ob, Value.ownBlock] at hx
  · simp [ob, Value.ownBlock] at hx
    omega
theorem RowE.ents {w : World} {B : Nat} {v : Value} {es : List Ent} (h : RowE w B v es) : ∃ A ib c, v = .slice A es.length c ∧ (A = none → es.length = 0 ∧ c = 0) ∧ EntsAt w A ib 0 es := by
  rcases id h.2 with ⟨rfl, h0⟩ | ⟨g, cap, cur, rfl, hg, hgg, hnc, hcm, hcs, htake⟩
  · have h0' : es.length = 0 := h0
    refine ⟨none, 0, 0, by rw [h0'], fun _ => ⟨h0', rfl⟩, ⟨fun h => by omega, fun i hi => by omega⟩⟩
  · refine ⟨some ⟨g, 0, none⟩, g, cap, rfl, (fun h => by cases h), EntsAt.of_blk (sp := cur.toList.drop (es.length * 5)) (t := 27) ?_⟩
    have hcur : cur = (entsC es ++ cur.toList.drop (es.length * 5)).toArray := by
      have := List.take_append_drop (es.length * 5) cur.toList
      rw [htake] at this
      rw [this]
    show _ = _
    rw [← hcur]
    exact hgg
theorem Tryz.infoEnt2 : (Tryz.prog.info? 27).map (fun i => (i.zero, i.size, i.bytes)) = some (some (.agg #[.int .u64 0, .int .u64 0, .int .u64 0, .string ByteArray.empty, .int .u64 0]), 5, 48) := by kernel_rfl
theorem new_ent (w : World) (e : Ent) (t : TypeId) : ∀ (j : Nat) (x : Value), (entC e)[j]? = some x → (w.alloc (.cells #[.int .u64 (e.ver : Int), .int .u64 (e.codec : Int), .int .u64 (e.code : Int), .string e.dg, .int .u64 (e.off : Int)] t)).cell? ((⟨w.heap.size, 0, none⟩ : Addr).add j) = some x := fun j x hj => by
  have h := Blk.new w t #[.int .u64 (e.ver : Int), .int .u64 (e.codec : Int), .int .u64 (e.code : Int), .string e.dg, .int .u64 (e.off : Int)]
  rw [add_plain, Nat.zero_add, h.cell]
  simpa [entC] using hj
theorem entC_one (e : Ent) : ∀ u ∈ entC e, u.oneCell' = true := fun u he => by
  simp only [entC, List.mem_cons, List.not_mem_nil, or_false] at he
  rcases he with rfl | rfl | rfl | rfl | rfl <;> rfl
theorem entsC_snoc (es : List Ent) (e : Ent) : entsC (es ++ [e]) = entsC es ++ entC e := by simp [entsC]

set_option maxRecDepth 100000 in
set_option maxHeartbeats 4000000 in
theorem coded_any (es : List Ent) (A : Option Addr) (ib io c n code : Nat) (w : World) (hn : es.length = n) (hn2 : n ≤ 1000) (hat : EntsAt w A ib io es) (hib : 0 < es.length → ib < w.heap.size) :
    Calls Tryz.prog 32 #[.slice A n c, .int .u64 (code : Int)] w fun r w' => ∃ v, r = .returned v ∧ RowE w' w.heap.size v (es.filter fun e => e.code == code) ∧ Off [] w w' := by
  obtain ⟨i0, hi, hz0, hz1, hz2⟩ := info_parts Tryz.infoEnt2
  have HAT := Lib.hid hat
  have HIB := Lib.hid hib
  have HN := Lib.hid hn
  clear hat hib hn
  go_enter Tryz.func32, Tryz.ntmps32
  go_wp2_with fail
  go_loopg [5, 10] n (fun kx s5 s10 wr => ∃ j : Nat, s10 = .int .i64 (j : Int) ∧ j ≤ n ∧ n - j ≤ kx ∧ Hid (RowE wr w.heap.size s5 ((es.take j).filter fun e => e.code == code) ∧ Off [] w wr))
  case atStart => exact ⟨0, rfl, Nat.zero_le _, by omega, Lib.hid ⟨by rw [List.take_zero]; exact World.ownsRow_nil _ _ _ _, Off.refl _ _⟩⟩
  case round =>
    rename World => wr
    obtain ⟨j, rfl, hjn, hkx, hh⟩ := hrel
    obtain ⟨hR, hO⟩ := hh.out
    by_cases hlt : j < n
    · have hie : j < es.length := by have := HN.out; omega
      have hat := HAT.out.off hO (by simp)
      obtain ⟨hA, hib⟩ := hat.at_ (by omega)
      obtain ⟨c0, c1, c2, c3, c4⟩ := hat.cells j hie
      obtain ⟨ent, hent⟩ : ∃ ent, ent = es[j] := ⟨_, rfl⟩
      rw [← hent] at c0 c1 c2 c3 c4
      have HTK := Lib.hid (show es.take (j + 1) = es.take j ++ [ent] by rw [List.take_succ_eq_append_getElem hie, hent])
      obtain ⟨m, hm⟩ : ∃ m, m = ((es.take j).filter fun e => e.code == code).length := ⟨_, rfl⟩
      have hmj : m ≤ j := by rw [hm]; refine Nat.le_trans (List.length_filter_le _ _) ?_; rw [List.length_take]; omega
      have HR := Lib.hid hR
      have HO := Lib.hid hO
      have HM := Lib.hid hm
      have hown := (hR.off (S := []) (Off.alloc (Off.refl [] wr) (.cells #[.int .u64 (ent.ver : Int), .int .u64 (ent.codec : Int), .int .u64 (ent.code : Int), .string ent.dg, .int .u64 (ent.off : Int)] 27)) (fun x _ => by simp)).off (S := []) (Off.alloc (Off.refl [] _) (.cells #[.int .u64 (ent.ver : Int), .int .u64 (ent.codec : Int), .int .u64 (ent.code : Int), .string ent.dg, .int .u64 (ent.off : Int)] 27)) (fun x _ => by simp)
      have HOWN := Lib.hid (show World.ownsRow _ _ _ _ _ m _ by rw [hm]; exact hown)
      have HNEW := Lib.hid (new_ent (wr.alloc (.cells #[.int .u64 (ent.ver : Int), .int .u64 (ent.codec : Int), .int .u64 (ent.code : Int), .string ent.dg, .int .u64 (ent.off : Int)] 27)) ent 27)
      have HWS := Lib.hid hO.size
      clear hat hent hR hO hh hown hm
      subst hA
      by_cases hcd : ent.code = code
      · have hcq : ((ent.code : Int) == (code : Int)) = true := beq_iff_eq.2 (by rw [hcd])
        have HCD := Lib.hid hcd
        clear hcd
        go_wp2_with (first
          | (at_builtin
             refine wpList_append_own_at _ rfl _ _ 22 rfl w.heap.size 27 i0 _ 5 48 Tryz.underlying22 hi hz0 hz1 hz2 rfl (by decide) u5 m (entsC ((es.take j).filter fun e => e.code == code)) rfl HOWN.out ⟨wr.heap.size + 1, 0, none⟩ 1 1 (entC ent) rfl rfl (by have h := HNEW.out; simpa using h) (entC_one ent) (by unfold maxLen; omega) (by omega) (by have := HWS.out; simp; omega) ?_
             intro v5 w5 hown5 hgr hnil hat5
             have HO5 := Lib.hid hown5
             have HG5 := Lib.hid hgr
             clear hown5 hgr hnil hat5))
        go_roundg (n - (j + 1))
        case measure => omega
        case rel =>
          refine ⟨j + 1, rfl, by omega, by omega, Lib.hid ⟨?_, ?_⟩⟩
          · rw [HTK.out, List.filter_append, List.filter_cons_of_pos (by simpa using HCD.out), List.filter_nil]
            show World.ownsRow _ _ _ _ _ _ (entsC _)
            rw [entsC_snoc, List.length_append, ← HM.out]
            exact HO5.out
          · exact HO.out.then (((Off.alloc (Off.refl (ob u5) wr) _).alloc _).then (off_grown_own (S := ob u5) HG5.out (fun g hg => by simp [ob, hg])) (fun x hx => Or.inl hx)) (fun x hx => Or.inr (HR.out.base x hx))
      · have hcq : ((ent.code : Int) == (code : Int)) = false := beq_eq_false_iff_ne.2 (fun h => hcd (by omega))
        have HCD := Lib.hid hcd
        clear hcd
        go_wp2_with fail
        go_roundg (n - (j + 1))
        case measure => omega
        case rel =>
          refine ⟨j + 1, rfl, by omega, by omega, Lib.hid ⟨?_, HO.out.alloc _⟩⟩
          rw [HTK.out, List.filter_append, List.filter_cons_of_neg (by simpa using HCD.out), List.filter_nil, List.append_nil]
          exact HR.out.off (S := []) (Off.alloc (Off.refl [] wr) _) (fun x _ => by simp)
    · obtain rfl : n = j := by omega
      go_wp2_with fail
      go_ret
      rw [List.take_of_length_le (by have := HN.out; omega)] at hR
      exact ⟨_, rfl, hR, hO⟩
end Go.Proofs.YtcgggcjmmphldaaGreatDoor
namespace Go.Proofs.YtcgggcjmmphldaaGreatDoor
open Go.RowKit

/-- The order of spec.ByDigest. -/
def lessE (a b : Ent) : Bool := if (!a.dg.toList == b.dg.toList) = true then Op.bytesLess a.dg.toList b.dg.toList else decide (a.off < b.off)

set_option maxRecDepth 100000 in
set_option maxHeartbeats 1000000 in
theorem lessBD (W : World) (Bs blk c n i j : Nat) (a b : Ent) (hb : W.cell? ⟨Bs, 0, none⟩ = some (.slice (some ⟨blk, 0, none⟩) n c)) (hi : i < n) (hj : j < n)
    (ha0 : W.cell? ⟨blk, i * 5, none⟩ = some (.int .u64 (a.ver : Int))) (ha1 : W.cell? ⟨blk, i * 5 + 1, none⟩ = some (.int .u64 (a.codec : Int))) (ha2 : W.cell? ⟨blk, i * 5 + 2, none⟩ = some (.int .u64 (a.code : Int))) (ha3 : W.cell? ⟨blk, i * 5 + 3, none⟩ = some (.string a.dg)) (ha4 : W.cell? ⟨blk, i * 5 + 4, none⟩ = some (.int .u64 (a.off : Int)))
    (hb0 : W.cell? ⟨blk, j * 5, none⟩ = some (.int .u64 (b.ver : Int))) (hb1 : W.cell? ⟨blk, j * 5 + 1, none⟩ = some (.int .u64 (b.codec : Int))) (hb2 : W.cell? ⟨blk, j * 5 + 2, none⟩ = some (.int .u64 (b.code : Int))) (hb3 : W.cell? ⟨blk, j * 5 + 3, none⟩ = some (.string b.dg)) (hb4 : W.cell? ⟨blk, j * 5 + 4, none⟩ = some (.int .u64 (b.off : Int))) :
    Calls Tryz.prog 53 #[.int .i64 (i : Int), .int .i64 (j : Int), .pointer (some ⟨Bs, 0, none⟩)] W fun e w' => e = .returned (.bool (lessE a b)) ∧ Off [] W w' := by
  go_enter Tryz.func53, Tryz.ntmps53
  go_wp2_with fail
  go_region_held3 (fun w' => w'.cell? ⟨Bs, 0, none⟩ = some (.slice (some ⟨blk, 0, none⟩) n c) ∧ w'.cell? ⟨blk, i * 5, none⟩ = some (.int .u64 (a.ver : Int)) ∧ w'.cell? ⟨blk, i * 5 + 1, none⟩ = some (.int .u64 (a.codec : Int)) ∧ w'.cell? ⟨blk, i * 5 + 2, none⟩ = some (.int .u64 (a.code : Int)) ∧ w'.cell? ⟨blk, i * 5 + 3, none⟩ = some (.string a.dg) ∧ w'.cell? ⟨blk, i * 5 + 4, none⟩ = some (.int .u64 (a.off : Int)) ∧ w'.cell? ⟨blk, j * 5, none⟩ = some (.int .u64 (b.ver : Int)) ∧ w'.cell? ⟨blk, j * 5 + 1, none⟩ = some (.int .u64 (b.codec : Int)) ∧ w'.cell? ⟨blk, j * 5 + 2, none⟩ = some (.int .u64 (b.code : Int)) ∧ w'.cell? ⟨blk, j * 5 + 3, none⟩ = some (.string b.dg) ∧ w'.cell? ⟨blk, j * 5 + 4, none⟩ = some (.int .u64 (b.off : Int)))
    (first | exact ⟨hb, ha0, ha1, ha2, ha3, ha4, hb0, hb1, hb2, hb3, hb4⟩ | go_keep) (fail)
  all_goals go_wp2_with fail
  all_goals
    go_ret
    rename_i h
    refine ⟨by rw [lessE, h]; rfl, ?_⟩
    repeat' (first | exact Off.refl [] W | refine Off.alloc ?_ _ | refine Off.drew ?_)
end Go.Proofs.YtcgggcjmmphldaaGreatDoor
