/-
  spec.Coded: the entries of one hash function.
  The closure of spec.ByDigest: by digests, then by offsets.
  The library's sort over a value with methods: what the caller's row must give; insertion, reversal, the heap.
  (No condition beyond those that each theorem states.)
-/
import Derived.Test.YtkdbjocchponfaaGreatDoorM06
import Derived.Test.YtkdbjocchponfaaGreatDoorM05
import Derived.Deep.RegionHeld3
import Derived.WalkLawsBesides
import Derived.Test.YtkdbjocchponfaaGreatDoorProg
import Derived.Test.YtkdbjocchponfaaGreatDoorM01
import Derived.Sort.AssemblyPlain
import Derived.Sort.WalkB12
import Derived.Sort.WalkB2
import Derived.Sort.WalkB3
import Derived.Sort.WalkA
import Derived.Shelf.Abstract
import Derived.Deep.LoopGhost
import Derived.LoopTactic
import Derived.IntWalk
namespace Go.Proofs.YtkdbjocchponfaaGreatDoor
open Go.RowKit

/-- A row of entries over a block of its own (or none). -/
def RowE (w : World) (B : Nat) (v : Value) (es : List Ent) : Prop := w.ownsRow B 49 5 v es.length (entsC es)
theorem RowE.off {w w' : World} {B : Nat} {v : Value} {es : List Ent} {S : List Nat} (h : RowE w B v es) (ho : Off S w w') (hS : ∀ x, x ∈ ob v → x ∉ S) : RowE w' B v es := by
  refine ⟨h.1, ?_⟩
  rcases id h.2 with hn | ⟨g, cap, cur, rfl, hg, hgg, rest⟩
  · exact .inl hn
  · exact .inr ⟨g, cap, cur, rfl, hg, by rw [ho.block g (Array.getElem?_eq_some_iff.1 hgg).1 (hS g (by simp [ob, Value.ownBlock]))]; exact hgg, rest⟩
theorem RowE.base {w : World} {B : Nat} {v : Value} {es : List Ent} (h : RowE w B v es) : ∀ x, x ∈ ob v → B ≤ x := fun x hx => by
  rcases id h.2 with ⟨rfl, _⟩ | ⟨g, cap, cur, rfl, hg, hgg, rest⟩
  · simp [ob, Value.ownBlock] at hx
  · simp [ob, Value.ownBlock] at hx
    omega
theorem RowE.ents {w : World} {B : Nat} {v : Value} {es : List Ent} (h : RowE w B v es) : ∃ A ib c, v = .slice A es.length c ∧ (A = none → es.length = 0 ∧ c = 0) ∧ EntsAt w A ib 0 es := by
  rcases id h.2 with ⟨rfl, h0⟩ | ⟨g, cap, cur, rfl, hg, hgg, hnc, hcm, hcs, htake⟩
  · have h0' : es.length = 0 := h0
    refine ⟨none, 0, 0, by rw [h0'], fun _ => ⟨h0', rfl⟩, ⟨fun h => by omega, fun i hi => by omega⟩⟩
  · refine ⟨some ⟨g, 0, none⟩, g, cap, rfl, (fun h => by cases h), EntsAt.of_blk (sp := cur.toList.drop (es.length * 5)) (t := 49) ?_⟩
    have hcur : cur = (entsC es ++ cur.toList.drop (es.length * 5)).toArray := by
      have := List.take_append_drop (es.length * 5) cur.toList
      rw [htake] at this
      rw [this]
    show _ = _
    rw [← hcur]
    exact hgg
theorem Tryz.infoEnt2 : (Tryz.prog.info? 49).map (fun i => (i.zero, i.size, i.bytes)) = some (some (.agg #[.int .u64 0, .int .u64 0, .int .u64 0, .string ByteArray.empty, .int .u64 0]), 5, 48) := by kernel_rfl
theorem new_ent (w : World) (e : Ent) (t : TypeId) : ∀ (j : Nat) (x : Value), (entC e)[j]? = some x → (w.alloc (.cells #[.int .u64 (e.ver : Int), .int .u64 (e.codec : Int), .int .u64 (e.code : Int), .string e.dg, .int .u64 (e.off : Int)] t)).cell? ((⟨w.heap.size, 0, none⟩ : Addr).add j) = some x := fun j x hj => by
  have h := Blk.new w t #[.int .u64 (e.ver : Int), .int .u64 (e.codec : Int), .int .u64 (e.code : Int), .string e.dg, .int .u64 (e.off : Int)]
  rw [add_plain, Nat.zero_add, h.cell]
  simpa [entC] using hj
theorem entC_one (e : Ent) : ∀ u ∈ entC e, u.oneCell' = true := fun u he => by
  simp only [entC, List.mem_cons, List.not_mem_nil, or_false] at he
  rcases he with rfl | rfl | rfl | rfl | rfl <;> rfl
theorem entsC_snoc (es : List Ent) (e : Ent) : entsC (es ++ [e]) = entsC es ++ entC e := by simp [entsC]

set_option maxRecDepth 100000 in
set_option maxHeartbeats 4000000 in
theorem coded_any (es : List Ent) (A : Option Addr) (ib io c n code : Nat) (w : World) (hn : es.length = n) (hn2 : n ≤ 1000) (hat : EntsAt w A ib io es) (hib : 0 < es.length → ib < w.heap.size) :
    Calls Tryz.prog 48 #[.slice A n c, .int .u64 (code : Int)] w fun r w' => ∃ v, r = .returned v ∧ RowE w' w.heap.size v (es.filter fun e => e.code == code) ∧ Off [] w w' := by
  obtain ⟨i0, hi, hz0, hz1, hz2⟩ := info_parts Tryz.infoEnt2
  have HAT := Lib.hid hat
  have HIB := Lib.hid hib
  have HN := Lib.hid hn
  clear hat hib hn
  go_enter Tryz.func48, Tryz.ntmps48
  go_wp2_with fail
  go_loopg [5, 10] n (fun kx s5 s10 wr => ∃ j : Nat, s10 = .int .i64 (j : Int) ∧ j ≤ n ∧ n - j ≤ kx ∧ Hid (RowE wr w.heap.size s5 ((es.take j).filter fun e => e.code == code) ∧ Off [] w wr))
  case atStart => exact ⟨0, rfl, Nat.zero_le _, by omega, Lib.hid ⟨by rw [List.take_zero]; exact World.ownsRow_nil _ _ _ _, Off.refl _ _⟩⟩
  case round =>
    rename World => wr
    obtain ⟨j, rfl, hjn, hkx, hh⟩ := hrel
    obtain ⟨hR, hO⟩ := hh.out
    by_cases hlt : j < n
    · have hie : j < es.length := by have := HN.out; omega
      have hat := HAT.out.off hO (by simp)
      obtain ⟨hA, hib⟩ := hat.at_ (by omega)
      obtain ⟨c0, c1, c2, c3, c4⟩ := hat.cells j hie
      obtain ⟨ent, hent⟩ : ∃ ent, ent = es[j] := ⟨_, rfl⟩
      rw [← hent] at c0 c1 c2 c3 c4
      have HTK := Lib.hid (show es.take (j + 1) = es.take j ++ [ent] by rw [List.take_succ_eq_append_getElem hie, hent])
      obtain ⟨m, hm⟩ : ∃ m, m = ((es.take j).filter fun e => e.code == code).length := ⟨_, rfl⟩
      have hmj : m ≤ j := by rw [hm]; refine Nat.le_trans (List.length_filter_le _ _) ?_; rw [List.length_take]; omega
      have HR := Lib.hid hR
      have HO := Lib.hid hO
      have HM := Lib.hid hm
      have hown := (hR.off (S := []) (Off.alloc (Off.refl [] wr) (.cells #[.int .u64 (ent.ver : Int), .int .u64 (ent.codec : Int), .int .u64 (ent.code : Int), .string ent.dg, .int .u64 (ent.off : Int)] 49)) (fun x _ => by simp)).off (S := []) (Off.alloc (Off.refl [] _) (.cells #[.int .u64 (ent.ver : Int), .int .u64 (ent.codec : Int), .int .u64 (ent.code : Int), .string ent.dg, .int .u64 (ent.off : Int)] 49)) (fun x _ => by simp)
      have HOWN := Lib.hid (show World.ownsRow _ _ _ _ _ m _ by rw [hm]; exact hown)
      have HNEW := Lib.hid (new_ent (wr.alloc (.cells #[.int .u64 (ent.ver : Int), .int .u64 (ent.codec : Int), .int .u64 (ent.code : Int), .string ent.dg, .int .u64 (ent.off : Int)] 49)) ent 49)
      have HWS := Lib.hid hO.size
      clear hat hent hR hO hh hown hm
      subst hA
      by_cases hcd : ent.code = code
      · have hcq : ((ent.code : Int) == (code : Int)) = true := beq_iff_eq.2 (by rw [hcd])
        have HCD := Lib.hid hcd
        clear hcd
        go_wp2_with (first
          | (at_builtin
             refine wpList_append_own_at _ rfl _ _ 27 rfl w.heap.size 49 i0 _ 5 48 Tryz.underlying27 hi hz0 hz1 hz2 rfl (by decide) u5 m (entsC ((es.take j).filter fun e => e.code == code)) rfl HOWN.out ⟨wr.heap.size + 1, 0, none⟩ 1 1 (entC ent) rfl rfl (by have h := HNEW.out; simpa using h) (entC_one ent) (by unfold maxLen; omega) (by omega) (by have := HWS.out; simp; omega) ?_
             intro v5 w5 hown5 hgr hnil hat5
             have HO5 := Lib.hid hown5
             have HG5 := Lib.hid hgr
             clear hown5 hgr hnil hat5))
        go_roundg (n - (j + 1))
        case measure => omega
        case rel =>
          refine ⟨j + 1, rfl, by omega, by omega, Lib.hid ⟨?_, ?_⟩⟩
          · rw [HTK.out, List.filter_append, List.filter_cons_of_pos (by simpa using HCD.out), List.filter_nil]
            show World.ownsRow _ _ _ _ _ _ (entsC _)
            rw [entsC_snoc, List.length_append, ← HM.out]
            exact HO5.out
          · exact HO.out.then (((Off.alloc (Off.refl (ob u5) wr) _).alloc _).then (off_grown_own (S := ob u5) HG5.out (fun g hg => by simp [ob, hg])) (fun x hx => Or.inl hx)) (fun x hx => Or.inr (HR.out.base x hx))
      · have hcq : ((ent.code : Int) == (code : Int)) = false := beq_eq_false_iff_ne.2 (fun h => hcd (by omega))
        have HCD := Lib.hid hcd
        clear hcd
        go_wp2_with fail
        go_roundg (n - (j + 1))
        case measure => omega
        case rel =>
          refine ⟨j + 1, rfl, by omega, by omega, Lib.hid ⟨?_, HO.out.alloc _⟩⟩
          rw [HTK.out, List.filter_append, List.filter_cons_of_neg (by simpa using HCD.out), List.filter_nil, List.append_nil]
          exact HR.out.off (S := []) (Off.alloc (Off.refl [] wr) _) (fun x _ => by simp)
    · obtain rfl : n = j := by omega
      go_wp2_with fail
      go_ret
      rw [List.take_of_length_le (by have := HN.out; omega)] at hR
      exact ⟨_, rfl, hR, hO⟩
end Go.Proofs.YtkdbjocchponfaaGreatDoor
namespace Go.Proofs.YtkdbjocchponfaaGreatDoor
open Go.RowKit

/-- The order of spec.ByDigest. -/
def lessE (a b : Ent) : Bool := if (!a.dg.toList == b.dg.toList) = true then Op.bytesLess a.dg.toList b.dg.toList else decide (a.off < b.off)

set_option maxRecDepth 100000 in
set_option maxHeartbeats 1000000 in
theorem lessBD (W : World) (Bs blk c n i j : Nat) (a b : Ent) (hb : W.cell? ⟨Bs, 0, none⟩ = some (.slice (some ⟨blk, 0, none⟩) n c)) (hi : i < n) (hj : j < n)
    (ha0 : W.cell? ⟨blk, i * 5, none⟩ = some (.int .u64 (a.ver : Int))) (ha1 : W.cell? ⟨blk, i * 5 + 1, none⟩ = some (.int .u64 (a.codec : Int))) (ha2 : W.cell? ⟨blk, i * 5 + 2, none⟩ = some (.int .u64 (a.code : Int))) (ha3 : W.cell? ⟨blk, i * 5 + 3, none⟩ = some (.string a.dg)) (ha4 : W.cell? ⟨blk, i * 5 + 4, none⟩ = some (.int .u64 (a.off : Int)))
    (hb0 : W.cell? ⟨blk, j * 5, none⟩ = some (.int .u64 (b.ver : Int))) (hb1 : W.cell? ⟨blk, j * 5 + 1, none⟩ = some (.int .u64 (b.codec : Int))) (hb2 : W.cell? ⟨blk, j * 5 + 2, none⟩ = some (.int .u64 (b.code : Int))) (hb3 : W.cell? ⟨blk, j * 5 + 3, none⟩ = some (.string b.dg)) (hb4 : W.cell? ⟨blk, j * 5 + 4, none⟩ = some (.int .u64 (b.off : Int))) :
    Calls Tryz.prog 89 #[.int .i64 (i : Int), .int .i64 (j : Int), .pointer (some ⟨Bs, 0, none⟩)] W fun e w' => e = .returned (.bool (lessE a b)) ∧ Off [] W w' := by
  go_enter Tryz.func89, Tryz.ntmps89
  go_wp2_with fail
  go_region_held3 (fun w' => w'.cell? ⟨Bs, 0, none⟩ = some (.slice (some ⟨blk, 0, none⟩) n c) ∧ w'.cell? ⟨blk, i * 5, none⟩ = some (.int .u64 (a.ver : Int)) ∧ w'.cell? ⟨blk, i * 5 + 1, none⟩ = some (.int .u64 (a.codec : Int)) ∧ w'.cell? ⟨blk, i * 5 + 2, none⟩ = some (.int .u64 (a.code : Int)) ∧ w'.cell? ⟨blk, i * 5 + 3, none⟩ = some (.string a.dg) ∧ w'.cell? ⟨blk, i * 5 + 4, none⟩ = some (.int .u64 (a.off : Int)) ∧ w'.cell? ⟨blk, j * 5, none⟩ = some (.int .u64 (b.ver : Int)) ∧ w'.cell? ⟨blk, j * 5 + 1, none⟩ = some (.int .u64 (b.codec : Int)) ∧ w'.cell? ⟨blk, j * 5 + 2, none⟩ = some (.int .u64 (b.code : Int)) ∧ w'.cell? ⟨blk, j * 5 + 3, none⟩ = some (.string b.dg) ∧ w'.cell? ⟨blk, j * 5 + 4, none⟩ = some (.int .u64 (b.off : Int)))
    (first | exact ⟨hb, ha0, ha1, ha2, ha3, ha4, hb0, hb1, hb2, hb3, hb4⟩ | go_keep) (fail)
  all_goals go_wp2_with fail
  all_goals
    go_ret
    rename_i h
    refine ⟨by rw [lessE, h]; rfl, ?_⟩
    repeat' (first | exact Off.refl [] W | refine Off.alloc ?_ _ | refine Off.drew ?_)
end Go.Proofs.YtkdbjocchponfaaGreatDoor
namespace Go.Proofs.YtkdbjocchponfaaGreatDoor
open Go.RowKit Go.Sort Go.Lib

/-- The blocks from B on are as they were, and no more of them. -/
def Keep (B : Nat) (w w' : World) : Prop := w'.heap.size = w.heap.size ∧ ∀ k, B ≤ k → w'.heap[k]? = w.heap[k]?
theorem Keep.refl (B : Nat) (w : World) : Keep B w w := ⟨rfl, fun _ _ => rfl⟩
theorem Keep.trans {B : Nat} {a b c : World} (h : Keep B a b) (k : Keep B b c) : Keep B a c := ⟨k.1.trans h.1, fun i hi => (k.2 i hi).trans (h.2 i hi)⟩
theorem Keep.drew {B : Nat} {a b c : World} (h : Keep B a b) (k : Drew b c) : Keep B a c := by obtain ⟨n, rfl⟩ := k; exact h
theorem Keep.ofDrew {B : Nat} {a b : World} (k : Drew a b) : Keep B a b := (Keep.refl B a).drew k
theorem Keep.blk {B g : Nat} {a b : World} {t : TypeId} {cs : Array Value} (h : Keep B a b) (hb : Blk a g t cs) (hg : B ≤ g) : Blk b g t cs := (h.2 g hg).trans hb

/-- A row that sort.Sort can sort: 'At d w': in the world w it holds d. -/
structure Srt {α : Type} [Inhabited α] (T : TypeId) (rv : Value) (gl gs : Nat) (lt : α → α → Bool) (N B : Nat) (At : Array α → World → Prop) : Prop where
  size : ∀ {d : Array α} {w : World}, At d w → d.size = N
  room : ∀ {d : Array α} {w : World}, At d w → B ≤ w.heap.size
  fresh : ∀ {d : Array α} {w w' : World} {S : List Nat}, At d w → Off S w w' → (∀ x, x ∈ S → B ≤ x) → At d w'
  mLess : ∀ w, (method 513 T rv "Less").run Tryz.prog w = .ok (gl, rv) w
  mSwap : ∀ w, (method 513 T rv "Swap").run Tryz.prog w = .ok (gs, rv) w
  eLess : ∀ args w, (callFunc gl args).run Tryz.prog w = .ok (.enter gl args) w
  eSwap : ∀ args w, (callFunc gs args).run Tryz.prog w = .ok (.enter gs args) w
  less : ∀ {d : Array α} {w : World} (i j : Nat), At d w → i < N → j < N → Calls Tryz.prog gl #[rv, .int .i64 i, .int .i64 j] w fun e w' => e = .returned (.bool (lt d[i]! d[j]!)) ∧ Drew w w'
  swap : ∀ {d : Array α} {w : World} (i j : Nat), At d w → i < N → j < N → Calls Tryz.prog gs #[rv, .int .i64 i, .int .i64 j] w fun e w' => e = .returned (.tuple #[]) ∧ At (swp d i j) w' ∧ Keep B w w'

section
variable {α : Type} [Inhabited α] {T : TypeId} {rv : Value} {gl gs : Nat} {lt : α → α → Bool} {N B : Nat} {At : Array α → World → Prop}

theorem Srt.drew (S : Srt T rv gl gs lt N B At) {d : Array α} {w w' : World} (h : At d w) (k : Drew w w') : At d w' := S.fresh h (Off.ofDrew (S := []) k) (fun x hx => by simp at hx)
theorem Srt.lessD (S : Srt T rv gl gs lt N B At) {d : Array α} {w : World} (h : At d w) (i j : Nat) (hi : i < N) (hj : j < N) {v : Bool} (hv : lt d[i]! d[j]! = v) {x y : Int} (hx : (i : Int) = x) (hy : (j : Int) = y) :
    ∀ w', Drew w w' → Calls Tryz.prog gl #[rv, .int .i64 x, .int .i64 y] w' fun e w2 => e = .returned (.bool v) ∧ Drew w w2 := by
  subst hx hy hv
  exact fun w' k => (S.less i j (S.drew h k) hi hj).mono fun e w2 ⟨he, hd⟩ => ⟨he, k.trans hd⟩
theorem Srt.swapD (S : Srt T rv gl gs lt N B At) {d : Array α} {w : World} (h : At d w) (i j : Nat) (hi : i < N) (hj : j < N) {x y : Int} (hx : (i : Int) = x) (hy : (j : Int) = y) :
    ∀ w', Drew w w' → Calls Tryz.prog gs #[rv, .int .i64 x, .int .i64 y] w' fun e w2 => e = .returned (.tuple #[]) ∧ At (swp d i j) w2 ∧ Keep B w w2 := by
  subst hx hy
  exact fun w' k => (S.swap i j (S.drew h k) hi hj).mono fun e w2 ⟨he, ha, hk⟩ => ⟨he, ha, (Keep.ofDrew k).trans hk⟩

set_option maxHeartbeats 2000000 in
set_option maxRecDepth 100000 in
theorem insertionSort_srt (S : Srt T rv gl gs lt N B At) (a b : Nat) (d : Array α) (w : World) (hA : At d w) (hab : a ≤ b) (hb : b ≤ N) (hN : N < 4611686018427387904) :
    Calls Tryz.prog 239 #[.iface T rv, .int .i64 a, .int .i64 b] w fun e w' => e = .returned (.tuple #[]) ∧ At (insertionSort lt d a b) w' := by
  have mL := S.mLess; have mS := S.mSwap; have eL := S.eLess; have eS := S.eSwap
  go_enter Tryz.func239, Tryz.ntmps239
  go_wp2
  go_loopw [6] (fun vi wr => ∃ (i : Nat) (dk : Array α), vi = .int .i64 i ∧ a < i ∧ i ≤ b + 1 ∧ At dk wr ∧ Hid (insOuter lt a b i dk = insOuter lt a b (a + 1) d)) (fun vi _ => b + 1 - (intOf vi).toNat)
  case atStart => exact ⟨a + 1, d, by go_num, by omega, by omega, hA, rfl⟩
  case round =>
    clear hA
    obtain ⟨i, dk, rfl, hai, hib, hA, HO⟩ := hrel
    go_wp2
    · -- the inner loop
      go_loopw [7] (fun vj wr2 => ∃ (j : Nat) (dj : Array α), vj = .int .i64 j ∧ a ≤ j ∧ j ≤ i ∧ At dj wr2 ∧ Hid (insInner lt a j dj = insInner lt a i dk)) (fun vj _ => (intOf vj).toNat)
      case atStart => exact ⟨i, dk, rfl, by omega, Nat.le_refl _, hA, rfl⟩
      case round =>
        clear hA
        obtain ⟨j, dj, rfl, haj, hji, hA, HI⟩ := hrel
        have hlt : i < b := by assumption
        have out : (j ≤ a ∨ lt dj[j]! dj[j - 1]! = false) → ∀ W, At dj W → ∃ i' dk', Value.int .i64 ((i : Int) + 1) = .int .i64 (i' : Nat) ∧ a < i' ∧ i' ≤ b + 1 ∧ At dk' W ∧ Hid (insOuter lt a b i' dk' = insOuter lt a b (a + 1) d) := fun hs W hW =>
          ⟨i + 1, dj, by go_num, by omega, by omega, hW, by show _ = _; rw [← HO.out, insOuter_go _ _ _ _ _ hlt, ← HI.out, insInner_stop _ _ _ _ hs]⟩
        have OUT : Hid _ := out
        clear out
        by_cases hja : a < j
        · have hsw := S.swapD hA j (j - 1) (by omega) (by omega) rfl (show ((j - 1 : Nat) : Int) = (j : Int) - 1 by omega)
          cases hlv : lt dj[j]! dj[j - 1]! with
          | true =>
            have hl := S.lessD hA j (j - 1) (by omega) (by omega) hlv rfl (show ((j - 1 : Nat) : Int) = (j : Int) - 1 by omega)
            go_wp2_with (first
              | (go_at_fn gl; refine (hl _ (Drew.refl _)).mono ?_; rintro e w' ⟨rfl, hD⟩)
              | (go_at_fn gs; refine (hsw _ hD).mono ?_; rintro e w' ⟨rfl, hA2, _⟩))
            go_roundw
            case rel =>
              (repeat apply Exists.intro)
              exact ⟨⟨j - 1, swp dj j (j - 1), by congr 1 <;> omega, by omega, by omega, hA2, by show _ = _; rw [← HI.out, insInner_go lt a j dj hja hlv]⟩, by rw [decide_eq_true hlt, show ((j - 1 : Nat) : Int) = (j : Int) - 1 by omega]⟩
            case measure => simp [intOf]; omega
          | false =>
            have hl := S.lessD hA j (j - 1) (by omega) (by omega) hlv rfl (show ((j - 1 : Nat) : Int) = (j : Int) - 1 by omega)
            go_wp2_with (go_at_fn gl; refine (hl _ (Drew.refl _)).mono ?_; rintro e w' ⟨rfl, hD⟩)
            go_roundw
            case rel => exact OUT.out (Or.inr hlv) _ (S.drew hA hD)
            case measure => simp [intOf]; omega
        · go_wp2
          go_roundw
          case rel => exact OUT.out (Or.inl (by omega)) _ hA
          case measure => simp [intOf]; omega
    · have hge : ¬ i < b := by assumption
      go_end0
      exact ⟨rfl, by unfold insertionSort; rw [← HO.out, insOuter_stop _ _ _ _ _ hge]; exact hA⟩

set_option maxHeartbeats 1600000 in
set_option maxRecDepth 1000000 in
theorem reverseRange_srt (S : Srt T rv gl gs lt N B At) (a b : Nat) (d : Array α) (w : World) (hA : At d w) (hab : a ≤ b) (hb : b ≤ N) (hN : N < 4611686018427387904) :
    Calls Tryz.prog 243 #[.iface T rv, .int .i64 a, .int .i64 b] w fun e w' => e = .returned (.tuple #[]) ∧ At (reverseRange d a b) w' := by
  have mS := S.mSwap; have eS := S.eSwap
  go_enter Tryz.func243, Tryz.ntmps243
  go_wp2
  go_loopg [6, 7] (b - a) (fun k s6 s7 wr => ∃ (i jn : Nat) (jz : Int) (dk : Array α), s6 = .int .i64 i ∧ s7 = .int .i64 jz ∧ ((i : Int) < jz → jz = jn ∧ jn < N) ∧ (¬ (i : Int) < jz → ¬ i < jn) ∧ jn - i ≤ k ∧
    At dk wr ∧ Hid (reverseLoop i jn dk = reverseLoop a (b - 1) d))
  case atStart => exact ⟨a, b - 1, (b : Int) - 1, d, rfl, rfl, fun h => ⟨by omega, by omega⟩, fun h => by omega, by omega, hA, rfl⟩
  case round =>
    clear hA
    obtain ⟨i, jn, jz, dk, rfl, rfl, h1, h2, hk, hA, HE⟩ := hrel
    by_cases hlt : (i : Int) < jz
    · obtain ⟨rfl, hjn⟩ := h1 hlt
      have hij : i < jn := by omega
      have hs := S.swapD hA i jn (by omega) (by omega) rfl rfl
      clear h1 h2
      go_wp2_with (go_at_fn gs; refine (hs _ (Drew.refl _)).mono ?_; rintro e w' ⟨rfl, hA2, _⟩)
      go_roundg (jn - 1 - (i + 1))
      case measure => omega
      case rel =>
        have heq := HE.out
        rw [reverseLoop, if_pos hij] at heq
        exact ⟨i + 1, jn - 1, (jn : Int) - 1, swp dk i jn, by simp, rfl, fun h => ⟨by omega, by omega⟩, fun h => by omega, Nat.le_refl _, hA2, heq⟩
    · have hnot := h2 hlt
      go_wp2
      go_end0
      refine ⟨rfl, ?_⟩
      have heq := HE.out
      rw [reverseLoop, if_neg hnot] at heq
      rw [reverseRange, ← heq]
      exact hA

set_option maxHeartbeats 4000000 in
set_option maxRecDepth 1000000 in
theorem siftDown_srt (S : Srt T rv gl gs lt N B At) (lo hi first : Nat) (d : Array α) (w : World) (hA : At d w) (hlo : lo ≤ hi) (hb : first + hi ≤ N) (hN : N < 4611686018427387904) :
    Calls Tryz.prog 257 #[.iface T rv, .int .i64 lo, .int .i64 hi, .int .i64 first] w fun e w' => e = .returned (.tuple #[]) ∧ At (siftDown lt hi first lo d) w' := by
  have mL := S.mLess; have mS := S.mSwap; have eL := S.eLess; have eS := S.eSwap
  go_enter Tryz.func257, Tryz.ntmps257
  go_wp2
  go_loopg [8] (hi - lo) (fun kx s8 wr => ∃ (root : Nat) (dk : Array α), s8 = .int .i64 root ∧ root ≤ hi ∧ hi - root ≤ kx ∧ At dk wr ∧ Hid (siftDown lt hi first root dk = siftDown lt hi first lo d))
  case atStart => exact ⟨lo, d, rfl, hlo, Nat.le_refl _, hA, rfl⟩
  case round =>
    clear hA
    obtain ⟨root, dk, rfl, hr, hkx, hA, HE⟩ := hrel
    by_cases h0 : hi ≤ 2 * root + 1
    · have h0z : (hi : Int) ≤ 2 * (root : Int) + 1 := by omega
      go_wp2
      go_end0
      refine ⟨rfl, ?_⟩
      rw [← HE.out, sd_end lt dk h0]
      exact hA
    · have h0z : ¬ ((hi : Int) ≤ 2 * (root : Int) + 1) := by omega
      by_cases h1 : 2 * root + 2 < hi
      · have h1z : 2 * (root : Int) + 1 + 1 < (hi : Int) := by omega
        cases hL : lt dk[first + (2 * root + 1)]! dk[first + (2 * root + 2)]! with
        | true =>
          have hl1 := S.lessD hA (first + (2 * root + 1)) (first + (2 * root + 2)) (by omega) (by omega) hL (show _ = (first : Int) + (2 * (root : Int) + 1) by omega) (show _ = (first : Int) + (2 * (root : Int) + 1) + 1 by omega)
          cases hG : lt dk[first + root]! dk[first + (2 * root + 2)]! with
          | true =>
            have hl2 := S.lessD hA (first + root) (first + (2 * root + 2)) (by omega) (by omega) hG (show _ = (first : Int) + (root : Int) by omega) (show _ = (first : Int) + (2 * (root : Int) + 1 + 1) by omega)
            have hs := S.swapD hA (first + root) (first + (2 * root + 2)) (by omega) (by omega) (show _ = (first : Int) + (root : Int) by omega) (show _ = (first : Int) + (2 * (root : Int) + 1 + 1) by omega)
            go_wp2_with (first | (go_at_fn gl; refine (hl1 _ (Drew.refl _)).mono ?_; rintro e w' ⟨rfl, D1⟩) | (go_at_fn gl; refine (hl2 _ D1).mono ?_; rintro e w' ⟨rfl, D2⟩) | (go_at_fn gs; refine (hs _ D2).mono ?_; rintro e w' ⟨rfl, hA3, _⟩))
            go_roundg (hi - (2 * root + 2))
            case measure => omega
            case rel => exact ⟨2 * root + 2, swp dk (first + root) (first + (2 * root + 2)), by go_num, by omega, Nat.le_refl _, hA3, (show Hid _ from by rw [← HE.out, sd_right_go lt dk h1 hL hG]; exact rfl)⟩
          | false =>
            have hl2 := S.lessD hA (first + root) (first + (2 * root + 2)) (by omega) (by omega) hG (show _ = (first : Int) + (root : Int) by omega) (show _ = (first : Int) + (2 * (root : Int) + 1 + 1) by omega)
            go_wp2_with (first | (go_at_fn gl; refine (hl1 _ (Drew.refl _)).mono ?_; rintro e w' ⟨rfl, D1⟩) | (go_at_fn gl; refine (hl2 _ D1).mono ?_; rintro e w' ⟨rfl, D2⟩))
            (try simp only [Exit.inBlock, Exit.then]); refine bodyPost_ret (results_none rfl _ _ _) rfl ?_
            refine ⟨rfl, ?_⟩
            rw [← HE.out, sd_right_stop lt dk h1 hL hG]
            exact S.drew hA D2
        | false =>
          have hl1 := S.lessD hA (first + (2 * root + 1)) (first + (2 * root + 2)) (by omega) (by omega) hL (show _ = (first : Int) + (2 * (root : Int) + 1) by omega) (show _ = (first : Int) + (2 * (root : Int) + 1) + 1 by omega)
          cases hG : lt dk[first + root]! dk[first + (2 * root + 1)]! with
          | true =>
            have hl2 := S.lessD hA (first + root) (first + (2 * root + 1)) (by omega) (by omega) hG (show _ = (first : Int) + (root : Int) by omega) (show _ = (first : Int) + (2 * (root : Int) + 1) by omega)
            have hs := S.swapD hA (first + root) (first + (2 * root + 1)) (by omega) (by omega) (show _ = (first : Int) + (root : Int) by omega) (show _ = (first : Int) + (2 * (root : Int) + 1) by omega)
            go_wp2_with (first | (go_at_fn gl; refine (hl1 _ (Drew.refl _)).mono ?_; rintro e w' ⟨rfl, D1⟩) | (go_at_fn gl; refine (hl2 _ D1).mono ?_; rintro e w' ⟨rfl, D2⟩) | (go_at_fn gs; refine (hs _ D2).mono ?_; rintro e w' ⟨rfl, hA3, _⟩))
            go_roundg (hi - (2 * root + 1))
            case measure => omega
            case rel => exact ⟨2 * root + 1, swp dk (first + root) (first + (2 * root + 1)), by go_num, by omega, Nat.le_refl _, hA3, (show Hid _ from by rw [← HE.out, sd_left_go lt dk (by omega) (fun _ => hL) hG]; exact rfl)⟩
          | false =>
            have hl2 := S.lessD hA (first + root) (first + (2 * root + 1)) (by omega) (by omega) hG (show _ = (first : Int) + (root : Int) by omega) (show _ = (first : Int) + (2 * (root : Int) + 1) by omega)
            go_wp2_with (first | (go_at_fn gl; refine (hl1 _ (Drew.refl _)).mono ?_; rintro e w' ⟨rfl, D1⟩) | (go_at_fn gl; refine (hl2 _ D1).mono ?_; rintro e w' ⟨rfl, D2⟩))
            (try simp only [Exit.inBlock, Exit.then]); refine bodyPost_ret (results_none rfl _ _ _) rfl ?_
            refine ⟨rfl, ?_⟩
            rw [← HE.out, sd_left_stop lt dk (by omega) (fun _ => hL) hG]
            exact S.drew hA D2
      · have h1z : ¬ (2 * (root : Int) + 1 + 1 < (hi : Int)) := by omega
        cases hG : lt dk[first + root]! dk[first + (2 * root + 1)]! with
        | true =>
          have hl2 := S.lessD hA (first + root) (first + (2 * root + 1)) (by omega) (by omega) hG (show _ = (first : Int) + (root : Int) by omega) (show _ = (first : Int) + (2 * (root : Int) + 1) by omega)
          have hs := S.swapD hA (first + root) (first + (2 * root + 1)) (by omega) (by omega) (show _ = (first : Int) + (root : Int) by omega) (show _ = (first : Int) + (2 * (root : Int) + 1) by omega)
          go_wp2_with (first | (go_at_fn gl; refine (hl2 _ (Drew.refl _)).mono ?_; rintro e w' ⟨rfl, D2⟩) | (go_at_fn gs; refine (hs _ D2).mono ?_; rintro e w' ⟨rfl, hA3, _⟩))
          go_roundg (hi - (2 * root + 1))
          case measure => omega
          case rel => exact ⟨2 * root + 1, swp dk (first + root) (first + (2 * root + 1)), by go_num, by omega, Nat.le_refl _, hA3, (show Hid _ from by rw [← HE.out, sd_left_go lt dk (by omega) (fun h => absurd h h1) hG]; exact rfl)⟩
        | false =>
          have hl2 := S.lessD hA (first + root) (first + (2 * root + 1)) (by omega) (by omega) hG (show _ = (first : Int) + (root : Int) by omega) (show _ = (first : Int) + (2 * (root : Int) + 1) by omega)
          go_wp2_with (first | (go_at_fn gl; refine (hl2 _ (Drew.refl _)).mono ?_; rintro e w' ⟨rfl, D2⟩))
          (try simp only [Exit.inBlock, Exit.then]); refine bodyPost_ret (results_none rfl _ _ _) rfl ?_
          refine ⟨rfl, ?_⟩
          rw [← HE.out, sd_left_stop lt dk (by omega) (fun h => absurd h h1) hG]
          exact S.drew hA D2

set_option maxHeartbeats 4000000 in
set_option maxRecDepth 1000000 in
theorem heapSort_srt (S : Srt T rv gl gs lt N B At) (a b : Nat) (d : Array α) (w : World) (hA : At d w) (hab : a ≤ b) (hb : b ≤ N) (hN : N < 4611686018427387904) :
    Calls Tryz.prog 240 #[.iface T rv, .int .i64 a, .int .i64 b] w fun e w' => e = .returned (.tuple #[]) ∧ At (heapSort lt d a b) w' := by
  have mL := S.mLess; have mS := S.mSwap; have eL := S.eLess; have eS := S.eSwap
  have ecast : ((b - a : Nat) : Int) = (b : Int) - (a : Int) := by omega
  go_enter Tryz.func240, Tryz.ntmps240
  go_wp2
  go_loopg [9] ((b - a - 1) / 2 + 1) (fun kx s9 wr => s9 = .int .i64 ((kx : Int) - 1) ∧ kx ≤ (b - a - 1) / 2 + 1 ∧ ∃ (dk : Array α), At dk wr ∧ Hid (heapBuild lt (b - a) a kx dk = heapBuild lt (b - a) a ((b - a - 1) / 2 + 1) d))
  case atStart => exact ⟨by rw [half_start hab], Nat.le_refl _, d, hA, rfl⟩
  case round =>
    clear hA
    obtain ⟨rfl, hkk, dk, hA, HE⟩ := hrel
    cases gk with
    | zero =>
      have hB : dk = heapBuild lt (b - a) a ((b - a - 1) / 2 + 1) d := HE.out
      have HB := Lib.hid hB
      clear HE hkk hB
      go_wp2
      go_loopg [10] (b - a) (fun kx s10 wr2 => s10 = .int .i64 ((kx : Int) - 1) ∧ kx ≤ b - a ∧ ∃ (dj : Array α), At dj wr2 ∧ Hid (heapPop lt a kx dj = heapPop lt a (b - a) dk))
      case atStart => exact ⟨by rw [ecast], Nat.le_refl _, dk, hA, rfl⟩
      case round =>
        clear hA
        obtain ⟨rfl, hkk, dj, hA, HE2⟩ := hrel
        cases gk with
        | zero =>
          go_wp2
          go_end0
          have e : dj = heapSort lt d a b := by rw [heapSort, ← HB.out, ← HE2.out]; rfl
          rw [← e]
          exact ⟨rfl, hA⟩
        | succ kx =>
          have hs := S.swapD hA a (a + kx) (by omega) (by omega) rfl (show _ = (a : Int) + (kx : Int) by omega)
          have hcall : ∀ w2, At (swp dj a (a + kx)) w2 → _ := fun w2 h2 => siftDown_srt S 0 kx a (swp dj a (a + kx)) w2 h2 (Nat.zero_le _) (by omega) hN
          have HC := Lib.hid hcall
          clear hcall
          go_wp2_with (first | (go_at_fn gs; refine (hs _ (Drew.refl _)).mono ?_; rintro e w' ⟨rfl, hA2, _⟩) | (go_at_call 257; refine (HC.out _ hA2).mono ?_; rintro e w1 ⟨rfl, hA3⟩))
          go_roundg kx
          case measure => omega
          case rel => exact ⟨by simp, by omega, siftDown lt kx a 0 (swp dj a (a + kx)), hA3, HE2⟩
    | succ kx =>
      have hcall := siftDown_srt S kx (b - a) a dk wr hA (by omega) (by omega) hN
      rw [ecast] at hcall
      go_wp2_with (go_at_call 257; refine hcall.mono ?_; rintro e w1 ⟨rfl, hA2⟩)
      go_roundg kx
      case measure => omega
      case rel => exact ⟨by simp, by omega, siftDown lt (b - a) a kx dk, hA2, HE⟩
end
end Go.Proofs.YtkdbjocchponfaaGreatDoor
