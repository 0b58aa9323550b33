/-
  The library's sort over a value with methods: what the caller's row must give; insertion, reversal, the heap.
  The library's sort over a pair of functions (less, swap), where less may make memory: what the caller's row must give; insertion.
  An index's bytes, in plain words: rows, buckets of rows of one width, buckets by hash functions; what is looked up in them. No program is named here.
  Rows in the order of their digests: what stands from the first place on at which a digest is not less; buckets out of rows by width. No program is named here.
  A row of entries under spec.ByDigest's closure and the library's swap: what the sort over a pair of functions asks.
  The bytes of an index of entries of a kind (whatever order equal digests stand in); how much longer it is for an entry more; what is found in it. No program is named here.
  What an index of few entries has of lengths and numbers: the premises of ReadFrom; what is found. No program is named here.
  laws.ixSorted: a new row, sorted; laws.ixSame.
  sort.Slice with the closures of spec.Offsets and spec.Codes.
  (No condition beyond those that each theorem states.)
-/
import Derived.Test.YthmhnknkidkdlaaGreatDoorProg
import Derived.Test.YthmhnknkidkdlaaGreatDoorB02
import Derived.Sort.AssemblyPlain
import Derived.Sort.WalkB12
import Derived.Sort.WalkB2
import Derived.Sort.WalkB3
import Derived.Sort.WalkA
import Derived.Shelf.Abstract
import Derived.Deep.LoopGhost
import Derived.LoopTactic
import Derived.IntWalk
import Derived.Lib.Endian
import Derived.Lib.Varint
import Derived.Sort.LotA
import Derived.Test.YthmhnknkidkdlaaGreatDoorB13
import Derived.Lib.ReflectliteSwap
import Derived.Test.YthmhnknkidkdlaaGreatDoorB01
import Derived.Test.YthmhnknkidkdlaaGreatDoorB03
import Derived.Deep.QuietTactic
import Derived.Deep.RegionHeld3
import Derived.Lib.RowBridge
import Derived.Lib.SortBridge
import Derived.WalkKit
namespace Go.Proofs.YthmhnknkidkdlaaGreatDoor
open Go.RowKit Go.Sort Go.Lib

/-- The blocks from B on are as they were, and no more of them. -/
def Keep (B : Nat) (w w' : World) : Prop := w'.heap.size = w.heap.size ∧ ∀ k, B ≤ k → w'.heap[k]? = w.heap[k]?
theorem Keep.refl (B : Nat) (w : World) : Keep B w w := ⟨rfl, fun _ _ => rfl⟩
theorem Keep.trans {B : Nat} {a b c : World} (h : Keep B a b) (k : Keep B b c) : Keep B a c := ⟨k.1.trans h.1, fun i hi => (k.2 i hi).trans (h.2 i hi)⟩
theorem Keep.drew {B : Nat} {a b c : World} (h : Keep B a b) (k : Drew b c) : Keep B a c := by obtain ⟨n, rfl⟩ := k; exact h
theorem Keep.ofDrew {B : Nat} {a b : World} (k : Drew a b) : Keep B a b := (Keep.refl B a).drew k
theorem Keep.blk {B g : Nat} {a b : World} {t : TypeId} {cs : Array Value} (h : Keep B a b) (hb : Blk a g t cs) (hg : B ≤ g) : Blk b g t cs := (h.2 g hg).trans hb

/-- A row that sort.Sort can sort: 'At d w': in the world w it holds d. -/
structure Srt {α : Type} [Inhabited α] (T : TypeId) (rv : Value) (gl gs : Nat) (lt : α → α → Bool) (N B : Nat) (At : Array α → World → Prop) : Prop where
  size : ∀ {d : Array α} {w : World}, At d w → d.size = N
  room : ∀ {d : Array α} {w : World}, At d w → B ≤ w.heap.size
  fresh : ∀ {d : Array α} {w w' : World} {S : List Nat}, At d w → Off S w w' → (∀ x, x ∈ S → B ≤ x) → At d w'
  mLess : ∀ w, (method 480 T rv "Less").run Tryz.prog w = .ok (gl, rv) w
  mSwap : ∀ w, (method 480 T rv "Swap").run Tryz.prog w = .ok (gs, rv) w
  eLess : ∀ args w, (callFunc gl args).run Tryz.prog w = .ok (.enter gl args) w
  eSwap : ∀ args w, (callFunc gs args).run Tryz.prog w = .ok (.enter gs args) w
  less : ∀ {d : Array α} {w : World} (i j : Nat), At d w → i < N → j < N → Calls Tryz.prog gl #[rv, .int .i64 i, .int .i64 j] w fun e w' => e = .returned (.bool (lt d[i]! d[j]!)) ∧ Drew w w'
  swap : ∀ {d : Array α} {w : World} (i j : Nat), At d w → i < N → j < N → Calls Tryz.prog gs #[rv, .int .i64 i, .int .i64 j] w fun e w' => e = .returned (.tuple #[]) ∧ At (swp d i j) w' ∧ Keep B w w'

section
variable {α : Type} [Inhabited α] {T : TypeId} {rv : Value} {gl gs : Nat} {lt : α → α → Bool} {N B : Nat} {At : Array α → World → Prop}

theorem Srt.drew (S : Srt T rv gl gs lt N B At) {d : Array α} {w w' : World} (h : At d w) (k : Drew w w') : At d w' := S.fresh h (Off.ofDrew (S := []) k) (fun x hx => by simp at hx)
theorem Srt.lessD (S : Srt T rv gl gs lt N B At) {d : Array α} {w : World} (h : At d w) (i j : Nat) (hi : i < N) (hj : j < N) {v : Bool} (hv : lt d[i]! d[j]! = v) {x y : Int} (hx : (i : Int) = x) (hy : (j : Int) = y) :
    ∀ w', Drew w w' → Calls Tryz.prog gl #[rv, .int .i64 x, .int .i64 y] w' fun e w2 => e = .returned (.bool v) ∧ Drew w w2 := by
  subst hx hy hv
  exact fun w' k => (S.less i j (S.drew h k) hi hj).mono fun e w2 ⟨he, hd⟩ => ⟨he, k.trans hd⟩
theorem Srt.swapD (S : Srt T rv gl gs lt N B At) {d : Array α} {w : World} (h : At d w) (i j : Nat) (hi : i < N) (hj : j < N) {x y : Int} (hx : (i : Int) = x) (hy : (j : Int) = y) :
    ∀ w', Drew w w' → Calls Tryz.prog gs #[rv, .int .i64 x, .int .i64 y] w' fun e w2 => e = .returned (.tuple #[]) ∧ At (swp d i j) w2 ∧ Keep B w w2 := by
  subst hx hy
  exact fun w' k => (S.swap i j (S.drew h k) hi hj).mono fun e w2 ⟨he, ha, hk⟩ => ⟨he, ha, (Keep.ofDrew k).trans hk⟩

set_option maxHeartbeats 2000000 in
set_option maxRecDepth 100000 in
theorem insertionSort_srt (S : Srt T rv gl gs lt N B At) (a b : Nat) (d : Array α) (w : World) (hA : At d w) (hab : a ≤ b) (hb : b ≤ N) (hN : N < 4611686018427387904) :
    Calls Tryz.prog 192 #[.iface T rv, .int .i64 a, .int .i64 b] w fun e w' => e = .returned (.tuple #[]) ∧ At (insertionSort lt d a b) w' := by
  have mL := S.mLess; have mS := S.mSwap; have eL := S.eLess; have eS := S.eSwap
  go_enter Tryz.func192, Tryz.ntmps192
  go_wp2
  go_loopw [6] (fun vi wr => ∃ (i : Nat) (dk : Array α), vi = .int .i64 i ∧ a < i ∧ i ≤ b + 1 ∧ At dk wr ∧ Hid (insOuter lt a b i dk = insOuter lt a b (a + 1) d)) (fun vi _ => b + 1 - (intOf vi).toNat)
  case atStart => exact ⟨a + 1, d, by go_num, by omega, by omega, hA, rfl⟩
  case round =>
    clear hA
    obtain ⟨i, dk, rfl, hai, hib, hA, HO⟩ := hrel
    go_wp2
    · -- the inner loop
      go_loopw [7] (fun vj wr2 => ∃ (j : Nat) (dj : Array α), vj = .int .i64 j ∧ a ≤ j ∧ j ≤ i ∧ At dj wr2 ∧ Hid (insInner lt a j dj = insInner lt a i dk)) (fun vj _ => (intOf vj).toNat)
      case atStart => exact ⟨i, dk, rfl, by omega, Nat.le_refl _, hA, rfl⟩
      case round =>
        clear hA
        obtain ⟨j, dj, rfl, haj, hji, hA, HI⟩ := hrel
        have hlt : i < b := by assumption
        have out : (j ≤ a ∨ lt dj[j]! dj[j - 1]! = false) → ∀ W, At dj W → ∃ i' dk', Value.int .i64 ((i : Int) + 1) = .int .i64 (i' : Nat) ∧ a < i' ∧ i' ≤ b + 1 ∧ At dk' W ∧ Hid (insOuter lt a b i' dk' = insOuter lt a b (a + 1) d) := fun hs W hW =>
          ⟨i + 1, dj, by go_num, by omega, by omega, hW, by show _ = _; rw [← HO.out, insOuter_go _ _ _ _ _ hlt, ← HI.out, insInner_stop _ _ _ _ hs]⟩
        have OUT : Hid _ := out
        clear out
        by_cases hja : a < j
        · have hsw := S.swapD hA j (j - 1) (by omega) (by omega) rfl (show ((j - 1 : Nat) : Int) = (j : Int) - 1 by omega)
          cases hlv : lt dj[j]! dj[j - 1]! with
          | true =>
            have hl := S.lessD hA j (j - 1) (by omega) (by omega) hlv rfl (show ((j - 1 : Nat) : Int) = (j : Int) - 1 by omega)
            go_wp2_with (first
              | (go_at_fn gl; refine (hl _ (Drew.refl _)).mono ?_; rintro e w' ⟨rfl, hD⟩)
              | (go_at_fn gs; refine (hsw _ hD).mono ?_; rintro e w' ⟨rfl, hA2, _⟩))
            go_roundw
            case rel =>
              (repeat apply Exists.intro)
              exact ⟨⟨j - 1, swp dj j (j - 1), by congr 1 <;> omega, by omega, by omega, hA2, by show _ = _; rw [← HI.out, insInner_go lt a j dj hja hlv]⟩, by rw [decide_eq_true hlt, show ((j - 1 : Nat) : Int) = (j : Int) - 1 by omega]⟩
            case measure => simp [intOf]; omega
          | false =>
            have hl := S.lessD hA j (j - 1) (by omega) (by omega) hlv rfl (show ((j - 1 : Nat) : Int) = (j : Int) - 1 by omega)
            go_wp2_with (go_at_fn gl; refine (hl _ (Drew.refl _)).mono ?_; rintro e w' ⟨rfl, hD⟩)
            go_roundw
            case rel => exact OUT.out (Or.inr hlv) _ (S.drew hA hD)
            case measure => simp [intOf]; omega
        · go_wp2
          go_roundw
          case rel => exact OUT.out (Or.inl (by omega)) _ hA
          case measure => simp [intOf]; omega
    · have hge : ¬ i < b := by assumption
      go_end0
      exact ⟨rfl, by unfold insertionSort; rw [← HO.out, insOuter_stop _ _ _ _ _ hge]; exact hA⟩

set_option maxHeartbeats 1600000 in
set_option maxRecDepth 1000000 in
theorem reverseRange_srt (S : Srt T rv gl gs lt N B At) (a b : Nat) (d : Array α) (w : World) (hA : At d w) (hab : a ≤ b) (hb : b ≤ N) (hN : N < 4611686018427387904) :
    Calls Tryz.prog 196 #[.iface T rv, .int .i64 a, .int .i64 b] w fun e w' => e = .returned (.tuple #[]) ∧ At (reverseRange d a b) w' := by
  have mS := S.mSwap; have eS := S.eSwap
  go_enter Tryz.func196, Tryz.ntmps196
  go_wp2
  go_loopg [6, 7] (b - a) (fun k s6 s7 wr => ∃ (i jn : Nat) (jz : Int) (dk : Array α), s6 = .int .i64 i ∧ s7 = .int .i64 jz ∧ ((i : Int) < jz → jz = jn ∧ jn < N) ∧ (¬ (i : Int) < jz → ¬ i < jn) ∧ jn - i ≤ k ∧
    At dk wr ∧ Hid (reverseLoop i jn dk = reverseLoop a (b - 1) d))
  case atStart => exact ⟨a, b - 1, (b : Int) - 1, d, rfl, rfl, fun h => ⟨by omega, by omega⟩, fun h => by omega, by omega, hA, rfl⟩
  case round =>
    clear hA
    obtain ⟨i, jn, jz, dk, rfl, rfl, h1, h2, hk, hA, HE⟩ := hrel
    by_cases hlt : (i : Int) < jz
    · obtain ⟨rfl, hjn⟩ := h1 hlt
      have hij : i < jn := by omega
      have hs := S.swapD hA i jn (by omega) (by omega) rfl rfl
      clear h1 h2
      go_wp2_with (go_at_fn gs; refine (hs _ (Drew.refl _)).mono ?_; rintro e w' ⟨rfl, hA2, _⟩)
      go_roundg (jn - 1 - (i + 1))
      case measure => omega
      case rel =>
        have heq := HE.out
        rw [reverseLoop, if_pos hij] at heq
        exact ⟨i + 1, jn - 1, (jn : Int) - 1, swp dk i jn, by simp, rfl, fun h => ⟨by omega, by omega⟩, fun h => by omega, Nat.le_refl _, hA2, heq⟩
    · have hnot := h2 hlt
      go_wp2
      go_end0
      refine ⟨rfl, ?_⟩
      have heq := HE.out
      rw [reverseLoop, if_neg hnot] at heq
      rw [reverseRange, ← heq]
      exact hA

set_option maxHeartbeats 4000000 in
set_option maxRecDepth 1000000 in
theorem siftDown_srt (S : Srt T rv gl gs lt N B At) (lo hi first : Nat) (d : Array α) (w : World) (hA : At d w) (hlo : lo ≤ hi) (hb : first + hi ≤ N) (hN : N < 4611686018427387904) :
    Calls Tryz.prog 210 #[.iface T rv, .int .i64 lo, .int .i64 hi, .int .i64 first] w fun e w' => e = .returned (.tuple #[]) ∧ At (siftDown lt hi first lo d) w' := by
  have mL := S.mLess; have mS := S.mSwap; have eL := S.eLess; have eS := S.eSwap
  go_enter Tryz.func210, Tryz.ntmps210
  go_wp2
  go_loopg [8] (hi - lo) (fun kx s8 wr => ∃ (root : Nat) (dk : Array α), s8 = .int .i64 root ∧ root ≤ hi ∧ hi - root ≤ kx ∧ At dk wr ∧ Hid (siftDown lt hi first root dk = siftDown lt hi first lo d))
  case atStart => exact ⟨lo, d, rfl, hlo, Nat.le_refl _, hA, rfl⟩
  case round =>
    clear hA
    obtain ⟨root, dk, rfl, hr, hkx, hA, HE⟩ := hrel
    by_cases h0 : hi ≤ 2 * root + 1
    · have h0z : (hi : Int) ≤ 2 * (root : Int) + 1 := by omega
      go_wp2
      go_end0
      refine ⟨rfl, ?_⟩
      rw [← HE.out, sd_end lt dk h0]
      exact hA
    · have h0z : ¬ ((hi : Int) ≤ 2 * (root : Int) + 1) := by omega
      by_cases h1 : 2 * root + 2 < hi
      · have h1z : 2 * (root : Int) + 1 + 1 < (hi : Int) := by omega
        cases hL : lt dk[first + (2 * root + 1)]! dk[first + (2 * root + 2)]! with
        | true =>
          have hl1 := S.lessD hA (first + (2 * root + 1)) (first + (2 * root + 2)) (by omega) (by omega) hL (show _ = (first : Int) + (2 * (root : Int) + 1) by omega) (show _ = (first : Int) + (2 * (root : Int) + 1) + 1 by omega)
          cases hG : lt dk[first + root]! dk[first + (2 * root + 2)]! with
          | true =>
            have hl2 := S.lessD hA (first + root) (first + (2 * root + 2)) (by omega) (by omega) hG (show _ = (first : Int) + (root : Int) by omega) (show _ = (first : Int) + (2 * (root : Int) + 1 + 1) by omega)
            have hs := S.swapD hA (first + root) (first + (2 * root + 2)) (by omega) (by omega) (show _ = (first : Int) + (root : Int) by omega) (show _ = (first : Int) + (2 * (root : Int) + 1 + 1) by omega)
            go_wp2_with (first | (go_at_fn gl; refine (hl1 _ (Drew.refl _)).mono ?_; rintro e w' ⟨rfl, D1⟩) | (go_at_fn gl; refine (hl2 _ D1).mono ?_; rintro e w' ⟨rfl, D2⟩) | (go_at_fn gs; refine (hs _ D2).mono ?_; rintro e w' ⟨rfl, hA3, _⟩))
            go_roundg (hi - (2 * root + 2))
            case measure => omega
            case rel => exact ⟨2 * root + 2, swp dk (first + root) (first + (2 * root + 2)), by go_num, by omega, Nat.le_refl _, hA3, (show Hid _ from by rw [← HE.out, sd_right_go lt dk h1 hL hG]; exact rfl)⟩
          | false =>
            have hl2 := S.lessD hA (first + root) (first + (2 * root + 2)) (by omega) (by omega) hG (show _ = (first : Int) + (root : Int) by omega) (show _ = (first : Int) + (2 * (root : Int) + 1 + 1) by omega)
            go_wp2_with (first | (go_at_fn gl; refine (hl1 _ (Drew.refl _)).mono ?_; rintro e w' ⟨rfl, D1⟩) | (go_at_fn gl; refine (hl2 _ D1).mono ?_; rintro e w' ⟨rfl, D2⟩))
            (try simp only [Exit.inBlock, Exit.then]); refine bodyPost_ret (results_none rfl _ _ _) rfl ?_
            refine ⟨rfl, ?_⟩
            rw [← HE.out, sd_right_stop lt dk h1 hL hG]
            exact S.drew hA D2
        | false =>
          have hl1 := S.lessD hA (first + (2 * root + 1)) (first + (2 * root + 2)) (by omega) (by omega) hL (show _ = (first : Int) + (2 * (root : Int) + 1) by omega) (show _ = (first : Int) + (2 * (root : Int) + 1) + 1 by omega)
          cases hG : lt dk[first + root]! dk[first + (2 * root + 1)]! with
          | true =>
            have hl2 := S.lessD hA (first + root) (first + (2 * root + 1)) (by omega) (by omega) hG (show _ = (first : Int) + (root : Int) by omega) (show _ = (first : Int) + (2 * (root : Int) + 1) by omega)
            have hs := S.swapD hA (first + root) (first + (2 * root + 1)) (by omega) (by omega) (show _ = (first : Int) + (root : Int) by omega) (show _ = (first : Int) + (2 * (root : Int) + 1) by omega)
            go_wp2_with (first | (go_at_fn gl; refine (hl1 _ (Drew.refl _)).mono ?_; rintro e w' ⟨rfl, D1⟩) | (go_at_fn gl; refine (hl2 _ D1).mono ?_; rintro e w' ⟨rfl, D2⟩) | (go_at_fn gs; refine (hs _ D2).mono ?_; rintro e w' ⟨rfl, hA3, _⟩))
            go_roundg (hi - (2 * root + 1))
            case measure => omega
            case rel => exact ⟨2 * root + 1, swp dk (first + root) (first + (2 * root + 1)), by go_num, by omega, Nat.le_refl _, hA3, (show Hid _ from by rw [← HE.out, sd_left_go lt dk (by omega) (fun _ => hL) hG]; exact rfl)⟩
          | false =>
            have hl2 := S.lessD hA (first + root) (first + (2 * root + 1)) (by omega) (by omega) hG (show _ = (first : Int) + (root : Int) by omega) (show _ = (first : Int) + (2 * (root : Int) + 1) by omega)
            go_wp2_with (first | (go_at_fn gl; refine (hl1 _ (Drew.refl _)).mono ?_; rintro e w' ⟨rfl, D1⟩) | (go_at_fn gl; refine (hl2 _ D1).mono ?_; rintro e w' ⟨rfl, D2⟩))
            (try simp only [Exit.inBlock, Exit.then]); refine bodyPost_ret (results_none rfl _ _ _) rfl ?_
            refine ⟨rfl, ?_⟩
            rw [← HE.out, sd_left_stop lt dk (by omega) (fun _ => hL) hG]
            exact S.drew hA D2
      · have h1z : ¬ (2 * (root : Int) + 1 + 1 < (hi : Int)) := by omega
        cases hG : lt dk[first + root]! dk[first + (2 * root + 1)]! with
        | true =>
          have hl2 := S.lessD hA (first + root) (first + (2 * root + 1)) (by omega) (by omega) hG (show _ = (first : Int) + (root : Int) by omega) (show _ = (first : Int) + (2 * (root : Int) + 1) by omega)
          have hs := S.swapD hA (first + root) (first + (2 * root + 1)) (by omega) (by omega) (show _ = (first : Int) + (root : Int) by omega) (show _ = (first : Int) + (2 * (root : Int) + 1) by omega)
          go_wp2_with (first | (go_at_fn gl; refine (hl2 _ (Drew.refl _)).mono ?_; rintro e w' ⟨rfl, D2⟩) | (go_at_fn gs; refine (hs _ D2).mono ?_; rintro e w' ⟨rfl, hA3, _⟩))
          go_roundg (hi - (2 * root + 1))
          case measure => omega
          case rel => exact ⟨2 * root + 1, swp dk (first + root) (first + (2 * root + 1)), by go_num, by omega, Nat.le_refl _, hA3, (show Hid _ from by rw [← HE.out, sd_left_go lt dk (by omega) (fun h => absurd h h1) hG]; exact rfl)⟩
        | false =>
          have hl2 := S.lessD hA (first + root) (first + (2 * root + 1)) (by omega) (by omega) hG (show _ = (first : Int) + (root : Int) by omega) (show _ = (first : Int) + (2 * (root : Int) + 1) by omega)
          go_wp2_with (first | (go_at_fn gl; refine (hl2 _ (Drew.refl _)).mono ?_; rintro e w' ⟨rfl, D2⟩))
          (try simp only [Exit.inBlock, Exit.then]); refine bodyPost_ret (results_none rfl _ _ _) rfl ?_
          refine ⟨rfl, ?_⟩
          rw [← HE.out, sd_left_stop lt dk (by omega) (fun h => absurd h h1) hG]
          exact S.drew hA D2

set_option maxHeartbeats 4000000 in
set_option maxRecDepth 1000000 in
theorem heapSort_srt (S : Srt T rv gl gs lt N B At) (a b : Nat) (d : Array α) (w : World) (hA : At d w) (hab : a ≤ b) (hb : b ≤ N) (hN : N < 4611686018427387904) :
    Calls Tryz.prog 193 #[.iface T rv, .int .i64 a, .int .i64 b] w fun e w' => e = .returned (.tuple #[]) ∧ At (heapSort lt d a b) w' := by
  have mL := S.mLess; have mS := S.mSwap; have eL := S.eLess; have eS := S.eSwap
  have ecast : ((b - a : Nat) : Int) = (b : Int) - (a : Int) := by omega
  go_enter Tryz.func193, Tryz.ntmps193
  go_wp2
  go_loopg [9] ((b - a - 1) / 2 + 1) (fun kx s9 wr => s9 = .int .i64 ((kx : Int) - 1) ∧ kx ≤ (b - a - 1) / 2 + 1 ∧ ∃ (dk : Array α), At dk wr ∧ Hid (heapBuild lt (b - a) a kx dk = heapBuild lt (b - a) a ((b - a - 1) / 2 + 1) d))
  case atStart => exact ⟨by rw [half_start hab], Nat.le_refl _, d, hA, rfl⟩
  case round =>
    clear hA
    obtain ⟨rfl, hkk, dk, hA, HE⟩ := hrel
    cases gk with
    | zero =>
      have hB : dk = heapBuild lt (b - a) a ((b - a - 1) / 2 + 1) d := HE.out
      have HB := Lib.hid hB
      clear HE hkk hB
      go_wp2
      go_loopg [10] (b - a) (fun kx s10 wr2 => s10 = .int .i64 ((kx : Int) - 1) ∧ kx ≤ b - a ∧ ∃ (dj : Array α), At dj wr2 ∧ Hid (heapPop lt a kx dj = heapPop lt a (b - a) dk))
      case atStart => exact ⟨by rw [ecast], Nat.le_refl _, dk, hA, rfl⟩
      case round =>
        clear hA
        obtain ⟨rfl, hkk, dj, hA, HE2⟩ := hrel
        cases gk with
        | zero =>
          go_wp2
          go_end0
          have e : dj = heapSort lt d a b := by rw [heapSort, ← HB.out, ← HE2.out]; rfl
          rw [← e]
          exact ⟨rfl, hA⟩
        | succ kx =>
          have hs := S.swapD hA a (a + kx) (by omega) (by omega) rfl (show _ = (a : Int) + (kx : Int) by omega)
          have hcall : ∀ w2, At (swp dj a (a + kx)) w2 → _ := fun w2 h2 => siftDown_srt S 0 kx a (swp dj a (a + kx)) w2 h2 (Nat.zero_le _) (by omega) hN
          have HC := Lib.hid hcall
          clear hcall
          go_wp2_with (first | (go_at_fn gs; refine (hs _ (Drew.refl _)).mono ?_; rintro e w' ⟨rfl, hA2, _⟩) | (go_at_call 210; refine (HC.out _ hA2).mono ?_; rintro e w1 ⟨rfl, hA3⟩))
          go_roundg kx
          case measure => omega
          case rel => exact ⟨by simp, by omega, siftDown lt kx a 0 (swp dj a (a + kx)), hA3, HE2⟩
    | succ kx =>
      have hcall := siftDown_srt S kx (b - a) a dk wr hA (by omega) (by omega) hN
      rw [ecast] at hcall
      go_wp2_with (go_at_call 210; refine hcall.mono ?_; rintro e w1 ⟨rfl, hA2⟩)
      go_roundg kx
      case measure => omega
      case rel => exact ⟨by simp, by omega, siftDown lt (b - a) a kx dk, hA2, HE⟩
end
end Go.Proofs.YthmhnknkidkdlaaGreatDoor
namespace Go.Proofs.YthmhnknkidkdlaaGreatDoor
open Go.RowKit Go.Sort Go.Lib

section
variable {α : Type} [Inhabited α] {g gs : Nat} {lb sb : Array Value} {lt : α → α → Bool} {N B : Nat} {At : Array α → World → Prop}
end
end Go.Proofs.YthmhnknkidkdlaaGreatDoor
namespace Go.Proofs.YthmhnknkidkdlaaGreatDoor

/-- A row of an index: a digest and an offset. -/
structure Rw where
  d : List UInt8
  off : Nat
deriving DecidableEq, Inhabited

def rowB (r : Rw) : List UInt8 := r.d ++ Lib.leBytes 8 r.off
def rowsB (l : List Rw) : List UInt8 := l.flatMap rowB
/-- Rows of one width behind their head. -/
def bucketB (p : Nat × List Rw) : List UInt8 := Lib.leBytes 4 (p.1 + 8) ++ (Lib.leBytes 8 ((p.1 + 8) * p.2.length) ++ rowsB p.2)
def mwB (G : List (Nat × List Rw)) : List UInt8 := Lib.leBytes 4 G.length ++ G.flatMap bucketB
def codedB (p : Nat × List (Nat × List Rw)) : List UInt8 := Lib.leBytes 8 p.1 ++ mwB p.2
def mhiB (H : List (Nat × List (Nat × List Rw))) : List UInt8 := Lib.leBytes 4 H.length ++ H.flatMap codedB

theorem rowB_length (r : Rw) : (rowB r).length = r.d.length + 8 := by simp [rowB, Lib.leBytes_length]
theorem rowsB_length (l : List Rw) (n : Nat) (h : ∀ r, r ∈ l → r.d.length = n) : (rowsB l).length = (n + 8) * l.length := by
  induction l with
  | nil => rfl
  | cons a l ih =>
    have e := ih (fun r hr => h r (List.mem_cons_of_mem _ hr))
    simp only [rowsB, List.flatMap_cons, List.length_append, rowB_length, List.length_cons] at e ⊢
    rw [show (l.flatMap rowB).length = (n + 8) * l.length from e, h a (List.mem_cons_self ..), Nat.mul_add, Nat.mul_one]
    omega
theorem nodup_asc {l : List Nat} (h : l.Pairwise (· < ·)) : l.Nodup := h.imp (fun hab => Nat.ne_of_lt hab)
/-! ### what is found -/
/-! ### how long it is -/
end Go.Proofs.YthmhnknkidkdlaaGreatDoor
namespace Go.Proofs.YthmhnknkidkdlaaGreatDoor
open Go.Sort

def Srtd (L : List Rw) : Prop := L.Pairwise (fun a b => ¬ b.d < a.d)

end Go.Proofs.YthmhnknkidkdlaaGreatDoor
namespace Go.Proofs.YthmhnknkidkdlaaGreatDoor
open Go.RowKit Go.Sort Go.Lib

instance : Inhabited Ent := ⟨⟨0, 0, 0, ByteArray.empty, 0⟩⟩

end Go.Proofs.YthmhnknkidkdlaaGreatDoor
namespace Go.Proofs.YthmhnknkidkdlaaGreatDoor

end Go.Proofs.YthmhnknkidkdlaaGreatDoor
namespace Go.Proofs.YthmhnknkidkdlaaGreatDoor

end Go.Proofs.YthmhnknkidkdlaaGreatDoor
namespace Go.Proofs.YthmhnknkidkdlaaGreatDoor
open Go.Shelf Go.RowKit Go.Lib Go.Sort

end Go.Proofs.YthmhnknkidkdlaaGreatDoor
namespace Go.Proofs.YthmhnknkidkdlaaGreatDoor
open Go.Shelf Go.RowKit Go.Lib Go.Sort

end Go.Proofs.YthmhnknkidkdlaaGreatDoor
