/-
  singleWidthIndex.Less.
  sort.Search over a closure that leaves all old blocks as they were.
  bytes.Equal; the closure of singleWidthIndex.getAll.
  (No condition beyond those that each theorem states.)
-/
import Derived.Test.YtcgggcjmmphldaaGreatDoorProg
import Derived.Test.YtcgggcjmmphldaaGreatDoorHa4
import Derived.Test.YtcgggcjmmphldaaGreatDoorHa7
import Derived.Test.YtcgggcjmmphldaaGreatDoorHb2
import Derived.Deep.RegionHeld3
import Derived.Shelf.Abstract
import Derived.Deep.LoopGhost
import Derived.LoopTactic
import Derived.IntWalk
import Derived.Laws.IdiomStrings
import Derived.Laws.BytesString
import Derived.Deep.RegionWith
namespace Go.Proofs.YtcgggcjmmphldaaGreatDoor
open Go.RowKit

theorem rowsB_at (n : Nat) : ∀ (rows : List Rw) (i : Nat) (h : i < rows.length), (∀ r, r ∈ rows → r.d.length = n) → ∃ rest, (rowsB rows).drop (i * (n + 8)) = rowB rows[i] ++ rest
  | [], i, h, _ => by simp at h
  | r :: rows, 0, _, _ => ⟨rowsB rows, by simp [rowsB]⟩
  | r :: rows, i + 1, h, hw => by
    obtain ⟨rest, hr⟩ := rowsB_at n rows i (by simpa using h) (fun x hx => hw x (by simp [hx]))
    refine ⟨rest, ?_⟩
    have e : rowsB (r :: rows) = rowB r ++ rowsB rows := by simp [rowsB]
    have hl : (rowB r).length = n + 8 := by rw [rowB_length, hw r (by simp)]
    rw [e, Nat.succ_mul, Nat.add_comm, ← List.drop_drop, List.drop_left' hl, hr]
    rfl

set_option maxRecDepth 100000 in
set_option maxHeartbeats 4000000 in
theorem swLess_any (w : World) (q n W8 k M C i Cd : Nat) (A : Option Addr) (rows : List Rw) (d : List UInt8) (hq : Blk w q 293 #[.int .u32 (W8 : Int), .int .u64 (k : Int), .slice (some ⟨C, 0, none⟩) M M])
    (hW : W8 = n + 8) (hn : n ≤ 1000) (hk : rows.length = k) (hk2 : k ≤ 1000) (hM : M = W8 * k) (hw : ∀ r, r ∈ rows → r.d.length = n) (hs : Seg w C 0 (rowsB rows)) (hi : i < k) (hd : DgIn w (.slice A d.length Cd) d) (_hdl : d.length ≤ Cd) :
    Calls Tryz.prog 229 #[.pointer (some ⟨q, 0, none⟩), .int .i64 (i : Int), .slice A d.length Cd] w fun e w' => e = .returned (.bool (decide (Lib.compareBytes d (rows[i]'(hk ▸ hi)).d ≤ 0))) ∧ Off [] w w' := by
  have hik : i < rows.length := hk ▸ hi
  obtain ⟨x, hx⟩ : ∃ x, x = (rows[i]'hik).d := ⟨_, rfl⟩
  have hxl : x.length = n := by rw [hx]; exact hw _ (List.getElem_mem _)
  obtain ⟨o1, ho1⟩ : ∃ o1, o1 = i * W8 := ⟨_, rfl⟩
  obtain ⟨o2, ho2⟩ : ∃ o2, o2 = o1 + n := ⟨_, rfl⟩
  obtain ⟨o3, ho3⟩ : ∃ o3, o3 = (i + 1) * W8 := ⟨_, rfl⟩
  have h13 : o3 = o1 + W8 := by rw [ho3, ho1, Nat.succ_mul]
  have h3M : o3 ≤ M := by rw [ho3, hM, Nat.mul_comm W8 k]; exact Nat.mul_le_mul_right _ hi
  have hMle : M ≤ 1008000 := by rw [hM]; exact Nat.le_trans (Nat.mul_le_mul (show W8 ≤ 1008 by omega) hk2) (by omega)
  have hsx : Seg w C o1 x := by
    obtain ⟨rest, hr⟩ := rowsB_at n rows i hik hw
    rw [← hW, ← ho1] at hr
    have hle : o1 ≤ (rowsB rows).length := by rw [rowsB_length rows n hw, ← hW, hk, ← hM]; omega
    have h1 := hs.drop o1 hle
    rw [hr, Nat.zero_add, rowB, List.append_assoc, ← hx] at h1
    exact h1.left
  have hc1 : IntKind.i64.wrap ((i : Int) * (W8 : Int)) = (o1 : Int) := by
    have : ((i : Int) * (W8 : Int)) = (o1 : Int) := by rw [ho1, Int.natCast_mul]
    rw [IntKind.wrap_i64, this]; omega
  have hc2 : IntKind.i64.wrap (((i : Int) + 1) * (W8 : Int)) = (o3 : Int) := by
    have : (((i : Int) + 1) * (W8 : Int)) = (o3 : Int) := by rw [ho3, Int.natCast_mul]; rfl
    rw [IntKind.wrap_i64, this]; omega
  have hc3 : IntKind.i64.wrap ((i : Int) + 1) = (i : Int) + 1 := by rw [IntKind.wrap_i64]; omega
  have hc4 : IntKind.i64.wrap (W8 : Int) = (W8 : Int) := by rw [IntKind.wrap_i64]; omega
  have hc5 : IntKind.i64.wrap ((o3 : Int) - 8) = (o2 : Int) := by rw [IntKind.wrap_i64]; omega
  have hz1 : (0 : Int) ≤ (o1 : Int) := by omega
  have hz2 : (o1 : Int) ≤ (o2 : Int) := by omega
  have hz3 : (o2 : Int) ≤ (M : Int) := by omega
  have hz4 : (0 : Int) ≤ (o2 : Int) := by omega
  have hMo : ¬ M = o1 := by omega
  have c0 : w.cell? ⟨q, 0, none⟩ = some (.int .u32 (W8 : Int)) := hq.cell 0
  have c2 : w.cell? ⟨q, 2, none⟩ = some (.slice (some ⟨C, 0, none⟩) M M) := hq.cell 2
  have e21 : o2 - o1 = n := by omega
  have hdx : ∀ W, Off [] w W → DgIn W (.slice (some ⟨C, o1, none⟩) (o2 - o1) (M - o1)) x := fun W ho => by
    refine ⟨some ⟨C, o1, none⟩, M - o1, C, o1, by rw [e21, hxl], fun _ => rfl, hsx.off ho (by simp)⟩
  have HC : Hid (∀ W, Drew w W → Calls Tryz.prog 242 #[.slice A d.length Cd, .slice (some ⟨C, o1, none⟩) (o2 - o1) (M - o1)] W fun e w' => e = .returned (.int .i64 (Lib.compareBytes d x)) ∧ w' = W) := Lib.hid fun W hW =>
    bytesCompare_any _ _ d x W (hd.off0 (Off.ofDrew hW)) (hdx W (Off.ofDrew hW))
  rw [← hx]
  clear hs hd hw hk hM hx hxl ho1 ho2 ho3 h13 h3M hsx hdx e21 hW hq
  go_enter Tryz.func229, Tryz.ntmps229
  go_wp2_with fail
  go_region_held3 (fun w' => w'.cell? ⟨q, 0, none⟩ = some (.int .u32 (W8 : Int)) ∧ w'.cell? ⟨q, 2, none⟩ = some (.slice (some ⟨C, 0, none⟩) M M)) (first | exact ⟨c0, c2⟩) (first | (go_at_call 242; refine (HC.out _ (by repeat' (first | exact Drew.refl _ | exact Drew.one _ | refine Drew.more ?_ 1))).mono ?_; rintro e w5 ⟨rfl, rfl⟩))
  all_goals go_wp2_with fail
  all_goals go_ret
  all_goals exact ⟨rfl, Off.ofDrew (by repeat' (first | exact Drew.refl _ | exact Drew.one _ | refine Drew.more ?_ 1))⟩
end Go.Proofs.YtcgggcjmmphldaaGreatDoor
namespace Go.Proofs.YtcgggcjmmphldaaGreatDoor
open Go.RowKit

set_option maxHeartbeats 4000000 in
set_option maxRecDepth 1000000 in
theorem search_off (g : Nat) (cb : Array Value) (n : Nat) (p : Nat → Bool) (w : World) (eg : ∀ args w, (callFunc g args).run Tryz.prog w = .ok (.enter g args) w) (hsz : n < 4611686018427387904)
    (hf : ∀ (W : World) (i : Nat), Off [] w W → i < n → Calls Tryz.prog g (#[.int .i64 (i : Int)] ++ cb) W fun e w' => e = .returned (.bool (p i)) ∧ Off [] W w')
    (hmono : ∀ a b, a ≤ b → b < n → p a = true → p b = true) :
    Calls Tryz.prog 227 #[.int .i64 (n : Int), .func (.func g) #[] cb] w fun e w' => ∃ k : Nat, e = .returned (.int .i64 (k : Int)) ∧ k ≤ n ∧ (∀ t, t < k → p t = false) ∧ (∀ t, k ≤ t → t < n → p t = true) ∧ Off [] w w' := by
  have HF := Lib.hid hf
  have M := Lib.hid hmono
  clear hf hmono
  go_enter Tryz.func227, Tryz.ntmps227
  go_wp2
  go_loopg [5, 6] n (fun kx s5 s6 wr => ∃ (lo hi : Nat), s5 = .int .i64 (lo : Int) ∧ s6 = .int .i64 (hi : Int) ∧ lo ≤ hi ∧ hi ≤ n ∧ hi - lo ≤ kx ∧ Hid (Off [] w wr) ∧
    Hid ((∀ t, t < lo → p t = false) ∧ (∀ t, hi ≤ t → t < n → p t = true)))
  case atStart => exact ⟨0, n, rfl, rfl, Nat.zero_le _, Nat.le_refl _, by omega, Lib.hid (Off.refl _ _), Lib.hid ⟨fun t ht => absurd ht (Nat.not_lt_zero _), fun t h1 h2 => by omega⟩⟩
  case round =>
    rename World => wr
    obtain ⟨lo, hi, rfl, rfl, hlh, hin, hg, HO, I⟩ := hrel
    by_cases hlt : lo < hi
    · have hc := HF.out wr ((lo + hi) / 2) HO.out (by omega)
      rw [show (((lo + hi) / 2 : Nat) : Int) = ((lo : Int) + (hi : Int)) / 2 by omega] at hc
      cases hp : p ((lo + hi) / 2) <;> rw [hp] at hc
      · have HP := Lib.hid hp
        clear hp
        go_wp2_with (go_at_fn g; refine hc.mono ?_; rintro e w' ⟨rfl, ho⟩; have HO2 := Lib.hid ho; clear ho)
        go_roundg (hi - ((lo + hi) / 2 + 1))
        case measure => omega
        case rel =>
          exact ⟨(lo + hi) / 2 + 1, hi, by rw [show ((lo : Int) + (hi : Int)) / 2 + 1 = (((lo + hi) / 2 + 1 : Nat) : Int) by omega], rfl, by omega, hin, Nat.le_refl _, Lib.hid (HO.out.then HO2.out (fun x hx => by simp at hx)), Lib.hid ⟨fun t ht => (by
            cases h : p t with
            | false => rfl
            | true => have := M.out t ((lo + hi) / 2) (by omega) (by omega) h; rw [HP.out] at this; cases this), I.out.2⟩⟩
      · have HP := Lib.hid hp
        clear hp
        go_wp2_with (go_at_fn g; refine hc.mono ?_; rintro e w' ⟨rfl, ho⟩; have HO2 := Lib.hid ho; clear ho)
        go_roundg ((lo + hi) / 2 - lo)
        case measure => omega
        case rel =>
          exact ⟨lo, (lo + hi) / 2, rfl, by rw [show ((lo : Int) + (hi : Int)) / 2 = (((lo + hi) / 2 : Nat) : Int) by omega], by omega, by omega, Nat.le_refl _, Lib.hid (HO.out.then HO2.out (fun x hx => by simp at hx)), Lib.hid ⟨I.out.1, fun t ht htn => M.out ((lo + hi) / 2) t ht htn HP.out⟩⟩
    · obtain rfl : hi = lo := by omega
      go_wp2
      go_ret
      exact ⟨hi, rfl, hin, I.out.1, I.out.2, HO.out⟩
end Go.Proofs.YtcgggcjmmphldaaGreatDoor
namespace Go.Proofs.YtcgggcjmmphldaaGreatDoor
open Go.RowKit

theorem conv_dg {w : World} {v : Value} {l : List UInt8} (h : DgIn w v l) : (convert 46 9 v).run Tryz.prog w = .ok (.string ⟨l.toArray⟩) w := by
  obtain ⟨A, C, b, o, rfl, hA, hs⟩ := h
  rcases Nat.eq_zero_or_pos l.length with h0 | h0
  · obtain rfl : l = [] := List.eq_nil_of_length_eq_zero h0
    rw [run_convert_bytes_string w 46 9 5 A _ C Tryz.underlying46 Tryz.underlying5 Tryz.underlying9]
    cases A <;> simp [Conv.bytesToString, loadCells]
    all_goals rfl
  · rw [hA h0]
    refine run_convert_bytes_back w 46 9 5 ⟨b, o, none⟩ C l Tryz.underlying46 Tryz.underlying5 Tryz.underlying9 (fun j hj => ?_)
    rw [add_plain]
    exact hs j hj

set_option maxRecDepth 100000 in
set_option maxHeartbeats 1000000 in
theorem bytesEqual_any (v1 v2 : Value) (l1 l2 : List UInt8) (w : World) (h1 : DgIn w v1 l1) (h2 : DgIn w v2 l2) :
    Calls Tryz.prog 230 #[v1, v2] w fun e w' => e = .returned (.bool (decide (l1 = l2))) ∧ w' = w := by
  have c1 := conv_dg h1
  have c2 := conv_dg h2
  have e : (l1 == l2) = decide (l1 = l2) := by by_cases h : l1 = l2 <;> simp [h]
  have HE := Lib.hid e
  clear h1 h2 e
  go_enter Tryz.func230, Tryz.ntmps230
  go_wp2_with fail
  go_ret
  refine ⟨?_, rfl⟩
  rw [← HE.out]
  rfl

set_option maxRecDepth 100000 in
set_option maxHeartbeats 1000000 in
theorem getAllP_any (w : World) (pb db q i : Nat) (v : Value) (r : Bool) (hp : w.cell? ⟨pb, 0, none⟩ = some (.pointer (some ⟨q, 0, none⟩))) (hd : w.cell? ⟨db, 0, none⟩ = some v)
    (hL : Calls Tryz.prog 229 #[.pointer (some ⟨q, 0, none⟩), .int .i64 (i : Int), v] w fun e w' => e = .returned (.bool r) ∧ Off [] w w') :
    Calls Tryz.prog 228 #[.int .i64 (i : Int), .pointer (some ⟨pb, 0, none⟩), .pointer (some ⟨db, 0, none⟩)] w fun e w' => e = .returned (.bool r) ∧ Off [] w w' := by
  have HL := Lib.hid hL
  clear hL
  go_enter Tryz.func228, Tryz.ntmps228
  go_wp2_with (go_at_call 229; refine HL.out.mono ?_; rintro e w1 ⟨rfl, hO⟩)
  go_ret
  exact ⟨rfl, hO⟩
end Go.Proofs.YtcgggcjmmphldaaGreatDoor
