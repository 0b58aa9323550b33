/- Varints: what the number functions of the varint package compute. No condition but those in each statement. -/
import Derived.Test.YtpipfopddlgakaaDoorProg
import Derived.Test.YtpipfopddlgakaaDoorSeg
import Derived.WalkKit
import Derived.WalkSpells
import Derived.WalkLawsBesides
import Derived.Lib.Hide
import Derived.Lib.Varint
import Derived.Lib.VarintMem
import Derived.Lib.VarintBits
import Derived.Lib.BitFns
namespace Go.Proofs.YtpipfopddlgakaaDoor
open Go.RowKit

theorem pow128 (i : Nat) : (128 : Nat) ^ i = 2 ^ (7 * i) := by rw [show (128 : Nat) = 2 ^ 7 from rfl, ← Nat.pow_mul]

theorem or_join (i a y : Nat) (ha : a < 2 ^ (7 * i)) (hy : a + y * 2 ^ (7 * i) < 18446744073709551616) :
    bits .or .u64 (a : Int) ((y * 2 ^ (7 * i) : Nat) : Int) = ((a + y * 2 ^ (7 * i) : Nat) : Int) := by
  rw [u64_or_nat _ _ (by omega) (by omega), Nat.or_comm, nat_join (7 * i) _ _ (by simp) ha, Nat.add_comm]

theorem or_join_w (i a y : Nat) (ha : a < 2 ^ (7 * i)) (hy : a + y * 2 ^ (7 * i) < 18446744073709551616) :
    bits .or .u64 (a : Int) (IntKind.u64.wrap ((y : Int) * 2 ^ (7 * i))) = ((a + y * 2 ^ (7 * i) : Nat) : Int) := by
  have e : ((y : Int) * 2 ^ (7 * i)) = ((y * 2 ^ (7 * i) : Nat) : Int) := by push_cast; rfl
  rw [e, IntKind.wrap_u64, ← or_join i a y ha hy, Int.emod_eq_of_lt (by omega) (by omega)]

theorem ret3 {a a' b b' : Int} {ka kb : IntKind} {v : Value} (h : a = a') (h2 : b = b') : Ending.returned (.tuple #[.int ka a, .int kb b, v]) = Ending.returned (.tuple #[.int ka a', .int kb b', v]) := by rw [h, h2]

set_option maxRecDepth 100000 in
set_option maxHeartbeats 1000000 in
theorem fromUvarint_ok (x b o n c : Nat) (w : World) (hx : x < 9223372036854775808) (hn : (Lib.uvarint x).length ≤ n)
    (hc : Seg w b o (Lib.uvarint x)) :
    Calls Tryd.prog 37 #[.slice (some ⟨b, o, none⟩) n c] w fun e w' =>
      e = .returned (.tuple #[.int .u64 x, .int .i64 (Lib.uvarint x).length, .nilIface]) ∧ w = w' := by
  have HX := Lib.hid hx
  have HC := Lib.hid hc
  have HN := Lib.hid hn
  clear hx hc hn
  go_enter Tryd.func37, Tryd.ntmps37
  go_wp2
  go_loop [5, 6, 11] (fun vx vs vi => ∃ (i y acc : Nat) (pre : List UInt8), pre.length = i ∧ Lib.uvarint x = pre ++ Lib.uvarint y ∧ x = acc + y * 2 ^ (7 * i) ∧ acc < 2 ^ (7 * i) ∧ (0 < i → 0 < y) ∧
      vx = .int .u64 acc ∧ vs = .int .u64 ((7 * i : Nat) : Int) ∧ vi = .int .i64 i) (fun _ _ vi => 10 - (intOf vi).toNat)
  case atStart => exact ⟨0, x, 0, [], rfl, rfl, by simp, by simp, by omega, rfl, rfl, rfl⟩
  case round =>
    obtain ⟨i, y, acc, pre, hpl, hsp, hxe, hacc, hy0, rfl, rfl, rfl⟩ := hrel
    have hul := congrArg List.length hsp
    rw [List.length_append] at hul
    have hyp := Lib.uvarint_pos y
    have hx := HX.out
    have hn := HN.out
    have hin : i < n := by omega
    have hget : ∀ (h : i < (Lib.uvarint x).length), (Lib.uvarint x)[i] = (Lib.uvarint y)[0] := by
      intro h
      have : (Lib.uvarint x)[i]? = (Lib.uvarint y)[0]? := by rw [hsp, List.getElem?_append_right (by omega)]; simp [hpl]
      rw [List.getElem?_eq_getElem h, List.getElem?_eq_getElem (by omega)] at this
      exact Option.some.inj this
    have hi8 : i ≤ 8 := by
      rcases Nat.lt_or_ge i 9 with h | h
      · omega
      · exfalso
        have h1 : 2 ^ 63 ≤ 2 ^ (7 * i) := Nat.pow_le_pow_right (by omega) (by omega)
        have h2 := Nat.le_mul_of_pos_left (2 ^ (7 * i)) (hy0 (by omega))
        omega
    have hcl := HC.out i (by omega)
    rw [hget] at hcl
    clear hget
    by_cases h128 : 128 ≤ y
    · have hb := Lib.uvarint_big h128
      have hm := Lib.toUInt8_toNat (a := y % 128 + 128) (by omega)
      simp only [hb, List.getElem_cons_zero] at hcl
      rw [hm] at hcl
      have hi7 : i ≤ 7 := by
        rcases Nat.lt_or_ge i 8 with h | h
        · omega
        · exfalso
          have h1 : 2 ^ 56 ≤ 2 ^ (7 * i) := Nat.pow_le_pow_right (by omega) (by omega)
          have h2 := Nat.mul_le_mul h128 h1
          omega
      have HS := Lib.hid (And.intro hsp (And.intro hxe (And.intro hacc (And.intro hpl (And.intro hb hul)))))
      clear hsp hxe hacc hpl hb hul hx hn hy0 hm hyp
      go_wp2
      go_roundw
      case rel =>
        obtain ⟨hsp, hxe, hacc, hpl, hb, hul⟩ := HS.out
        have hx := HX.out
        have hpw : 2 ^ (7 * (i + 1)) = 128 * 2 ^ (7 * i) := by rw [show 7 * (i + 1) = 7 + 7 * i from by omega, Nat.pow_add]
        have hdm : y * 2 ^ (7 * i) = y % 128 * 2 ^ (7 * i) + y / 128 * (128 * 2 ^ (7 * i)) := by
          rw [← Nat.mul_assoc, ← Nat.add_mul]; congr 1; omega
        have hlt : y % 128 * 2 ^ (7 * i) + 2 ^ (7 * i) ≤ 128 * 2 ^ (7 * i) := by
          rw [← Nat.succ_mul]; exact Nat.mul_le_mul_right _ (by omega)
        refine ⟨i + 1, y / 128, acc + y % 128 * 2 ^ (7 * i), pre ++ [(y % 128 + 128).toUInt8], by simp [hpl], by rw [hsp, hb]; simp, by rw [hpw]; omega, by rw [hpw]; omega, by omega, ?_, by go_num, by go_num⟩
        have ea : bits .and .u8 ((y : Int) % 128 + 128) 127 = ((y % 128 : Nat) : Int) := by rw [u8_and127 (x := (y : Int) % 128 + 128) (by omega) (by omega)]; omega
        have ew : IntKind.u64.wrap ((y % 128 : Nat) : Int) = ((y % 128 : Nat) : Int) := by rw [IntKind.wrap_u64, Int.emod_eq_of_lt (by omega) (by omega)]
        rw [ea, ew, or_join_w i acc (y % 128) hacc (by omega)]
      case measure => simp [intOf]; omega
    · have hb := Lib.uvarint_small (x := y) (by omega)
      have hm := Lib.toUInt8_toNat (a := y) (by omega)
      simp only [hb, List.getElem_cons_zero] at hcl
      rw [hm] at hcl
      have HS := Lib.hid (And.intro hsp (And.intro hxe (And.intro hacc (And.intro hpl (And.intro hb hul)))))
      clear hsp hxe hacc hpl hb hul hx hn hm hyp
      go_wp2
      all_goals (try go_ret3)
      all_goals
        obtain ⟨hsp, hxe, hacc, hpl, hb, hul⟩ := HS.out
        have hx := HX.out
        rw [hb] at hul
        refine ⟨ret3 ?_ ?_, rfl⟩
        · first
          | (rw [or_join_w i acc y hacc (by rw [← hxe]; omega), ← hxe]; done)
          | (have h0 : i = 8 := by clear hxe hacc; omega
             subst h0
             have hj := or_join_w 8 acc y hacc (by rw [← hxe]; omega)
             rw [← hxe] at hj
             have e : IntKind.u64.wrap ((y : Int) * 2 ^ (7 * 8)) = (y : Int) * 72057594037927936 := by rw [IntKind.wrap_u64, Int.emod_eq_of_lt (by omega) (by omega)]; rfl
             rw [e] at hj
             exact hj)
          | (have h0 : i = 0 := by clear hxe hacc; omega
             subst h0
             have ha : acc = 0 := by simpa using hacc
             subst ha
             have hy : y = 0 := by omega
             rw [hxe, hy]; rfl)
        · simp at hul; omega
end Go.Proofs.YtpipfopddlgakaaDoor
