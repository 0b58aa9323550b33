/- impl.C2Pragma; laws.FnC2Pragma: true whatever stands behind the pragma. -/
import Derived.Test.YtioabgenlaikaaaGreatDoorRdv
namespace Go.Proofs.YtioabgenlaikaaaGreatDoor
open Go.RowKit

/-- The pragma's bytes. -/
def pragma : List UInt8 := [10, 161, 103, 118, 101, 114, 115, 105, 111, 110, 2]

set_option maxRecDepth 100000 in
set_option maxHeartbeats 1000000 in
theorem c2Pragma_ok (w : World) :
    Calls Tryz.prog 5 #[] w fun e w' => e = .returned (.string (str pragma)) ∧ Below w.heap.size w w' := by
  have hcv : ∀ W : World, (convert 35 9 (.slice (some ⟨W.heap.size, 0, none⟩) 11 11)).run Tryz.prog (W.alloc (.cells #[.int .u8 10, .int .u8 161, .int .u8 103, .int .u8 118, .int .u8 101, .int .u8 114, .int .u8 115, .int .u8 105, .int .u8 111, .int .u8 110, .int .u8 2] 5)) = .ok (.string (str pragma)) (W.alloc (.cells #[.int .u8 10, .int .u8 161, .int .u8 103, .int .u8 118, .int .u8 101, .int .u8 114, .int .u8 115, .int .u8 105, .int .u8 111, .int .u8 110, .int .u8 2] 5)) := fun W =>
    run_convert_seg (P := Tryz.prog) (src := 35) (e := 5) (dst := 9) Tryz.underlying35 Tryz.underlying5 Tryz.underlying9 11 (l := pragma) (Blk.seg' (Blk.new W 5 (Lib.byteCells pragma).toArray))
  go_enter Tryz.func5, Tryz.ntmps5
  go_wp2
  go_ret
  exact ⟨rfl, (Below.refl _ w).alloc (Nat.le_refl _) _⟩

theorem pragma_append (s : ByteArray) : ((⟨#[10, 161, 103, 118, 101, 114, 115, 105, 111, 110, 2]⟩ : ByteArray) ++ s).data.toList = pragma ++ s.data.toList := by
  simp [pragma]
theorem pragma_eq (w : World) : (binOp .eql 9 (.string (str pragma)) (.string ⟨#[10, 161, 103, 118, 101, 114, 115, 105, 111, 110, 2]⟩)).run Tryz.prog w = .ok (.bool true) w := by kernel_rfl
theorem rd_pragma (s : ByteArray) (w : World) (hE : Eof w) (h : s.size ≤ 4096) :
    Calls Tryz.prog 4 #[.string ((⟨#[10, 161, 103, 118, 101, 114, 115, 105, 111, 110, 2]⟩ : ByteArray) ++ s), .agg noOpt] w fun e w' => e = .returned (.tuple #[.int .u64 2, .bool true]) ∧ Below w.heap.size w w' := by
  have hl := pragma_append s
  generalize (⟨#[10, 161, 103, 118, 101, 114, 115, 105, 111, 110, 2]⟩ : ByteArray) ++ s = t at *
  have hz : t.size = t.data.toList.length := by rw [Array.length_toList]; rfl
  have hy : s.size = s.data.toList.length := by rw [Array.length_toList]; rfl
  have hw : t.data.toList.length = 11 + s.data.toList.length := by rw [hl, List.length_append]; rfl
  refine rdVersion_ok t w (by omega) (by rw [hl]; simp [pragma]) (by simp [hl, pragma]) (by rw [hl]; rfl) hE

set_option maxRecDepth 100000 in
set_option maxHeartbeats 1000000 in
theorem law_true (s : ByteArray) (w : World) (hE : Eof w) :
    Calls Tryz.prog 3 #[.string s] w fun e w' => e = .returned (.bool true) ∧ Below w.heap.size w w' := by
  by_cases h1 : s.size ≤ 4096
  case neg =>
    go_enter Tryz.func3, Tryz.ntmps3
    go_wp2_with fail
    all_goals
      go_ret
      exact ⟨rfl, Below.refl _ _⟩
  case pos =>
    have HC := Lib.hid (rd_pragma s w hE h1)
    have hq := pragma_eq
    clear hE
    have hb1 : decide ((2147483647 : Int) < (s.size : Int)) = false := by simp; omega
    have hb2 : decide ((4096 : Int) < (s.size : Int)) = false := by simp; omega
    go_enter Tryz.func3, Tryz.ntmps3
    go_wp2_with fail
    refine HC.out.mono ?_
    rintro e w1 ⟨rfl, hB1⟩
    have HB1 := Lib.hid hB1
    clear hB1 HC
    go_wp2_with fail
    refine (c2Pragma_ok w1).mono ?_
    rintro e w2 ⟨rfl, hB2⟩
    have HB2 := Lib.hid hB2
    clear hB2
    go_wp2_with fail
    go_ret
    exact ⟨rfl, HB1.out.trans (HB2.out.mono HB1.out.size)⟩
end Go.Proofs.YtioabgenlaikaaaGreatDoor
