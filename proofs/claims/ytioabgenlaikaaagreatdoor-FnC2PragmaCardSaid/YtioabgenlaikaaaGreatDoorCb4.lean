/- The CBOR decoder's Step, at each of the four places of the pragma's map; what makes a decoder. -/
import Derived.Test.YtioabgenlaikaaaGreatDoorCb3
namespace Go.Proofs.YtioabgenlaikaaaGreatDoor
open Go.RowKit

set_option maxRecDepth 100000 in
set_option maxHeartbeats 1000000 in
theorem Step_value (D sg lg K : Nat) (l0 : Int) (S T R b n cap i : Nat) (l : List UInt8) (m : Int) (w : World) (h : Dec w D sg 0 lg 0 K 0 l0 S T R b n cap i l m) (hK : Blk w K 73 zeroTok) (hi : i < n) (hc : (l[i]'(h.chain.len ▸ hi)).toNat = 161) (hm : 0 ≤ m) (hm2 : m < 4611686018427387904) :
    Calls Tryz.prog 42 #[.pointer (some ⟨D, 0, none⟩), .pointer (some ⟨K, 0, none⟩)] w fun e w' => e = .returned (.tuple #[.bool false, .nilIface]) ∧ Dec w' D sg 1 lg 1 K 5 1 S T R b n cap (i + 1) l (m + 1) ∧ Blk w' K 73 (tokCells 123 1 noBytes (.slice none 0 0) false 0 0 0 false 0) ∧ Off [D, sg, lg, S, T, R, K] w w' := by
  have d9 := h.dec.cell 9
  simp [decCells] at d9
  have HC := Lib.hid (step_value D sg lg K l0 S T R b n cap i l m w h hK hi hc hm hm2)
  clear hc
  clear h hK
  go_enter Tryz.func42, Tryz.ntmps42
  go_wp2_with fail
  refine HC.out.mono ?_
  rintro e w1 ⟨rfl, h1, h2, h3⟩
  have d8 := h1.dec.cell 8
  simp [decCells] at d8
  have H1 := Lib.hid h1
  have H2 := Lib.hid h2
  have H3 := Lib.hid h3
  clear h1 h2 h3
  go_wp2_with fail
  go_ret2
  exact ⟨rfl, H1.out, H2.out, H3.out⟩

set_option maxRecDepth 100000 in
set_option maxHeartbeats 1000000 in
theorem Step_key (D sg lg K : Nat) (S T R b n cap i : Nat) (l : List UInt8) (m : Int) (w : World) (h : Dec w D sg 1 lg 1 K 5 1 S T R b n cap i l m) (hK : Blk w K 73 zeroTok) (hi : i < n) (hi7 : i + 1 + 7 ≤ n) (hc : (l[i]'(h.chain.len ▸ hi)).toNat = 103) (hm : 0 ≤ m) (hm2 : m + 1 < 4611686018427387904) :
    Calls Tryz.prog 42 #[.pointer (some ⟨D, 0, none⟩), .pointer (some ⟨K, 0, none⟩)] w fun e w' => e = .returned (.tuple #[.bool false, .nilIface]) ∧ Dec w' D sg 1 lg 1 K 6 0 S T R b n cap (i + 1 + 7) l (m + 1 + 7) ∧ Blk w' K 73 (tokCells 115 0 (str ((l.drop (i + 1)).take 7)) (.slice none 0 0) false 0 0 0 false 0) ∧ Off [D, sg, lg, S, T, R, K] w w' := by
  have d9 := h.dec.cell 9
  simp [decCells] at d9
  have HC := Lib.hid (step_key D sg 1 lg K S T R b n cap i l m w h hK hi hi7 hc hm hm2)
  clear hc
  clear h hK
  go_enter Tryz.func42, Tryz.ntmps42
  go_wp2_with fail
  refine HC.out.mono ?_
  rintro e w1 ⟨rfl, h1, h2, h3⟩
  have d8 := h1.dec.cell 8
  simp [decCells] at d8
  have H1 := Lib.hid h1
  have H2 := Lib.hid h2
  have H3 := Lib.hid h3
  clear h1 h2 h3
  go_wp2_with fail
  go_ret2
  exact ⟨rfl, H1.out, H2.out, H3.out⟩

set_option maxRecDepth 100000 in
set_option maxHeartbeats 1000000 in
theorem Step_value2 (D sg lg K : Nat) (l0 : Int) (S T R b n cap i : Nat) (l : List UInt8) (m : Int) (w : World) (h : Dec w D sg 1 lg 1 K 6 l0 S T R b n cap i l m) (hK : Blk w K 73 zeroTok) (hi : i < n) (hc : (l[i]'(h.chain.len ▸ hi)).toNat = 2) (hm : 0 ≤ m) (hm2 : m < 4611686018427387904) :
    Calls Tryz.prog 42 #[.pointer (some ⟨D, 0, none⟩), .pointer (some ⟨K, 0, none⟩)] w fun e w' => e = .returned (.tuple #[.bool false, .nilIface]) ∧ Dec w' D sg 1 lg 1 K 5 l0 S T R b n cap (i + 1) l (m + 1) ∧ Blk w' K 73 (tokCells 117 0 noBytes (.slice none 0 0) false 0 2 0 false 0) ∧ Off [D, sg, lg, S, T, R, K] w w' := by
  have d9 := h.dec.cell 9
  simp [decCells] at d9
  have HC := Lib.hid (step_value2 D sg 1 lg 1 K l0 S T R b n cap i l m w h hK hi hc hm hm2)
  clear hc
  clear h hK
  go_enter Tryz.func42, Tryz.ntmps42
  go_wp2_with fail
  refine HC.out.mono ?_
  rintro e w1 ⟨rfl, h1, h2, h3⟩
  have d8 := h1.dec.cell 8
  simp [decCells] at d8
  have H1 := Lib.hid h1
  have H2 := Lib.hid h2
  have H3 := Lib.hid h3
  clear h1 h2 h3
  go_wp2_with fail
  go_ret2
  exact ⟨rfl, H1.out, H2.out, H3.out⟩

set_option maxRecDepth 100000 in
set_option maxHeartbeats 1000000 in
theorem Step_end (D sg lg K : Nat) (S T R b n cap i : Nat) (l : List UInt8) (m : Int) (w : World) (h : Dec w D sg 1 lg 1 K 5 0 S T R b n cap i l m) (hK : Blk w K 73 zeroTok) :
    Calls Tryz.prog 42 #[.pointer (some ⟨D, 0, none⟩), .pointer (some ⟨K, 0, none⟩)] w fun e w' => e = .returned (.tuple #[.bool true, .nilIface]) ∧ Dec w' D sg 1 lg 0 K 5 0 S T R b n cap i l m ∧ Blk w' K 73 (tokCells 125 0 noBytes (.slice none 0 0) false 0 0 0 false 0) ∧ Off [D, sg, lg, S, T, R, K] w w' := by
  have d9 := h.dec.cell 9
  simp [decCells] at d9
  have HC := Lib.hid (step_end D sg 1 lg K S T R b n cap i l m w h hK)
  clear h hK
  go_enter Tryz.func42, Tryz.ntmps42
  go_wp2_with fail
  refine HC.out.mono ?_
  rintro e w1 ⟨rfl, h1, h2, h3⟩
  have d8 := h1.dec.cell 8
  simp [decCells] at d8
  have H1 := Lib.hid h1
  have H2 := Lib.hid h2
  have H3 := Lib.hid h3
  clear h1 h2 h3
  go_wp2_with fail
  go_ret2
  exact ⟨rfl, H1.out, H2.out, H3.out⟩

end Go.Proofs.YtioabgenlaikaaaGreatDoor
