/-
  spec.head: a CBOR head of a number below 256.
  spec.Link, spec.Section.
  spec.HeaderBytes at version 1.
  (No condition beyond those that each theorem states.)
-/
import Derived.Test.YtkdbjocchponfaaGreatDoorM36
import Derived.Test.YtkdbjocchponfaaGreatDoorM37
import Derived.LoopTactic
import Derived.LoopN
import Derived.Deep.LoopGhost
namespace Go.Proofs.YtkdbjocchponfaaGreatDoor
open Go.RowKit

theorem seg_one (w : World) (u : Nat) (hu : u < 256) : Seg (w.alloc (.cells #[.int .u8 (u : Int)] 5)) w.heap.size 0 [u.toUInt8] := by
  have h := Blk.seg' (l := [u.toUInt8]) (w := w.alloc (.cells #[.int .u8 (u : Int)] 5)) (g := w.heap.size) (t := 5) (by
    have := Blk.new w 5 #[.int .u8 (u : Int)]
    simpa [Lib.byteCells, Nat.mod_eq_of_lt hu] using this)
  exact h
theorem seg_two (w : World) (u v : Nat) (hu : u < 256) (hv : v < 256) : Seg (w.alloc (.cells #[.int .u8 (u : Int), .int .u8 (v : Int)] 5)) w.heap.size 0 [u.toUInt8, v.toUInt8] := by
  have h := Blk.seg' (l := [u.toUInt8, v.toUInt8]) (w := w.alloc (.cells #[.int .u8 (u : Int), .int .u8 (v : Int)] 5)) (g := w.heap.size) (t := 5) (by
    have := Blk.new w 5 #[.int .u8 (u : Int), .int .u8 (v : Int)]
    simpa [Lib.byteCells, Nat.mod_eq_of_lt hu, Nat.mod_eq_of_lt hv] using this)
  exact h

theorem or_h0 : ∀ k : Fin 24, bits .or .u8 (0 : Int) (k.val : Int) = ((0 + k.val : Nat) : Int) := by decide +kernel
set_option maxRecDepth 100000 in
set_option maxHeartbeats 2000000 in
theorem head_0 (n : Nat) (w : World) (hn : n < 256) :
    Calls Tryz.prog 25 #[.int .u8 0, .int .u64 (n : Int)] w fun r w' => r = .returned (.string (str (hd 0 n))) ∧ Off [] w w' := by
  have hmod : (n : Int) % 256 = (n : Int) := by omega
  by_cases h24 : n < 24
  · have q1 : (n : Int) < 24 := by omega
    obtain ⟨x, hx⟩ : ∃ x : Nat, x = 0 + n := ⟨_, rfl⟩
    have hor : bits .or .u8 (0 : Int) (n : Int) = (x : Int) := by rw [hx]; exact or_h0 ⟨n, h24⟩
    have hcv := run_convert_seg (P := Tryz.prog) (src := 32) (e := 5) (dst := 9) Tryz.underlying32 Tryz.underlying5 Tryz.underlying9 1 (seg_one w x (by omega))
    simp only [List.length_cons, List.length_nil, Nat.zero_add] at hcv
    have he : hd 0 n = [x.toUInt8] := by rw [hd, if_pos h24, hx]
    have HO := Lib.hid ((Off.refl [] w).alloc (.cells #[.int .u8 (x : Int)] 5))
    rw [he]
    clear hn h24 hx he
    go_enter Tryz.func25, Tryz.ntmps25
    go_wp2_with fail
    go_ret
    exact ⟨rfl, HO.out⟩
  · have q1 : ¬ ((n : Int) < 24) := by omega
    have q2 : (n : Int) < 256 := by omega
    have hcv := run_convert_seg (P := Tryz.prog) (src := 32) (e := 5) (dst := 9) Tryz.underlying32 Tryz.underlying5 Tryz.underlying9 2 (seg_two w 24 n (by omega) hn)
    have e24 : ((24 : Nat) : Int) = (24 : Int) := rfl
    rw [e24] at hcv
    simp only [List.length_cons, List.length_nil, Nat.zero_add] at hcv
    have hor : bits .or .u8 (0 : Int) 24 = (24 : Int) := by decide +kernel
    have he : hd 0 n = [(24 : Nat).toUInt8, n.toUInt8] := by rw [hd, if_neg h24, if_pos hn]
    have HO := Lib.hid ((Off.refl [] w).alloc (.cells #[.int .u8 24, .int .u8 (n : Int)] 5))
    rw [he]
    clear hn h24 he
    go_enter Tryz.func25, Tryz.ntmps25
    go_wp2_with fail
    go_ret
    exact ⟨rfl, HO.out⟩

theorem or_h2 : ∀ k : Fin 24, bits .or .u8 (64 : Int) (k.val : Int) = ((64 + k.val : Nat) : Int) := by decide +kernel
set_option maxRecDepth 100000 in
set_option maxHeartbeats 2000000 in
theorem head_2 (n : Nat) (w : World) (hn : n < 256) :
    Calls Tryz.prog 25 #[.int .u8 2, .int .u64 (n : Int)] w fun r w' => r = .returned (.string (str (hd 2 n))) ∧ Off [] w w' := by
  have hmod : (n : Int) % 256 = (n : Int) := by omega
  by_cases h24 : n < 24
  · have q1 : (n : Int) < 24 := by omega
    obtain ⟨x, hx⟩ : ∃ x : Nat, x = 64 + n := ⟨_, rfl⟩
    have hor : bits .or .u8 (64 : Int) (n : Int) = (x : Int) := by rw [hx]; exact or_h2 ⟨n, h24⟩
    have hcv := run_convert_seg (P := Tryz.prog) (src := 32) (e := 5) (dst := 9) Tryz.underlying32 Tryz.underlying5 Tryz.underlying9 1 (seg_one w x (by omega))
    simp only [List.length_cons, List.length_nil, Nat.zero_add] at hcv
    have he : hd 2 n = [x.toUInt8] := by rw [hd, if_pos h24, hx]
    have HO := Lib.hid ((Off.refl [] w).alloc (.cells #[.int .u8 (x : Int)] 5))
    rw [he]
    clear hn h24 hx he
    go_enter Tryz.func25, Tryz.ntmps25
    go_wp2_with fail
    go_ret
    exact ⟨rfl, HO.out⟩
  · have q1 : ¬ ((n : Int) < 24) := by omega
    have q2 : (n : Int) < 256 := by omega
    have hcv := run_convert_seg (P := Tryz.prog) (src := 32) (e := 5) (dst := 9) Tryz.underlying32 Tryz.underlying5 Tryz.underlying9 2 (seg_two w 88 n (by omega) hn)
    have e24 : ((88 : Nat) : Int) = (88 : Int) := rfl
    rw [e24] at hcv
    simp only [List.length_cons, List.length_nil, Nat.zero_add] at hcv
    have hor : bits .or .u8 (64 : Int) 24 = (88 : Int) := by decide +kernel
    have he : hd 2 n = [(88 : Nat).toUInt8, n.toUInt8] := by rw [hd, if_neg h24, if_pos hn]
    have HO := Lib.hid ((Off.refl [] w).alloc (.cells #[.int .u8 88, .int .u8 (n : Int)] 5))
    rw [he]
    clear hn h24 he
    go_enter Tryz.func25, Tryz.ntmps25
    go_wp2_with fail
    go_ret
    exact ⟨rfl, HO.out⟩

theorem or_h3 : ∀ k : Fin 24, bits .or .u8 (96 : Int) (k.val : Int) = ((96 + k.val : Nat) : Int) := by decide +kernel
set_option maxRecDepth 100000 in
set_option maxHeartbeats 2000000 in
theorem head_3 (n : Nat) (w : World) (hn : n < 256) :
    Calls Tryz.prog 25 #[.int .u8 3, .int .u64 (n : Int)] w fun r w' => r = .returned (.string (str (hd 3 n))) ∧ Off [] w w' := by
  have hmod : (n : Int) % 256 = (n : Int) := by omega
  by_cases h24 : n < 24
  · have q1 : (n : Int) < 24 := by omega
    obtain ⟨x, hx⟩ : ∃ x : Nat, x = 96 + n := ⟨_, rfl⟩
    have hor : bits .or .u8 (96 : Int) (n : Int) = (x : Int) := by rw [hx]; exact or_h3 ⟨n, h24⟩
    have hcv := run_convert_seg (P := Tryz.prog) (src := 32) (e := 5) (dst := 9) Tryz.underlying32 Tryz.underlying5 Tryz.underlying9 1 (seg_one w x (by omega))
    simp only [List.length_cons, List.length_nil, Nat.zero_add] at hcv
    have he : hd 3 n = [x.toUInt8] := by rw [hd, if_pos h24, hx]
    have HO := Lib.hid ((Off.refl [] w).alloc (.cells #[.int .u8 (x : Int)] 5))
    rw [he]
    clear hn h24 hx he
    go_enter Tryz.func25, Tryz.ntmps25
    go_wp2_with fail
    go_ret
    exact ⟨rfl, HO.out⟩
  · have q1 : ¬ ((n : Int) < 24) := by omega
    have q2 : (n : Int) < 256 := by omega
    have hcv := run_convert_seg (P := Tryz.prog) (src := 32) (e := 5) (dst := 9) Tryz.underlying32 Tryz.underlying5 Tryz.underlying9 2 (seg_two w 120 n (by omega) hn)
    have e24 : ((120 : Nat) : Int) = (120 : Int) := rfl
    rw [e24] at hcv
    simp only [List.length_cons, List.length_nil, Nat.zero_add] at hcv
    have hor : bits .or .u8 (96 : Int) 24 = (120 : Int) := by decide +kernel
    have he : hd 3 n = [(120 : Nat).toUInt8, n.toUInt8] := by rw [hd, if_neg h24, if_pos hn]
    have HO := Lib.hid ((Off.refl [] w).alloc (.cells #[.int .u8 120, .int .u8 (n : Int)] 5))
    rw [he]
    clear hn h24 he
    go_enter Tryz.func25, Tryz.ntmps25
    go_wp2_with fail
    go_ret
    exact ⟨rfl, HO.out⟩

theorem or_h4 : ∀ k : Fin 24, bits .or .u8 (128 : Int) (k.val : Int) = ((128 + k.val : Nat) : Int) := by decide +kernel
set_option maxRecDepth 100000 in
set_option maxHeartbeats 2000000 in
theorem head_4 (n : Nat) (w : World) (hn : n < 256) :
    Calls Tryz.prog 25 #[.int .u8 4, .int .u64 (n : Int)] w fun r w' => r = .returned (.string (str (hd 4 n))) ∧ Off [] w w' := by
  have hmod : (n : Int) % 256 = (n : Int) := by omega
  by_cases h24 : n < 24
  · have q1 : (n : Int) < 24 := by omega
    obtain ⟨x, hx⟩ : ∃ x : Nat, x = 128 + n := ⟨_, rfl⟩
    have hor : bits .or .u8 (128 : Int) (n : Int) = (x : Int) := by rw [hx]; exact or_h4 ⟨n, h24⟩
    have hcv := run_convert_seg (P := Tryz.prog) (src := 32) (e := 5) (dst := 9) Tryz.underlying32 Tryz.underlying5 Tryz.underlying9 1 (seg_one w x (by omega))
    simp only [List.length_cons, List.length_nil, Nat.zero_add] at hcv
    have he : hd 4 n = [x.toUInt8] := by rw [hd, if_pos h24, hx]
    have HO := Lib.hid ((Off.refl [] w).alloc (.cells #[.int .u8 (x : Int)] 5))
    rw [he]
    clear hn h24 hx he
    go_enter Tryz.func25, Tryz.ntmps25
    go_wp2_with fail
    go_ret
    exact ⟨rfl, HO.out⟩
  · have q1 : ¬ ((n : Int) < 24) := by omega
    have q2 : (n : Int) < 256 := by omega
    have hcv := run_convert_seg (P := Tryz.prog) (src := 32) (e := 5) (dst := 9) Tryz.underlying32 Tryz.underlying5 Tryz.underlying9 2 (seg_two w 152 n (by omega) hn)
    have e24 : ((152 : Nat) : Int) = (152 : Int) := rfl
    rw [e24] at hcv
    simp only [List.length_cons, List.length_nil, Nat.zero_add] at hcv
    have hor : bits .or .u8 (128 : Int) 24 = (152 : Int) := by decide +kernel
    have he : hd 4 n = [(152 : Nat).toUInt8, n.toUInt8] := by rw [hd, if_neg h24, if_pos hn]
    have HO := Lib.hid ((Off.refl [] w).alloc (.cells #[.int .u8 152, .int .u8 (n : Int)] 5))
    rw [he]
    clear hn h24 he
    go_enter Tryz.func25, Tryz.ntmps25
    go_wp2_with fail
    go_ret
    exact ⟨rfl, HO.out⟩

theorem or_h5 : ∀ k : Fin 24, bits .or .u8 (160 : Int) (k.val : Int) = ((160 + k.val : Nat) : Int) := by decide +kernel
set_option maxRecDepth 100000 in
set_option maxHeartbeats 2000000 in
theorem head_5 (n : Nat) (w : World) (hn : n < 256) :
    Calls Tryz.prog 25 #[.int .u8 5, .int .u64 (n : Int)] w fun r w' => r = .returned (.string (str (hd 5 n))) ∧ Off [] w w' := by
  have hmod : (n : Int) % 256 = (n : Int) := by omega
  by_cases h24 : n < 24
  · have q1 : (n : Int) < 24 := by omega
    obtain ⟨x, hx⟩ : ∃ x : Nat, x = 160 + n := ⟨_, rfl⟩
    have hor : bits .or .u8 (160 : Int) (n : Int) = (x : Int) := by rw [hx]; exact or_h5 ⟨n, h24⟩
    have hcv := run_convert_seg (P := Tryz.prog) (src := 32) (e := 5) (dst := 9) Tryz.underlying32 Tryz.underlying5 Tryz.underlying9 1 (seg_one w x (by omega))
    simp only [List.length_cons, List.length_nil, Nat.zero_add] at hcv
    have he : hd 5 n = [x.toUInt8] := by rw [hd, if_pos h24, hx]
    have HO := Lib.hid ((Off.refl [] w).alloc (.cells #[.int .u8 (x : Int)] 5))
    rw [he]
    clear hn h24 hx he
    go_enter Tryz.func25, Tryz.ntmps25
    go_wp2_with fail
    go_ret
    exact ⟨rfl, HO.out⟩
  · have q1 : ¬ ((n : Int) < 24) := by omega
    have q2 : (n : Int) < 256 := by omega
    have hcv := run_convert_seg (P := Tryz.prog) (src := 32) (e := 5) (dst := 9) Tryz.underlying32 Tryz.underlying5 Tryz.underlying9 2 (seg_two w 184 n (by omega) hn)
    have e24 : ((184 : Nat) : Int) = (184 : Int) := rfl
    rw [e24] at hcv
    simp only [List.length_cons, List.length_nil, Nat.zero_add] at hcv
    have hor : bits .or .u8 (160 : Int) 24 = (184 : Int) := by decide +kernel
    have he : hd 5 n = [(184 : Nat).toUInt8, n.toUInt8] := by rw [hd, if_neg h24, if_pos hn]
    have HO := Lib.hid ((Off.refl [] w).alloc (.cells #[.int .u8 184, .int .u8 (n : Int)] 5))
    rw [he]
    clear hn h24 he
    go_enter Tryz.func25, Tryz.ntmps25
    go_wp2_with fail
    go_ret
    exact ⟨rfl, HO.out⟩

theorem or_h6 : ∀ k : Fin 24, bits .or .u8 (192 : Int) (k.val : Int) = ((192 + k.val : Nat) : Int) := by decide +kernel
set_option maxRecDepth 100000 in
set_option maxHeartbeats 2000000 in
theorem head_6 (n : Nat) (w : World) (hn : n < 256) :
    Calls Tryz.prog 25 #[.int .u8 6, .int .u64 (n : Int)] w fun r w' => r = .returned (.string (str (hd 6 n))) ∧ Off [] w w' := by
  have hmod : (n : Int) % 256 = (n : Int) := by omega
  by_cases h24 : n < 24
  · have q1 : (n : Int) < 24 := by omega
    obtain ⟨x, hx⟩ : ∃ x : Nat, x = 192 + n := ⟨_, rfl⟩
    have hor : bits .or .u8 (192 : Int) (n : Int) = (x : Int) := by rw [hx]; exact or_h6 ⟨n, h24⟩
    have hcv := run_convert_seg (P := Tryz.prog) (src := 32) (e := 5) (dst := 9) Tryz.underlying32 Tryz.underlying5 Tryz.underlying9 1 (seg_one w x (by omega))
    simp only [List.length_cons, List.length_nil, Nat.zero_add] at hcv
    have he : hd 6 n = [x.toUInt8] := by rw [hd, if_pos h24, hx]
    have HO := Lib.hid ((Off.refl [] w).alloc (.cells #[.int .u8 (x : Int)] 5))
    rw [he]
    clear hn h24 hx he
    go_enter Tryz.func25, Tryz.ntmps25
    go_wp2_with fail
    go_ret
    exact ⟨rfl, HO.out⟩
  · have q1 : ¬ ((n : Int) < 24) := by omega
    have q2 : (n : Int) < 256 := by omega
    have hcv := run_convert_seg (P := Tryz.prog) (src := 32) (e := 5) (dst := 9) Tryz.underlying32 Tryz.underlying5 Tryz.underlying9 2 (seg_two w 216 n (by omega) hn)
    have e24 : ((216 : Nat) : Int) = (216 : Int) := rfl
    rw [e24] at hcv
    simp only [List.length_cons, List.length_nil, Nat.zero_add] at hcv
    have hor : bits .or .u8 (192 : Int) 24 = (216 : Int) := by decide +kernel
    have he : hd 6 n = [(216 : Nat).toUInt8, n.toUInt8] := by rw [hd, if_neg h24, if_pos hn]
    have HO := Lib.hid ((Off.refl [] w).alloc (.cells #[.int .u8 216, .int .u8 (n : Int)] 5))
    rw [he]
    clear hn h24 he
    go_enter Tryz.func25, Tryz.ntmps25
    go_wp2_with fail
    go_ret
    exact ⟨rfl, HO.out⟩
end Go.Proofs.YtkdbjocchponfaaGreatDoor
namespace Go.Proofs.YtkdbjocchponfaaGreatDoor
open Go.RowKit

theorem cidB_len {e : Ent} (h : e.ok) : 4 ≤ (cidB e).length ∧ (cidB e).length ≤ e.dg.size + 31 := by
  have hs := h.small
  have hz : e.dg.data.toList.length = e.dg.size := by simp
  rw [hz] at hs
  have hp1 := Lib.uvarint_pos e.code
  have hp2 := Lib.uvarint_pos e.dg.size
  have hp3 := Lib.uvarint_pos e.codec
  have hl2 := Lib.uvarint_length64 (x := e.dg.size) (by omega)
  unfold cidB
  rcases h.ver with ⟨h1, h2, h3, h4⟩ | ⟨h1, h2, h3⟩
  · rw [if_pos h1, h3, mhB_v0 _ h4]
    rw [hz] at h4
    simp
    omega
  · have hl1 := Lib.uvarint_length64 (x := e.code) (by omega)
    have hl3 := Lib.uvarint_length64 (x := e.codec) (by omega)
    rw [if_neg (by omega), cid1_length, mhB_length, hz]
    omega

set_option maxRecDepth 100000 in
set_option maxHeartbeats 2000000 in
theorem link_any (e : Ent) (w : World) (h : e.ok) (hd2 : e.dg.size ≤ 200) :
    Calls Tryz.prog 26 #[.agg #[.int .u64 (e.ver : Int), .int .u64 (e.codec : Int), .int .u64 (e.code : Int), .string e.dg]] w fun r w' => r = .returned (.string (str (linkB (cidB e)))) ∧ Off [] w w' := by
  obtain ⟨c, hc⟩ : ∃ c, c = cidB e := ⟨_, rfl⟩
  have hl := cidB_len h
  rw [← hc] at hl
  obtain ⟨s, hs⟩ : ∃ s, s = str c := ⟨_, rfl⟩
  have hsz : s.size = c.length := by rw [hs]; rfl
  have HC := Lib.hid (fun W => cidBytes_any e W h)
  rw [← hc, ← hs] at HC
  have H6 := Lib.hid (fun W => head_6 42 W (by omega))
  obtain ⟨s6, hs6⟩ : ∃ s6, s6 = str (hd 6 42) := ⟨_, rfl⟩
  rw [← hs6] at H6
  have hsz6 : s6.size = 2 := by rw [hs6]; rfl
  obtain ⟨m, hm⟩ : ∃ m, m = c.length + 1 := ⟨_, rfl⟩
  have H2 := Lib.hid (fun W => head_2 m W (by omega))
  obtain ⟨s2, hs2⟩ : ∃ s2, s2 = str (hd 2 m) := ⟨_, rfl⟩
  rw [← hs2] at H2
  have hsz2 : s2.size ≤ 3 := by rw [hs2]; exact (hd_len 2 m).2
  have hadd : (s.size : Int) + 1 = (m : Int) := by omega
  have hmi : ((s.size : Int) + 1) % 18446744073709551616 = (m : Int) := by omega
  have hb1 : ¬ ((9223372036854775807 : Int) < (s6.size : Int) + (s2.size : Int)) := by omega
  have hb2 : ¬ ((9223372036854775807 : Int) < (s6.size : Int) + (s2.size : Int) + 1) := by omega
  have hb3 : ¬ ((9223372036854775807 : Int) < (s6.size : Int) + (s2.size : Int) + 1 + (s.size : Int)) := by omega
  have HF := Lib.hid (And.intro hc (And.intro hs (And.intro hs6 (And.intro hs2 hm))))
  have hB := Blk.new w 42 #[.int .u64 (e.ver : Int), .int .u64 (e.codec : Int), .int .u64 (e.code : Int), .string e.dg]
  have HA := Lib.hid ((Off.refl [] w).alloc (.cells #[.int .u64 (e.ver : Int), .int .u64 (e.codec : Int), .int .u64 (e.code : Int), .string e.dg] 42))
  clear h hl hsz hc hs hs6 hsz6 hs2 hsz2 hm hB hd2
  go_enter Tryz.func26, Tryz.ntmps26
  go_wp2_with (first
    | (go_at_call 27; refine (HC.out _).mono ?_; rintro r w1 ⟨rfl, ho1⟩; have HO1 := Lib.hid ho1; clear ho1)
    | (go_at_call_of 25 (Value.int .u8 6); refine (H6.out _).mono ?_; rintro r w2 ⟨rfl, ho2⟩; have HO2 := Lib.hid ho2; clear ho2)
    | (go_at_call 25; refine (H2.out _).mono ?_; rintro r w3 ⟨rfl, ho3⟩; have HO3 := Lib.hid ho3; clear ho3))
  go_ret
  obtain ⟨hc, hs, hs6, hs2, hm⟩ := HF.out
  refine ⟨?_, ((HA.out.then HO1.out (fun x hx => by simp at hx)).then HO2.out (fun x hx => by simp at hx)).then HO3.out (fun x hx => by simp at hx)⟩
  have e1 : str (linkB (cidB e)) = s6 ++ s2 ++ ⟨#[0]⟩ ++ s := by
    rw [← hc, linkB, ← hm, hs6, hs2, hs, str_app', show (⟨#[0]⟩ : ByteArray) = str [0] from rfl, str_app', str_app']
    simp
  rw [e1]
  try rfl

set_option maxRecDepth 100000 in
set_option maxHeartbeats 4000000 in
theorem section_any (e : Ent) (data : ByteArray) (w : World) (h : e.ok) (hd2 : data.size ≤ 1000000) :
    Calls Tryz.prog 16 #[.agg #[.int .u64 (e.ver : Int), .int .u64 (e.codec : Int), .int .u64 (e.code : Int), .string e.dg, .string data]] w fun r w' => r = .returned (.string (str (secB (cidB e) data.data.toList))) ∧ Off [] w w' := by
  obtain ⟨c, hc⟩ : ∃ c, c = cidB e := ⟨_, rfl⟩
  have hl := cidB_len h
  have hsm := h.small
  rw [← hc] at hl
  obtain ⟨s, hs⟩ : ∃ s, s = str c := ⟨_, rfl⟩
  have hsz : s.size = c.length := by rw [hs]; rfl
  have HC := Lib.hid (fun W => cidBytes_any e W h)
  rw [← hc, ← hs] at HC
  obtain ⟨m, hm⟩ : ∃ m, m = c.length + data.size := ⟨_, rfl⟩
  have hdz : e.dg.data.toList.length = e.dg.size := by simp
  have HV := Lib.hid (varint_any m (by omega))
  have hu := Lib.uvarint_pos m
  have hl1 := Lib.uvarint_length64 (x := m) (by omega)
  obtain ⟨su, hsu⟩ : ∃ su, su = str (Lib.uvarint m) := ⟨_, rfl⟩
  have hsuz : su.size = (Lib.uvarint m).length := by rw [hsu]; rfl
  have hadd : (s.size : Int) + (data.size : Int) = (m : Int) := by omega
  have hw64 : IntKind.u64.wrap (m : Int) = (m : Int) := by rw [IntKind.wrap_u64]; omega
  have hwi64 : IntKind.i64.wrap (m : Int) = (m : Int) := by rw [IntKind.wrap_i64]; omega
  have hb1 : ¬ ((9223372036854775807 : Int) < (su.size : Int) + (s.size : Int)) := by omega
  have hb2 : ¬ ((9223372036854775807 : Int) < (su.size : Int) + (s.size : Int) + (data.size : Int)) := by omega
  have HF := Lib.hid (And.intro hc (And.intro hs (And.intro hsu hm)))
  have HSU := Lib.hid hsu
  have HA := Lib.hid ((Off.refl [] w).alloc (.cells #[.int .u64 (e.ver : Int), .int .u64 (e.codec : Int), .int .u64 (e.code : Int), .string e.dg, .string data] 45))
  have HBN := Lib.hid (Blk.new w 45 #[.int .u64 (e.ver : Int), .int .u64 (e.codec : Int), .int .u64 (e.code : Int), .string e.dg, .string data])
  clear h hl hsz hc hs hsu hsuz hm hd2 hl1 hdz hsm
  go_enter Tryz.func16, Tryz.ntmps16
  go_wp2_with fail
  refine (HC.out _).mono ?_
  rintro r w1 ⟨rfl, ho1⟩
  have HB1 := Lib.hid (ho1.blk HBN.out (by simp))
  have HO1 := Lib.hid (HA.out.then ho1 (fun x hx => by simp at hx))
  clear ho1
  go_wp2_with fail
  go_region_held (fun W => W.cell? ⟨w.heap.size, 4, none⟩ = some (.string data)) (first | (exact HB1.out.cell 4) | (exact HB2.out.cell 4)) (first
    | (go_at_call 21
       refine (HV.out _).mono ?_
       rintro r w2 ⟨v2, rfl, hr2, ho2⟩
       have ho3 : Off [] w1 w2 := by first | exact ho2 | exact (Off.refl [] w1).drew.then ho2 (fun x hx => by simp at hx)
       have hcv5 : (convert 32 9 v2).run Tryz.prog w2 = .ok (.string su) w2 := by rw [HSU.out]; exact row8_conv hr2 hu
       have hcv6 : (convert 32 9 v2).run Tryz.prog w2.drew = .ok (.string su) w2.drew := by rw [HSU.out]; exact row8_conv (hr2.off (Off.refl [] w2).drew (fun x _ => by simp)) hu
       have HB2 := Lib.hid (ho3.blk HB1.out (by simp))
       have HO2 := Lib.hid (HO1.out.then ho3 (fun x hx => by simp at hx))
       clear hr2 ho2 ho3))
  all_goals go_wp2_with fail
  all_goals go_ret
  all_goals refine ⟨?_, by first | exact HO2.out | exact HO2.out.drew⟩
  all_goals
    obtain ⟨hc, hs, hsu, hm⟩ := HF.out
    have e1 : str (secB (cidB e) data.data.toList) = su ++ s ++ data := by
      have hdz : data.data.toList.length = data.size := by simp
      rw [← hc, secB, hdz, ← hm, hsu, hs, str_app', ← str_self data, str_app', List.append_assoc]
    first | (rw [e1]; done) | (rw [e1]; rfl)
end Go.Proofs.YtkdbjocchponfaaGreatDoor
namespace Go.Proofs.YtkdbjocchponfaaGreatDoor
open Go.RowKit

/-- Identifiers in memory. -/
structure CidsAt (w : World) (A : Option Addr) (ib io : Nat) (es : List Ent) : Prop where
  at_ : 0 < es.length → A = some ⟨ib, io, none⟩ ∧ ib < w.heap.size
  cells : ∀ i (h : i < es.length), w.cell? ⟨ib, io + i * 4, none⟩ = some (.int .u64 (es[i].ver : Int)) ∧ w.cell? ⟨ib, io + i * 4 + 1, none⟩ = some (.int .u64 (es[i].codec : Int)) ∧ w.cell? ⟨ib, io + i * 4 + 2, none⟩ = some (.int .u64 (es[i].code : Int)) ∧ w.cell? ⟨ib, io + i * 4 + 3, none⟩ = some (.string es[i].dg)
theorem CidsAt.off {w w' : World} {A : Option Addr} {ib io : Nat} {es : List Ent} {S : List Nat} (h : CidsAt w A ib io es) (ho : Off S w w') (hS : 0 < es.length → ib ∉ S) : CidsAt w' A ib io es := by
  refine ⟨fun h0 => ⟨(h.at_ h0).1, Nat.lt_of_lt_of_le (h.at_ h0).2 ho.size⟩, fun i hi => ?_⟩
  have h0 : 0 < es.length := by omega
  obtain ⟨h1, h2, h3, h4⟩ := h.cells i hi
  exact ⟨ho.cellE h1 (hS h0), ho.cellE h2 (hS h0), ho.cellE h3 (hS h0), ho.cellE h4 (hS h0)⟩

/-- What a header has ahead of its links. -/
def preB (n : Nat) : List UInt8 := hd 5 2 ++ (hd 3 5 ++ (rootsS ++ hd 4 n))
theorem preB_len (n : Nat) (hn : n < 256) : (preB n).length ≤ 9 := by
  have h : (hd 4 n).length ≤ 2 := by
    unfold hd
    split
    · simp
    · simp
  have e1 : (hd 5 2).length = 1 := rfl
  have e2 : (hd 3 5).length = 1 := rfl
  have e3 : rootsS.length = 5 := rfl
  unfold preB
  simp only [List.length_append, e1, e2, e3]
  omega
theorem hdrBody_eq (cs : List (List UInt8)) (v : Nat) : hdrBody cs v = (preB cs.length ++ cs.flatMap linkB) ++ (hd 3 7 ++ (verS ++ hd 0 v)) := by
  unfold hdrBody preB
  simp [List.append_assoc]

set_option maxRecDepth 100000 in
set_option maxHeartbeats 1000000 in
theorem headerBytes_any (es : List Ent) (A : Option Addr) (ib io c n : Nat) (w : World) (hes : ∀ e, e ∈ es → e.ok ∧ e.dg.size ≤ 200) (hn : es.length = n) (hn2 : n ≤ 50) (hat : CidsAt w A ib io es) :
    Calls Tryz.prog 15 #[.slice A n c, .int .u64 1] w fun r w' => r = .returned (.string (str (hdrB (es.map cidB) 1))) ∧ Off [] w w' := by
  have H5 := Lib.hid (fun W => head_5 2 W (by omega))
  obtain ⟨s5, hs5⟩ : ∃ s, s = str (hd 5 2) := ⟨_, rfl⟩
  rw [← hs5] at H5
  have H3 := Lib.hid (fun W => head_3 5 W (by omega))
  obtain ⟨s3, hs3⟩ : ∃ s, s = str (hd 3 5) := ⟨_, rfl⟩
  rw [← hs3] at H3
  have H4 := Lib.hid (fun W => head_4 n W (by omega))
  obtain ⟨s4, hs4⟩ : ∃ s, s = str (hd 4 n) := ⟨_, rfl⟩
  rw [← hs4] at H4
  have H7 := Lib.hid (fun W => head_3 7 W (by omega))
  obtain ⟨s7, hs7⟩ : ∃ s, s = str (hd 3 7) := ⟨_, rfl⟩
  rw [← hs7] at H7
  have H0 := Lib.hid (fun W => head_0 1 W (by omega))
  obtain ⟨s0, hs0⟩ : ∃ s, s = str (hd 0 1) := ⟨_, rfl⟩
  rw [← hs0] at H0
  have z5 : s5.size = 1 := by rw [hs5]; rfl
  have z3 : s3.size = 1 := by rw [hs3]; rfl
  have z7 : s7.size = 1 := by rw [hs7]; rfl
  have z0 : s0.size = 1 := by rw [hs0]; rfl
  have z4 : s4.size ≤ 3 := by rw [hs4]; exact (hd_len 4 n).2
  have b1 : ¬ ((9223372036854775807 : Int) < (s5.size : Int) + (s3.size : Int)) := by omega
  have b2 : ¬ ((9223372036854775807 : Int) < (s5.size : Int) + (s3.size : Int) + 5) := by omega
  have b3 : ¬ ((9223372036854775807 : Int) < (s5.size : Int) + (s3.size : Int) + 5 + (s4.size : Int)) := by omega
  have b4 : ¬ ((9223372036854775807 : Int) < (s7.size : Int) + 7) := by omega
  have b5 : ¬ ((9223372036854775807 : Int) < (s7.size : Int) + 7 + (s0.size : Int)) := by omega
  obtain ⟨sp, hsp⟩ : ∃ s, s = str (preB n) := ⟨_, rfl⟩
  have hpre : s5 ++ s3 ++ ⟨#[114, 111, 111, 116, 115]⟩ ++ s4 = sp := by
    rw [hs5, hs3, hs4, hsp, str_app', show (⟨#[114, 111, 111, 116, 115]⟩ : ByteArray) = str rootsS from rfl, str_app', str_app', preB]
    simp
  have zp : sp.size ≤ 9 := by rw [hsp]; exact preB_len n (by omega)
  have hpost : s7 ++ ⟨#[118, 101, 114, 115, 105, 111, 110]⟩ ++ s0 = str (hd 3 7 ++ (verS ++ hd 0 1)) := by
    rw [hs7, hs0, show (⟨#[118, 101, 114, 115, 105, 111, 110]⟩ : ByteArray) = str verS from rfl, str_app', str_app']
    simp
  have HPRE := Lib.hid hpre
  have HPOST := Lib.hid hpost
  have HSP := Lib.hid hsp
  have HES := Lib.hid hes
  have HAT := Lib.hid hat
  have HN := Lib.hid hn
  have hnw : IntKind.u64.wrap (n : Int) = (n : Int) := by rw [IntKind.wrap_u64]; omega
  clear hs5 hs3 hs4 hs7 hs0 hpre hpost hsp hes hat hn
  go_enter Tryz.func15, Tryz.ntmps15
  go_wp2_with (first
    | (go_at_call_of 25 (Value.int .u8 5); refine (H5.out _).mono ?_; rintro r w1 ⟨rfl, ho1⟩; have HO1 := Lib.hid ho1; clear ho1)
    | (go_at_call_of 25 (Value.int .u8 3); refine (H3.out _).mono ?_; rintro r w2 ⟨rfl, ho2⟩; have HO2 := Lib.hid ho2; clear ho2)
    | (go_at_call_of 25 (Value.int .u8 4); refine (H4.out _).mono ?_; rintro r w3 ⟨rfl, ho3⟩; have HO3 := Lib.hid ho3; clear ho3))
  have HW3 : Hid (Off [] w w3) := Lib.hid ((HO1.out.then HO2.out (fun x hx => by simp at hx)).then HO3.out (fun x hx => by simp at hx))
  go_loopg [5, 19] n (fun kx x5 x19 wr => ∃ (i : Nat) (s : ByteArray), x19 = .int .i64 (i : Int) ∧ x5 = .string s ∧ i ≤ n ∧ n - i ≤ kx ∧ s.size ≤ 9 + 240 * i ∧ Hid (s = str (preB n ++ ((es.take i).map cidB).flatMap linkB)) ∧ Hid (Off [] w wr))
  case atStart => exact ⟨0, sp, rfl, by rw [← HPRE.out], Nat.zero_le _, Nat.le_refl _, by omega, Lib.hid (by rw [HSP.out]; simp), HW3⟩
  case round =>
    rename World => wr
    obtain ⟨i, s, rfl, rfl, hin, hkx, hsz, HS, HO⟩ := hrel
    by_cases hlt : i < n
    · have hltz : (i : Int) < (n : Int) := by omega
      have hie : i < es.length := by rw [HN.out]; exact hlt
      have hat := HAT.out.off HO.out (by simp)
      obtain ⟨hA, hib⟩ := hat.at_ (by omega)
      obtain ⟨c0, c1, c2, c3⟩ := hat.cells i hie
      obtain ⟨ent, hent⟩ : ∃ ent, ent = es[i] := ⟨_, rfl⟩
      rw [← hent] at c0 c1 c2 c3
      obtain ⟨hok, hdg⟩ := HES.out ent (by rw [hent]; exact List.getElem_mem _)
      obtain ⟨sl, hsl⟩ : ∃ sl, sl = str (linkB (cidB ent)) := ⟨_, rfl⟩
      have HL := Lib.hid (fun W => link_any ent W hok hdg)
      rw [← hsl] at HL
      have zl : sl.size ≤ 240 := by
        rw [hsl]
        have h1 := (linkB_len (cidB ent)).2
        have h2 := (cidB_len hok).2
        show (linkB (cidB ent)).length ≤ 240
        omega
      have b6 : ¬ ((9223372036854775807 : Int) < (s.size : Int) + (sl.size : Int)) := by omega
      have htk : ((es.take (i + 1)).map cidB).flatMap linkB = ((es.take i).map cidB).flatMap linkB ++ linkB (cidB ent) := by
        rw [List.take_succ_eq_append_getElem hie, List.map_append, List.flatMap_append, hent]; simp
      have HTK := Lib.hid htk
      have HSL := Lib.hid hsl
      have HALX : Hid (Off [] wr (wr.alloc (.cells #[.int .u64 (ent.ver : Int), .int .u64 (ent.codec : Int), .int .u64 (ent.code : Int), .string ent.dg] 42))) := Lib.hid ((Off.refl [] wr).alloc _)
      subst hA
      clear hat hent hok hdg hsl htk
      go_wp2_with (first
        | (go_at_call 26; refine (HL.out _).mono ?_; rintro r w4 ⟨rfl, ho4⟩; have HO4 := Lib.hid ho4; clear ho4))
      go_roundg (n - (i + 1))
      case measure => omega
      case rel =>
        refine ⟨i + 1, s ++ sl, by go_num, rfl, by omega, Nat.le_refl _, by rw [ByteArray.size_append]; omega, Lib.hid ?_, Lib.hid ((HO.out.then HALX.out (fun x hx => by simp at hx)).then HO4.out (fun x hx => by simp at hx))⟩
        rw [HS.out, HSL.out, str_app', HTK.out, List.append_assoc]
    · obtain rfl : i = n := by omega
      have hltz : ¬ (i : Int) < (i : Int) := by omega
      have b7 : ¬ ((9223372036854775807 : Int) < (s.size : Int) + ((s7.size : Int) + 7 + (s0.size : Int))) := by omega
      obtain ⟨m, hm⟩ : ∃ m, m = s.size + 9 := ⟨_, rfl⟩
      have hadd : (s.size : Int) + 9 = (m : Int) := by omega
      have b9 : ¬ ((9223372036854775807 : Int) < (m : Int)) := by omega
      have hmw : IntKind.u64.wrap (m : Int) = (m : Int) := by rw [IntKind.wrap_u64]; omega
      have HV := Lib.hid (varint_any m (by omega))
      have hu := Lib.uvarint_pos m
      have hl1 := Lib.uvarint_length64 (x := m) (by omega)
      obtain ⟨su, hsu⟩ : ∃ su, su = str (Lib.uvarint m) := ⟨_, rfl⟩
      have hsuz : su.size = (Lib.uvarint m).length := by rw [hsu]; rfl
      have b8 : ¬ ((9223372036854775807 : Int) < (su.size : Int) + (m : Int)) := by omega
      have HSU := Lib.hid hsu
      have HM := Lib.hid hm
      clear hsu hm hl1 hsuz
      go_wp2_with (first
        | (go_at_call_of 25 (Value.int .u8 3); refine (H7.out _).mono ?_; rintro r w5 ⟨rfl, ho5⟩; have HO5 := Lib.hid ho5; clear ho5)
        | (go_at_call_of 25 (Value.int .u8 0); refine (H0.out _).mono ?_; rintro r w6 ⟨rfl, ho6⟩; have HO6 := Lib.hid ho6; clear ho6)
        | (go_at_call 21
           refine (HV.out _).mono ?_
           rintro r w7 ⟨v2, rfl, hr2, ho7⟩
           have hcv5 : (convert 32 9 v2).run Tryz.prog w7 = .ok (.string su) w7 := by rw [HSU.out]; exact row8_conv hr2 hu
           have HO7 := Lib.hid ho7
           clear hr2 ho7))
      go_ret
      refine ⟨?_, ((HO.out.then HO5.out (fun x hx => by simp at hx)).then HO6.out (fun x hx => by simp at hx)).then HO7.out (fun x hx => by simp at hx)⟩
      have e1 : s ++ (s7 ++ ⟨#[118, 101, 114, 115, 105, 111, 110]⟩ ++ s0) = str (hdrBody (es.map cidB) 1) := by
        rw [HPOST.out, HS.out, str_app', hdrBody_eq, List.length_map, HN.out, List.take_of_length_le (by rw [HN.out]; exact Nat.le_refl _)]
      have e2 : m = (hdrBody (es.map cidB) 1).length := by
        have h1 : (str (hdrBody (es.map cidB) 1)).size = (hdrBody (es.map cidB) 1).length := rfl
        rw [← h1, ← e1, HM.out]
        have h7 : (⟨#[118, 101, 114, 115, 105, 111, 110]⟩ : ByteArray).size = 7 := rfl
        rw [ByteArray.size_append, ByteArray.size_append, ByteArray.size_append, z7, z0, h7]
      have e3 : str (hdrB (es.map cidB) 1) = su ++ (s ++ (s7 ++ ⟨#[118, 101, 114, 115, 105, 111, 110]⟩ ++ s0)) := by
        rw [e1, HSU.out, str_app', hdrB, e2]
      rw [e3]
      try rfl
end Go.Proofs.YtkdbjocchponfaaGreatDoor
