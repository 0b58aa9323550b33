/-
  index.WriteTo into a bytes.Buffer; impl.written; index.New.
  (No condition beyond those that each theorem states.)
-/
import Derived.Test.YtcgggcjmmphldaaGreatDoorHg2
import Derived.Test.YtcgggcjmmphldaaGreatDoorHa2
namespace Go.Proofs.YtcgggcjmmphldaaGreatDoor
open Go.RowKit

theorem run_makeB10 (W : World) : (Instr.makeSlice 46 (.int .i64 10) (.int .i64 10)).run Tryz.prog W = .ok (.slice (some ⟨W.heap.size, 0, none⟩) 10 10) (W.alloc (.cells (zeroBytes 10).toArray 5)) := by
  obtain ⟨ib0, hbi, hbz0, hbz1, hbz2⟩ := info_parts Tryz.infoByte
  exact run_makeBytes Tryz.underlying46 hbi hbz0 hbz1 hbz2 10 (by omega) W

theorem method_mwCodec (a : Addr) (w : World) : (method 472 170 (.pointer (some a)) "Codec").run Tryz.prog w = .ok (286, .pointer (some a)) w := by kernel_rfl
theorem method_mwMarshal (a : Addr) (w : World) : (method 472 170 (.pointer (some a)) "Marshal").run Tryz.prog w = .ok (210, .pointer (some a)) w := by kernel_rfl
set_option maxRecDepth 100000 in
theorem codec_mw (v : Value) (w : World) : Calls Tryz.prog 286 #[v] w fun e w' => e = .returned (.int .u64 1024) ∧ w' = w := by
  go_enter Tryz.func286, Tryz.ntmps286
  go_wp2
  go_ret
  exact ⟨rfl, rfl⟩

set_option maxRecDepth 100000 in
set_option maxHeartbeats 2000000 in
theorem writeTo_mw {b : Nat} {w0 w : World} {l : List UInt8} (h : WrAt b w0 l w) (pb : Nat) (OK : List UInt8 → Prop) (hlim : l.length ≤ 1000)
    (hM : ∀ W l', WrAt b w0 l' W → l'.length ≤ 1000000 → Calls Tryz.prog 210 #[.pointer (some ⟨pb, 0, none⟩), .iface 137 (.pointer (some ⟨b, 0, none⟩))] W fun e w' => ∃ (X : List UInt8) (n : Nat), OK X ∧ e = .returned (.tuple #[.int .u64 (n : Int), .nilIface]) ∧ WrAt b w0 (l' ++ X) w') :
    Calls Tryz.prog 65 #[.iface 170 (.pointer (some ⟨pb, 0, none⟩)), .iface 137 (.pointer (some ⟨b, 0, none⟩))] w fun e w' => ∃ (X : List UInt8) (n : Int), OK X ∧ e = .returned (.tuple #[.int .u64 n, .nilIface]) ∧ WrAt b w0 (l ++ (Lib.uvarint 1024 ++ X)) w' := by
  have hblt := h.lt
  obtain ⟨LL, hLL⟩ : ∃ LL, LL = (Lib.uvarint 1024).length := ⟨_, rfl⟩
  have hL10 : LL ≤ 10 := by rw [hLL]; exact Lib.uvarint_length64 (by omega)
  have hzz : zeroBytes 10 = zeroBytes LL ++ zeroBytes (10 - LL) := by rw [← zeroBytes_append]; congr 1; omega
  have hP : ∀ W, Blk W w.heap.size 5 (zeroBytes 10).toArray → Calls Tryz.prog 101 #[.slice (some ⟨w.heap.size, 0, none⟩) 10 10, .int .u64 1024] W fun e w' => e = .returned (.int .i64 (LL : Int)) ∧ Seg w' w.heap.size 0 (Lib.uvarint 1024) ∧ Off [w.heap.size] W w' := fun W hW => by
    rw [hzz] at hW
    refine (putUvarint_blk w.heap.size 0 10 10 1024 5 [] (zeroBytes LL) (zeroBytes (10 - LL)) (by omega) W (by rw [← hLL]; exact hL10) rfl (by rw [zeroBytes_length, hLL]) hW).mono ?_
    rintro e w' ⟨h1, h2, h3, _⟩
    exact ⟨by rw [hLL]; exact h1, Blk.seg (post := zeroBytes (10 - LL)) h2, Off.ofGrown h3⟩
  have hW : ∀ W, WrAt b w0 l W → Seg W w.heap.size 0 (Lib.uvarint 1024) → Calls Tryz.prog 276 #[.pointer (some ⟨b, 0, none⟩), .slice (some ⟨w.heap.size, 0, none⟩) LL 10] W fun e w' => e = .returned (.tuple #[.int .i64 (LL : Int), .nilIface]) ∧ WrAt b w0 (l ++ Lib.uvarint 1024) w' := fun W h1 h2 =>
    (bufWrite_any h1 w.heap.size 0 LL 10 (Lib.uvarint 1024) h2 hLL.symm (by omega) (by omega)).mono fun e w' ⟨a1, a2, _⟩ => ⟨a1, a2⟩
  have HM := Lib.hid fun W hW => hM W (l ++ Lib.uvarint 1024) hW (by rw [List.length_append, ← hLL]; omega)
  have HP := Lib.hid hP
  have HW := Lib.hid hW
  have HH := Lib.hid h
  have hm1 := method_bufWrite
  have hm2 := nil_bufWrite
  have hm3 := method_mwCodec
  have hm4 := method_mwMarshal
  have hmk := run_makeB10
  have hL0 : (0 : Int) ≤ (LL : Int) := by omega
  have hL1 : (LL : Int) ≤ 10 := by omega
  have hwL : IntKind.u64.wrap (LL : Int) = (LL : Int) := by rw [IntKind.wrap_u64]; omega
  clear hP hW h hM hzz hLL
  go_enter Tryz.func65, Tryz.ntmps65
  go_wp2_with (first
    | (go_at_call 286; refine (codec_mw _ _).mono ?_; rintro e w' ⟨rfl, rfl⟩)
    | (go_at_call 101; refine (HP.out _ (Blk.new' _ _ _ rfl)).mono ?_; rintro e w1 ⟨rfl, hS1, hO1⟩))
  have hR1 := HH.out.old (((Off.alloc (Off.refl [w.heap.size] w) _).then hO1 (fun x hx => Or.inl hx)).below (fun x hx => by simp at hx; omega))
  have HR1 := Lib.hid hR1
  have HS1 := Lib.hid hS1
  clear hR1 hS1 hO1
  go_region_held3 (fun w' => True) (exact trivial) (first | (go_at_call 276; refine (HW.out _ (HR1.out.ofDrew (by repeat' (first | exact Drew.refl _ | exact Drew.one _ | refine Drew.more ?_ 1))) (by exact HS1.out)).mono ?_; rintro e w3 ⟨rfl, hR3⟩; have HR3 := Lib.hid hR3; clear hR3))
  all_goals go_wp2_with (go_at_call 210; refine (HM.out _ HR3.out).mono ?_; rintro e w4 ⟨X, n, hX, rfl, hR4⟩)
  all_goals go_ret2
  all_goals exact ⟨X, _, hX, rfl, by rw [← List.append_assoc]; exact hR4⟩

set_option maxRecDepth 100000 in
set_option maxHeartbeats 1000000 in
theorem written_mw (w : World) (pb : Nat) (OK : List UInt8 → Prop)
    (hM : ∀ b W l', w.heap.size ≤ b → WrAt b w l' W → l'.length ≤ 1000000 → Calls Tryz.prog 210 #[.pointer (some ⟨pb, 0, none⟩), .iface 137 (.pointer (some ⟨b, 0, none⟩))] W fun e w' => ∃ (X : List UInt8) (n : Nat), OK X ∧ e = .returned (.tuple #[.int .u64 (n : Int), .nilIface]) ∧ WrAt b w (l' ++ X) w') :
    Calls Tryz.prog 40 #[.iface 170 (.pointer (some ⟨pb, 0, none⟩)), .nilIface] w fun e w' => ∃ X, OK X ∧ e = .returned (.tuple #[.string ⟨(Lib.uvarint 1024 ++ X).toArray⟩, .bool true]) ∧ Off [] w w' := by
  have h0 : WrAt w.heap.size w [] (w.alloc (.cells #[.slice none 0 0, .int .i64 0, .int .i8 0] 134)) := ⟨Nat.le_refl _, Lib.fresh_isBuffer _ _ w, Off.alloc (Off.refl [] w) _⟩
  have HW := Lib.hid (writeTo_mw h0 pb OK (by simp) (fun W l' => hM w.heap.size W l' (Nat.le_refl _)))
  have hS : ∀ W l', WrAt w.heap.size w l' W → Calls Tryz.prog 66 #[.pointer (some ⟨w.heap.size, 0, none⟩)] W fun e w' => e = .returned (.string ⟨l'.toArray⟩) ∧ ∃ n, w' = W.drewN n := fun W l' h => Tryz.Buffer_String w.heap.size w.heap.size l' W h.buf
  have HS := Lib.hid hS
  clear hS h0 hM
  go_enter Tryz.func40, Tryz.ntmps40
  go_wp2_with (first
    | (go_at_call 65; refine HW.out.mono ?_; rintro e w1 ⟨X, n, hX, rfl, hR1⟩)
    | (go_at_call 66; refine (HS.out _ _ hR1).mono ?_; rintro e w2 ⟨rfl, k, rfl⟩))
  go_ret2
  exact ⟨X, hX, rfl, hR1.off.drewN k⟩

theorem method_misCodec (a : Addr) (w : World) : (method 472 124 (.pointer (some a)) "Codec").run Tryz.prog w = .ok (180, .pointer (some a)) w := by kernel_rfl
theorem method_misMarshal (a : Addr) (w : World) : (method 472 124 (.pointer (some a)) "Marshal").run Tryz.prog w = .ok (184, .pointer (some a)) w := by kernel_rfl
set_option maxRecDepth 100000 in
theorem codec_mis (v : Value) (w : World) : Calls Tryz.prog 180 #[v] w fun e w' => e = .returned (.int .u64 1025) ∧ w' = w := by
  go_enter Tryz.func180, Tryz.ntmps180
  go_wp2
  go_ret
  exact ⟨rfl, rfl⟩

set_option maxRecDepth 100000 in
set_option maxHeartbeats 2000000 in
theorem writeTo_mis {b : Nat} {w0 w : World} {l : List UInt8} (h : WrAt b w0 l w) (pb : Nat) (OK : List UInt8 → Prop) (hlim : l.length ≤ 1000)
    (hM : ∀ W l', WrAt b w0 l' W → l'.length ≤ 1000000 → Calls Tryz.prog 184 #[.pointer (some ⟨pb, 0, none⟩), .iface 137 (.pointer (some ⟨b, 0, none⟩))] W fun e w' => ∃ (X : List UInt8) (n : Nat), OK X ∧ e = .returned (.tuple #[.int .u64 (n : Int), .nilIface]) ∧ WrAt b w0 (l' ++ X) w') :
    Calls Tryz.prog 65 #[.iface 124 (.pointer (some ⟨pb, 0, none⟩)), .iface 137 (.pointer (some ⟨b, 0, none⟩))] w fun e w' => ∃ (X : List UInt8) (n : Int), OK X ∧ e = .returned (.tuple #[.int .u64 n, .nilIface]) ∧ WrAt b w0 (l ++ (Lib.uvarint 1025 ++ X)) w' := by
  have hblt := h.lt
  obtain ⟨LL, hLL⟩ : ∃ LL, LL = (Lib.uvarint 1025).length := ⟨_, rfl⟩
  have hL10 : LL ≤ 10 := by rw [hLL]; exact Lib.uvarint_length64 (by omega)
  have hzz : zeroBytes 10 = zeroBytes LL ++ zeroBytes (10 - LL) := by rw [← zeroBytes_append]; congr 1; omega
  have hP : ∀ W, Blk W w.heap.size 5 (zeroBytes 10).toArray → Calls Tryz.prog 101 #[.slice (some ⟨w.heap.size, 0, none⟩) 10 10, .int .u64 1025] W fun e w' => e = .returned (.int .i64 (LL : Int)) ∧ Seg w' w.heap.size 0 (Lib.uvarint 1025) ∧ Off [w.heap.size] W w' := fun W hW => by
    rw [hzz] at hW
    refine (putUvarint_blk w.heap.size 0 10 10 1025 5 [] (zeroBytes LL) (zeroBytes (10 - LL)) (by omega) W (by rw [← hLL]; exact hL10) rfl (by rw [zeroBytes_length, hLL]) hW).mono ?_
    rintro e w' ⟨h1, h2, h3, _⟩
    exact ⟨by rw [hLL]; exact h1, Blk.seg (post := zeroBytes (10 - LL)) h2, Off.ofGrown h3⟩
  have hW : ∀ W, WrAt b w0 l W → Seg W w.heap.size 0 (Lib.uvarint 1025) → Calls Tryz.prog 276 #[.pointer (some ⟨b, 0, none⟩), .slice (some ⟨w.heap.size, 0, none⟩) LL 10] W fun e w' => e = .returned (.tuple #[.int .i64 (LL : Int), .nilIface]) ∧ WrAt b w0 (l ++ Lib.uvarint 1025) w' := fun W h1 h2 =>
    (bufWrite_any h1 w.heap.size 0 LL 10 (Lib.uvarint 1025) h2 hLL.symm (by omega) (by omega)).mono fun e w' ⟨a1, a2, _⟩ => ⟨a1, a2⟩
  have HM := Lib.hid fun W hW => hM W (l ++ Lib.uvarint 1025) hW (by rw [List.length_append, ← hLL]; omega)
  have HP := Lib.hid hP
  have HW := Lib.hid hW
  have HH := Lib.hid h
  have hm1 := method_bufWrite
  have hm2 := nil_bufWrite
  have hm3 := method_misCodec
  have hm4 := method_misMarshal
  have hmk := run_makeB10
  have hL0 : (0 : Int) ≤ (LL : Int) := by omega
  have hL1 : (LL : Int) ≤ 10 := by omega
  have hwL : IntKind.u64.wrap (LL : Int) = (LL : Int) := by rw [IntKind.wrap_u64]; omega
  clear hP hW h hM hzz hLL
  go_enter Tryz.func65, Tryz.ntmps65
  go_wp2_with (first
    | (go_at_call 180; refine (codec_mis _ _).mono ?_; rintro e w' ⟨rfl, rfl⟩)
    | (go_at_call 101; refine (HP.out _ (Blk.new' _ _ _ rfl)).mono ?_; rintro e w1 ⟨rfl, hS1, hO1⟩))
  have hR1 := HH.out.old (((Off.alloc (Off.refl [w.heap.size] w) _).then hO1 (fun x hx => Or.inl hx)).below (fun x hx => by simp at hx; omega))
  have HR1 := Lib.hid hR1
  have HS1 := Lib.hid hS1
  clear hR1 hS1 hO1
  go_region_held3 (fun w' => True) (exact trivial) (first | (go_at_call 276; refine (HW.out _ (HR1.out.ofDrew (by repeat' (first | exact Drew.refl _ | exact Drew.one _ | refine Drew.more ?_ 1))) (by exact HS1.out)).mono ?_; rintro e w3 ⟨rfl, hR3⟩; have HR3 := Lib.hid hR3; clear hR3))
  all_goals go_wp2_with (go_at_call 184; refine (HM.out _ HR3.out).mono ?_; rintro e w4 ⟨X, n, hX, rfl, hR4⟩)
  all_goals go_ret2
  all_goals exact ⟨X, _, hX, rfl, by rw [← List.append_assoc]; exact hR4⟩

set_option maxRecDepth 100000 in
set_option maxHeartbeats 1000000 in
theorem written_mis (w : World) (pb : Nat) (OK : List UInt8 → Prop)
    (hM : ∀ b W l', w.heap.size ≤ b → WrAt b w l' W → l'.length ≤ 1000000 → Calls Tryz.prog 184 #[.pointer (some ⟨pb, 0, none⟩), .iface 137 (.pointer (some ⟨b, 0, none⟩))] W fun e w' => ∃ (X : List UInt8) (n : Nat), OK X ∧ e = .returned (.tuple #[.int .u64 (n : Int), .nilIface]) ∧ WrAt b w (l' ++ X) w') :
    Calls Tryz.prog 40 #[.iface 124 (.pointer (some ⟨pb, 0, none⟩)), .nilIface] w fun e w' => ∃ X, OK X ∧ e = .returned (.tuple #[.string ⟨(Lib.uvarint 1025 ++ X).toArray⟩, .bool true]) ∧ Off [] w w' := by
  have h0 : WrAt w.heap.size w [] (w.alloc (.cells #[.slice none 0 0, .int .i64 0, .int .i8 0] 134)) := ⟨Nat.le_refl _, Lib.fresh_isBuffer _ _ w, Off.alloc (Off.refl [] w) _⟩
  have HW := Lib.hid (writeTo_mis h0 pb OK (by simp) (fun W l' => hM w.heap.size W l' (Nat.le_refl _)))
  have hS : ∀ W l', WrAt w.heap.size w l' W → Calls Tryz.prog 66 #[.pointer (some ⟨w.heap.size, 0, none⟩)] W fun e w' => e = .returned (.string ⟨l'.toArray⟩) ∧ ∃ n, w' = W.drewN n := fun W l' h => Tryz.Buffer_String w.heap.size w.heap.size l' W h.buf
  have HS := Lib.hid hS
  clear hS h0 hM
  go_enter Tryz.func40, Tryz.ntmps40
  go_wp2_with (first
    | (go_at_call 65; refine HW.out.mono ?_; rintro e w1 ⟨X, n, hX, rfl, hR1⟩)
    | (go_at_call 66; refine (HS.out _ _ hR1).mono ?_; rintro e w2 ⟨rfl, k, rfl⟩))
  go_ret2
  exact ⟨X, hX, rfl, hR1.off.drewN k⟩
end Go.Proofs.YtcgggcjmmphldaaGreatDoor
