/-
  The CBOR decoder's small steps at any bytes: numbers, texts, a phase pushed; a map, an array, a number, a text opened.
  The CBOR decoder's stepHelper at a map of two entries, a list, the texts "roots" and "version", the number 1.
  spec.Coded: the entries of one hash function.
  The closure of spec.ByDigest: by digests, then by offsets.
  (No condition beyond those that each theorem states.)
-/
import Derived.Test.YthmhnknkidkdlaaGreatDoorB12
import Derived.Test.YthmhnknkidkdlaaGreatDoorB04
import Derived.Test.YthmhnknkidkdlaaGreatDoorB03
import Derived.Deep.RegionHeld3
import Derived.WalkLawsBesides
namespace Go.Proofs.YthmhnknkidkdlaaGreatDoor
open Go.RowKit

/-- The number that a head's first byte c tells, with what stands from place i on up to place j. -/
def HdAt (l : List UInt8) (i : Nat) (c v j : Nat) : Prop :=
  (bits .and .u8 (c : Int) 31 = (v : Int) ∧ v ≤ 23 ∧ j = i) ∨ (bits .and .u8 (c : Int) 31 = 24 ∧ (l[i]?).map (·.toNat) = some v ∧ j = i + 1)
theorem HdAt.lt {l : List UInt8} {i c v j : Nat} (h : HdAt l i c v j) : v < 256 := by
  rcases h with ⟨_, h, _⟩ | ⟨_, h, _⟩
  · omega
  · obtain ⟨u, _, rfl⟩ := Option.map_eq_some_iff.1 h
    exact u.toNat_lt

section
variable {A : DA} {Ks : List Nat} {w0 w w' : World} {ph : Int} {sn : Nat} {sa sb : Int} {ln : Nat} {la lb : Int} {i : Nat}

theorem DSt.c7 (h : DSt A Ks w0 ph sn sa sb ln la lb i w) : w.cell? ⟨A.D, 7, none⟩ = some (.iface 234 (.pointer (some ⟨A.S, 0, none⟩))) := h.dec.cell 7
theorem DSt.c8 (h : DSt A Ks w0 ph sn sa sb ln la lb i w) : w.cell? ⟨A.D, 8, none⟩ = some (.slice (some ⟨A.sg, 0, none⟩) sn 10) := h.dec.cell 8
theorem DSt.c9 (h : DSt A Ks w0 ph sn sa sb ln la lb i w) : w.cell? ⟨A.D, 9, none⟩ = some (.int .u8 ph) := h.dec.cell 9
theorem DSt.c10 (h : DSt A Ks w0 ph sn sa sb ln la lb i w) : w.cell? ⟨A.D, 10, none⟩ = some (.slice (some ⟨A.lg, 0, none⟩) ln 10) := h.dec.cell 10
theorem DSt.s0 (h : DSt A Ks w0 ph sn sa sb ln la lb i w) : w.cell? ⟨A.sg, 0, none⟩ = some (.int .u8 sa) := h.stk.cell 0
theorem DSt.s1 (h : DSt A Ks w0 ph sn sa sb ln la lb i w) : w.cell? ⟨A.sg, 1, none⟩ = some (.int .u8 sb) := h.stk.cell 1
theorem DSt.l0 (h : DSt A Ks w0 ph sn sa sb ln la lb i w) : w.cell? ⟨A.lg, 0, none⟩ = some (.int .i64 la) := h.left.cell 0
theorem DSt.l1 (h : DSt A Ks w0 ph sn sa sb ln la lb i w) : w.cell? ⟨A.lg, 1, none⟩ = some (.int .i64 lb) := h.left.cell 1
theorem DSt.fd (h : DSt A Ks w0 ph sn sa sb ln la lb i w) (o : Nat) : w.frozen? ⟨A.D, o, none⟩ = false := h.dec.frozen o
theorem DSt.fs (h : DSt A Ks w0 ph sn sa sb ln la lb i w) (o : Nat) : w.frozen? ⟨A.sg, o, none⟩ = false := h.stk.frozen o
theorem DSt.fl (h : DSt A Ks w0 ph sn sa sb ln la lb i w) (o : Nat) : w.frozen? ⟨A.lg, o, none⟩ = false := h.left.frozen o

set_option maxRecDepth 100000 in
set_option maxHeartbeats 1000000 in
theorem d_uint (h : DSt A Ks w0 ph sn sa sb ln la lb i w) (c v j : Nat) (hh : HdAt A.l i c v j) :
    Calls Tryz.prog 108 #[.pointer (some ⟨A.D, 0, none⟩), .int .u8 (c : Int)] w fun e w' => e = .returned (.tuple #[.int .u64 (v : Int), .nilIface]) ∧ DSt A Ks w0 ph sn sa sb ln la lb j w' ∧ Off [A.S, A.T, A.R] w w' := by
  have hv := hh.lt
  have hw8 : IntKind.u64.wrap (v : Int) = (v : Int) := by rw [IntKind.wrap_u64]; omega
  rcases hh with ⟨h1, h2, rfl⟩ | ⟨h1, h2, rfl⟩
  · refine (decodeUint_small A.D c v w h1 h2).mono ?_
    rintro e w' ⟨he, rfl⟩
    exact ⟨he, h, Off.refl _ _⟩
  · have d7 := h.c7
    have hm1 := method_readn1
    have HB := Lib.hid (h.byte v h2)
    clear h h2
    go_enter Tryz.func108, Tryz.ntmps108
    go_wp2_with fail
    refine HB.out.mono ?_
    rintro e w1 ⟨rfl, h3, h4⟩
    have d3 := h3.cells.2.1
    have H3 := Lib.hid h3
    have H4 := Lib.hid h4
    clear h3 h4
    go_wp2_with fail
    go_ret2
    exact ⟨rfl, H3.out, H4.out⟩

set_option maxRecDepth 100000 in
set_option maxHeartbeats 1000000 in
theorem d_len (h : DSt A Ks w0 ph sn sa sb ln la lb i w) (c v j : Nat) (hh : HdAt A.l i c v j) :
    Calls Tryz.prog 112 #[.pointer (some ⟨A.D, 0, none⟩), .int .u8 (c : Int)] w fun e w' => e = .returned (.tuple #[.int .i64 (v : Int), .nilIface]) ∧ DSt A Ks w0 ph sn sa sb ln la lb j w' ∧ Off [A.S, A.T, A.R] w w' := by
  have hv := hh.lt
  have hb1 : decide ((9223372036854775807 : Int) < (v : Int)) = false := by simp; omega
  have hw1 : IntKind.i64.wrap (v : Int) = (v : Int) := by rw [IntKind.wrap_i64]; omega
  have HC := Lib.hid (d_uint h c v j hh)
  clear h hh
  go_enter Tryz.func112, Tryz.ntmps112
  go_wp2_with fail
  refine HC.out.mono ?_
  rintro e w1 ⟨rfl, h3, h4⟩
  have H3 := Lib.hid h3
  have H4 := Lib.hid h4
  clear h3 h4
  go_wp2_with fail
  go_ret2
  exact ⟨rfl, H3.out, H4.out⟩

theorem d_text (h : DSt A Ks w0 ph sn sa sb ln la lb i w) (c k : Nat) (hc : bits .and .u8 (c : Int) 31 = (k : Int)) (hk0 : 0 < k) (hk : k ≤ 23) (hik : i + k ≤ A.n) :
    Calls Tryz.prog 111 #[.pointer (some ⟨A.D, 0, none⟩), .int .u8 (c : Int)] w fun e w' => e = .returned (.tuple #[.string (str ((A.l.drop i).take k)), .nilIface]) ∧ DSt A Ks w0 ph sn sa sb ln la lb (i + k) w' ∧ Off [A.S, A.T, A.R] w w' := by
  have hb := h.chain.big
  refine (decodeString_ok A.D A.sg sn A.lg ln ph A.S A.T A.R A.b A.n A.cap i c k A.l i w h.dec h.chain hc hk0 hk hik (by omega) (by omega)).mono ?_
  rintro e w' ⟨he, h1, h2⟩
  exact ⟨he, h.read (by rw [show ((i + k : Nat) : Int) = (i : Int) + k by omega]; exact h1) h2, h2⟩

set_option maxRecDepth 100000 in
set_option maxHeartbeats 1000000 in
theorem d_push0 (p2 : Int) (h : DSt A Ks w0 ph 0 sa sb ln la lb i w) :
    Calls Tryz.prog 107 #[.pointer (some ⟨A.D, 0, none⟩), .int .u8 p2] w fun e w' => e = .returned (.tuple #[]) ∧ DSt A Ks w0 p2 1 ph sb ln la lb i w' ∧ Off [A.D, A.sg] w w' := by
  have c8 := h.c8
  have c9 := h.c9
  have f8 := h.fd 8
  have f9 := h.fd 9
  have s0 := h.s0
  have sf0 := h.fs 0
  have a0 := fun ob => (h.alloc ob).s0
  have af0 := fun ob => (h.alloc ob).fs 0
  have a8 := fun ob => (h.alloc ob).c8
  have a9 := fun ob => (h.alloc ob).c9
  have af8 := fun ob => (h.alloc ob).fd 8
  have af9 := fun ob => (h.alloc ob).fd 9
  have ne1 := h.nd.a1
  have H := Lib.hid h
  clear h
  go_enter Tryz.func107, Tryz.ntmps107
  go_wp2_with fail
  go_region
  go_wp2_with fail
  go_end0
  refine ⟨rfl, ?_, ?_⟩
  · exact ((((H.out.alloc _).to_sa ph).to_sn 1).still ((Off.refl [] _).drew)).to_ph p2
  · exact (((((Off.refl [A.D, A.sg] w).alloc _).setCell (p := ⟨A.sg, 0, none⟩) (by simp) _).setCell (p := ⟨A.D, 8, none⟩) (by simp) _).drew.setCell (p := ⟨A.D, 9, none⟩) (by simp) _)

set_option maxRecDepth 100000 in
set_option maxHeartbeats 1000000 in
theorem d_push1 (p2 : Int) (h : DSt A Ks w0 ph 1 sa sb ln la lb i w) :
    Calls Tryz.prog 107 #[.pointer (some ⟨A.D, 0, none⟩), .int .u8 p2] w fun e w' => e = .returned (.tuple #[]) ∧ DSt A Ks w0 p2 2 sa ph ln la lb i w' ∧ Off [A.D, A.sg] w w' := by
  have c8 := h.c8
  have c9 := h.c9
  have f8 := h.fd 8
  have f9 := h.fd 9
  have s0 := h.s1
  have sf0 := h.fs 1
  have a0 := fun ob => (h.alloc ob).s1
  have af0 := fun ob => (h.alloc ob).fs 1
  have a8 := fun ob => (h.alloc ob).c8
  have a9 := fun ob => (h.alloc ob).c9
  have af8 := fun ob => (h.alloc ob).fd 8
  have af9 := fun ob => (h.alloc ob).fd 9
  have ne1 := h.nd.a1
  have H := Lib.hid h
  clear h
  go_enter Tryz.func107, Tryz.ntmps107
  go_wp2_with fail
  go_region
  go_wp2_with fail
  go_end0
  refine ⟨rfl, ?_, ?_⟩
  · exact ((((H.out.alloc _).to_sb ph).to_sn 2).still ((Off.refl [] _).drew)).to_ph p2
  · exact (((((Off.refl [A.D, A.sg] w).alloc _).setCell (p := ⟨A.sg, 1, none⟩) (by simp) _).setCell (p := ⟨A.D, 8, none⟩) (by simp) _).drew.setCell (p := ⟨A.D, 9, none⟩) (by simp) _)
end
end Go.Proofs.YthmhnknkidkdlaaGreatDoor
namespace Go.Proofs.YthmhnknkidkdlaaGreatDoor
open Go.RowKit

section
variable {A : DA} {Ks : List Nat} {w0 w w' : World} {ph : Int} {sn : Nat} {sa sb : Int} {ln : Nat} {la lb : Int} {i : Nat} {K : Nat}

set_option maxRecDepth 100000 in
set_option maxHeartbeats 1000000 in
theorem d_map (h : DSt A Ks w0 ph 0 sa sb 0 la lb i w) (hK : Blk w K 203 zeroTok) (hf : A.Far K) (hk : K ∈ Ks ∨ w0.heap.size ≤ K) :
    Calls Tryz.prog 101 #[.pointer (some ⟨A.D, 0, none⟩), .int .u8 162, .pointer (some ⟨K, 0, none⟩)] w fun e w' => e = .returned (.tuple #[.bool false, .nilIface]) ∧ DSt A Ks w0 5 1 ph sb 1 2 lb i w' ∧ Blk w' K 203 (tokCells 123 2 noBytes (.slice none 0 0) false 0 0 0 false 0) := by
  have k0 := hK.cell 0
  have k1 := hK.cell 1
  have kf0 := hK.frozen 0
  have kf1 := hK.frozen 1
  simp [zeroTok, tokCells] at k0 k1
  have d10 := h.c10
  have df10 := h.fd 10
  have a10 := fun ob u1 u2 => (((h.tset hf hk 0 u1).tset hf hk 1 u2).alloc ob).c10
  have af10 := fun ob u1 u2 => (((h.tset hf hk 0 u1).tset hf hk 1 u2).alloc ob).fd 10
  have l0 := fun ob u1 u2 => (((h.tset hf hk 0 u1).tset hf hk 1 u2).alloc ob).l0
  have lf0 := fun ob u1 u2 => (((h.tset hf hk 0 u1).tset hf hk 1 u2).alloc ob).fl 0
  have e1 := hf.d
  have e2 := hf.lg
  have e3 := hf.sg
  have HP := Lib.hid (d_push0 5 (((((h.tset hf hk 0 (.int .u8 123)).tset hf hk 1 (.int .i64 2)).alloc (.cells #[.int .i64 2] 3)).to_la 2).to_ln 1))
  have HK := Lib.hid (((((hK.set_ 0 (.int .u8 123)).set_ 1 (.int .i64 2)).alloc (.cells #[.int .i64 2] 3)).far (p := ⟨A.lg, 0, none⟩) e2 (.int .i64 2)).far (p := ⟨A.D, 10, none⟩) e1 (.slice (some ⟨A.lg, 0, none⟩) 1 10))
  have H := Lib.hid h
  have HF := Lib.hid hf
  clear h hK hf
  go_enter Tryz.func101, Tryz.ntmps101
  go_wp2_with fail
  refine (decodeLen_small A.D 162 2 w (by decide +kernel) (by omega)).mono ?_
  rintro e w' ⟨rfl, rfl⟩
  go_wp2_with fail
  refine HP.out.mono ?_
  rintro e w2 ⟨rfl, h2, o2⟩
  have H2 := Lib.hid h2
  have HK2 := Lib.hid (o2.blk HK.out (ni2 HF.out.d HF.out.sg))
  clear h2 o2
  go_wp2_with fail
  go_ret2
  exact ⟨rfl, H2.out, HK2.out⟩

/-- What the switch over a head's first byte asks, at one that begins bytes or a list. -/
theorem sigils (c : Nat) (h : c < 95 ∨ (128 ≤ c ∧ c < 159)) : ((c : Int) == 246) = false ∧ ((c : Int) == 247) = false ∧ ((c : Int) == 244) = false ∧ ((c : Int) == 245) = false ∧ ((c : Int) == 249) = false ∧ ((c : Int) == 250) = false ∧ ((c : Int) == 251) = false ∧ ((c : Int) == 95) = false ∧ ((c : Int) == 127) = false ∧ ((c : Int) == 159) = false ∧ ((c : Int) == 191) = false := by
  refine ⟨?_, ?_, ?_, ?_, ?_, ?_, ?_, ?_, ?_, ?_, ?_⟩ <;> (refine beq_eq_false_iff_ne.2 ?_; omega)

set_option maxRecDepth 100000 in
set_option maxHeartbeats 1000000 in
theorem d_arr (h : DSt A Ks w0 ph 1 sa sb 1 la lb i w) (hK : Blk w K 203 zeroTok) (hf : A.Far K) (hk : K ∈ Ks ∨ w0.heap.size ≤ K) (c v j : Nat) (hh : HdAt A.l i c v j) (hc1 : 128 ≤ c) (hc2 : c < 159) :
    Calls Tryz.prog 101 #[.pointer (some ⟨A.D, 0, none⟩), .int .u8 (c : Int), .pointer (some ⟨K, 0, none⟩)] w fun e w' => e = .returned (.tuple #[.bool false, .nilIface]) ∧ DSt A Ks w0 4 2 sa ph 2 la (v : Int) j w' ∧ Blk w' K 203 (tokCells 91 (v : Int) noBytes (.slice none 0 0) false 0 0 0 false 0) := by
  obtain ⟨q1, q2, q3, q4, q5, q6, q7, q8, q9, q10, q11⟩ := sigils c (Or.inr ⟨hc1, hc2⟩)
  have g1 : ¬ ((c : Int) < 32) := by omega
  have g2 : ¬ ((c : Int) < 64) := by omega
  have g3 : ¬ ((c : Int) < 96) := by omega
  have g4 : ¬ ((c : Int) < 128) := by omega
  have g5 : (c : Int) < 160 := by omega
  have g6 : (32 : Int) ≤ (c : Int) := by omega
  have g7 : (64 : Int) ≤ (c : Int) := by omega
  have g8 : (96 : Int) ≤ (c : Int) := by omega
  have g9 : (128 : Int) ≤ (c : Int) := by omega
  have e1 := hf.d
  have e2 := hf.lg
  have e3 := hf.sg
  have HL := Lib.hid (d_len h c v j hh)
  have HK := Lib.hid hK
  have HF := Lib.hid hf
  clear h hK hf hh hc1 hc2
  go_enter Tryz.func101, Tryz.ntmps101
  go_wp2_with fail
  refine HL.out.mono ?_
  rintro e w1 ⟨rfl, h, o1⟩
  have hK := o1.blk HK.out (ni3 HF.out.s HF.out.t HF.out.r)
  have hf := HF.out
  have k0 := hK.cell 0
  have k1 := hK.cell 1
  have kf0 := hK.frozen 0
  have kf1 := hK.frozen 1
  simp [zeroTok, tokCells] at k0 k1
  have d10 := h.c10
  have df10 := h.fd 10
  have a10 := fun ob u1 u2 => (((h.tset hf hk 0 u1).tset hf hk 1 u2).alloc ob).c10
  have af10 := fun ob u1 u2 => (((h.tset hf hk 0 u1).tset hf hk 1 u2).alloc ob).fd 10
  have l0 := fun ob u1 u2 => (((h.tset hf hk 0 u1).tset hf hk 1 u2).alloc ob).l1
  have lf0 := fun ob u1 u2 => (((h.tset hf hk 0 u1).tset hf hk 1 u2).alloc ob).fl 1
  have HP := Lib.hid (d_push1 4 (((((h.tset hf hk 0 (.int .u8 91)).tset hf hk 1 (.int .i64 v)).alloc (.cells #[.int .i64 v] 3)).to_lb v).to_ln 2))
  have HK3 := Lib.hid (((((hK.set_ 0 (.int .u8 91)).set_ 1 (.int .i64 v)).alloc (.cells #[.int .i64 v] 3)).far (p := ⟨A.lg, 1, none⟩) e2 (.int .i64 v)).far (p := ⟨A.D, 10, none⟩) e1 (.slice (some ⟨A.lg, 0, none⟩) 2 10))
  clear h hK hf o1
  go_wp2_with fail
  refine HP.out.mono ?_
  rintro e w2 ⟨rfl, h2, o2⟩
  have H2 := Lib.hid h2
  have HK2 := Lib.hid (o2.blk HK3.out (ni2 HF.out.d HF.out.sg))
  clear h2 o2
  go_wp2_with fail
  go_ret2
  exact ⟨rfl, H2.out, HK2.out⟩

set_option maxRecDepth 100000 in
set_option maxHeartbeats 1000000 in
theorem d_text5 (h : DSt A Ks w0 ph sn sa sb ln la lb i w) (hK : Blk w K 203 zeroTok) (hf : A.Far K) (hk : K ∈ Ks ∨ w0.heap.size ≤ K) (hik : i + 5 ≤ A.n) :
    Calls Tryz.prog 101 #[.pointer (some ⟨A.D, 0, none⟩), .int .u8 101, .pointer (some ⟨K, 0, none⟩)] w fun e w' => e = .returned (.tuple #[.bool true, .nilIface]) ∧ DSt A Ks w0 ph sn sa sb ln la lb (i + 5) w' ∧ Blk w' K 203 (tokCells 115 0 (str ((A.l.drop i).take 5)) (.slice none 0 0) false 0 0 0 false 0) := by
  have k0 := hK.cell 0
  have kf0 := hK.frozen 0
  simp [zeroTok, tokCells] at k0
  have HC := Lib.hid (d_text (h.tset hf hk 0 (.int .u8 115)) 101 5 (by decide +kernel) (by omega) (by omega) hik)
  have HK := Lib.hid hK
  have HF := Lib.hid hf
  clear h hK hf
  go_enter Tryz.func101, Tryz.ntmps101
  go_wp2_with fail
  refine HC.out.mono ?_
  rintro e w1 ⟨rfl, h1, o1⟩
  have hK1 := o1.blk (HK.out.set_ 0 (.int .u8 115)) (ni3 HF.out.s HF.out.t HF.out.r)
  have k2 := hK1.cell 2
  have kf2 := hK1.frozen 2
  simp [zeroTok, tokCells] at k2
  have HK1 := Lib.hid hK1
  have H1 := Lib.hid h1
  clear hK1 h1 o1
  go_wp2_with fail
  go_ret2
  exact ⟨rfl, H1.out.tset HF.out hk 2 _, HK1.out.set_ 2 _⟩

set_option maxRecDepth 100000 in
set_option maxHeartbeats 1000000 in
theorem d_text7 (h : DSt A Ks w0 ph sn sa sb ln la lb i w) (hK : Blk w K 203 zeroTok) (hf : A.Far K) (hk : K ∈ Ks ∨ w0.heap.size ≤ K) (hik : i + 7 ≤ A.n) :
    Calls Tryz.prog 101 #[.pointer (some ⟨A.D, 0, none⟩), .int .u8 103, .pointer (some ⟨K, 0, none⟩)] w fun e w' => e = .returned (.tuple #[.bool true, .nilIface]) ∧ DSt A Ks w0 ph sn sa sb ln la lb (i + 7) w' ∧ Blk w' K 203 (tokCells 115 0 (str ((A.l.drop i).take 7)) (.slice none 0 0) false 0 0 0 false 0) := by
  have k0 := hK.cell 0
  have kf0 := hK.frozen 0
  simp [zeroTok, tokCells] at k0
  have HC := Lib.hid (d_text (h.tset hf hk 0 (.int .u8 115)) 103 7 (by decide +kernel) (by omega) (by omega) hik)
  have HK := Lib.hid hK
  have HF := Lib.hid hf
  clear h hK hf
  go_enter Tryz.func101, Tryz.ntmps101
  go_wp2_with fail
  refine HC.out.mono ?_
  rintro e w1 ⟨rfl, h1, o1⟩
  have hK1 := o1.blk (HK.out.set_ 0 (.int .u8 115)) (ni3 HF.out.s HF.out.t HF.out.r)
  have k2 := hK1.cell 2
  have kf2 := hK1.frozen 2
  simp [zeroTok, tokCells] at k2
  have HK1 := Lib.hid hK1
  have H1 := Lib.hid h1
  clear hK1 h1 o1
  go_wp2_with fail
  go_ret2
  exact ⟨rfl, H1.out.tset HF.out hk 2 _, HK1.out.set_ 2 _⟩

set_option maxRecDepth 100000 in
set_option maxHeartbeats 1000000 in
theorem d_one (h : DSt A Ks w0 ph sn sa sb ln la lb i w) (hK : Blk w K 203 zeroTok) (hf : A.Far K) (hk : K ∈ Ks ∨ w0.heap.size ≤ K) :
    Calls Tryz.prog 101 #[.pointer (some ⟨A.D, 0, none⟩), .int .u8 1, .pointer (some ⟨K, 0, none⟩)] w fun e w' => e = .returned (.tuple #[.bool true, .nilIface]) ∧ DSt A Ks w0 ph sn sa sb ln la lb i w' ∧ Blk w' K 203 (tokCells 117 0 noBytes (.slice none 0 0) false 0 1 0 false 0) := by
  have k0 := hK.cell 0
  have kf0 := hK.frozen 0
  have k6 := hK.cell 6
  have kf6 := hK.frozen 6
  simp [zeroTok, tokCells] at k0 k6
  have H := Lib.hid h
  have HK := Lib.hid hK
  have HF := Lib.hid hf
  clear h hK hf
  go_enter Tryz.func101, Tryz.ntmps101
  go_wp2_with fail
  refine (decodeUint_small A.D 1 1 _ (by decide +kernel) (by omega)).mono ?_
  rintro e w' ⟨rfl, rfl⟩
  go_wp2_with fail
  go_ret2
  exact ⟨rfl, (H.out.tset HF.out hk 0 _).tset HF.out hk 6 _, (HK.out.set_ 0 _).set_ 6 _⟩
end
end Go.Proofs.YthmhnknkidkdlaaGreatDoor
namespace Go.Proofs.YthmhnknkidkdlaaGreatDoor
open Go.RowKit

end Go.Proofs.YthmhnknkidkdlaaGreatDoor
namespace Go.Proofs.YthmhnknkidkdlaaGreatDoor
open Go.RowKit

end Go.Proofs.YthmhnknkidkdlaaGreatDoor
