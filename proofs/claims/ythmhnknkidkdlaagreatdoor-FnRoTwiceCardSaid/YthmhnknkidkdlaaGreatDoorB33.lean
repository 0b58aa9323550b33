/-
  The CBOR decoder's steps over a header: a map, its keys, a list, its links.
  The CBOR decoder's Step over a header.
  Plain: the bytes of a file of version 1: CBOR heads, links, the header, sections.
  Identifiers read from bytes: multihash.MHFromBytes, Cast; cid.CidFromBytes, Cast.
  (No condition beyond those that each theorem states.)
-/
import Derived.Test.YthmhnknkidkdlaaGreatDoorB32
import Derived.Test.YthmhnknkidkdlaaGreatDoorB04
import Derived.Lib.Varint
import Derived.Test.YthmhnknkidkdlaaGreatDoorB02
import Derived.Test.YthmhnknkidkdlaaGreatDoorB03
namespace Go.Proofs.YthmhnknkidkdlaaGreatDoor
open Go.RowKit

section
variable {A : DA} {Ks : List Nat} {w0 w w' : World} {ph : Int} {sn : Nat} {sa sb : Int} {ln : Nat} {la lb : Int} {i : Nat} {K r : Nat}

set_option maxRecDepth 100000 in
set_option maxHeartbeats 1000000 in
theorem d_sval (h : DSt A Ks w0 0 0 sa sb 0 la lb i w) (hK : Blk w K 203 zeroTok) (hf : A.Far K) (hk : K ∈ Ks ∨ w0.heap.size ≤ K) (hb : (A.l[i]?).map (·.toNat) = some 162) :
    Calls Tryz.prog 91 #[.pointer (some ⟨A.D, 0, none⟩), .pointer (some ⟨K, 0, none⟩)] w fun e w' => e = .returned (.tuple #[.bool false, .nilIface]) ∧ DSt A Ks w0 5 1 0 sb 1 2 lb (i + 1) w' ∧ Blk w' K 203 (tokCells 123 2 noBytes (.slice none 0 0) false 0 0 0 false 0) := by
  have d7 := h.c7
  have hm1 := method_readn1
  have HB := Lib.hid (h.byte 162 hb)
  have e1 := hf.d
  have e2 := hf.lg
  have e3 := hf.sg
  have HK := Lib.hid hK
  have HF := Lib.hid hf
  clear h hK hf hb
  go_enter Tryz.func91, Tryz.ntmps91
  go_wp2_with fail
  refine HB.out.mono ?_
  rintro e w1 ⟨rfl, h1, o1⟩
  have hK1 := o1.blk HK.out (ni3 HF.out.s HF.out.t HF.out.r)
  have q8 := hK1.cell 8
  have qf8 := hK1.frozen 8
  simp [zeroTok, tokCells] at q8
  have HM := Lib.hid (d_map (h1.tset HF.out hk 8 (.bool false)) (hK1.set_ 8 (.bool false)) HF.out hk)
  clear h1 o1 hK1
  go_wp2_with fail
  refine HM.out.mono ?_
  rintro e w2 ⟨rfl, h3, hK3⟩
  have H3 := Lib.hid h3
  have HK3 := Lib.hid hK3
  clear h3 hK3
  go_wp2_with fail
  go_ret2
  exact ⟨rfl, H3.out, HK3.out⟩

set_option maxRecDepth 100000 in
set_option maxHeartbeats 1000000 in
theorem d_skey5 (h : DSt A Ks w0 5 1 sa sb 1 2 lb i w) (hK : Blk w K 203 zeroTok) (hf : A.Far K) (hk : K ∈ Ks ∨ w0.heap.size ≤ K) (hb : (A.l[i]?).map (·.toNat) = some 101) (hik : i + 1 + 5 ≤ A.n) :
    Calls Tryz.prog 96 #[.pointer (some ⟨A.D, 0, none⟩), .pointer (some ⟨K, 0, none⟩)] w fun e w' => e = .returned (.tuple #[.bool false, .nilIface]) ∧ DSt A Ks w0 6 1 sa sb 1 1 lb (i + 1 + 5) w' ∧ Blk w' K 203 (tokCells 115 0 (str ((A.l.drop (i + 1)).take 5)) (.slice none 0 0) false 0 0 0 false 0) := by
  have d10 := h.c10
  have l0 := h.l0
  have lf0 := h.fl 0
  have hm1 := method_readn1
  have d7 := (h.to_la 1).c7
  have HB := Lib.hid ((h.to_la 1).byte 101 hb)
  have HK := Lib.hid (hK.far (p := ⟨A.lg, 0, none⟩) hf.lg (.int .i64 1))
  have e1 := hf.d
  have e2 := hf.lg
  have e3 := hf.sg
  have HF := Lib.hid hf
  clear h hK hf hb
  go_enter Tryz.func96, Tryz.ntmps96
  go_wp2_with fail
  refine HB.out.mono ?_
  rintro e w1 ⟨rfl, h1, o1⟩
  have hK1 := o1.blk HK.out (ni3 HF.out.s HF.out.t HF.out.r)
  have q8 := hK1.cell 8
  have qf8 := hK1.frozen 8
  simp [zeroTok, tokCells] at q8
  have d9 := h1.c9
  have df9 := h1.fd 9
  have HM := Lib.hid (d_text5 ((h1.to_ph 6).tset HF.out hk 8 (.bool false)) ((hK1.far (p := ⟨A.D, 9, none⟩) HF.out.d (.int .u8 6)).set_ 8 (.bool false)) HF.out hk hik)
  clear h1 o1 hK1
  go_wp2_with fail
  refine HM.out.mono ?_
  rintro e w2 ⟨rfl, h3, hK3⟩
  have H3 := Lib.hid h3
  have HK3 := Lib.hid hK3
  clear h3 hK3
  go_wp2_with fail
  go_ret2
  exact ⟨rfl, H3.out, HK3.out⟩

set_option maxRecDepth 100000 in
set_option maxHeartbeats 1000000 in
theorem d_skey7 (h : DSt A Ks w0 5 1 sa sb 1 1 lb i w) (hK : Blk w K 203 zeroTok) (hf : A.Far K) (hk : K ∈ Ks ∨ w0.heap.size ≤ K) (hb : (A.l[i]?).map (·.toNat) = some 103) (hik : i + 1 + 7 ≤ A.n) :
    Calls Tryz.prog 96 #[.pointer (some ⟨A.D, 0, none⟩), .pointer (some ⟨K, 0, none⟩)] w fun e w' => e = .returned (.tuple #[.bool false, .nilIface]) ∧ DSt A Ks w0 6 1 sa sb 1 0 lb (i + 1 + 7) w' ∧ Blk w' K 203 (tokCells 115 0 (str ((A.l.drop (i + 1)).take 7)) (.slice none 0 0) false 0 0 0 false 0) := by
  have d10 := h.c10
  have l0 := h.l0
  have lf0 := h.fl 0
  have hm1 := method_readn1
  have d7 := (h.to_la 0).c7
  have HB := Lib.hid ((h.to_la 0).byte 103 hb)
  have HK := Lib.hid (hK.far (p := ⟨A.lg, 0, none⟩) hf.lg (.int .i64 0))
  have e1 := hf.d
  have e2 := hf.lg
  have e3 := hf.sg
  have HF := Lib.hid hf
  clear h hK hf hb
  go_enter Tryz.func96, Tryz.ntmps96
  go_wp2_with fail
  refine HB.out.mono ?_
  rintro e w1 ⟨rfl, h1, o1⟩
  have hK1 := o1.blk HK.out (ni3 HF.out.s HF.out.t HF.out.r)
  have q8 := hK1.cell 8
  have qf8 := hK1.frozen 8
  simp [zeroTok, tokCells] at q8
  have d9 := h1.c9
  have df9 := h1.fd 9
  have HM := Lib.hid (d_text7 ((h1.to_ph 6).tset HF.out hk 8 (.bool false)) ((hK1.far (p := ⟨A.D, 9, none⟩) HF.out.d (.int .u8 6)).set_ 8 (.bool false)) HF.out hk hik)
  clear h1 o1 hK1
  go_wp2_with fail
  refine HM.out.mono ?_
  rintro e w2 ⟨rfl, h3, hK3⟩
  have H3 := Lib.hid h3
  have HK3 := Lib.hid hK3
  clear h3 hK3
  go_wp2_with fail
  go_ret2
  exact ⟨rfl, H3.out, HK3.out⟩

set_option maxRecDepth 100000 in
set_option maxHeartbeats 1000000 in
theorem d_send (h : DSt A Ks w0 5 1 sa sb 1 0 lb i w) (hK : Blk w K 203 zeroTok) (hf : A.Far K) (hk : K ∈ Ks ∨ w0.heap.size ≤ K) :
    Calls Tryz.prog 96 #[.pointer (some ⟨A.D, 0, none⟩), .pointer (some ⟨K, 0, none⟩)] w fun e w' => e = .returned (.tuple #[.bool true, .nilIface]) ∧ DSt A Ks w0 5 1 sa sb 0 0 lb i w' ∧ Blk w' K 203 (tokCells 125 0 noBytes (.slice none 0 0) false 0 0 0 false 0) := by
  have d10 := h.c10
  have df10 := h.fd 10
  have l0 := h.l0
  have q0 := hK.cell 0
  have qf0 := hK.frozen 0
  simp [zeroTok, tokCells] at q0
  have e1 := hf.d
  have e2 := hf.lg
  have e3 := hf.sg
  have H := Lib.hid h
  have HK := Lib.hid hK
  have HF := Lib.hid hf
  clear h hK hf
  go_enter Tryz.func96, Tryz.ntmps96
  go_wp2_with fail
  go_ret2
  exact ⟨rfl, (H.out.to_ln 0).tset HF.out hk 0 _, (HK.out.far (p := ⟨A.D, 10, none⟩) HF.out.d _).set_ 0 _⟩

set_option maxRecDepth 100000 in
set_option maxHeartbeats 1000000 in
theorem d_sarr (h : DSt A Ks w0 6 1 sa sb 1 la lb i w) (hK : Blk w K 203 zeroTok) (hf : A.Far K) (hk : K ∈ Ks ∨ w0.heap.size ≤ K) (c v j : Nat) (hb : (A.l[i]?).map (·.toNat) = some c) (hh : HdAt A.l (i + 1) c v j) (hc1 : 128 ≤ c) (hc2 : c < 159) :
    Calls Tryz.prog 97 #[.pointer (some ⟨A.D, 0, none⟩), .pointer (some ⟨K, 0, none⟩)] w fun e w' => e = .returned (.tuple #[.bool false, .nilIface]) ∧ DSt A Ks w0 4 2 sa 5 2 la (v : Int) j w' ∧ Blk w' K 203 (tokCells 91 (v : Int) noBytes (.slice none 0 0) false 0 0 0 false 0) := by
  have d7 := h.c7
  have hm1 := method_readn1
  have HB := Lib.hid (h.byte c hb)
  have e1 := hf.d
  have e2 := hf.lg
  have e3 := hf.sg
  have HK := Lib.hid hK
  have HF := Lib.hid hf
  clear h hK hf hb
  go_enter Tryz.func97, Tryz.ntmps97
  go_wp2_with fail
  refine HB.out.mono ?_
  rintro e w1 ⟨rfl, h1, o1⟩
  have hK1 := o1.blk HK.out (ni3 HF.out.s HF.out.t HF.out.r)
  have q8 := hK1.cell 8
  have qf8 := hK1.frozen 8
  simp [zeroTok, tokCells] at q8
  have d9 := h1.c9
  have df9 := h1.fd 9
  have HM := Lib.hid (d_arr ((h1.to_ph 5).tset HF.out hk 8 (.bool false)) ((hK1.far (p := ⟨A.D, 9, none⟩) HF.out.d (.int .u8 5)).set_ 8 (.bool false)) HF.out hk c v j hh hc1 hc2)
  clear h1 o1 hK1
  go_wp2_with fail
  refine HM.out.mono ?_
  rintro e w2 ⟨rfl, h3, hK3⟩
  have H3 := Lib.hid h3
  have HK3 := Lib.hid hK3
  clear h3 hK3
  go_wp2_with fail
  go_ret2
  exact ⟨rfl, H3.out, HK3.out⟩

set_option maxRecDepth 100000 in
set_option maxHeartbeats 1000000 in
theorem d_sone (h : DSt A Ks w0 6 1 sa sb 1 la lb i w) (hK : Blk w K 203 zeroTok) (hf : A.Far K) (hk : K ∈ Ks ∨ w0.heap.size ≤ K) (hb : (A.l[i]?).map (·.toNat) = some 1) :
    Calls Tryz.prog 97 #[.pointer (some ⟨A.D, 0, none⟩), .pointer (some ⟨K, 0, none⟩)] w fun e w' => e = .returned (.tuple #[.bool false, .nilIface]) ∧ DSt A Ks w0 5 1 sa sb 1 la lb (i + 1) w' ∧ Blk w' K 203 (tokCells 117 0 noBytes (.slice none 0 0) false 0 1 0 false 0) := by
  have d7 := h.c7
  have hm1 := method_readn1
  have HB := Lib.hid (h.byte 1 hb)
  have e1 := hf.d
  have e2 := hf.lg
  have e3 := hf.sg
  have HK := Lib.hid hK
  have HF := Lib.hid hf
  clear h hK hf hb
  go_enter Tryz.func97, Tryz.ntmps97
  go_wp2_with fail
  refine HB.out.mono ?_
  rintro e w1 ⟨rfl, h1, o1⟩
  have hK1 := o1.blk HK.out (ni3 HF.out.s HF.out.t HF.out.r)
  have q8 := hK1.cell 8
  have qf8 := hK1.frozen 8
  simp [zeroTok, tokCells] at q8
  have d9 := h1.c9
  have df9 := h1.fd 9
  have HM := Lib.hid (d_one ((h1.to_ph 5).tset HF.out hk 8 (.bool false)) ((hK1.far (p := ⟨A.D, 9, none⟩) HF.out.d (.int .u8 5)).set_ 8 (.bool false)) HF.out hk)
  clear h1 o1 hK1
  go_wp2_with fail
  refine HM.out.mono ?_
  rintro e w2 ⟨rfl, h3, hK3⟩
  have H3 := Lib.hid h3
  have HK3 := Lib.hid hK3
  clear h3 hK3
  go_wp2_with fail
  go_ret2
  exact ⟨rfl, H3.out, HK3.out⟩

set_option maxRecDepth 100000 in
set_option maxHeartbeats 1000000 in
theorem d_slink (h : DSt A Ks w0 4 2 sa sb 2 la ((r + 1 : Nat) : Int) i w) (hK : Blk w K 203 zeroTok) (hf : A.Far K) (hk : K ∈ Ks ∨ w0.heap.size ≤ K) (hr : r ≤ 100000) (hb0 : (A.l[i]?).map (·.toNat) = some 216) (ht : HdAt A.l (i + 1) 216 42 (i + 1 + 1)) (c v j : Nat) (hb : (A.l[i + 1 + 1]?).map (·.toNat) = some c) (hh : HdAt A.l (i + 1 + 1 + 1) c v j) (hv0 : 0 < v) (hjv : j + v ≤ A.n) (hc1 : 64 ≤ c) (hc2 : c < 95) :
    Calls Tryz.prog 95 #[.pointer (some ⟨A.D, 0, none⟩), .pointer (some ⟨K, 0, none⟩)] w fun e w' => ∃ g cp, e = .returned (.tuple #[.bool false, .nilIface]) ∧ Row0 w g cp ((A.l.drop j).take v) w' ∧ DSt A Ks w0 4 2 sa sb 2 la (r : Int) (j + v) w' ∧ Blk w' K 203 (tokCells 120 0 noBytes (.slice (some ⟨g, 0, none⟩) v cp) false 0 0 0 true 42) := by
  have d10 := h.c10
  have l0 := h.l1
  have lf0 := h.fl 1
  have hm1 := method_readn1
  have d7 := (h.to_lb (r : Int)).c7
  have hz : (((r + 1 : Nat) : Int) == 0) = false := beq_eq_false_iff_ne.2 (by omega)
  have hw : IntKind.i64.wrap (((r + 1 : Nat) : Int) - 1) = (r : Int) := by rw [IntKind.wrap_i64]; omega
  have HB := Lib.hid ((h.to_lb (r : Int)).byte 216 hb0)
  have HK := Lib.hid (hK.far (p := ⟨A.lg, 1, none⟩) hf.lg (.int .i64 (r : Int)))
  obtain ⟨q, hq⟩ : ∃ q : Int, q = ((r + 1 : Nat) : Int) := ⟨_, rfl⟩
  rw [← hq] at l0 hz hw
  have e1 := hf.d
  have e2 := hf.lg
  have e3 := hf.sg
  have HF := Lib.hid hf
  clear h hK hf hb0 hq
  go_enter Tryz.func95, Tryz.ntmps95
  go_wp2_with fail
  refine HB.out.mono ?_
  rintro e w1 ⟨rfl, h1, o1⟩
  have hK1 := o1.blk HK.out (ni3 HF.out.s HF.out.t HF.out.r)
  have q8 := hK1.cell 8
  have qf8 := hK1.frozen 8
  simp [zeroTok, tokCells] at q8
  have z1 := o1.size
  simp [World.setCell] at z1
  have HM := Lib.hid (d_link (h1.tset HF.out hk 8 (.bool false)) (hK1.set_ 8 (.bool false)) HF.out hk ht c v j hb hh hv0 hjv hc1 hc2)
  clear h1 o1 hK1
  go_wp2_with fail
  refine HM.out.mono ?_
  rintro e w2 ⟨g, cp, rfl, ⟨r1, r2, r3, r4⟩, h3, hK3⟩
  simp [World.setCell] at r1
  have H3 := Lib.hid h3
  have HK3 := Lib.hid hK3
  have R4 := Lib.hid r4
  clear h3 hK3 r4
  go_wp2_with fail
  go_ret2
  exact ⟨g, cp, rfl, ⟨by omega, r2, r3, R4.out⟩, H3.out, HK3.out⟩

set_option maxRecDepth 100000 in
set_option maxHeartbeats 1000000 in
theorem d_sclose (h : DSt A Ks w0 4 2 sa sb 2 la 0 i w) (hK : Blk w K 203 zeroTok) (hf : A.Far K) (hk : K ∈ Ks ∨ w0.heap.size ≤ K) :
    Calls Tryz.prog 95 #[.pointer (some ⟨A.D, 0, none⟩), .pointer (some ⟨K, 0, none⟩)] w fun e w' => e = .returned (.tuple #[.bool true, .nilIface]) ∧ DSt A Ks w0 4 2 sa sb 1 la 0 i w' ∧ Blk w' K 203 (tokCells 93 0 noBytes (.slice none 0 0) false 0 0 0 false 0) := by
  have d10 := h.c10
  have df10 := h.fd 10
  have l0 := h.l1
  have q0 := hK.cell 0
  have qf0 := hK.frozen 0
  simp [zeroTok, tokCells] at q0
  have e1 := hf.d
  have e2 := hf.lg
  have e3 := hf.sg
  have H := Lib.hid h
  have HK := Lib.hid hK
  have HF := Lib.hid hf
  clear h hK hf
  go_enter Tryz.func95, Tryz.ntmps95
  go_wp2_with fail
  go_ret2
  exact ⟨rfl, (H.out.to_ln 1).tset HF.out hk 0 _, (HK.out.far (p := ⟨A.D, 10, none⟩) HF.out.d _).set_ 0 _⟩

end
end Go.Proofs.YthmhnknkidkdlaaGreatDoor
namespace Go.Proofs.YthmhnknkidkdlaaGreatDoor
open Go.RowKit

section
variable {A : DA} {Ks : List Nat} {w0 w w' : World} {ph : Int} {sn : Nat} {sa sb : Int} {ln : Nat} {la lb : Int} {i : Nat} {K r : Nat}

set_option maxRecDepth 100000 in
set_option maxHeartbeats 1000000 in
theorem D_sval (h : DSt A Ks w0 0 0 sa sb 0 la lb i w) (hK : Blk w K 203 zeroTok) (hf : A.Far K) (hk : K ∈ Ks ∨ w0.heap.size ≤ K) (hb : (A.l[i]?).map (·.toNat) = some 162) :
    Calls Tryz.prog 85 #[.pointer (some ⟨A.D, 0, none⟩), .pointer (some ⟨K, 0, none⟩)] w fun e w' => e = .returned (.tuple #[.bool false, .nilIface]) ∧ DSt A Ks w0 5 1 0 sb 1 2 lb (i + 1) w' ∧ Blk w' K 203 (tokCells 123 2 noBytes (.slice none 0 0) false 0 0 0 false 0) := by
  have d9 := h.c9
  have HC := Lib.hid (d_sval h hK hf hk hb)
  have e1 := hf.d
  have e2 := hf.lg
  have e3 := hf.sg
  have HF := Lib.hid hf
  clear h hK hf
  go_enter Tryz.func85, Tryz.ntmps85
  go_wp2_with fail
  refine HC.out.mono ?_
  rintro e w1 ⟨rfl, h3, hK3⟩
  have d8 := h3.c8
  have df8 := h3.fd 8
  have df9 := h3.fd 9
  have d9' := h3.c9
  have H3 := Lib.hid h3
  have HK3 := Lib.hid hK3
  clear h3 hK3
  go_wp2_with fail
  go_ret2
  exact ⟨rfl, H3.out, HK3.out⟩

set_option maxRecDepth 100000 in
set_option maxHeartbeats 1000000 in
theorem D_skey5 (h : DSt A Ks w0 5 1 sa sb 1 2 lb i w) (hK : Blk w K 203 zeroTok) (hf : A.Far K) (hk : K ∈ Ks ∨ w0.heap.size ≤ K) (hb : (A.l[i]?).map (·.toNat) = some 101) (hik : i + 1 + 5 ≤ A.n) :
    Calls Tryz.prog 85 #[.pointer (some ⟨A.D, 0, none⟩), .pointer (some ⟨K, 0, none⟩)] w fun e w' => e = .returned (.tuple #[.bool false, .nilIface]) ∧ DSt A Ks w0 6 1 sa sb 1 1 lb (i + 1 + 5) w' ∧ Blk w' K 203 (tokCells 115 0 (str ((A.l.drop (i + 1)).take 5)) (.slice none 0 0) false 0 0 0 false 0) := by
  have d9 := h.c9
  have HC := Lib.hid (d_skey5 h hK hf hk hb hik)
  have e1 := hf.d
  have e2 := hf.lg
  have e3 := hf.sg
  have HF := Lib.hid hf
  clear h hK hf
  go_enter Tryz.func85, Tryz.ntmps85
  go_wp2_with fail
  refine HC.out.mono ?_
  rintro e w1 ⟨rfl, h3, hK3⟩
  have d8 := h3.c8
  have df8 := h3.fd 8
  have df9 := h3.fd 9
  have d9' := h3.c9
  have H3 := Lib.hid h3
  have HK3 := Lib.hid hK3
  clear h3 hK3
  go_wp2_with fail
  go_ret2
  exact ⟨rfl, H3.out, HK3.out⟩

set_option maxRecDepth 100000 in
set_option maxHeartbeats 1000000 in
theorem D_skey7 (h : DSt A Ks w0 5 1 sa sb 1 1 lb i w) (hK : Blk w K 203 zeroTok) (hf : A.Far K) (hk : K ∈ Ks ∨ w0.heap.size ≤ K) (hb : (A.l[i]?).map (·.toNat) = some 103) (hik : i + 1 + 7 ≤ A.n) :
    Calls Tryz.prog 85 #[.pointer (some ⟨A.D, 0, none⟩), .pointer (some ⟨K, 0, none⟩)] w fun e w' => e = .returned (.tuple #[.bool false, .nilIface]) ∧ DSt A Ks w0 6 1 sa sb 1 0 lb (i + 1 + 7) w' ∧ Blk w' K 203 (tokCells 115 0 (str ((A.l.drop (i + 1)).take 7)) (.slice none 0 0) false 0 0 0 false 0) := by
  have d9 := h.c9
  have HC := Lib.hid (d_skey7 h hK hf hk hb hik)
  have e1 := hf.d
  have e2 := hf.lg
  have e3 := hf.sg
  have HF := Lib.hid hf
  clear h hK hf
  go_enter Tryz.func85, Tryz.ntmps85
  go_wp2_with fail
  refine HC.out.mono ?_
  rintro e w1 ⟨rfl, h3, hK3⟩
  have d8 := h3.c8
  have df8 := h3.fd 8
  have df9 := h3.fd 9
  have d9' := h3.c9
  have H3 := Lib.hid h3
  have HK3 := Lib.hid hK3
  clear h3 hK3
  go_wp2_with fail
  go_ret2
  exact ⟨rfl, H3.out, HK3.out⟩

set_option maxRecDepth 100000 in
set_option maxHeartbeats 1000000 in
theorem D_send (h : DSt A Ks w0 5 1 sa sb 1 0 lb i w) (hK : Blk w K 203 zeroTok) (hf : A.Far K) (hk : K ∈ Ks ∨ w0.heap.size ≤ K) :
    Calls Tryz.prog 85 #[.pointer (some ⟨A.D, 0, none⟩), .pointer (some ⟨K, 0, none⟩)] w fun e w' => e = .returned (.tuple #[.bool true, .nilIface]) ∧ DSt A Ks w0 5 1 sa sb 0 0 lb i w' ∧ Blk w' K 203 (tokCells 125 0 noBytes (.slice none 0 0) false 0 0 0 false 0) := by
  have d9 := h.c9
  have HC := Lib.hid (d_send h hK hf hk)
  have e1 := hf.d
  have e2 := hf.lg
  have e3 := hf.sg
  have HF := Lib.hid hf
  clear h hK hf
  go_enter Tryz.func85, Tryz.ntmps85
  go_wp2_with fail
  refine HC.out.mono ?_
  rintro e w1 ⟨rfl, h3, hK3⟩
  have d8 := h3.c8
  have df8 := h3.fd 8
  have df9 := h3.fd 9
  have d9' := h3.c9
  have H3 := Lib.hid h3
  have HK3 := Lib.hid hK3
  clear h3 hK3
  go_wp2_with fail
  go_ret2
  exact ⟨rfl, H3.out, HK3.out⟩

set_option maxRecDepth 100000 in
set_option maxHeartbeats 1000000 in
theorem D_sarr (h : DSt A Ks w0 6 1 sa sb 1 la lb i w) (hK : Blk w K 203 zeroTok) (hf : A.Far K) (hk : K ∈ Ks ∨ w0.heap.size ≤ K) (c v j : Nat) (hb : (A.l[i]?).map (·.toNat) = some c) (hh : HdAt A.l (i + 1) c v j) (hc1 : 128 ≤ c) (hc2 : c < 159) :
    Calls Tryz.prog 85 #[.pointer (some ⟨A.D, 0, none⟩), .pointer (some ⟨K, 0, none⟩)] w fun e w' => e = .returned (.tuple #[.bool false, .nilIface]) ∧ DSt A Ks w0 4 2 sa 5 2 la (v : Int) j w' ∧ Blk w' K 203 (tokCells 91 (v : Int) noBytes (.slice none 0 0) false 0 0 0 false 0) := by
  have d9 := h.c9
  have HC := Lib.hid (d_sarr h hK hf hk c v j hb hh hc1 hc2)
  have e1 := hf.d
  have e2 := hf.lg
  have e3 := hf.sg
  have HF := Lib.hid hf
  clear h hK hf
  go_enter Tryz.func85, Tryz.ntmps85
  go_wp2_with fail
  refine HC.out.mono ?_
  rintro e w1 ⟨rfl, h3, hK3⟩
  have d8 := h3.c8
  have df8 := h3.fd 8
  have df9 := h3.fd 9
  have d9' := h3.c9
  have H3 := Lib.hid h3
  have HK3 := Lib.hid hK3
  clear h3 hK3
  go_wp2_with fail
  go_ret2
  exact ⟨rfl, H3.out, HK3.out⟩

set_option maxRecDepth 100000 in
set_option maxHeartbeats 1000000 in
theorem D_sone (h : DSt A Ks w0 6 1 sa sb 1 la lb i w) (hK : Blk w K 203 zeroTok) (hf : A.Far K) (hk : K ∈ Ks ∨ w0.heap.size ≤ K) (hb : (A.l[i]?).map (·.toNat) = some 1) :
    Calls Tryz.prog 85 #[.pointer (some ⟨A.D, 0, none⟩), .pointer (some ⟨K, 0, none⟩)] w fun e w' => e = .returned (.tuple #[.bool false, .nilIface]) ∧ DSt A Ks w0 5 1 sa sb 1 la lb (i + 1) w' ∧ Blk w' K 203 (tokCells 117 0 noBytes (.slice none 0 0) false 0 1 0 false 0) := by
  have d9 := h.c9
  have HC := Lib.hid (d_sone h hK hf hk hb)
  have e1 := hf.d
  have e2 := hf.lg
  have e3 := hf.sg
  have HF := Lib.hid hf
  clear h hK hf
  go_enter Tryz.func85, Tryz.ntmps85
  go_wp2_with fail
  refine HC.out.mono ?_
  rintro e w1 ⟨rfl, h3, hK3⟩
  have d8 := h3.c8
  have df8 := h3.fd 8
  have df9 := h3.fd 9
  have d9' := h3.c9
  have H3 := Lib.hid h3
  have HK3 := Lib.hid hK3
  clear h3 hK3
  go_wp2_with fail
  go_ret2
  exact ⟨rfl, H3.out, HK3.out⟩

set_option maxRecDepth 100000 in
set_option maxHeartbeats 1000000 in
theorem D_slink (h : DSt A Ks w0 4 2 sa sb 2 la ((r + 1 : Nat) : Int) i w) (hK : Blk w K 203 zeroTok) (hf : A.Far K) (hk : K ∈ Ks ∨ w0.heap.size ≤ K) (hr : r ≤ 100000) (hb0 : (A.l[i]?).map (·.toNat) = some 216) (ht : HdAt A.l (i + 1) 216 42 (i + 1 + 1)) (c v j : Nat) (hb : (A.l[i + 1 + 1]?).map (·.toNat) = some c) (hh : HdAt A.l (i + 1 + 1 + 1) c v j) (hv0 : 0 < v) (hjv : j + v ≤ A.n) (hc1 : 64 ≤ c) (hc2 : c < 95) :
    Calls Tryz.prog 85 #[.pointer (some ⟨A.D, 0, none⟩), .pointer (some ⟨K, 0, none⟩)] w fun e w' => ∃ g cp, e = .returned (.tuple #[.bool false, .nilIface]) ∧ Row0 w g cp ((A.l.drop j).take v) w' ∧ DSt A Ks w0 4 2 sa sb 2 la (r : Int) (j + v) w' ∧ Blk w' K 203 (tokCells 120 0 noBytes (.slice (some ⟨g, 0, none⟩) v cp) false 0 0 0 true 42) := by
  have d9 := h.c9
  have HC := Lib.hid (d_slink h hK hf hk hr hb0 ht c v j hb hh hv0 hjv hc1 hc2)
  have e1 := hf.d
  have e2 := hf.lg
  have e3 := hf.sg
  have HF := Lib.hid hf
  clear h hK hf
  go_enter Tryz.func85, Tryz.ntmps85
  go_wp2_with fail
  refine HC.out.mono ?_
  rintro e w1 ⟨g, cp, rfl, hr1, h3, hK3⟩
  have R3 := Lib.hid hr1
  clear hr1
  have d8 := h3.c8
  have df8 := h3.fd 8
  have df9 := h3.fd 9
  have d9' := h3.c9
  have H3 := Lib.hid h3
  have HK3 := Lib.hid hK3
  clear h3 hK3
  go_wp2_with fail
  go_ret2
  exact ⟨g, cp, rfl, R3.out, H3.out, HK3.out⟩

set_option maxRecDepth 100000 in
set_option maxHeartbeats 1000000 in
theorem D_sclose (h : DSt A Ks w0 4 2 sa sb 2 la 0 i w) (hK : Blk w K 203 zeroTok) (hf : A.Far K) (hk : K ∈ Ks ∨ w0.heap.size ≤ K) :
    Calls Tryz.prog 85 #[.pointer (some ⟨A.D, 0, none⟩), .pointer (some ⟨K, 0, none⟩)] w fun e w' => e = .returned (.tuple #[.bool false, .nilIface]) ∧ DSt A Ks w0 sb 1 sa sb 1 la 0 i w' ∧ Blk w' K 203 (tokCells 93 0 noBytes (.slice none 0 0) false 0 0 0 false 0) := by
  have d9 := h.c9
  have HC := Lib.hid (d_sclose h hK hf hk)
  have e1 := hf.d
  have e2 := hf.lg
  have e3 := hf.sg
  have HF := Lib.hid hf
  clear h hK hf
  go_enter Tryz.func85, Tryz.ntmps85
  go_wp2_with fail
  refine HC.out.mono ?_
  rintro e w1 ⟨rfl, h3, hK3⟩
  have d8 := h3.c8
  have df8 := h3.fd 8
  have df9 := h3.fd 9
  have d9' := h3.c9
  have s1 := h3.s1
  have n1 := h3.nd.a1
  have s1' := (h3.to_ph sb).s1
  have d8' := (h3.to_ph sb).c8
  have df8' := (h3.to_ph sb).fd 8
  have H3 := Lib.hid h3
  have HK3 := Lib.hid hK3
  clear h3 hK3
  go_wp2_with fail
  go_ret2
  exact ⟨rfl, (H3.out.to_ph sb).to_sn 1, (HK3.out.far (p := ⟨A.D, 9, none⟩) HF.out.d _).far (p := ⟨A.D, 8, none⟩) HF.out.d _⟩

end
end Go.Proofs.YthmhnknkidkdlaaGreatDoor
namespace Go.Proofs.YthmhnknkidkdlaaGreatDoor
open Go.RowKit

/-- A CBOR head of a number below 65536. -/
def hd (major n : Nat) : List UInt8 := if n < 24 then [(32 * major + n).toUInt8] else if n < 256 then [(32 * major + 24).toUInt8, n.toUInt8] else [(32 * major + 25).toUInt8, (n / 256).toUInt8, (n % 256).toUInt8]
theorem hd_len (major n : Nat) : 1 ≤ (hd major n).length ∧ (hd major n).length ≤ 3 := by
  unfold hd
  split
  · simp
  · split <;> simp
def linkB (c : List UInt8) : List UInt8 := hd 6 42 ++ (hd 2 (c.length + 1) ++ (0 :: c))
theorem linkB_len (c : List UInt8) : c.length + 4 ≤ (linkB c).length ∧ (linkB c).length ≤ c.length + 6 := by
  have h := hd_len 2 (c.length + 1)
  have h2 : (hd 6 42).length = 2 := rfl
  unfold linkB
  rw [List.length_append, List.length_append, List.length_cons, h2]
  omega
def rootsS : List UInt8 := [114, 111, 111, 116, 115]
def verS : List UInt8 := [118, 101, 114, 115, 105, 111, 110]
/-- A header's map. -/
def hdrBody (cs : List (List UInt8)) (v : Nat) : List UInt8 := hd 5 2 ++ (hd 3 5 ++ (rootsS ++ (hd 4 cs.length ++ (cs.flatMap linkB ++ (hd 3 7 ++ (verS ++ hd 0 v))))))
def hdrB (cs : List (List UInt8)) (v : Nat) : List UInt8 := Lib.uvarint (hdrBody cs v).length ++ hdrBody cs v
/-- A section: the identifier's bytes and the data. -/
def secB (c d : List UInt8) : List UInt8 := Lib.uvarint (c.length + d.length) ++ (c ++ d)
def car1B (cs : List (List UInt8)) (bs : List (List UInt8 × List UInt8)) : List UInt8 := hdrB cs 1 ++ bs.flatMap fun b => secB b.1 b.2
theorem links_len : ∀ (cs : List (List UInt8)) (m : Nat), (∀ c, c ∈ cs → c.length ≤ m) → (cs.flatMap linkB).length ≤ (m + 6) * cs.length
  | [], _, _ => by simp
  | c :: cs, m, h => by
    have ih := links_len cs m (fun x hx => h x (List.mem_cons_of_mem _ hx))
    have h1 := h c (List.mem_cons_self ..)
    have h2 := (linkB_len c).2
    rw [List.flatMap_cons, List.length_append, List.length_cons, Nat.mul_succ]
    omega
theorem hdrBody_len (cs : List (List UInt8)) (v m : Nat) (h : ∀ c, c ∈ cs → c.length ≤ m) : (hdrBody cs v).length ≤ (m + 6) * cs.length + 23 := by
  have h1 := links_len cs m h
  have h2 := (hd_len 4 cs.length).2
  have h3 := (hd_len 0 v).2
  have e1 : (hd 5 2).length = 1 := rfl
  have e2 : (hd 3 5).length = 1 := rfl
  have e3 : (hd 3 7).length = 1 := rfl
  have e4 : rootsS.length = 5 := rfl
  have e5 : verS.length = 7 := rfl
  unfold hdrBody
  simp only [List.length_append, e1, e2, e3, e4, e5]
  omega
end Go.Proofs.YthmhnknkidkdlaaGreatDoor
namespace Go.Proofs.YthmhnknkidkdlaaGreatDoor
open Go.RowKit

theorem results_trt {P : Program} {fn : Func} {t p u : Tmp} {ty ty' : TypeId} {g : Nat} {cs : Array Value} (h : fn.results = #[.tmp t, .cell p ty, .tmp u]) (tmps : Array Value) {W : World} {d : TypeDesc}
    (hg : Blk W g ty' cs) (hp : tmps.getD p undef = .pointer (some ⟨g, 0, none⟩)) (hu : P.underlying ty = some d) (hd : (match d with | .struct _ | .array _ _ => true | _ => false) = true) (hi : (P.info? ty).map (·.size) = some cs.size) :
    (results fn tmps).run P W = .ok (.tuple #[tmps.getD t undef, .agg cs, tmps.getD u undef]) W := by
  have hp' : tmps[p]?.getD undef = .pointer (some ⟨g, 0, none⟩) := by simpa using hp
  simp only [results, h]
  simp [hp', asAddr, run_loadVar_row W g ty' ty cs (0, 0) d hg hu hd hi]
theorem results_rt {P : Program} {fn : Func} {p u : Tmp} {ty ty' : TypeId} {g : Nat} {cs : Array Value} (h : fn.results = #[.cell p ty, .tmp u]) (tmps : Array Value) {W : World} {d : TypeDesc}
    (hg : Blk W g ty' cs) (hp : tmps.getD p undef = .pointer (some ⟨g, 0, none⟩)) (hu : P.underlying ty = some d) (hd : (match d with | .struct _ | .array _ _ => true | _ => false) = true) (hi : (P.info? ty).map (·.size) = some cs.size) :
    (results fn tmps).run P W = .ok (.tuple #[.agg cs, tmps.getD u undef]) W := results_row_tmp h tmps hg hp hu hd hi
set_option maxRecDepth 100000 in
set_option maxHeartbeats 1000000 in
theorem mhFromBytes_ok (code b o n c : Nat) (d : List UInt8) (w : World) (hx : code < 9223372036854775808) (hd : d.length ≤ 2147483647) (hn : n = (mhB code d).length) (hnc : n ≤ c) (hs : Seg w b o (mhB code d)) :
    Calls Tryz.prog 78 #[.slice (some ⟨b, o, none⟩) n c] w fun e w' =>
      e = .returned (.tuple #[.int .i64 n, .slice (some ⟨b, o, none⟩) n c, .nilIface]) ∧ Drew w w' := by
  have HC := Lib.hid (readMh_dg code b o n c d w hx hd hn hnc hs)
  clear hx hd hn hs
  go_enter Tryz.func78, Tryz.ntmps78
  go_wp2_with fail
  refine HC.out.mono ?_
  rintro e w1 ⟨D, C, rfl, hdg, hD1⟩
  have HD1 := Lib.hid hD1
  clear hdg hD1
  go_wp2_with fail
  go_quiet (fail)
  go_wp2_with fail
  go_ret3
  exact ⟨rfl, HD1.out.more _⟩

set_option maxRecDepth 100000 in
set_option maxHeartbeats 1000000 in
theorem mhCast_ok (code b o n c : Nat) (d : List UInt8) (w : World) (hx : code < 9223372036854775808) (hd : d.length ≤ 2147483647) (hn : n = (mhB code d).length) (hnc : n ≤ c) (hs : Seg w b o (mhB code d)) (hb : b < w.heap.size) :
    Calls Tryz.prog 77 #[.slice (some ⟨b, o, none⟩) n c] w fun e w' =>
      e = .returned (.tuple #[.slice (some ⟨b, o, none⟩) n c, .nilIface]) ∧ Off [] w w' := by
  have HC := Lib.hid (decodeP_ok code b o n c d w hx hd hn hnc hs hb)
  clear hx hd hn hs
  go_enter Tryz.func77, Tryz.ntmps77
  go_wp2_with fail
  refine HC.out.mono ?_
  rintro e w1 ⟨D, C, g, rfl, hg, hblk, hdg, hB1⟩
  have HB1 := Lib.hid (Off.ofBelow (S := []) hB1)
  clear hblk hdg hB1
  go_wp2_with fail
  go_ret2
  exact ⟨rfl, HB1.out⟩

theorem isCid_len {l : List UInt8} {code : Nat} {d : List UInt8} (h : IsCid l code d) : 4 ≤ l.length ∧ l.length ≤ d.length + 31 := by
  obtain ⟨h1, h2, ⟨h3, rfl, h5⟩ | ⟨codec, h3, h4⟩⟩ := h
  · rw [h3, mhB_v0 d h5]; simp; omega
  · have a := Lib.uvarint_length64 (x := code) (by omega)
    have b := Lib.uvarint_length64 (x := d.length) (by omega)
    have e := Lib.uvarint_length64 (x := codec) (by omega)
    have p1 := Lib.uvarint_pos code
    have p2 := Lib.uvarint_pos d.length
    have p3 := Lib.uvarint_pos codec
    rw [h4, cid1_length, mhB_length]; omega

set_option maxRecDepth 100000 in
set_option maxHeartbeats 2000000 in
theorem cidFromBytes_zero (b o c : Nat) (d : List UInt8) (w : World) (hd : d.length = 32) (hnc : 34 ≤ c) (hs : Seg w b o (mhB 18 d)) (hb : b < w.heap.size) :
    Calls Tryz.prog 102 #[.slice (some ⟨b, o, none⟩) 34 c] w fun e w' =>
      e = .returned (.tuple #[.int .i64 34, .agg #[.string (str (mhB 18 d))], .nilIface]) ∧ Off [] w w' := by
  have hl : (mhB 18 d).length = 34 := by rw [mhB_v0 d hd]; simp; omega
  have hv := mhB_v0 d hd
  have c0 : w.cell? ⟨b, o, none⟩ = some (.int .u8 18) := by have h := hs 0 (by omega); simp only [hv] at h; exact h
  have c1 : w.cell? ⟨b, o + 1, none⟩ = some (.int .u8 32) := by have h := hs 1 (by omega); simp only [hv] at h; exact h
  have hA : Off [] w (w.alloc (.cells #[.string ⟨#[]⟩] 133)) := (Off.refl [] w).alloc _
  have hs' := hA.seg hs (by simp)
  have HC := Lib.hid (mhCast_ok 18 b o 34 c d _ (by omega) (by omega) hl.symm hnc hs' (by simp; omega))
  have c0' := hA.cellE c0 (by simp)
  have c1' := hA.cellE c1 (by simp)
  have HB := Lib.hid (Blk.new w 133 #[.string ⟨#[]⟩])
  have HS := Lib.hid hs'
  have HA := Lib.hid hA
  have HL := Lib.hid hl
  clear hs hl hv hd hs' hA
  go_enter Tryz.func102, Tryz.ntmps102
  go_wp2_with fail
  refine HC.out.mono ?_
  rintro e w1 ⟨rfl, hO1⟩
  have hcv := run_convert_seg (P := Tryz.prog) (W := w1.drew) (src := 185) (e := 5) (dst := 9) Tryz.underlying185 Tryz.underlying5 Tryz.underlying9 c (hO1.seg HS.out (by simp))
  rw [HL.out] at hcv
  have hB1 := hO1.blk HB.out (by simp)
  have b0 := hB1.cell 0
  have bf0 := hB1.frozen 0
  simp at b0
  have HB1 := Lib.hid hB1
  have HO1 := Lib.hid hO1
  clear hO1 hB1
  go_wp2_with fail
  go_region
  go_wp2_with fail
  refine bodyPost_ret (results_trt rfl _ (HB1.out.fill1) rfl Tryz.underlying133 rfl (by kernel_rfl)) rfl ⟨rfl, ?_⟩
  exact ((HA.out.then HO1.out (fun x hx => by simp at hx)).setCell (p := ⟨w.heap.size, 0, none⟩) (Or.inr (Nat.le_refl _)) _).drew

set_option maxRecDepth 100000 in
set_option maxHeartbeats 2000000 in
theorem cidFromBytes_one (b o c codec code : Nat) (d : List UInt8) (w : World) (hx : code < 9223372036854775808) (hcx : codec < 9223372036854775808) (hd : d.length ≤ 1000000) (n : Nat) (hn : n = (cid1 codec (mhB code d)).length) (hnc : n ≤ c) (hs : Seg w b o (cid1 codec (mhB code d))) (_hb : b < w.heap.size) :
    Calls Tryz.prog 102 #[.slice (some ⟨b, o, none⟩) n c] w fun e w' =>
      e = .returned (.tuple #[.int .i64 (n : Int), .agg #[.string (str (cid1 codec (mhB code d)))], .nilIface]) ∧ Off [] w w' := by
  have a1 := Lib.uvarint_length64 (x := code) (by omega)
  have a2 := Lib.uvarint_length64 (x := d.length) (by omega)
  have a3 := Lib.uvarint_length64 (x := codec) (by omega)
  have p1 := Lib.uvarint_pos code
  have p2 := Lib.uvarint_pos d.length
  have p3 := Lib.uvarint_pos codec
  have hm := mhB_length code d
  have hcl := cid1_length codec (mhB code d)
  obtain ⟨u, hu⟩ : ∃ u, u = (Lib.uvarint codec).length := ⟨_, rfl⟩
  obtain ⟨m, hme⟩ : ∃ m, m = (mhB code d).length := ⟨_, rfl⟩
  have hnum : n = 1 + u + m := by rw [hn, hcl, ← hu, ← hme]
  have c0w : w.cell? ⟨b, o, none⟩ = some (.int .u8 1) := by have h := hs 0 (by omega); simpa [cid1] using h
  have hA : Off [] w (w.alloc (.cells #[.string ⟨#[]⟩] 133)) := (Off.refl [] w).alloc _
  have hs := hA.seg hs (by simp)
  have c0 := hA.cellE c0w (by simp)
  have HBN := Lib.hid (Blk.new w 133 #[.string ⟨#[]⟩])
  have hseq : Seg (w.alloc (.cells #[.string ⟨#[]⟩] 133)) b o (Lib.uvarint 1 ++ (Lib.uvarint codec ++ mhB code d)) := by rw [← cid1_eq]; exact hs
  have hone : (Lib.uvarint 1).length = 1 := by rw [Lib.uvarint_small (by omega)]; rfl
  have h1 := hseq.right
  rw [hone] at h1
  have h2 := h1.right
  rw [← hu] at h2
  have HA := Lib.hid (fromUvarint_ok 1 b o n c _ (by omega) (by omega) hseq.left)
  rw [hone] at HA
  have HB := Lib.hid (fromUvarint_ok codec b (o + 1) (n - 1) (c - 1) _ hcx (by omega) h1.left)
  rw [← hu] at HB
  have HC := Lib.hid (mhFromBytes_ok code b (o + 1 + u) m (c - (1 + u)) d _ hx (by omega) hme (by omega) h2)
  have HS := Lib.hid hs
  have HN := Lib.hid hn
  have hn2 : 2 < n := by omega
  have hn3 : n ≤ 2147483700 := by omega
  have hc1 : ¬ c = 1 := by omega
  have hc2 : ¬ c = 1 + u := by omega
  have hle : 1 + u ≤ n := by omega
  have hnm : n - (1 + u) = m := by omega
  have hsum : (1 : Int) + (u : Int) + (m : Int) = (n : Int) := by omega
  have HAL := Lib.hid hA
  clear hs hn a1 a2 a3 p1 p2 p3 hm hcl hu hme hseq h1 h2 hx hcx hd hone hnum hA c0w
  go_enter Tryz.func102, Tryz.ntmps102
  go_wp2_with fail
  refine HA.out.mono ?_
  rintro e w' ⟨rfl, rfl⟩
  go_wp2_with fail
  refine HB.out.mono ?_
  rintro e w' ⟨rfl, rfl⟩
  go_wp2_with fail
  rw [hnm]
  rw [show o + (1 + u) = o + 1 + u from by omega]
  refine HC.out.mono ?_
  rintro e w1 ⟨rfl, hD1⟩
  have hcv := run_convert_seg (P := Tryz.prog) (W := w1.drew) (src := 47) (e := 5) (dst := 9) Tryz.underlying47 Tryz.underlying5 Tryz.underlying9 c (hD1.seg HS.out)
  rw [← HN.out] at hcv
  have hB1 := hD1.blk HBN.out
  have b0 := hB1.cell 0
  have bf0 := hB1.frozen 0
  simp at b0
  have HB1 := Lib.hid hB1
  have HD1 := Lib.hid hD1
  clear hD1 hB1
  go_wp2_with fail
  go_region
  go_wp2_with fail
  refine bodyPost_ret (results_trt rfl _ (HB1.out.fill1) rfl Tryz.underlying133 rfl (by kernel_rfl)) rfl ⟨rfl, ?_⟩
  exact ((HAL.out.then (Off.ofDrew (S := []) HD1.out) (fun x hx => by simp at hx)).setCell (p := ⟨w.heap.size, 0, none⟩) (Or.inr (Nat.le_refl _)) _).drew

theorem cidFromBytes_any (b o c : Nat) (l : List UInt8) (code : Nat) (d : List UInt8) (w : World) (h : IsCid l code d) (hd : d.length ≤ 1000000) (hnc : l.length ≤ c) (hs : Seg w b o l) (hb : b < w.heap.size) :
    Calls Tryz.prog 102 #[.slice (some ⟨b, o, none⟩) l.length c] w fun e w' =>
      e = .returned (.tuple #[.int .i64 (l.length : Int), .agg #[.string (str l)], .nilIface]) ∧ Off [] w w' := by
  obtain ⟨h1, h2, ⟨h3, rfl, h5⟩ | ⟨codec, h3, h4⟩⟩ := h
  · have hl : l.length = 34 := by rw [h3, mhB_v0 d h5]; simp; omega
    subst h3
    rw [hl] at hnc ⊢
    exact cidFromBytes_zero b o c d w h5 hnc hs hb
  · subst h4
    exact cidFromBytes_one b o c codec code d w h1 h3 hd _ rfl hnc hs hb

set_option maxRecDepth 100000 in
set_option maxHeartbeats 1000000 in
theorem cidCast_any (b o c n : Nat) (l : List UInt8) (code : Nat) (d : List UInt8) (w : World) (h : IsCid l code d) (hd : d.length ≤ 1000000) (hn : n = l.length) (hnc : n ≤ c) (hs : Seg w b o l) (hb : b < w.heap.size) :
    Calls Tryz.prog 98 #[.slice (some ⟨b, o, none⟩) n c] w fun e w' =>
      e = .returned (.tuple #[.agg #[.string (str l)], .nilIface]) ∧ Off [] w w' := by
  subst hn
  have hA : Off [] w (w.alloc (.cells #[.string ⟨#[]⟩] 133)) := (Off.refl [] w).alloc _
  have HC := Lib.hid (cidFromBytes_any b o c l code d _ h hd hnc (hA.seg hs (by simp)) (show b < (w.alloc (.cells #[.string ⟨#[]⟩] 133)).heap.size by simp; omega))
  have HBN := Lib.hid (Blk.new w 133 #[.string ⟨#[]⟩])
  have HAL := Lib.hid hA
  clear h hd hs hA
  go_enter Tryz.func98, Tryz.ntmps98
  go_wp2_with fail
  refine HC.out.mono ?_
  rintro e w1 ⟨rfl, hO1⟩
  have hB1 := hO1.blk HBN.out (by simp)
  have b0 := fun ob => (hB1.alloc ob).cell 0
  have bf0 := fun ob => (hB1.alloc ob).frozen 0
  simp at b0
  have HB1 := Lib.hid hB1
  have HO1 := Lib.hid hO1
  clear hO1 hB1
  go_wp2_with fail
  refine bodyPost_ret (results_rt rfl _ ((HB1.out.alloc _).fill1) rfl Tryz.underlying133 rfl (by kernel_rfl)) rfl ⟨rfl, ?_⟩
  exact ((HAL.out.then HO1.out (fun x hx => by simp at hx)).alloc _).setCell (p := ⟨w.heap.size, 0, none⟩) (Or.inr (Nat.le_refl _)) _
end Go.Proofs.YthmhnknkidkdlaaGreatDoor
