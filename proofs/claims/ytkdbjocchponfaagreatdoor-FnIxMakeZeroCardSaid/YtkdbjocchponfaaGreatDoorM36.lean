/-
  The CBOR decoder's steps over a header: a map, its keys, a list, its links.
  The CBOR decoder's Step over a header.
  carv1.zzDecodeHeader over the ten bytes of the pragma's map: version 2.
  Plain: the bytes of a file of version 1: CBOR heads, links, the header, sections.
  (No condition beyond those that each theorem states.)
-/
import Derived.Test.YtkdbjocchponfaaGreatDoorM35
import Derived.Test.YtkdbjocchponfaaGreatDoorM03
import Derived.Test.YtkdbjocchponfaaGreatDoorM06
import Derived.Lib.Varint
namespace Go.Proofs.YtkdbjocchponfaaGreatDoor
open Go.RowKit

section
variable {A : DA} {Ks : List Nat} {w0 w w' : World} {ph : Int} {sn : Nat} {sa sb : Int} {ln : Nat} {la lb : Int} {i : Nat} {K r : Nat}

set_option maxRecDepth 100000 in
set_option maxHeartbeats 1000000 in
theorem d_sval (h : DSt A Ks w0 0 0 sa sb 0 la lb i w) (hK : Blk w K 215 zeroTok) (hf : A.Far K) (hk : K ∈ Ks ∨ w0.heap.size ≤ K) (hb : (A.l[i]?).map (·.toNat) = some 162) :
    Calls Tryz.prog 125 #[.pointer (some ⟨A.D, 0, none⟩), .pointer (some ⟨K, 0, none⟩)] w fun e w' => e = .returned (.tuple #[.bool false, .nilIface]) ∧ DSt A Ks w0 5 1 0 sb 1 2 lb (i + 1) w' ∧ Blk w' K 215 (tokCells 123 2 noBytes (.slice none 0 0) false 0 0 0 false 0) := by
  have d7 := h.c7
  have hm1 := method_readn1
  have HB := Lib.hid (h.byte 162 hb)
  have e1 := hf.d
  have e2 := hf.lg
  have e3 := hf.sg
  have HK := Lib.hid hK
  have HF := Lib.hid hf
  clear h hK hf hb
  go_enter Tryz.func125, Tryz.ntmps125
  go_wp2_with fail
  refine HB.out.mono ?_
  rintro e w1 ⟨rfl, h1, o1⟩
  have hK1 := o1.blk HK.out (ni3 HF.out.s HF.out.t HF.out.r)
  have q8 := hK1.cell 8
  have qf8 := hK1.frozen 8
  simp [zeroTok, tokCells] at q8
  have HM := Lib.hid (d_map (h1.tset HF.out hk 8 (.bool false)) (hK1.set_ 8 (.bool false)) HF.out hk)
  clear h1 o1 hK1
  go_wp2_with fail
  refine HM.out.mono ?_
  rintro e w2 ⟨rfl, h3, hK3⟩
  have H3 := Lib.hid h3
  have HK3 := Lib.hid hK3
  clear h3 hK3
  go_wp2_with fail
  go_ret2
  exact ⟨rfl, H3.out, HK3.out⟩

set_option maxRecDepth 100000 in
set_option maxHeartbeats 1000000 in
theorem d_skey5 (h : DSt A Ks w0 5 1 sa sb 1 2 lb i w) (hK : Blk w K 215 zeroTok) (hf : A.Far K) (hk : K ∈ Ks ∨ w0.heap.size ≤ K) (hb : (A.l[i]?).map (·.toNat) = some 101) (hik : i + 1 + 5 ≤ A.n) :
    Calls Tryz.prog 130 #[.pointer (some ⟨A.D, 0, none⟩), .pointer (some ⟨K, 0, none⟩)] w fun e w' => e = .returned (.tuple #[.bool false, .nilIface]) ∧ DSt A Ks w0 6 1 sa sb 1 1 lb (i + 1 + 5) w' ∧ Blk w' K 215 (tokCells 115 0 (str ((A.l.drop (i + 1)).take 5)) (.slice none 0 0) false 0 0 0 false 0) := by
  have d10 := h.c10
  have l0 := h.l0
  have lf0 := h.fl 0
  have hm1 := method_readn1
  have d7 := (h.to_la 1).c7
  have HB := Lib.hid ((h.to_la 1).byte 101 hb)
  have HK := Lib.hid (hK.far (p := ⟨A.lg, 0, none⟩) hf.lg (.int .i64 1))
  have e1 := hf.d
  have e2 := hf.lg
  have e3 := hf.sg
  have HF := Lib.hid hf
  clear h hK hf hb
  go_enter Tryz.func130, Tryz.ntmps130
  go_wp2_with fail
  refine HB.out.mono ?_
  rintro e w1 ⟨rfl, h1, o1⟩
  have hK1 := o1.blk HK.out (ni3 HF.out.s HF.out.t HF.out.r)
  have q8 := hK1.cell 8
  have qf8 := hK1.frozen 8
  simp [zeroTok, tokCells] at q8
  have d9 := h1.c9
  have df9 := h1.fd 9
  have HM := Lib.hid (d_text5 ((h1.to_ph 6).tset HF.out hk 8 (.bool false)) ((hK1.far (p := ⟨A.D, 9, none⟩) HF.out.d (.int .u8 6)).set_ 8 (.bool false)) HF.out hk hik)
  clear h1 o1 hK1
  go_wp2_with fail
  refine HM.out.mono ?_
  rintro e w2 ⟨rfl, h3, hK3⟩
  have H3 := Lib.hid h3
  have HK3 := Lib.hid hK3
  clear h3 hK3
  go_wp2_with fail
  go_ret2
  exact ⟨rfl, H3.out, HK3.out⟩

set_option maxRecDepth 100000 in
set_option maxHeartbeats 1000000 in
theorem d_skey7 (h : DSt A Ks w0 5 1 sa sb 1 1 lb i w) (hK : Blk w K 215 zeroTok) (hf : A.Far K) (hk : K ∈ Ks ∨ w0.heap.size ≤ K) (hb : (A.l[i]?).map (·.toNat) = some 103) (hik : i + 1 + 7 ≤ A.n) :
    Calls Tryz.prog 130 #[.pointer (some ⟨A.D, 0, none⟩), .pointer (some ⟨K, 0, none⟩)] w fun e w' => e = .returned (.tuple #[.bool false, .nilIface]) ∧ DSt A Ks w0 6 1 sa sb 1 0 lb (i + 1 + 7) w' ∧ Blk w' K 215 (tokCells 115 0 (str ((A.l.drop (i + 1)).take 7)) (.slice none 0 0) false 0 0 0 false 0) := by
  have d10 := h.c10
  have l0 := h.l0
  have lf0 := h.fl 0
  have hm1 := method_readn1
  have d7 := (h.to_la 0).c7
  have HB := Lib.hid ((h.to_la 0).byte 103 hb)
  have HK := Lib.hid (hK.far (p := ⟨A.lg, 0, none⟩) hf.lg (.int .i64 0))
  have e1 := hf.d
  have e2 := hf.lg
  have e3 := hf.sg
  have HF := Lib.hid hf
  clear h hK hf hb
  go_enter Tryz.func130, Tryz.ntmps130
  go_wp2_with fail
  refine HB.out.mono ?_
  rintro e w1 ⟨rfl, h1, o1⟩
  have hK1 := o1.blk HK.out (ni3 HF.out.s HF.out.t HF.out.r)
  have q8 := hK1.cell 8
  have qf8 := hK1.frozen 8
  simp [zeroTok, tokCells] at q8
  have d9 := h1.c9
  have df9 := h1.fd 9
  have HM := Lib.hid (d_text7 ((h1.to_ph 6).tset HF.out hk 8 (.bool false)) ((hK1.far (p := ⟨A.D, 9, none⟩) HF.out.d (.int .u8 6)).set_ 8 (.bool false)) HF.out hk hik)
  clear h1 o1 hK1
  go_wp2_with fail
  refine HM.out.mono ?_
  rintro e w2 ⟨rfl, h3, hK3⟩
  have H3 := Lib.hid h3
  have HK3 := Lib.hid hK3
  clear h3 hK3
  go_wp2_with fail
  go_ret2
  exact ⟨rfl, H3.out, HK3.out⟩

set_option maxRecDepth 100000 in
set_option maxHeartbeats 1000000 in
theorem d_send (h : DSt A Ks w0 5 1 sa sb 1 0 lb i w) (hK : Blk w K 215 zeroTok) (hf : A.Far K) (hk : K ∈ Ks ∨ w0.heap.size ≤ K) :
    Calls Tryz.prog 130 #[.pointer (some ⟨A.D, 0, none⟩), .pointer (some ⟨K, 0, none⟩)] w fun e w' => e = .returned (.tuple #[.bool true, .nilIface]) ∧ DSt A Ks w0 5 1 sa sb 0 0 lb i w' ∧ Blk w' K 215 (tokCells 125 0 noBytes (.slice none 0 0) false 0 0 0 false 0) := by
  have d10 := h.c10
  have df10 := h.fd 10
  have l0 := h.l0
  have q0 := hK.cell 0
  have qf0 := hK.frozen 0
  simp [zeroTok, tokCells] at q0
  have e1 := hf.d
  have e2 := hf.lg
  have e3 := hf.sg
  have H := Lib.hid h
  have HK := Lib.hid hK
  have HF := Lib.hid hf
  clear h hK hf
  go_enter Tryz.func130, Tryz.ntmps130
  go_wp2_with fail
  go_ret2
  exact ⟨rfl, (H.out.to_ln 0).tset HF.out hk 0 _, (HK.out.far (p := ⟨A.D, 10, none⟩) HF.out.d _).set_ 0 _⟩

set_option maxRecDepth 100000 in
set_option maxHeartbeats 1000000 in
theorem d_sarr (h : DSt A Ks w0 6 1 sa sb 1 la lb i w) (hK : Blk w K 215 zeroTok) (hf : A.Far K) (hk : K ∈ Ks ∨ w0.heap.size ≤ K) (c v j : Nat) (hb : (A.l[i]?).map (·.toNat) = some c) (hh : HdAt A.l (i + 1) c v j) (hc1 : 128 ≤ c) (hc2 : c < 159) :
    Calls Tryz.prog 131 #[.pointer (some ⟨A.D, 0, none⟩), .pointer (some ⟨K, 0, none⟩)] w fun e w' => e = .returned (.tuple #[.bool false, .nilIface]) ∧ DSt A Ks w0 4 2 sa 5 2 la (v : Int) j w' ∧ Blk w' K 215 (tokCells 91 (v : Int) noBytes (.slice none 0 0) false 0 0 0 false 0) := by
  have d7 := h.c7
  have hm1 := method_readn1
  have HB := Lib.hid (h.byte c hb)
  have e1 := hf.d
  have e2 := hf.lg
  have e3 := hf.sg
  have HK := Lib.hid hK
  have HF := Lib.hid hf
  clear h hK hf hb
  go_enter Tryz.func131, Tryz.ntmps131
  go_wp2_with fail
  refine HB.out.mono ?_
  rintro e w1 ⟨rfl, h1, o1⟩
  have hK1 := o1.blk HK.out (ni3 HF.out.s HF.out.t HF.out.r)
  have q8 := hK1.cell 8
  have qf8 := hK1.frozen 8
  simp [zeroTok, tokCells] at q8
  have d9 := h1.c9
  have df9 := h1.fd 9
  have HM := Lib.hid (d_arr ((h1.to_ph 5).tset HF.out hk 8 (.bool false)) ((hK1.far (p := ⟨A.D, 9, none⟩) HF.out.d (.int .u8 5)).set_ 8 (.bool false)) HF.out hk c v j hh hc1 hc2)
  clear h1 o1 hK1
  go_wp2_with fail
  refine HM.out.mono ?_
  rintro e w2 ⟨rfl, h3, hK3⟩
  have H3 := Lib.hid h3
  have HK3 := Lib.hid hK3
  clear h3 hK3
  go_wp2_with fail
  go_ret2
  exact ⟨rfl, H3.out, HK3.out⟩

set_option maxRecDepth 100000 in
set_option maxHeartbeats 1000000 in
theorem d_sone (h : DSt A Ks w0 6 1 sa sb 1 la lb i w) (hK : Blk w K 215 zeroTok) (hf : A.Far K) (hk : K ∈ Ks ∨ w0.heap.size ≤ K) (hb : (A.l[i]?).map (·.toNat) = some 1) :
    Calls Tryz.prog 131 #[.pointer (some ⟨A.D, 0, none⟩), .pointer (some ⟨K, 0, none⟩)] w fun e w' => e = .returned (.tuple #[.bool false, .nilIface]) ∧ DSt A Ks w0 5 1 sa sb 1 la lb (i + 1) w' ∧ Blk w' K 215 (tokCells 117 0 noBytes (.slice none 0 0) false 0 1 0 false 0) := by
  have d7 := h.c7
  have hm1 := method_readn1
  have HB := Lib.hid (h.byte 1 hb)
  have e1 := hf.d
  have e2 := hf.lg
  have e3 := hf.sg
  have HK := Lib.hid hK
  have HF := Lib.hid hf
  clear h hK hf hb
  go_enter Tryz.func131, Tryz.ntmps131
  go_wp2_with fail
  refine HB.out.mono ?_
  rintro e w1 ⟨rfl, h1, o1⟩
  have hK1 := o1.blk HK.out (ni3 HF.out.s HF.out.t HF.out.r)
  have q8 := hK1.cell 8
  have qf8 := hK1.frozen 8
  simp [zeroTok, tokCells] at q8
  have d9 := h1.c9
  have df9 := h1.fd 9
  have HM := Lib.hid (d_one ((h1.to_ph 5).tset HF.out hk 8 (.bool false)) ((hK1.far (p := ⟨A.D, 9, none⟩) HF.out.d (.int .u8 5)).set_ 8 (.bool false)) HF.out hk)
  clear h1 o1 hK1
  go_wp2_with fail
  refine HM.out.mono ?_
  rintro e w2 ⟨rfl, h3, hK3⟩
  have H3 := Lib.hid h3
  have HK3 := Lib.hid hK3
  clear h3 hK3
  go_wp2_with fail
  go_ret2
  exact ⟨rfl, H3.out, HK3.out⟩

set_option maxRecDepth 100000 in
set_option maxHeartbeats 1000000 in
theorem d_slink (h : DSt A Ks w0 4 2 sa sb 2 la ((r + 1 : Nat) : Int) i w) (hK : Blk w K 215 zeroTok) (hf : A.Far K) (hk : K ∈ Ks ∨ w0.heap.size ≤ K) (hr : r ≤ 100000) (hb0 : (A.l[i]?).map (·.toNat) = some 216) (ht : HdAt A.l (i + 1) 216 42 (i + 1 + 1)) (c v j : Nat) (hb : (A.l[i + 1 + 1]?).map (·.toNat) = some c) (hh : HdAt A.l (i + 1 + 1 + 1) c v j) (hv0 : 0 < v) (hjv : j + v ≤ A.n) (hc1 : 64 ≤ c) (hc2 : c < 95) :
    Calls Tryz.prog 129 #[.pointer (some ⟨A.D, 0, none⟩), .pointer (some ⟨K, 0, none⟩)] w fun e w' => ∃ g cp, e = .returned (.tuple #[.bool false, .nilIface]) ∧ Row0 w g cp ((A.l.drop j).take v) w' ∧ DSt A Ks w0 4 2 sa sb 2 la (r : Int) (j + v) w' ∧ Blk w' K 215 (tokCells 120 0 noBytes (.slice (some ⟨g, 0, none⟩) v cp) false 0 0 0 true 42) := by
  have d10 := h.c10
  have l0 := h.l1
  have lf0 := h.fl 1
  have hm1 := method_readn1
  have d7 := (h.to_lb (r : Int)).c7
  have hz : (((r + 1 : Nat) : Int) == 0) = false := beq_eq_false_iff_ne.2 (by omega)
  have hw : IntKind.i64.wrap (((r + 1 : Nat) : Int) - 1) = (r : Int) := by rw [IntKind.wrap_i64]; omega
  have HB := Lib.hid ((h.to_lb (r : Int)).byte 216 hb0)
  have HK := Lib.hid (hK.far (p := ⟨A.lg, 1, none⟩) hf.lg (.int .i64 (r : Int)))
  obtain ⟨q, hq⟩ : ∃ q : Int, q = ((r + 1 : Nat) : Int) := ⟨_, rfl⟩
  rw [← hq] at l0 hz hw
  have e1 := hf.d
  have e2 := hf.lg
  have e3 := hf.sg
  have HF := Lib.hid hf
  clear h hK hf hb0 hq
  go_enter Tryz.func129, Tryz.ntmps129
  go_wp2_with fail
  refine HB.out.mono ?_
  rintro e w1 ⟨rfl, h1, o1⟩
  have hK1 := o1.blk HK.out (ni3 HF.out.s HF.out.t HF.out.r)
  have q8 := hK1.cell 8
  have qf8 := hK1.frozen 8
  simp [zeroTok, tokCells] at q8
  have z1 := o1.size
  simp [World.setCell] at z1
  have HM := Lib.hid (d_link (h1.tset HF.out hk 8 (.bool false)) (hK1.set_ 8 (.bool false)) HF.out hk ht c v j hb hh hv0 hjv hc1 hc2)
  clear h1 o1 hK1
  go_wp2_with fail
  refine HM.out.mono ?_
  rintro e w2 ⟨g, cp, rfl, ⟨r1, r2, r3, r4⟩, h3, hK3⟩
  simp [World.setCell] at r1
  have H3 := Lib.hid h3
  have HK3 := Lib.hid hK3
  have R4 := Lib.hid r4
  clear h3 hK3 r4
  go_wp2_with fail
  go_ret2
  exact ⟨g, cp, rfl, ⟨by omega, r2, r3, R4.out⟩, H3.out, HK3.out⟩

set_option maxRecDepth 100000 in
set_option maxHeartbeats 1000000 in
theorem d_sclose (h : DSt A Ks w0 4 2 sa sb 2 la 0 i w) (hK : Blk w K 215 zeroTok) (hf : A.Far K) (hk : K ∈ Ks ∨ w0.heap.size ≤ K) :
    Calls Tryz.prog 129 #[.pointer (some ⟨A.D, 0, none⟩), .pointer (some ⟨K, 0, none⟩)] w fun e w' => e = .returned (.tuple #[.bool true, .nilIface]) ∧ DSt A Ks w0 4 2 sa sb 1 la 0 i w' ∧ Blk w' K 215 (tokCells 93 0 noBytes (.slice none 0 0) false 0 0 0 false 0) := by
  have d10 := h.c10
  have df10 := h.fd 10
  have l0 := h.l1
  have q0 := hK.cell 0
  have qf0 := hK.frozen 0
  simp [zeroTok, tokCells] at q0
  have e1 := hf.d
  have e2 := hf.lg
  have e3 := hf.sg
  have H := Lib.hid h
  have HK := Lib.hid hK
  have HF := Lib.hid hf
  clear h hK hf
  go_enter Tryz.func129, Tryz.ntmps129
  go_wp2_with fail
  go_ret2
  exact ⟨rfl, (H.out.to_ln 1).tset HF.out hk 0 _, (HK.out.far (p := ⟨A.D, 10, none⟩) HF.out.d _).set_ 0 _⟩

end
end Go.Proofs.YtkdbjocchponfaaGreatDoor
namespace Go.Proofs.YtkdbjocchponfaaGreatDoor
open Go.RowKit

section
variable {A : DA} {Ks : List Nat} {w0 w w' : World} {ph : Int} {sn : Nat} {sa sb : Int} {ln : Nat} {la lb : Int} {i : Nat} {K r : Nat}

set_option maxRecDepth 100000 in
set_option maxHeartbeats 1000000 in
theorem D_sval (h : DSt A Ks w0 0 0 sa sb 0 la lb i w) (hK : Blk w K 215 zeroTok) (hf : A.Far K) (hk : K ∈ Ks ∨ w0.heap.size ≤ K) (hb : (A.l[i]?).map (·.toNat) = some 162) :
    Calls Tryz.prog 97 #[.pointer (some ⟨A.D, 0, none⟩), .pointer (some ⟨K, 0, none⟩)] w fun e w' => e = .returned (.tuple #[.bool false, .nilIface]) ∧ DSt A Ks w0 5 1 0 sb 1 2 lb (i + 1) w' ∧ Blk w' K 215 (tokCells 123 2 noBytes (.slice none 0 0) false 0 0 0 false 0) := by
  have d9 := h.c9
  have HC := Lib.hid (d_sval h hK hf hk hb)
  have e1 := hf.d
  have e2 := hf.lg
  have e3 := hf.sg
  have HF := Lib.hid hf
  clear h hK hf
  go_enter Tryz.func97, Tryz.ntmps97
  go_wp2_with fail
  refine HC.out.mono ?_
  rintro e w1 ⟨rfl, h3, hK3⟩
  have d8 := h3.c8
  have df8 := h3.fd 8
  have df9 := h3.fd 9
  have d9' := h3.c9
  have H3 := Lib.hid h3
  have HK3 := Lib.hid hK3
  clear h3 hK3
  go_wp2_with fail
  go_ret2
  exact ⟨rfl, H3.out, HK3.out⟩

set_option maxRecDepth 100000 in
set_option maxHeartbeats 1000000 in
theorem D_skey5 (h : DSt A Ks w0 5 1 sa sb 1 2 lb i w) (hK : Blk w K 215 zeroTok) (hf : A.Far K) (hk : K ∈ Ks ∨ w0.heap.size ≤ K) (hb : (A.l[i]?).map (·.toNat) = some 101) (hik : i + 1 + 5 ≤ A.n) :
    Calls Tryz.prog 97 #[.pointer (some ⟨A.D, 0, none⟩), .pointer (some ⟨K, 0, none⟩)] w fun e w' => e = .returned (.tuple #[.bool false, .nilIface]) ∧ DSt A Ks w0 6 1 sa sb 1 1 lb (i + 1 + 5) w' ∧ Blk w' K 215 (tokCells 115 0 (str ((A.l.drop (i + 1)).take 5)) (.slice none 0 0) false 0 0 0 false 0) := by
  have d9 := h.c9
  have HC := Lib.hid (d_skey5 h hK hf hk hb hik)
  have e1 := hf.d
  have e2 := hf.lg
  have e3 := hf.sg
  have HF := Lib.hid hf
  clear h hK hf
  go_enter Tryz.func97, Tryz.ntmps97
  go_wp2_with fail
  refine HC.out.mono ?_
  rintro e w1 ⟨rfl, h3, hK3⟩
  have d8 := h3.c8
  have df8 := h3.fd 8
  have df9 := h3.fd 9
  have d9' := h3.c9
  have H3 := Lib.hid h3
  have HK3 := Lib.hid hK3
  clear h3 hK3
  go_wp2_with fail
  go_ret2
  exact ⟨rfl, H3.out, HK3.out⟩

set_option maxRecDepth 100000 in
set_option maxHeartbeats 1000000 in
theorem D_skey7 (h : DSt A Ks w0 5 1 sa sb 1 1 lb i w) (hK : Blk w K 215 zeroTok) (hf : A.Far K) (hk : K ∈ Ks ∨ w0.heap.size ≤ K) (hb : (A.l[i]?).map (·.toNat) = some 103) (hik : i + 1 + 7 ≤ A.n) :
    Calls Tryz.prog 97 #[.pointer (some ⟨A.D, 0, none⟩), .pointer (some ⟨K, 0, none⟩)] w fun e w' => e = .returned (.tuple #[.bool false, .nilIface]) ∧ DSt A Ks w0 6 1 sa sb 1 0 lb (i + 1 + 7) w' ∧ Blk w' K 215 (tokCells 115 0 (str ((A.l.drop (i + 1)).take 7)) (.slice none 0 0) false 0 0 0 false 0) := by
  have d9 := h.c9
  have HC := Lib.hid (d_skey7 h hK hf hk hb hik)
  have e1 := hf.d
  have e2 := hf.lg
  have e3 := hf.sg
  have HF := Lib.hid hf
  clear h hK hf
  go_enter Tryz.func97, Tryz.ntmps97
  go_wp2_with fail
  refine HC.out.mono ?_
  rintro e w1 ⟨rfl, h3, hK3⟩
  have d8 := h3.c8
  have df8 := h3.fd 8
  have df9 := h3.fd 9
  have d9' := h3.c9
  have H3 := Lib.hid h3
  have HK3 := Lib.hid hK3
  clear h3 hK3
  go_wp2_with fail
  go_ret2
  exact ⟨rfl, H3.out, HK3.out⟩

set_option maxRecDepth 100000 in
set_option maxHeartbeats 1000000 in
theorem D_send (h : DSt A Ks w0 5 1 sa sb 1 0 lb i w) (hK : Blk w K 215 zeroTok) (hf : A.Far K) (hk : K ∈ Ks ∨ w0.heap.size ≤ K) :
    Calls Tryz.prog 97 #[.pointer (some ⟨A.D, 0, none⟩), .pointer (some ⟨K, 0, none⟩)] w fun e w' => e = .returned (.tuple #[.bool true, .nilIface]) ∧ DSt A Ks w0 5 1 sa sb 0 0 lb i w' ∧ Blk w' K 215 (tokCells 125 0 noBytes (.slice none 0 0) false 0 0 0 false 0) := by
  have d9 := h.c9
  have HC := Lib.hid (d_send h hK hf hk)
  have e1 := hf.d
  have e2 := hf.lg
  have e3 := hf.sg
  have HF := Lib.hid hf
  clear h hK hf
  go_enter Tryz.func97, Tryz.ntmps97
  go_wp2_with fail
  refine HC.out.mono ?_
  rintro e w1 ⟨rfl, h3, hK3⟩
  have d8 := h3.c8
  have df8 := h3.fd 8
  have df9 := h3.fd 9
  have d9' := h3.c9
  have H3 := Lib.hid h3
  have HK3 := Lib.hid hK3
  clear h3 hK3
  go_wp2_with fail
  go_ret2
  exact ⟨rfl, H3.out, HK3.out⟩

set_option maxRecDepth 100000 in
set_option maxHeartbeats 1000000 in
theorem D_sarr (h : DSt A Ks w0 6 1 sa sb 1 la lb i w) (hK : Blk w K 215 zeroTok) (hf : A.Far K) (hk : K ∈ Ks ∨ w0.heap.size ≤ K) (c v j : Nat) (hb : (A.l[i]?).map (·.toNat) = some c) (hh : HdAt A.l (i + 1) c v j) (hc1 : 128 ≤ c) (hc2 : c < 159) :
    Calls Tryz.prog 97 #[.pointer (some ⟨A.D, 0, none⟩), .pointer (some ⟨K, 0, none⟩)] w fun e w' => e = .returned (.tuple #[.bool false, .nilIface]) ∧ DSt A Ks w0 4 2 sa 5 2 la (v : Int) j w' ∧ Blk w' K 215 (tokCells 91 (v : Int) noBytes (.slice none 0 0) false 0 0 0 false 0) := by
  have d9 := h.c9
  have HC := Lib.hid (d_sarr h hK hf hk c v j hb hh hc1 hc2)
  have e1 := hf.d
  have e2 := hf.lg
  have e3 := hf.sg
  have HF := Lib.hid hf
  clear h hK hf
  go_enter Tryz.func97, Tryz.ntmps97
  go_wp2_with fail
  refine HC.out.mono ?_
  rintro e w1 ⟨rfl, h3, hK3⟩
  have d8 := h3.c8
  have df8 := h3.fd 8
  have df9 := h3.fd 9
  have d9' := h3.c9
  have H3 := Lib.hid h3
  have HK3 := Lib.hid hK3
  clear h3 hK3
  go_wp2_with fail
  go_ret2
  exact ⟨rfl, H3.out, HK3.out⟩

set_option maxRecDepth 100000 in
set_option maxHeartbeats 1000000 in
theorem D_sone (h : DSt A Ks w0 6 1 sa sb 1 la lb i w) (hK : Blk w K 215 zeroTok) (hf : A.Far K) (hk : K ∈ Ks ∨ w0.heap.size ≤ K) (hb : (A.l[i]?).map (·.toNat) = some 1) :
    Calls Tryz.prog 97 #[.pointer (some ⟨A.D, 0, none⟩), .pointer (some ⟨K, 0, none⟩)] w fun e w' => e = .returned (.tuple #[.bool false, .nilIface]) ∧ DSt A Ks w0 5 1 sa sb 1 la lb (i + 1) w' ∧ Blk w' K 215 (tokCells 117 0 noBytes (.slice none 0 0) false 0 1 0 false 0) := by
  have d9 := h.c9
  have HC := Lib.hid (d_sone h hK hf hk hb)
  have e1 := hf.d
  have e2 := hf.lg
  have e3 := hf.sg
  have HF := Lib.hid hf
  clear h hK hf
  go_enter Tryz.func97, Tryz.ntmps97
  go_wp2_with fail
  refine HC.out.mono ?_
  rintro e w1 ⟨rfl, h3, hK3⟩
  have d8 := h3.c8
  have df8 := h3.fd 8
  have df9 := h3.fd 9
  have d9' := h3.c9
  have H3 := Lib.hid h3
  have HK3 := Lib.hid hK3
  clear h3 hK3
  go_wp2_with fail
  go_ret2
  exact ⟨rfl, H3.out, HK3.out⟩

set_option maxRecDepth 100000 in
set_option maxHeartbeats 1000000 in
theorem D_slink (h : DSt A Ks w0 4 2 sa sb 2 la ((r + 1 : Nat) : Int) i w) (hK : Blk w K 215 zeroTok) (hf : A.Far K) (hk : K ∈ Ks ∨ w0.heap.size ≤ K) (hr : r ≤ 100000) (hb0 : (A.l[i]?).map (·.toNat) = some 216) (ht : HdAt A.l (i + 1) 216 42 (i + 1 + 1)) (c v j : Nat) (hb : (A.l[i + 1 + 1]?).map (·.toNat) = some c) (hh : HdAt A.l (i + 1 + 1 + 1) c v j) (hv0 : 0 < v) (hjv : j + v ≤ A.n) (hc1 : 64 ≤ c) (hc2 : c < 95) :
    Calls Tryz.prog 97 #[.pointer (some ⟨A.D, 0, none⟩), .pointer (some ⟨K, 0, none⟩)] w fun e w' => ∃ g cp, e = .returned (.tuple #[.bool false, .nilIface]) ∧ Row0 w g cp ((A.l.drop j).take v) w' ∧ DSt A Ks w0 4 2 sa sb 2 la (r : Int) (j + v) w' ∧ Blk w' K 215 (tokCells 120 0 noBytes (.slice (some ⟨g, 0, none⟩) v cp) false 0 0 0 true 42) := by
  have d9 := h.c9
  have HC := Lib.hid (d_slink h hK hf hk hr hb0 ht c v j hb hh hv0 hjv hc1 hc2)
  have e1 := hf.d
  have e2 := hf.lg
  have e3 := hf.sg
  have HF := Lib.hid hf
  clear h hK hf
  go_enter Tryz.func97, Tryz.ntmps97
  go_wp2_with fail
  refine HC.out.mono ?_
  rintro e w1 ⟨g, cp, rfl, hr1, h3, hK3⟩
  have R3 := Lib.hid hr1
  clear hr1
  have d8 := h3.c8
  have df8 := h3.fd 8
  have df9 := h3.fd 9
  have d9' := h3.c9
  have H3 := Lib.hid h3
  have HK3 := Lib.hid hK3
  clear h3 hK3
  go_wp2_with fail
  go_ret2
  exact ⟨g, cp, rfl, R3.out, H3.out, HK3.out⟩

set_option maxRecDepth 100000 in
set_option maxHeartbeats 1000000 in
theorem D_sclose (h : DSt A Ks w0 4 2 sa sb 2 la 0 i w) (hK : Blk w K 215 zeroTok) (hf : A.Far K) (hk : K ∈ Ks ∨ w0.heap.size ≤ K) :
    Calls Tryz.prog 97 #[.pointer (some ⟨A.D, 0, none⟩), .pointer (some ⟨K, 0, none⟩)] w fun e w' => e = .returned (.tuple #[.bool false, .nilIface]) ∧ DSt A Ks w0 sb 1 sa sb 1 la 0 i w' ∧ Blk w' K 215 (tokCells 93 0 noBytes (.slice none 0 0) false 0 0 0 false 0) := by
  have d9 := h.c9
  have HC := Lib.hid (d_sclose h hK hf hk)
  have e1 := hf.d
  have e2 := hf.lg
  have e3 := hf.sg
  have HF := Lib.hid hf
  clear h hK hf
  go_enter Tryz.func97, Tryz.ntmps97
  go_wp2_with fail
  refine HC.out.mono ?_
  rintro e w1 ⟨rfl, h3, hK3⟩
  have d8 := h3.c8
  have df8 := h3.fd 8
  have df9 := h3.fd 9
  have d9' := h3.c9
  have s1 := h3.s1
  have n1 := h3.nd.a1
  have s1' := (h3.to_ph sb).s1
  have d8' := (h3.to_ph sb).c8
  have df8' := (h3.to_ph sb).fd 8
  have H3 := Lib.hid h3
  have HK3 := Lib.hid hK3
  clear h3 hK3
  go_wp2_with fail
  go_ret2
  exact ⟨rfl, (H3.out.to_ph sb).to_sn 1, (HK3.out.far (p := ⟨A.D, 9, none⟩) HF.out.d _).far (p := ⟨A.D, 8, none⟩) HF.out.d _⟩

end
end Go.Proofs.YtkdbjocchponfaaGreatDoor
namespace Go.Proofs.YtkdbjocchponfaaGreatDoor
open Go.RowKit

set_option maxRecDepth 100000 in
set_option maxHeartbeats 1000000 in
theorem newBr_ok (b n c : Nat) (w : World) :
    Calls Tryz.prog 18 #[.slice (some ⟨b, 0, none⟩) n c] w fun e w' => e = .returned (.pointer (some ⟨w.heap.size, 0, none⟩)) ∧ RdC w' w.heap.size b n c 0 (-1) ∧ Off [] w w' ∧ w'.heap.size = w.heap.size + 1 := by
  go_enter Tryz.func18, Tryz.ntmps18
  go_wp2_with fail
  go_ret
  exact ⟨rfl, Blk.new w _ _, (Off.refl [] w).alloc _, by simp⟩

/-- A struct's literal with no parts: its zero cells. -/
theorem wpList_build0 {P : Program} {w : World} {ops : Array Oper} {rest : List Oper} {o : Oper} {a : Act} {Q : Exit → Act → World → Prop} (hg : o.guard = none) (t : TypeId) (ho : o.op = .build t #[]) (cs : Array Value) (hf : P.built t [] = some cs)
    (h : wpList P ops Q rest (a.put o.dst (.agg cs)) w) : wpList P ops Q (o :: rest) a w :=
  wpList_build hg t #[] ho (by simp [hf]) (by simpa [hf] using h)
theorem zero_all : zeroTok.all (·.oneCell') = true := by kernel_rfl
theorem tok_info : (Tryz.prog.info? 215).map (·.size) = some zeroTok.size := by kernel_rfl
theorem built_tok : Tryz.prog.built 215 [] = some zeroTok := by kernel_rfl

theorem off_zero {w : World} {K : Nat} {cs : Array Value} (h : Blk w K 215 cs) : Off [K] w (w.setRow K zeroTok) := off_setRow h _
theorem blk_zero {w : World} {K : Nat} {cs : Array Value} (h : Blk w K 215 cs) : Blk (w.setRow K zeroTok) K 215 zeroTok := setRow_heap w K _ _ _ _ h

/-- A token's cells, one by one. -/
theorem tok_cells {w : World} {K : Nat} {ty ln : Int} {st : ByteArray} {bs : Value} {bo : Bool} {it ui : Int} {fl : Nat} {tg : Bool} {tn : Int} (h : Blk w K 215 (tokCells ty ln st bs bo it ui fl tg tn)) :
    w.cell? ⟨K, 0, none⟩ = some (.int .u8 ty) ∧ w.cell? ⟨K, 1, none⟩ = some (.int .i64 ln) ∧ w.cell? ⟨K, 2, none⟩ = some (.string st) ∧ w.cell? ⟨K, 3, none⟩ = some bs ∧ w.cell? ⟨K, 4, none⟩ = some (.bool bo) ∧ w.cell? ⟨K, 5, none⟩ = some (.int .i64 it) ∧ w.cell? ⟨K, 6, none⟩ = some (.int .u64 ui) ∧ w.cell? ⟨K, 7, none⟩ = some (.float .f64 fl) ∧ w.cell? ⟨K, 8, none⟩ = some (.bool tg) ∧ w.cell? ⟨K, 9, none⟩ = some (.int .i64 tn) :=
  ⟨h.cell 0, h.cell 1, h.cell 2, h.cell 3, h.cell 4, h.cell 5, h.cell 6, h.cell 7, h.cell 8, h.cell 9⟩
theorem ver_eq (w : World) : (binOp .eql 9 (.string ⟨#[118, 101, 114, 115, 105, 111, 110]⟩) (.string ⟨#[118, 101, 114, 115, 105, 111, 110]⟩)).run Tryz.prog w = .ok (.bool true) w := by kernel_rfl

end Go.Proofs.YtkdbjocchponfaaGreatDoor
namespace Go.Proofs.YtkdbjocchponfaaGreatDoor
open Go.RowKit

/-- A CBOR head of a number below 65536. -/
def hd (major n : Nat) : List UInt8 := if n < 24 then [(32 * major + n).toUInt8] else if n < 256 then [(32 * major + 24).toUInt8, n.toUInt8] else [(32 * major + 25).toUInt8, (n / 256).toUInt8, (n % 256).toUInt8]
theorem hd_len (major n : Nat) : 1 ≤ (hd major n).length ∧ (hd major n).length ≤ 3 := by
  unfold hd
  split
  · simp
  · split <;> simp
def linkB (c : List UInt8) : List UInt8 := hd 6 42 ++ (hd 2 (c.length + 1) ++ (0 :: c))
theorem linkB_len (c : List UInt8) : c.length + 4 ≤ (linkB c).length ∧ (linkB c).length ≤ c.length + 6 := by
  have h := hd_len 2 (c.length + 1)
  have h2 : (hd 6 42).length = 2 := rfl
  unfold linkB
  rw [List.length_append, List.length_append, List.length_cons, h2]
  omega
def rootsS : List UInt8 := [114, 111, 111, 116, 115]
def verS : List UInt8 := [118, 101, 114, 115, 105, 111, 110]
/-- A header's map. -/
def hdrBody (cs : List (List UInt8)) (v : Nat) : List UInt8 := hd 5 2 ++ (hd 3 5 ++ (rootsS ++ (hd 4 cs.length ++ (cs.flatMap linkB ++ (hd 3 7 ++ (verS ++ hd 0 v))))))
def hdrB (cs : List (List UInt8)) (v : Nat) : List UInt8 := Lib.uvarint (hdrBody cs v).length ++ hdrBody cs v
/-- A section: the identifier's bytes and the data. -/
def secB (c d : List UInt8) : List UInt8 := Lib.uvarint (c.length + d.length) ++ (c ++ d)
def car1B (cs : List (List UInt8)) (bs : List (List UInt8 × List UInt8)) : List UInt8 := hdrB cs 1 ++ bs.flatMap fun b => secB b.1 b.2
theorem links_len : ∀ (cs : List (List UInt8)) (m : Nat), (∀ c, c ∈ cs → c.length ≤ m) → (cs.flatMap linkB).length ≤ (m + 6) * cs.length
  | [], _, _ => by simp
  | c :: cs, m, h => by
    have ih := links_len cs m (fun x hx => h x (List.mem_cons_of_mem _ hx))
    have h1 := h c (List.mem_cons_self ..)
    have h2 := (linkB_len c).2
    rw [List.flatMap_cons, List.length_append, List.length_cons, Nat.mul_succ]
    omega
theorem hdrBody_len (cs : List (List UInt8)) (v m : Nat) (h : ∀ c, c ∈ cs → c.length ≤ m) : (hdrBody cs v).length ≤ (m + 6) * cs.length + 23 := by
  have h1 := links_len cs m h
  have h2 := (hd_len 4 cs.length).2
  have h3 := (hd_len 0 v).2
  have e1 : (hd 5 2).length = 1 := rfl
  have e2 : (hd 3 5).length = 1 := rfl
  have e3 : (hd 3 7).length = 1 := rfl
  have e4 : rootsS.length = 5 := rfl
  have e5 : verS.length = 7 := rfl
  unfold hdrBody
  simp only [List.length_append, e1, e2, e3, e4, e5]
  omega
/-- Where the sections begin. -/
def placesOf (at_ : Nat) : List (List UInt8 × List UInt8) → List Nat
  | [] => []
  | b :: bs => at_ :: placesOf (at_ + (secB b.1 b.2).length) bs
theorem placesOf_len : ∀ (a : Nat) (bs : List (List UInt8 × List UInt8)), (placesOf a bs).length = bs.length
  | _, [] => rfl
  | a, b :: bs => by rw [placesOf, List.length_cons, placesOf_len _ bs, List.length_cons]
theorem placesOf_snoc : ∀ (a : Nat) (bs : List (List UInt8 × List UInt8)) (b : List UInt8 × List UInt8), placesOf a (bs ++ [b]) = placesOf a bs ++ [a + (bs.flatMap fun b => secB b.1 b.2).length]
  | a, [], b => by simp [placesOf]
  | a, c :: bs, b => by
    rw [List.cons_append, placesOf, placesOf_snoc _ bs b, placesOf, List.cons_append, List.flatMap_cons, List.length_append, Nat.add_assoc]
end Go.Proofs.YtkdbjocchponfaaGreatDoor
