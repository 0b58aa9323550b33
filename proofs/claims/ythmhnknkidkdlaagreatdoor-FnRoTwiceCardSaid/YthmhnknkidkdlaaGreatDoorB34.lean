/-
  spec.Varint at any number.
  spec.MultihashBytes, spec.CidBytes: an identifier's bytes.
  spec.head: a CBOR head of a number below 256.
  (No condition beyond those that each theorem states.)
-/
import Derived.Test.YthmhnknkidkdlaaGreatDoorB04
import Derived.Lib.Varint
import Derived.Test.YthmhnknkidkdlaaGreatDoorB32
import Derived.Test.YthmhnknkidkdlaaGreatDoorB03
import Derived.Deep.RegionWith
import Derived.Deep.RegionHeld3
import Derived.Test.YthmhnknkidkdlaaGreatDoorB33
namespace Go.Proofs.YthmhnknkidkdlaaGreatDoor
open Go.RowKit

theorem row8_base {w : World} {B : Nat} {v : Value} {l : List UInt8} (h : Row8 w B v l) : ∀ x, x ∈ ob v → B ≤ x := fun x hx => by
  rcases id h.2 with ⟨rfl, _⟩ | ⟨g, cap, cur, rfl, hg, hgg, rest⟩
  · simp [ob, Value.ownBlock] at hx
  · simp [ob, Value.ownBlock] at hx
    omega

/-- One byte more. -/
theorem row8_more {w wr w1 w5 : World} {B m : Nat} {v v5 : Value} {p : List UInt8} {b : UInt8} (h : Row8 wr B v p) (ho : Off [] w wr) (hB : w.heap.size ≤ B) (h1 : Off [] wr w1) (hg : w1.grownBy w5 v.ownBlock) (hm : m = p.length) (hr : w5.ownsRow B 5 1 v5 (m + 1) (Lib.byteCells p ++ [.int .u8 (b.toNat : Int)])) : Row8 w5 B v5 (p ++ [b]) ∧ Off [] w w5 := by
  refine ⟨?_, (ho.then h1 (fun x hx => by simp at hx)).then (off_grown_own (S := ob v) hg (fun g hg => by simp [ob, hg])) (fun x hx => Or.inr (Nat.le_trans hB (row8_base h x hx)))⟩
  unfold Row8
  rw [List.length_append, ← hm, show Lib.byteCells (p ++ [b]) = Lib.byteCells p ++ [.int .u8 (b.toNat : Int)] by simp [Lib.byteCells]]
  exact hr

set_option maxRecDepth 100000 in
set_option maxHeartbeats 2000000 in
theorem varint_any (n : Nat) (hn : n < 18446744073709551616) (w : World) :
    Calls Tryz.prog 23 #[.int .u64 (n : Int)] w fun r w' => ∃ v', r = .returned v' ∧ Row8 w' w.heap.size v' (Lib.uvarint n) ∧ Off [] w w' := by
  obtain ⟨i0, hi, hz0, hz1, hz2⟩ := info_parts Tryz.infoByte
  go_enter Tryz.func23, Tryz.ntmps23
  go_wp2_with fail
  go_loopg [0, 3] 9 (fun kx s0 s3 wr => ∃ (m : Nat) (p : List UInt8), s0 = .int .u64 (m : Int) ∧ Hid (m < 128 ^ (kx + 1) ∧ p.length + kx ≤ 9) ∧ m < 18446744073709551616 ∧ Hid (Lib.uvarint n = p ++ Lib.uvarint m) ∧ Hid (Row8 wr w.heap.size s3 p) ∧ Hid (Off [] w wr))
  case atStart => exact ⟨n, [], rfl, Lib.hid ⟨Nat.lt_of_lt_of_le hn (by decide), by simp⟩, hn, Lib.hid rfl, Lib.hid (World.ownsRow_nil _ _ _ _), Lib.hid (Off.refl _ _)⟩
  case round =>
    rename World => wr
    obtain ⟨m, p, rfl, HK, hm64, HU, HR, HO⟩ := hrel
    obtain ⟨q, hq⟩ : ∃ q, q = p.length := ⟨_, rfl⟩
    have HQ := Lib.hid hq
    have hq9 : q ≤ 9 := by have := HK.out.2; omega
    have HOWN : Hid (∀ W, Off [] wr W → W.ownsRow w.heap.size 5 1 u3 q (Lib.byteCells p)) := Lib.hid (fun W hW => by rw [hq]; exact HR.out.off hW (fun x _ => by simp))
    have HBZ : Hid (∀ W, Off [] wr W → w.heap.size ≤ W.heap.size) := Lib.hid (fun W hW => Nat.le_trans HO.out.size hW.size)
    clear hq
    by_cases hb : 128 ≤ m
    · have hor : bits BinOp.or IntKind.u8 ((m : Int) % 256) 128 = (m : Int) % 128 + 128 := by
        rw [Lib.u8_or128_any _ (by omega) (by omega)]
        omega
      have hge : ((m : Int) ≥ 128) := by omega
      have hge2 : ((128 : Int) ≤ (m : Int)) := by omega
      go_wp2_with (first
        | (at_builtin
           refine wpList_append_own_at _ rfl _ _ 47 rfl w.heap.size 5 i0 _ 1 1 Tryz.underlying47 hi hz0 hz1 hz2 rfl (by decide) u3 q (Lib.byteCells p) rfl (HOWN.out _ ((Off.refl [] wr).alloc _)) ⟨wr.heap.size, 0, none⟩ 1 1 [.int .u8 ((m : Int) % 128 + 128)] rfl rfl (new_one wr _ _) (fun u hu => by simp at hu; subst hu; rfl) (by unfold maxLen; omega) (by omega) (HBZ.out _ ((Off.refl [] wr).alloc _)) ?_
           intro v5 w5 hown5 hgr hnil hat
           have HO5 := Lib.hid hown5
           have HG5 := Lib.hid hgr
           clear hown5 hgr hnil hat))
      have hk1 : 1 ≤ gk := by
        rcases Nat.eq_zero_or_pos gk with h0 | h0
        · have h := HK.out.1
          rw [h0] at h
          simp at h
          omega
        · exact h0
      go_roundg (gk - 1)
      case measure => omega
      case rel =>
        have hbyte : ((((m % 128 + 128).toUInt8).toNat : Nat) : Int) = (m : Int) % 128 + 128 := by rw [Nat.toUInt8_eq, UInt8.toNat_ofNat']; omega
        have h := row8_more (b := (m % 128 + 128).toUInt8) HR.out HO.out (Nat.le_refl _) ((Off.refl [] wr).alloc (.cells #[.int .u8 ((m : Int) % 128 + 128)] 5)) HG5.out HQ.out (by rw [hbyte]; exact HO5.out)
        refine ⟨m / 128, p ++ [(m % 128 + 128).toUInt8], by rw [show ((m / 128 : Nat) : Int) = (m : Int) / 128 by omega], Lib.hid ⟨?_, ?_⟩, by omega, Lib.hid ?_, Lib.hid h.1, Lib.hid h.2⟩
        · rw [Nat.div_lt_iff_lt_mul (by decide), show gk - 1 + 1 = gk by omega, ← Nat.pow_succ]
          exact HK.out.1
        · have := HK.out.2
          rw [List.length_append]
          simp only [List.length_cons, List.length_nil]
          omega
        · rw [HU.out, Lib.uvarint_big hb, List.append_assoc]; rfl
    · have hge : ¬ ((m : Int) ≥ 128) := by omega
      have hge2 : ¬ ((128 : Int) ≤ (m : Int)) := by omega
      have hmod : (m : Int) % 256 = (m : Int) := by omega
      go_wp2_with (first
        | (at_builtin
           refine wpList_append_own_at _ rfl _ _ 47 rfl w.heap.size 5 i0 _ 1 1 Tryz.underlying47 hi hz0 hz1 hz2 rfl (by decide) u3 q (Lib.byteCells p) rfl (HOWN.out _ ((Off.refl [] wr).alloc _)) ⟨wr.heap.size, 0, none⟩ 1 1 [.int .u8 (m : Int)] rfl rfl (new_one wr _ _) (fun u hu => by simp at hu; subst hu; rfl) (by unfold maxLen; omega) (by omega) (HBZ.out _ ((Off.refl [] wr).alloc _)) ?_
           intro v5 w5 hown5 hgr hnil hat
           have HO5 := Lib.hid hown5
           have HG5 := Lib.hid hgr
           clear hown5 hgr hnil hat))
      go_ret
      have hbyte : ((m.toUInt8.toNat : Nat) : Int) = (m : Int) := by rw [Nat.toUInt8_eq, UInt8.toNat_ofNat']; omega
      have h := row8_more (b := m.toUInt8) HR.out HO.out (Nat.le_refl _) ((Off.refl [] wr).alloc (.cells #[.int .u8 (m : Int)] 5)) HG5.out HQ.out (by rw [hbyte]; exact HO5.out)
      exact ⟨v5, rfl, by rw [HU.out, Lib.uvarint_small (by omega)]; exact h.1, h.2⟩
end Go.Proofs.YthmhnknkidkdlaaGreatDoor
namespace Go.Proofs.YthmhnknkidkdlaaGreatDoor
open Go.RowKit

theorem str_app' (a b : List UInt8) : str a ++ str b = str (a ++ b) := by
  apply ByteArray.ext
  simp [str]
theorem str_self (s : ByteArray) : str s.data.toList = s := by
  apply ByteArray.ext
  simp

set_option maxRecDepth 100000 in
set_option maxHeartbeats 2000000 in
theorem mhBytes_any (code : Nat) (dg : ByteArray) (w : World) (hc : code < 18446744073709551616) (hd : dg.size ≤ 2147483647) :
    Calls Tryz.prog 48 #[.int .u64 (code : Int), .string dg] w fun r w' => r = .returned (.string (str (mhB code dg.data.toList))) ∧ Off [] w w' := by
  have hu1 := Lib.uvarint_pos code
  have hu2 := Lib.uvarint_pos dg.size
  have hl1 := Lib.uvarint_length64 hc
  have hl2 := Lib.uvarint_length64 (x := dg.size) (by omega)
  have HV1 := Lib.hid (varint_any code hc)
  have HV2 := Lib.hid (varint_any dg.size (by omega))
  obtain ⟨su, hsu⟩ : ∃ su, su = str (Lib.uvarint code) := ⟨_, rfl⟩
  obtain ⟨sv, hsv⟩ : ∃ sv, sv = str (Lib.uvarint dg.size) := ⟨_, rfl⟩
  have hz1 : su.size = (Lib.uvarint code).length := by rw [hsu]; rfl
  have hz2 : sv.size = (Lib.uvarint dg.size).length := by rw [hsv]; rfl
  have hb1 : ¬ ((9223372036854775807 : Int) < (su.size : Int) + (sv.size : Int)) := by omega
  have hb2 : ¬ ((9223372036854775807 : Int) < (su.size : Int) + (sv.size : Int) + (dg.size : Int)) := by omega
  have hw : IntKind.u64.wrap (dg.size : Int) = (dg.size : Int) := by rw [IntKind.wrap_u64]; omega
  have HSU := Lib.hid hsu
  have HSV := Lib.hid hsv
  have D0 : Hid (Off [] w w.drew) := Lib.hid (Off.refl [] w).drew
  clear hc hd hl1 hl2 hz1 hz2 hsu hsv
  go_enter Tryz.func48, Tryz.ntmps48
  go_wp2_with fail
  go_region_with (first
    | (go_at_call_of 23 (Value.int .u64 (code : Int))
       refine (HV1.out _).mono ?_
       rintro r w1 ⟨v1, rfl, hr1, ho1⟩
       have hcv : (convert 47 9 v1).run Tryz.prog w1 = .ok (.string su) w1 := by rw [HSU.out]; exact row8_conv hr1 hu1
       have hcv2 : (convert 47 9 v1).run Tryz.prog w1.drew = .ok (.string su) w1.drew := by rw [HSU.out]; exact row8_conv (hr1.off (Off.refl [] w1).drew (fun x _ => by simp)) hu1
       have HR1 := Lib.hid hr1
       have P0 : Hid (Off [] w w1) := Lib.hid (D0.out.then ho1 (fun x hx => by simp at hx))
       clear hr1 ho1)
    | (go_at_call 23
       refine (HV2.out _).mono ?_
       rintro r w2 ⟨v2, rfl, hr2, ho2⟩
       have ho3 : Off [] w1 w2 := by first | exact ho2 | exact (Off.refl [] w1).drew.then ho2 (fun x hx => by simp at hx)
       have hr1 := HR1.out.off ho3 (fun x _ => by simp)
       have hcv3 : (convert 47 9 v1).run Tryz.prog w2 = .ok (.string su) w2 := by rw [HSU.out]; exact row8_conv hr1 hu1
       have hcv4 : (convert 47 9 v1).run Tryz.prog w2.drew = .ok (.string su) w2.drew := by rw [HSU.out]; exact row8_conv (hr1.off (Off.refl [] w2).drew (fun x _ => by simp)) hu1
       have hcv5 : (convert 47 9 v2).run Tryz.prog w2 = .ok (.string sv) w2 := by rw [HSV.out]; exact row8_conv hr2 hu2
       have hcv6 : (convert 47 9 v2).run Tryz.prog w2.drew = .ok (.string sv) w2.drew := by rw [HSV.out]; exact row8_conv (hr2.off (Off.refl [] w2).drew (fun x _ => by simp)) hu2
       have P1 : Hid (Off [] w w2) := Lib.hid (P0.out.then ho3 (fun x hx => by simp at hx))
       clear hr1 hr2 ho2 ho3))
  all_goals go_wp2_with fail
  all_goals go_ret
  all_goals refine ⟨?_, by first | exact P1.out | exact P1.out.drew⟩
  all_goals
    have e : str (mhB code dg.data.toList) = su ++ sv ++ dg := by
      have h : dg.data.toList.length = dg.size := by simp
      rw [mhB, h, HSU.out, HSV.out, str_app', ← str_self dg, str_app', List.append_assoc]
    first | (rw [e]; done) | (rw [e]; rfl)

/-- An identifier's bytes. -/
def cidB (e : Ent) : List UInt8 := if e.ver = 0 then mhB e.code e.dg.data.toList else cid1 e.codec (mhB e.code e.dg.data.toList)
theorem cidB_is {e : Ent} (h : e.ok) : IsCid (cidB e) e.code e.dg.data.toList := by
  have hs := h.small
  unfold cidB
  rcases h.ver with ⟨h1, h2, h3, h4⟩ | ⟨h1, h2, h3⟩
  · rw [if_pos h1]
    exact ⟨by omega, by omega, Or.inl ⟨rfl, h3, h4⟩⟩
  · rw [if_neg (by omega)]
    exact ⟨h3, by omega, Or.inr ⟨e.codec, h2, rfl⟩⟩

set_option maxRecDepth 100000 in
set_option maxHeartbeats 1500000 in
theorem cidBytes_any (e : Ent) (w : World) (h : e.ok) :
    Calls Tryz.prog 24 #[.agg #[.int .u64 (e.ver : Int), .int .u64 (e.codec : Int), .int .u64 (e.code : Int), .string e.dg]] w fun r w' => r = .returned (.string (str (cidB e))) ∧ Off [] w w' := by
  obtain ⟨ver, codec, code, dg, off⟩ := e
  have hs : dg.size ≤ 1000 := by have := h.small; simp at this; exact this
  rcases h.ver with ⟨h1, h2, h3, h4⟩ | ⟨h1, h2, h3⟩
  · have h1 : ver = 0 := h1
    have h2 : codec = 112 := h2
    have h3 : code = 18 := h3
    subst h1 h2 h3
    have HM := Lib.hid (fun W => mhBytes_any 18 dg W (by omega) (by omega))
    have hA := (Off.refl [] w).alloc (.cells #[.int .u64 0, .int .u64 112, .int .u64 18, .string dg] 41)
    have HA := Lib.hid hA
    show Calls _ _ #[.agg #[.int .u64 0, .int .u64 112, .int .u64 18, .string dg]] w _
    clear h hs h4 hA
    go_enter Tryz.func24, Tryz.ntmps24
    go_wp2_with fail
    refine (HM.out _).mono ?_
    rintro r w1 ⟨rfl, ho1⟩
    have HO1 := Lib.hid ho1
    clear ho1
    go_wp2_with fail
    go_ret
    exact ⟨by (have e1 : cidB ⟨0, 112, 18, dg, off⟩ = mhB 18 dg.data.toList := by rw [cidB, if_pos rfl]); rw [e1]; rfl, HA.out.then HO1.out (fun x hx => by simp at hx)⟩
  · have h1 : ver = 1 := h1
    have h2 : codec < 9223372036854775808 := h2
    have h3 : code < 9223372036854775808 := h3
    subst h1
    have hu1 := Lib.uvarint_pos 1
    have hu2 := Lib.uvarint_pos codec
    have hl2 := Lib.uvarint_length64 (x := codec) (by omega)
    have hl3 := Lib.uvarint_length64 (x := code) (by omega)
    have hl4 := Lib.uvarint_length64 (x := dg.size) (by omega)
    have HV1 := Lib.hid (varint_any 1 (by omega))
    have HV2 := Lib.hid (varint_any codec (by omega))
    have HM := Lib.hid (fun W => mhBytes_any code dg W (by omega) (by omega))
    obtain ⟨su, hsu⟩ : ∃ su, su = str (Lib.uvarint 1) := ⟨_, rfl⟩
    obtain ⟨sv, hsv⟩ : ∃ sv, sv = str (Lib.uvarint codec) := ⟨_, rfl⟩
    obtain ⟨sm, hsm⟩ : ∃ sm, sm = str (mhB code dg.data.toList) := ⟨_, rfl⟩
    rw [← hsm] at HM
    have hz1 : su.size = (Lib.uvarint 1).length := by rw [hsu]; rfl
    have hz1' : (Lib.uvarint 1).length = 1 := by rw [Lib.uvarint_small (by omega)]; rfl
    have hz2 : sv.size = (Lib.uvarint codec).length := by rw [hsv]; rfl
    have hz3 : sm.size = (mhB code dg.data.toList).length := by rw [hsm]; rfl
    rw [mhB_length] at hz3
    have hdl : dg.data.toList.length = dg.size := by simp
    rw [hdl] at hz3
    have hb1 : ¬ ((9223372036854775807 : Int) < (su.size : Int) + (sv.size : Int)) := by omega
    have hb2 : ¬ ((9223372036854775807 : Int) < (su.size : Int) + (sv.size : Int) + (sm.size : Int)) := by omega
    have HSU := Lib.hid hsu
    have HSV := Lib.hid hsv
    have HSM := Lib.hid hsm
    have hB := Blk.new w 41 #[.int .u64 1, .int .u64 codec, .int .u64 code, .string dg]
    have hA := (Off.refl [] w).alloc (.cells #[.int .u64 1, .int .u64 codec, .int .u64 code, .string dg] 41)
    have HB := Lib.hid hB
    have HA := Lib.hid hA
    show Calls _ _ #[.agg #[.int .u64 1, .int .u64 codec, .int .u64 code, .string dg]] w _
    clear h hs h2 h3 hl2 hl3 hl4 hz1 hz1' hz2 hz3 hsu hsv hsm hA hB hdl
    go_enter Tryz.func24, Tryz.ntmps24
    go_wp2_with fail
    go_region_held (fun W => W.cell? ⟨w.heap.size, 1, none⟩ = some (.int .u64 (codec : Int)) ∧ W.cell? ⟨w.heap.size, 2, none⟩ = some (.int .u64 (code : Int)) ∧ W.cell? ⟨w.heap.size, 3, none⟩ = some (.string dg)) (first | (exact ⟨HB.out.cell 1, HB.out.cell 2, HB.out.cell 3⟩) | (exact ⟨c11, c12, c13⟩) | (exact ⟨c21, c22, c23⟩) | (exact ⟨c31, c32, c33⟩)) (first
      | (go_at_call_of 23 (Value.int .u64 1)
         refine (HV1.out _).mono ?_
         rintro r w1 ⟨v1, rfl, hr1, ho1⟩
         have hq1 : Off [] w w1 := by first | exact HA.out.then ho1 (fun x hx => by simp at hx) | exact HA.out.drew.then ho1 (fun x hx => by simp at hx)
         have hbk : Blk w1 w.heap.size 41 #[.int .u64 1, .int .u64 codec, .int .u64 code, .string dg] := ho1.blk HB.out (by simp)
         have hcv : (convert 47 9 v1).run Tryz.prog w1 = .ok (.string su) w1 := by rw [HSU.out]; exact row8_conv hr1 hu1
         have hcv2 : (convert 47 9 v1).run Tryz.prog w1.drew = .ok (.string su) w1.drew := by rw [HSU.out]; exact row8_conv (hr1.off (Off.refl [] w1).drew (fun x _ => by simp)) hu1
         have HR1 := Lib.hid hr1
         have B1 := Lib.hid hbk
         have c11 : w1.cell? ⟨w.heap.size, 1, none⟩ = some (.int .u64 (codec : Int)) := hbk.cell 1
         have c12 : w1.cell? ⟨w.heap.size, 2, none⟩ = some (.int .u64 (code : Int)) := hbk.cell 2
         have c13 : w1.cell? ⟨w.heap.size, 3, none⟩ = some (.string dg) := hbk.cell 3
         have P1 := Lib.hid hq1
         clear hr1 ho1 hbk hq1)
      | (go_at_call 23
         refine (HV2.out _).mono ?_
         rintro r w2 ⟨v2, rfl, hr2, ho2⟩
         have ho3 : Off [] w1 w2 := by first | exact ho2 | exact (Off.refl [] w1).drew.then ho2 (fun x hx => by simp at hx)
         have hr1 := HR1.out.off ho3 (fun x _ => by simp)
         have hcv3 : (convert 47 9 v1).run Tryz.prog w2 = .ok (.string su) w2 := by rw [HSU.out]; exact row8_conv hr1 hu1
         have hcv4 : (convert 47 9 v1).run Tryz.prog w2.drew = .ok (.string su) w2.drew := by rw [HSU.out]; exact row8_conv (hr1.off (Off.refl [] w2).drew (fun x _ => by simp)) hu1
         have hcv5 : (convert 47 9 v2).run Tryz.prog w2 = .ok (.string sv) w2 := by rw [HSV.out]; exact row8_conv hr2 hu2
         have hcv6 : (convert 47 9 v2).run Tryz.prog w2.drew = .ok (.string sv) w2.drew := by rw [HSV.out]; exact row8_conv (hr2.off (Off.refl [] w2).drew (fun x _ => by simp)) hu2
         have hbk2 := ho3.blk B1.out (by simp)
         have c22 : w2.cell? ⟨w.heap.size, 2, none⟩ = some (.int .u64 (code : Int)) := hbk2.cell 2
         have c23 : w2.cell? ⟨w.heap.size, 3, none⟩ = some (.string dg) := hbk2.cell 3
         have c21 : w2.cell? ⟨w.heap.size, 1, none⟩ = some (.int .u64 (codec : Int)) := hbk2.cell 1
         have B2 := Lib.hid hbk2
         clear hbk2
         have HR1b := Lib.hid hr1
         have HR2 := Lib.hid hr2
         have P2 : Hid (Off [] w w2) := Lib.hid (P1.out.then ho3 (fun x hx => by simp at hx))
         clear hr1 hr2 ho2 ho3)
      | (go_at_call 48
         refine (HM.out _).mono ?_
         rintro r w3 ⟨rfl, ho4⟩
         have ho5 : Off [] w2 w3 := by first | exact ho4 | exact (Off.refl [] w2).drew.then ho4 (fun x hx => by simp at hx)
         have hr1 := HR1b.out.off ho5 (fun x _ => by simp)
         have hr2 := HR2.out.off ho5 (fun x _ => by simp)
         have hcv7 : (convert 47 9 v1).run Tryz.prog w3 = .ok (.string su) w3 := by rw [HSU.out]; exact row8_conv hr1 hu1
         have hcv8 : (convert 47 9 v1).run Tryz.prog w3.drew = .ok (.string su) w3.drew := by rw [HSU.out]; exact row8_conv (hr1.off (Off.refl [] w3).drew (fun x _ => by simp)) hu1
         have hcv9 : (convert 47 9 v2).run Tryz.prog w3 = .ok (.string sv) w3 := by rw [HSV.out]; exact row8_conv hr2 hu2
         have hcva : (convert 47 9 v2).run Tryz.prog w3.drew = .ok (.string sv) w3.drew := by rw [HSV.out]; exact row8_conv (hr2.off (Off.refl [] w3).drew (fun x _ => by simp)) hu2
         have hbk3 := ho5.blk B2.out (by simp)
         have c31 : w3.cell? ⟨w.heap.size, 1, none⟩ = some (.int .u64 (codec : Int)) := hbk3.cell 1
         have c32 : w3.cell? ⟨w.heap.size, 2, none⟩ = some (.int .u64 (code : Int)) := hbk3.cell 2
         have c33 : w3.cell? ⟨w.heap.size, 3, none⟩ = some (.string dg) := hbk3.cell 3
         clear hbk3
         have P3 : Hid (Off [] w w3) := Lib.hid (P2.out.then ho5 (fun x hx => by simp at hx))
         clear hr1 hr2 ho4 ho5))
    all_goals go_wp2_with fail
    all_goals go_ret
    all_goals refine ⟨?_, by first | exact P3.out | exact P3.out.drew⟩
    all_goals
      have e : str (cidB ⟨1, codec, code, dg, off⟩) = su ++ sv ++ sm := by
        rw [cidB, if_neg (by simp), cid1_eq, HSU.out, HSV.out, HSM.out, str_app', str_app', List.append_assoc]
      first | (rw [e]; done) | (rw [e]; rfl)
end Go.Proofs.YthmhnknkidkdlaaGreatDoor
namespace Go.Proofs.YthmhnknkidkdlaaGreatDoor
open Go.RowKit

theorem seg_one (w : World) (u : Nat) (hu : u < 256) : Seg (w.alloc (.cells #[.int .u8 (u : Int)] 5)) w.heap.size 0 [u.toUInt8] := by
  have h := Blk.seg' (l := [u.toUInt8]) (w := w.alloc (.cells #[.int .u8 (u : Int)] 5)) (g := w.heap.size) (t := 5) (by
    have := Blk.new w 5 #[.int .u8 (u : Int)]
    simpa [Lib.byteCells, Nat.mod_eq_of_lt hu] using this)
  exact h
theorem seg_two (w : World) (u v : Nat) (hu : u < 256) (hv : v < 256) : Seg (w.alloc (.cells #[.int .u8 (u : Int), .int .u8 (v : Int)] 5)) w.heap.size 0 [u.toUInt8, v.toUInt8] := by
  have h := Blk.seg' (l := [u.toUInt8, v.toUInt8]) (w := w.alloc (.cells #[.int .u8 (u : Int), .int .u8 (v : Int)] 5)) (g := w.heap.size) (t := 5) (by
    have := Blk.new w 5 #[.int .u8 (u : Int), .int .u8 (v : Int)]
    simpa [Lib.byteCells, Nat.mod_eq_of_lt hu, Nat.mod_eq_of_lt hv] using this)
  exact h

theorem or_h0 : ∀ k : Fin 24, bits .or .u8 (0 : Int) (k.val : Int) = ((0 + k.val : Nat) : Int) := by decide +kernel
set_option maxRecDepth 100000 in
set_option maxHeartbeats 2000000 in
theorem head_0 (n : Nat) (w : World) (hn : n < 256) :
    Calls Tryz.prog 21 #[.int .u8 0, .int .u64 (n : Int)] w fun r w' => r = .returned (.string (str (hd 0 n))) ∧ Off [] w w' := by
  have hmod : (n : Int) % 256 = (n : Int) := by omega
  by_cases h24 : n < 24
  · have q1 : (n : Int) < 24 := by omega
    obtain ⟨x, hx⟩ : ∃ x : Nat, x = 0 + n := ⟨_, rfl⟩
    have hor : bits .or .u8 (0 : Int) (n : Int) = (x : Int) := by rw [hx]; exact or_h0 ⟨n, h24⟩
    have hcv := run_convert_seg (P := Tryz.prog) (src := 47) (e := 5) (dst := 9) Tryz.underlying47 Tryz.underlying5 Tryz.underlying9 1 (seg_one w x (by omega))
    simp only [List.length_cons, List.length_nil, Nat.zero_add] at hcv
    have he : hd 0 n = [x.toUInt8] := by rw [hd, if_pos h24, hx]
    have HO := Lib.hid ((Off.refl [] w).alloc (.cells #[.int .u8 (x : Int)] 5))
    rw [he]
    clear hn h24 hx he
    go_enter Tryz.func21, Tryz.ntmps21
    go_wp2_with fail
    go_ret
    exact ⟨rfl, HO.out⟩
  · have q1 : ¬ ((n : Int) < 24) := by omega
    have q2 : (n : Int) < 256 := by omega
    have hcv := run_convert_seg (P := Tryz.prog) (src := 47) (e := 5) (dst := 9) Tryz.underlying47 Tryz.underlying5 Tryz.underlying9 2 (seg_two w 24 n (by omega) hn)
    have e24 : ((24 : Nat) : Int) = (24 : Int) := rfl
    rw [e24] at hcv
    simp only [List.length_cons, List.length_nil, Nat.zero_add] at hcv
    have hor : bits .or .u8 (0 : Int) 24 = (24 : Int) := by decide +kernel
    have he : hd 0 n = [(24 : Nat).toUInt8, n.toUInt8] := by rw [hd, if_neg h24, if_pos hn]
    have HO := Lib.hid ((Off.refl [] w).alloc (.cells #[.int .u8 24, .int .u8 (n : Int)] 5))
    rw [he]
    clear hn h24 he
    go_enter Tryz.func21, Tryz.ntmps21
    go_wp2_with fail
    go_ret
    exact ⟨rfl, HO.out⟩

theorem or_h2 : ∀ k : Fin 24, bits .or .u8 (64 : Int) (k.val : Int) = ((64 + k.val : Nat) : Int) := by decide +kernel
set_option maxRecDepth 100000 in
set_option maxHeartbeats 2000000 in
theorem head_2 (n : Nat) (w : World) (hn : n < 256) :
    Calls Tryz.prog 21 #[.int .u8 2, .int .u64 (n : Int)] w fun r w' => r = .returned (.string (str (hd 2 n))) ∧ Off [] w w' := by
  have hmod : (n : Int) % 256 = (n : Int) := by omega
  by_cases h24 : n < 24
  · have q1 : (n : Int) < 24 := by omega
    obtain ⟨x, hx⟩ : ∃ x : Nat, x = 64 + n := ⟨_, rfl⟩
    have hor : bits .or .u8 (64 : Int) (n : Int) = (x : Int) := by rw [hx]; exact or_h2 ⟨n, h24⟩
    have hcv := run_convert_seg (P := Tryz.prog) (src := 47) (e := 5) (dst := 9) Tryz.underlying47 Tryz.underlying5 Tryz.underlying9 1 (seg_one w x (by omega))
    simp only [List.length_cons, List.length_nil, Nat.zero_add] at hcv
    have he : hd 2 n = [x.toUInt8] := by rw [hd, if_pos h24, hx]
    have HO := Lib.hid ((Off.refl [] w).alloc (.cells #[.int .u8 (x : Int)] 5))
    rw [he]
    clear hn h24 hx he
    go_enter Tryz.func21, Tryz.ntmps21
    go_wp2_with fail
    go_ret
    exact ⟨rfl, HO.out⟩
  · have q1 : ¬ ((n : Int) < 24) := by omega
    have q2 : (n : Int) < 256 := by omega
    have hcv := run_convert_seg (P := Tryz.prog) (src := 47) (e := 5) (dst := 9) Tryz.underlying47 Tryz.underlying5 Tryz.underlying9 2 (seg_two w 88 n (by omega) hn)
    have e24 : ((88 : Nat) : Int) = (88 : Int) := rfl
    rw [e24] at hcv
    simp only [List.length_cons, List.length_nil, Nat.zero_add] at hcv
    have hor : bits .or .u8 (64 : Int) 24 = (88 : Int) := by decide +kernel
    have he : hd 2 n = [(88 : Nat).toUInt8, n.toUInt8] := by rw [hd, if_neg h24, if_pos hn]
    have HO := Lib.hid ((Off.refl [] w).alloc (.cells #[.int .u8 88, .int .u8 (n : Int)] 5))
    rw [he]
    clear hn h24 he
    go_enter Tryz.func21, Tryz.ntmps21
    go_wp2_with fail
    go_ret
    exact ⟨rfl, HO.out⟩

theorem or_h3 : ∀ k : Fin 24, bits .or .u8 (96 : Int) (k.val : Int) = ((96 + k.val : Nat) : Int) := by decide +kernel
set_option maxRecDepth 100000 in
set_option maxHeartbeats 2000000 in
theorem head_3 (n : Nat) (w : World) (hn : n < 256) :
    Calls Tryz.prog 21 #[.int .u8 3, .int .u64 (n : Int)] w fun r w' => r = .returned (.string (str (hd 3 n))) ∧ Off [] w w' := by
  have hmod : (n : Int) % 256 = (n : Int) := by omega
  by_cases h24 : n < 24
  · have q1 : (n : Int) < 24 := by omega
    obtain ⟨x, hx⟩ : ∃ x : Nat, x = 96 + n := ⟨_, rfl⟩
    have hor : bits .or .u8 (96 : Int) (n : Int) = (x : Int) := by rw [hx]; exact or_h3 ⟨n, h24⟩
    have hcv := run_convert_seg (P := Tryz.prog) (src := 47) (e := 5) (dst := 9) Tryz.underlying47 Tryz.underlying5 Tryz.underlying9 1 (seg_one w x (by omega))
    simp only [List.length_cons, List.length_nil, Nat.zero_add] at hcv
    have he : hd 3 n = [x.toUInt8] := by rw [hd, if_pos h24, hx]
    have HO := Lib.hid ((Off.refl [] w).alloc (.cells #[.int .u8 (x : Int)] 5))
    rw [he]
    clear hn h24 hx he
    go_enter Tryz.func21, Tryz.ntmps21
    go_wp2_with fail
    go_ret
    exact ⟨rfl, HO.out⟩
  · have q1 : ¬ ((n : Int) < 24) := by omega
    have q2 : (n : Int) < 256 := by omega
    have hcv := run_convert_seg (P := Tryz.prog) (src := 47) (e := 5) (dst := 9) Tryz.underlying47 Tryz.underlying5 Tryz.underlying9 2 (seg_two w 120 n (by omega) hn)
    have e24 : ((120 : Nat) : Int) = (120 : Int) := rfl
    rw [e24] at hcv
    simp only [List.length_cons, List.length_nil, Nat.zero_add] at hcv
    have hor : bits .or .u8 (96 : Int) 24 = (120 : Int) := by decide +kernel
    have he : hd 3 n = [(120 : Nat).toUInt8, n.toUInt8] := by rw [hd, if_neg h24, if_pos hn]
    have HO := Lib.hid ((Off.refl [] w).alloc (.cells #[.int .u8 120, .int .u8 (n : Int)] 5))
    rw [he]
    clear hn h24 he
    go_enter Tryz.func21, Tryz.ntmps21
    go_wp2_with fail
    go_ret
    exact ⟨rfl, HO.out⟩

theorem or_h4 : ∀ k : Fin 24, bits .or .u8 (128 : Int) (k.val : Int) = ((128 + k.val : Nat) : Int) := by decide +kernel
set_option maxRecDepth 100000 in
set_option maxHeartbeats 2000000 in
theorem head_4 (n : Nat) (w : World) (hn : n < 256) :
    Calls Tryz.prog 21 #[.int .u8 4, .int .u64 (n : Int)] w fun r w' => r = .returned (.string (str (hd 4 n))) ∧ Off [] w w' := by
  have hmod : (n : Int) % 256 = (n : Int) := by omega
  by_cases h24 : n < 24
  · have q1 : (n : Int) < 24 := by omega
    obtain ⟨x, hx⟩ : ∃ x : Nat, x = 128 + n := ⟨_, rfl⟩
    have hor : bits .or .u8 (128 : Int) (n : Int) = (x : Int) := by rw [hx]; exact or_h4 ⟨n, h24⟩
    have hcv := run_convert_seg (P := Tryz.prog) (src := 47) (e := 5) (dst := 9) Tryz.underlying47 Tryz.underlying5 Tryz.underlying9 1 (seg_one w x (by omega))
    simp only [List.length_cons, List.length_nil, Nat.zero_add] at hcv
    have he : hd 4 n = [x.toUInt8] := by rw [hd, if_pos h24, hx]
    have HO := Lib.hid ((Off.refl [] w).alloc (.cells #[.int .u8 (x : Int)] 5))
    rw [he]
    clear hn h24 hx he
    go_enter Tryz.func21, Tryz.ntmps21
    go_wp2_with fail
    go_ret
    exact ⟨rfl, HO.out⟩
  · have q1 : ¬ ((n : Int) < 24) := by omega
    have q2 : (n : Int) < 256 := by omega
    have hcv := run_convert_seg (P := Tryz.prog) (src := 47) (e := 5) (dst := 9) Tryz.underlying47 Tryz.underlying5 Tryz.underlying9 2 (seg_two w 152 n (by omega) hn)
    have e24 : ((152 : Nat) : Int) = (152 : Int) := rfl
    rw [e24] at hcv
    simp only [List.length_cons, List.length_nil, Nat.zero_add] at hcv
    have hor : bits .or .u8 (128 : Int) 24 = (152 : Int) := by decide +kernel
    have he : hd 4 n = [(152 : Nat).toUInt8, n.toUInt8] := by rw [hd, if_neg h24, if_pos hn]
    have HO := Lib.hid ((Off.refl [] w).alloc (.cells #[.int .u8 152, .int .u8 (n : Int)] 5))
    rw [he]
    clear hn h24 he
    go_enter Tryz.func21, Tryz.ntmps21
    go_wp2_with fail
    go_ret
    exact ⟨rfl, HO.out⟩

theorem or_h5 : ∀ k : Fin 24, bits .or .u8 (160 : Int) (k.val : Int) = ((160 + k.val : Nat) : Int) := by decide +kernel
set_option maxRecDepth 100000 in
set_option maxHeartbeats 2000000 in
theorem head_5 (n : Nat) (w : World) (hn : n < 256) :
    Calls Tryz.prog 21 #[.int .u8 5, .int .u64 (n : Int)] w fun r w' => r = .returned (.string (str (hd 5 n))) ∧ Off [] w w' := by
  have hmod : (n : Int) % 256 = (n : Int) := by omega
  by_cases h24 : n < 24
  · have q1 : (n : Int) < 24 := by omega
    obtain ⟨x, hx⟩ : ∃ x : Nat, x = 160 + n := ⟨_, rfl⟩
    have hor : bits .or .u8 (160 : Int) (n : Int) = (x : Int) := by rw [hx]; exact or_h5 ⟨n, h24⟩
    have hcv := run_convert_seg (P := Tryz.prog) (src := 47) (e := 5) (dst := 9) Tryz.underlying47 Tryz.underlying5 Tryz.underlying9 1 (seg_one w x (by omega))
    simp only [List.length_cons, List.length_nil, Nat.zero_add] at hcv
    have he : hd 5 n = [x.toUInt8] := by rw [hd, if_pos h24, hx]
    have HO := Lib.hid ((Off.refl [] w).alloc (.cells #[.int .u8 (x : Int)] 5))
    rw [he]
    clear hn h24 hx he
    go_enter Tryz.func21, Tryz.ntmps21
    go_wp2_with fail
    go_ret
    exact ⟨rfl, HO.out⟩
  · have q1 : ¬ ((n : Int) < 24) := by omega
    have q2 : (n : Int) < 256 := by omega
    have hcv := run_convert_seg (P := Tryz.prog) (src := 47) (e := 5) (dst := 9) Tryz.underlying47 Tryz.underlying5 Tryz.underlying9 2 (seg_two w 184 n (by omega) hn)
    have e24 : ((184 : Nat) : Int) = (184 : Int) := rfl
    rw [e24] at hcv
    simp only [List.length_cons, List.length_nil, Nat.zero_add] at hcv
    have hor : bits .or .u8 (160 : Int) 24 = (184 : Int) := by decide +kernel
    have he : hd 5 n = [(184 : Nat).toUInt8, n.toUInt8] := by rw [hd, if_neg h24, if_pos hn]
    have HO := Lib.hid ((Off.refl [] w).alloc (.cells #[.int .u8 184, .int .u8 (n : Int)] 5))
    rw [he]
    clear hn h24 he
    go_enter Tryz.func21, Tryz.ntmps21
    go_wp2_with fail
    go_ret
    exact ⟨rfl, HO.out⟩

theorem or_h6 : ∀ k : Fin 24, bits .or .u8 (192 : Int) (k.val : Int) = ((192 + k.val : Nat) : Int) := by decide +kernel
set_option maxRecDepth 100000 in
set_option maxHeartbeats 2000000 in
theorem head_6 (n : Nat) (w : World) (hn : n < 256) :
    Calls Tryz.prog 21 #[.int .u8 6, .int .u64 (n : Int)] w fun r w' => r = .returned (.string (str (hd 6 n))) ∧ Off [] w w' := by
  have hmod : (n : Int) % 256 = (n : Int) := by omega
  by_cases h24 : n < 24
  · have q1 : (n : Int) < 24 := by omega
    obtain ⟨x, hx⟩ : ∃ x : Nat, x = 192 + n := ⟨_, rfl⟩
    have hor : bits .or .u8 (192 : Int) (n : Int) = (x : Int) := by rw [hx]; exact or_h6 ⟨n, h24⟩
    have hcv := run_convert_seg (P := Tryz.prog) (src := 47) (e := 5) (dst := 9) Tryz.underlying47 Tryz.underlying5 Tryz.underlying9 1 (seg_one w x (by omega))
    simp only [List.length_cons, List.length_nil, Nat.zero_add] at hcv
    have he : hd 6 n = [x.toUInt8] := by rw [hd, if_pos h24, hx]
    have HO := Lib.hid ((Off.refl [] w).alloc (.cells #[.int .u8 (x : Int)] 5))
    rw [he]
    clear hn h24 hx he
    go_enter Tryz.func21, Tryz.ntmps21
    go_wp2_with fail
    go_ret
    exact ⟨rfl, HO.out⟩
  · have q1 : ¬ ((n : Int) < 24) := by omega
    have q2 : (n : Int) < 256 := by omega
    have hcv := run_convert_seg (P := Tryz.prog) (src := 47) (e := 5) (dst := 9) Tryz.underlying47 Tryz.underlying5 Tryz.underlying9 2 (seg_two w 216 n (by omega) hn)
    have e24 : ((216 : Nat) : Int) = (216 : Int) := rfl
    rw [e24] at hcv
    simp only [List.length_cons, List.length_nil, Nat.zero_add] at hcv
    have hor : bits .or .u8 (192 : Int) 24 = (216 : Int) := by decide +kernel
    have he : hd 6 n = [(216 : Nat).toUInt8, n.toUInt8] := by rw [hd, if_neg h24, if_pos hn]
    have HO := Lib.hid ((Off.refl [] w).alloc (.cells #[.int .u8 216, .int .u8 (n : Int)] 5))
    rw [he]
    clear hn h24 he
    go_enter Tryz.func21, Tryz.ntmps21
    go_wp2_with fail
    go_ret
    exact ⟨rfl, HO.out⟩
end Go.Proofs.YthmhnknkidkdlaaGreatDoor
