/-
  spec.Link, spec.Section.
  spec.HeaderBytes at version 1.
  spec.Car1, spec.Places: a file of version 1, and where its sections begin.
  spec.Places: where the sections of a file of version 1 begin, and where the last one ends.
  spec.Generated: the entries of a file's sections, those of identity hashes apart.
  (No condition beyond those that each theorem states.)
-/
import Derived.Test.YthmhnknkidkdlaaGreatDoorB34
import Derived.LoopTactic
import Derived.LoopN
import Derived.Deep.LoopGhost
import Derived.Test.YthmhnknkidkdlaaGreatDoorB32
import Derived.Deep.RegionLaw
namespace Go.Proofs.YthmhnknkidkdlaaGreatDoor
open Go.RowKit

theorem cidB_len {e : Ent} (h : e.ok) : 4 ≤ (cidB e).length ∧ (cidB e).length ≤ e.dg.size + 31 := by
  have hs := h.small
  have hz : e.dg.data.toList.length = e.dg.size := by simp
  rw [hz] at hs
  have hp1 := Lib.uvarint_pos e.code
  have hp2 := Lib.uvarint_pos e.dg.size
  have hp3 := Lib.uvarint_pos e.codec
  have hl2 := Lib.uvarint_length64 (x := e.dg.size) (by omega)
  unfold cidB
  rcases h.ver with ⟨h1, h2, h3, h4⟩ | ⟨h1, h2, h3⟩
  · rw [if_pos h1, h3, mhB_v0 _ h4]
    rw [hz] at h4
    simp
    omega
  · have hl1 := Lib.uvarint_length64 (x := e.code) (by omega)
    have hl3 := Lib.uvarint_length64 (x := e.codec) (by omega)
    rw [if_neg (by omega), cid1_length, mhB_length, hz]
    omega

set_option maxRecDepth 100000 in
set_option maxHeartbeats 2000000 in
theorem link_any (e : Ent) (w : World) (h : e.ok) (hd2 : e.dg.size ≤ 200) :
    Calls Tryz.prog 22 #[.agg #[.int .u64 (e.ver : Int), .int .u64 (e.codec : Int), .int .u64 (e.code : Int), .string e.dg]] w fun r w' => r = .returned (.string (str (linkB (cidB e)))) ∧ Off [] w w' := by
  obtain ⟨c, hc⟩ : ∃ c, c = cidB e := ⟨_, rfl⟩
  have hl := cidB_len h
  rw [← hc] at hl
  obtain ⟨s, hs⟩ : ∃ s, s = str c := ⟨_, rfl⟩
  have hsz : s.size = c.length := by rw [hs]; rfl
  have HC := Lib.hid (fun W => cidBytes_any e W h)
  rw [← hc, ← hs] at HC
  have H6 := Lib.hid (fun W => head_6 42 W (by omega))
  obtain ⟨s6, hs6⟩ : ∃ s6, s6 = str (hd 6 42) := ⟨_, rfl⟩
  rw [← hs6] at H6
  have hsz6 : s6.size = 2 := by rw [hs6]; rfl
  obtain ⟨m, hm⟩ : ∃ m, m = c.length + 1 := ⟨_, rfl⟩
  have H2 := Lib.hid (fun W => head_2 m W (by omega))
  obtain ⟨s2, hs2⟩ : ∃ s2, s2 = str (hd 2 m) := ⟨_, rfl⟩
  rw [← hs2] at H2
  have hsz2 : s2.size ≤ 3 := by rw [hs2]; exact (hd_len 2 m).2
  have hadd : (s.size : Int) + 1 = (m : Int) := by omega
  have hmi : ((s.size : Int) + 1) % 18446744073709551616 = (m : Int) := by omega
  have hb1 : ¬ ((9223372036854775807 : Int) < (s6.size : Int) + (s2.size : Int)) := by omega
  have hb2 : ¬ ((9223372036854775807 : Int) < (s6.size : Int) + (s2.size : Int) + 1) := by omega
  have hb3 : ¬ ((9223372036854775807 : Int) < (s6.size : Int) + (s2.size : Int) + 1 + (s.size : Int)) := by omega
  have HF := Lib.hid (And.intro hc (And.intro hs (And.intro hs6 (And.intro hs2 hm))))
  have hB := Blk.new w 41 #[.int .u64 (e.ver : Int), .int .u64 (e.codec : Int), .int .u64 (e.code : Int), .string e.dg]
  have HA := Lib.hid ((Off.refl [] w).alloc (.cells #[.int .u64 (e.ver : Int), .int .u64 (e.codec : Int), .int .u64 (e.code : Int), .string e.dg] 41))
  clear h hl hsz hc hs hs6 hsz6 hs2 hsz2 hm hB hd2
  go_enter Tryz.func22, Tryz.ntmps22
  go_wp2_with (first
    | (go_at_call 24; refine (HC.out _).mono ?_; rintro r w1 ⟨rfl, ho1⟩; have HO1 := Lib.hid ho1; clear ho1)
    | (go_at_call_of 21 (Value.int .u8 6); refine (H6.out _).mono ?_; rintro r w2 ⟨rfl, ho2⟩; have HO2 := Lib.hid ho2; clear ho2)
    | (go_at_call 21; refine (H2.out _).mono ?_; rintro r w3 ⟨rfl, ho3⟩; have HO3 := Lib.hid ho3; clear ho3))
  go_ret
  obtain ⟨hc, hs, hs6, hs2, hm⟩ := HF.out
  refine ⟨?_, ((HA.out.then HO1.out (fun x hx => by simp at hx)).then HO2.out (fun x hx => by simp at hx)).then HO3.out (fun x hx => by simp at hx)⟩
  have e1 : str (linkB (cidB e)) = s6 ++ s2 ++ ⟨#[0]⟩ ++ s := by
    rw [← hc, linkB, ← hm, hs6, hs2, hs, str_app', show (⟨#[0]⟩ : ByteArray) = str [0] from rfl, str_app', str_app']
    simp
  rw [e1]
  try rfl

set_option maxRecDepth 100000 in
set_option maxHeartbeats 4000000 in
theorem section_any (e : Ent) (data : ByteArray) (w : World) (h : e.ok) (hd2 : data.size ≤ 1000000) :
    Calls Tryz.prog 13 #[.agg #[.int .u64 (e.ver : Int), .int .u64 (e.codec : Int), .int .u64 (e.code : Int), .string e.dg, .string data]] w fun r w' => r = .returned (.string (str (secB (cidB e) data.data.toList))) ∧ Off [] w w' := by
  obtain ⟨c, hc⟩ : ∃ c, c = cidB e := ⟨_, rfl⟩
  have hl := cidB_len h
  have hsm := h.small
  rw [← hc] at hl
  obtain ⟨s, hs⟩ : ∃ s, s = str c := ⟨_, rfl⟩
  have hsz : s.size = c.length := by rw [hs]; rfl
  have HC := Lib.hid (fun W => cidBytes_any e W h)
  rw [← hc, ← hs] at HC
  obtain ⟨m, hm⟩ : ∃ m, m = c.length + data.size := ⟨_, rfl⟩
  have hdz : e.dg.data.toList.length = e.dg.size := by simp
  have HV := Lib.hid (varint_any m (by omega))
  have hu := Lib.uvarint_pos m
  have hl1 := Lib.uvarint_length64 (x := m) (by omega)
  obtain ⟨su, hsu⟩ : ∃ su, su = str (Lib.uvarint m) := ⟨_, rfl⟩
  have hsuz : su.size = (Lib.uvarint m).length := by rw [hsu]; rfl
  have hadd : (s.size : Int) + (data.size : Int) = (m : Int) := by omega
  have hw64 : IntKind.u64.wrap (m : Int) = (m : Int) := by rw [IntKind.wrap_u64]; omega
  have hwi64 : IntKind.i64.wrap (m : Int) = (m : Int) := by rw [IntKind.wrap_i64]; omega
  have hb1 : ¬ ((9223372036854775807 : Int) < (su.size : Int) + (s.size : Int)) := by omega
  have hb2 : ¬ ((9223372036854775807 : Int) < (su.size : Int) + (s.size : Int) + (data.size : Int)) := by omega
  have HF := Lib.hid (And.intro hc (And.intro hs (And.intro hsu hm)))
  have HSU := Lib.hid hsu
  have HA := Lib.hid ((Off.refl [] w).alloc (.cells #[.int .u64 (e.ver : Int), .int .u64 (e.codec : Int), .int .u64 (e.code : Int), .string e.dg, .string data] 44))
  have HBN := Lib.hid (Blk.new w 44 #[.int .u64 (e.ver : Int), .int .u64 (e.codec : Int), .int .u64 (e.code : Int), .string e.dg, .string data])
  clear h hl hsz hc hs hsu hsuz hm hd2 hl1 hdz hsm
  go_enter Tryz.func13, Tryz.ntmps13
  go_wp2_with fail
  refine (HC.out _).mono ?_
  rintro r w1 ⟨rfl, ho1⟩
  have HB1 := Lib.hid (ho1.blk HBN.out (by simp))
  have HO1 := Lib.hid (HA.out.then ho1 (fun x hx => by simp at hx))
  clear ho1
  go_wp2_with fail
  go_region_held (fun W => W.cell? ⟨w.heap.size, 4, none⟩ = some (.string data)) (first | (exact HB1.out.cell 4) | (exact HB2.out.cell 4)) (first
    | (go_at_call 23
       refine (HV.out _).mono ?_
       rintro r w2 ⟨v2, rfl, hr2, ho2⟩
       have ho3 : Off [] w1 w2 := by first | exact ho2 | exact (Off.refl [] w1).drew.then ho2 (fun x hx => by simp at hx)
       have hcv5 : (convert 47 9 v2).run Tryz.prog w2 = .ok (.string su) w2 := by rw [HSU.out]; exact row8_conv hr2 hu
       have hcv6 : (convert 47 9 v2).run Tryz.prog w2.drew = .ok (.string su) w2.drew := by rw [HSU.out]; exact row8_conv (hr2.off (Off.refl [] w2).drew (fun x _ => by simp)) hu
       have HB2 := Lib.hid (ho3.blk HB1.out (by simp))
       have HO2 := Lib.hid (HO1.out.then ho3 (fun x hx => by simp at hx))
       clear hr2 ho2 ho3))
  all_goals go_wp2_with fail
  all_goals go_ret
  all_goals refine ⟨?_, by first | exact HO2.out | exact HO2.out.drew⟩
  all_goals
    obtain ⟨hc, hs, hsu, hm⟩ := HF.out
    have e1 : str (secB (cidB e) data.data.toList) = su ++ s ++ data := by
      have hdz : data.data.toList.length = data.size := by simp
      rw [← hc, secB, hdz, ← hm, hsu, hs, str_app', ← str_self data, str_app', List.append_assoc]
    first | (rw [e1]; done) | (rw [e1]; rfl)
end Go.Proofs.YthmhnknkidkdlaaGreatDoor
namespace Go.Proofs.YthmhnknkidkdlaaGreatDoor
open Go.RowKit

/-- Identifiers in memory. -/
structure CidsAt (w : World) (A : Option Addr) (ib io : Nat) (es : List Ent) : Prop where
  at_ : 0 < es.length → A = some ⟨ib, io, none⟩ ∧ ib < w.heap.size
  cells : ∀ i (h : i < es.length), w.cell? ⟨ib, io + i * 4, none⟩ = some (.int .u64 (es[i].ver : Int)) ∧ w.cell? ⟨ib, io + i * 4 + 1, none⟩ = some (.int .u64 (es[i].codec : Int)) ∧ w.cell? ⟨ib, io + i * 4 + 2, none⟩ = some (.int .u64 (es[i].code : Int)) ∧ w.cell? ⟨ib, io + i * 4 + 3, none⟩ = some (.string es[i].dg)
theorem CidsAt.off {w w' : World} {A : Option Addr} {ib io : Nat} {es : List Ent} {S : List Nat} (h : CidsAt w A ib io es) (ho : Off S w w') (hS : 0 < es.length → ib ∉ S) : CidsAt w' A ib io es := by
  refine ⟨fun h0 => ⟨(h.at_ h0).1, Nat.lt_of_lt_of_le (h.at_ h0).2 ho.size⟩, fun i hi => ?_⟩
  have h0 : 0 < es.length := by omega
  obtain ⟨h1, h2, h3, h4⟩ := h.cells i hi
  exact ⟨ho.cellE h1 (hS h0), ho.cellE h2 (hS h0), ho.cellE h3 (hS h0), ho.cellE h4 (hS h0)⟩

/-- What a header has ahead of its links. -/
def preB (n : Nat) : List UInt8 := hd 5 2 ++ (hd 3 5 ++ (rootsS ++ hd 4 n))
theorem preB_len (n : Nat) (hn : n < 256) : (preB n).length ≤ 9 := by
  have h : (hd 4 n).length ≤ 2 := by
    unfold hd
    split
    · simp
    · simp
  have e1 : (hd 5 2).length = 1 := rfl
  have e2 : (hd 3 5).length = 1 := rfl
  have e3 : rootsS.length = 5 := rfl
  unfold preB
  simp only [List.length_append, e1, e2, e3]
  omega
theorem hdrBody_eq (cs : List (List UInt8)) (v : Nat) : hdrBody cs v = (preB cs.length ++ cs.flatMap linkB) ++ (hd 3 7 ++ (verS ++ hd 0 v)) := by
  unfold hdrBody preB
  simp [List.append_assoc]

set_option maxRecDepth 100000 in
set_option maxHeartbeats 1000000 in
theorem headerBytes_any (es : List Ent) (A : Option Addr) (ib io c n : Nat) (w : World) (hes : ∀ e, e ∈ es → e.ok ∧ e.dg.size ≤ 200) (hn : es.length = n) (hn2 : n ≤ 50) (hat : CidsAt w A ib io es) :
    Calls Tryz.prog 12 #[.slice A n c, .int .u64 1] w fun r w' => r = .returned (.string (str (hdrB (es.map cidB) 1))) ∧ Off [] w w' := by
  have H5 := Lib.hid (fun W => head_5 2 W (by omega))
  obtain ⟨s5, hs5⟩ : ∃ s, s = str (hd 5 2) := ⟨_, rfl⟩
  rw [← hs5] at H5
  have H3 := Lib.hid (fun W => head_3 5 W (by omega))
  obtain ⟨s3, hs3⟩ : ∃ s, s = str (hd 3 5) := ⟨_, rfl⟩
  rw [← hs3] at H3
  have H4 := Lib.hid (fun W => head_4 n W (by omega))
  obtain ⟨s4, hs4⟩ : ∃ s, s = str (hd 4 n) := ⟨_, rfl⟩
  rw [← hs4] at H4
  have H7 := Lib.hid (fun W => head_3 7 W (by omega))
  obtain ⟨s7, hs7⟩ : ∃ s, s = str (hd 3 7) := ⟨_, rfl⟩
  rw [← hs7] at H7
  have H0 := Lib.hid (fun W => head_0 1 W (by omega))
  obtain ⟨s0, hs0⟩ : ∃ s, s = str (hd 0 1) := ⟨_, rfl⟩
  rw [← hs0] at H0
  have z5 : s5.size = 1 := by rw [hs5]; rfl
  have z3 : s3.size = 1 := by rw [hs3]; rfl
  have z7 : s7.size = 1 := by rw [hs7]; rfl
  have z0 : s0.size = 1 := by rw [hs0]; rfl
  have z4 : s4.size ≤ 3 := by rw [hs4]; exact (hd_len 4 n).2
  have b1 : ¬ ((9223372036854775807 : Int) < (s5.size : Int) + (s3.size : Int)) := by omega
  have b2 : ¬ ((9223372036854775807 : Int) < (s5.size : Int) + (s3.size : Int) + 5) := by omega
  have b3 : ¬ ((9223372036854775807 : Int) < (s5.size : Int) + (s3.size : Int) + 5 + (s4.size : Int)) := by omega
  have b4 : ¬ ((9223372036854775807 : Int) < (s7.size : Int) + 7) := by omega
  have b5 : ¬ ((9223372036854775807 : Int) < (s7.size : Int) + 7 + (s0.size : Int)) := by omega
  obtain ⟨sp, hsp⟩ : ∃ s, s = str (preB n) := ⟨_, rfl⟩
  have hpre : s5 ++ s3 ++ ⟨#[114, 111, 111, 116, 115]⟩ ++ s4 = sp := by
    rw [hs5, hs3, hs4, hsp, str_app', show (⟨#[114, 111, 111, 116, 115]⟩ : ByteArray) = str rootsS from rfl, str_app', str_app', preB]
    simp
  have zp : sp.size ≤ 9 := by rw [hsp]; exact preB_len n (by omega)
  have hpost : s7 ++ ⟨#[118, 101, 114, 115, 105, 111, 110]⟩ ++ s0 = str (hd 3 7 ++ (verS ++ hd 0 1)) := by
    rw [hs7, hs0, show (⟨#[118, 101, 114, 115, 105, 111, 110]⟩ : ByteArray) = str verS from rfl, str_app', str_app']
    simp
  have HPRE := Lib.hid hpre
  have HPOST := Lib.hid hpost
  have HSP := Lib.hid hsp
  have HES := Lib.hid hes
  have HAT := Lib.hid hat
  have HN := Lib.hid hn
  have hnw : IntKind.u64.wrap (n : Int) = (n : Int) := by rw [IntKind.wrap_u64]; omega
  clear hs5 hs3 hs4 hs7 hs0 hpre hpost hsp hes hat hn
  go_enter Tryz.func12, Tryz.ntmps12
  go_wp2_with (first
    | (go_at_call_of 21 (Value.int .u8 5); refine (H5.out _).mono ?_; rintro r w1 ⟨rfl, ho1⟩; have HO1 := Lib.hid ho1; clear ho1)
    | (go_at_call_of 21 (Value.int .u8 3); refine (H3.out _).mono ?_; rintro r w2 ⟨rfl, ho2⟩; have HO2 := Lib.hid ho2; clear ho2)
    | (go_at_call_of 21 (Value.int .u8 4); refine (H4.out _).mono ?_; rintro r w3 ⟨rfl, ho3⟩; have HO3 := Lib.hid ho3; clear ho3))
  have HW3 : Hid (Off [] w w3) := Lib.hid ((HO1.out.then HO2.out (fun x hx => by simp at hx)).then HO3.out (fun x hx => by simp at hx))
  go_loopg [5, 19] n (fun kx x5 x19 wr => ∃ (i : Nat) (s : ByteArray), x19 = .int .i64 (i : Int) ∧ x5 = .string s ∧ i ≤ n ∧ n - i ≤ kx ∧ s.size ≤ 9 + 240 * i ∧ Hid (s = str (preB n ++ ((es.take i).map cidB).flatMap linkB)) ∧ Hid (Off [] w wr))
  case atStart => exact ⟨0, sp, rfl, by rw [← HPRE.out], Nat.zero_le _, Nat.le_refl _, by omega, Lib.hid (by rw [HSP.out]; simp), HW3⟩
  case round =>
    rename World => wr
    obtain ⟨i, s, rfl, rfl, hin, hkx, hsz, HS, HO⟩ := hrel
    by_cases hlt : i < n
    · have hltz : (i : Int) < (n : Int) := by omega
      have hie : i < es.length := by rw [HN.out]; exact hlt
      have hat := HAT.out.off HO.out (by simp)
      obtain ⟨hA, hib⟩ := hat.at_ (by omega)
      obtain ⟨c0, c1, c2, c3⟩ := hat.cells i hie
      obtain ⟨ent, hent⟩ : ∃ ent, ent = es[i] := ⟨_, rfl⟩
      rw [← hent] at c0 c1 c2 c3
      obtain ⟨hok, hdg⟩ := HES.out ent (by rw [hent]; exact List.getElem_mem _)
      obtain ⟨sl, hsl⟩ : ∃ sl, sl = str (linkB (cidB ent)) := ⟨_, rfl⟩
      have HL := Lib.hid (fun W => link_any ent W hok hdg)
      rw [← hsl] at HL
      have zl : sl.size ≤ 240 := by
        rw [hsl]
        have h1 := (linkB_len (cidB ent)).2
        have h2 := (cidB_len hok).2
        show (linkB (cidB ent)).length ≤ 240
        omega
      have b6 : ¬ ((9223372036854775807 : Int) < (s.size : Int) + (sl.size : Int)) := by omega
      have htk : ((es.take (i + 1)).map cidB).flatMap linkB = ((es.take i).map cidB).flatMap linkB ++ linkB (cidB ent) := by
        rw [List.take_succ_eq_append_getElem hie, List.map_append, List.flatMap_append, hent]; simp
      have HTK := Lib.hid htk
      have HSL := Lib.hid hsl
      have HALX : Hid (Off [] wr (wr.alloc (.cells #[.int .u64 (ent.ver : Int), .int .u64 (ent.codec : Int), .int .u64 (ent.code : Int), .string ent.dg] 41))) := Lib.hid ((Off.refl [] wr).alloc _)
      subst hA
      clear hat hent hok hdg hsl htk
      go_wp2_with (first
        | (go_at_call 22; refine (HL.out _).mono ?_; rintro r w4 ⟨rfl, ho4⟩; have HO4 := Lib.hid ho4; clear ho4))
      go_roundg (n - (i + 1))
      case measure => omega
      case rel =>
        refine ⟨i + 1, s ++ sl, by go_num, rfl, by omega, Nat.le_refl _, by rw [ByteArray.size_append]; omega, Lib.hid ?_, Lib.hid ((HO.out.then HALX.out (fun x hx => by simp at hx)).then HO4.out (fun x hx => by simp at hx))⟩
        rw [HS.out, HSL.out, str_app', HTK.out, List.append_assoc]
    · obtain rfl : i = n := by omega
      have hltz : ¬ (i : Int) < (i : Int) := by omega
      have b7 : ¬ ((9223372036854775807 : Int) < (s.size : Int) + ((s7.size : Int) + 7 + (s0.size : Int))) := by omega
      obtain ⟨m, hm⟩ : ∃ m, m = s.size + 9 := ⟨_, rfl⟩
      have hadd : (s.size : Int) + 9 = (m : Int) := by omega
      have b9 : ¬ ((9223372036854775807 : Int) < (m : Int)) := by omega
      have hmw : IntKind.u64.wrap (m : Int) = (m : Int) := by rw [IntKind.wrap_u64]; omega
      have HV := Lib.hid (varint_any m (by omega))
      have hu := Lib.uvarint_pos m
      have hl1 := Lib.uvarint_length64 (x := m) (by omega)
      obtain ⟨su, hsu⟩ : ∃ su, su = str (Lib.uvarint m) := ⟨_, rfl⟩
      have hsuz : su.size = (Lib.uvarint m).length := by rw [hsu]; rfl
      have b8 : ¬ ((9223372036854775807 : Int) < (su.size : Int) + (m : Int)) := by omega
      have HSU := Lib.hid hsu
      have HM := Lib.hid hm
      clear hsu hm hl1 hsuz
      go_wp2_with (first
        | (go_at_call_of 21 (Value.int .u8 3); refine (H7.out _).mono ?_; rintro r w5 ⟨rfl, ho5⟩; have HO5 := Lib.hid ho5; clear ho5)
        | (go_at_call_of 21 (Value.int .u8 0); refine (H0.out _).mono ?_; rintro r w6 ⟨rfl, ho6⟩; have HO6 := Lib.hid ho6; clear ho6)
        | (go_at_call 23
           refine (HV.out _).mono ?_
           rintro r w7 ⟨v2, rfl, hr2, ho7⟩
           have hcv5 : (convert 47 9 v2).run Tryz.prog w7 = .ok (.string su) w7 := by rw [HSU.out]; exact row8_conv hr2 hu
           have HO7 := Lib.hid ho7
           clear hr2 ho7))
      go_ret
      refine ⟨?_, ((HO.out.then HO5.out (fun x hx => by simp at hx)).then HO6.out (fun x hx => by simp at hx)).then HO7.out (fun x hx => by simp at hx)⟩
      have e1 : s ++ (s7 ++ ⟨#[118, 101, 114, 115, 105, 111, 110]⟩ ++ s0) = str (hdrBody (es.map cidB) 1) := by
        rw [HPOST.out, HS.out, str_app', hdrBody_eq, List.length_map, HN.out, List.take_of_length_le (by rw [HN.out]; exact Nat.le_refl _)]
      have e2 : m = (hdrBody (es.map cidB) 1).length := by
        have h1 : (str (hdrBody (es.map cidB) 1)).size = (hdrBody (es.map cidB) 1).length := rfl
        rw [← h1, ← e1, HM.out]
        have h7 : (⟨#[118, 101, 114, 115, 105, 111, 110]⟩ : ByteArray).size = 7 := rfl
        rw [ByteArray.size_append, ByteArray.size_append, ByteArray.size_append, z7, z0, h7]
      have e3 : str (hdrB (es.map cidB) 1) = su ++ (s ++ (s7 ++ ⟨#[118, 101, 114, 115, 105, 111, 110]⟩ ++ s0)) := by
        rw [e1, HSU.out, str_app', hdrB, e2]
      rw [e3]
      try rfl
end Go.Proofs.YthmhnknkidkdlaaGreatDoor
namespace Go.Proofs.YthmhnknkidkdlaaGreatDoor
open Go.RowKit

/-- A block: its identifier and its data. -/
abbrev Bk := Ent × ByteArray
def Bk.b (b : Bk) : List UInt8 × List UInt8 := (cidB b.1, b.2.data.toList)
structure Bk.ok (b : Bk) : Prop where
  e : b.1.ok
  dg : b.1.dg.size ≤ 200
  data : b.2.size ≤ 32768
def bkC (b : Bk) : List Value := [.int .u64 (b.1.ver : Int), .int .u64 (b.1.codec : Int), .int .u64 (b.1.code : Int), .string b.1.dg, .string b.2]

/-- Blocks in memory. -/
structure BlosAt (w : World) (A : Option Addr) (ib io : Nat) (bs : List Bk) : Prop where
  at_ : 0 < bs.length → A = some ⟨ib, io, none⟩ ∧ ib < w.heap.size
  cells : ∀ i (h : i < bs.length), w.cell? ⟨ib, io + i * 5, none⟩ = some (.int .u64 (bs[i].1.ver : Int)) ∧ w.cell? ⟨ib, io + i * 5 + 1, none⟩ = some (.int .u64 (bs[i].1.codec : Int)) ∧ w.cell? ⟨ib, io + i * 5 + 2, none⟩ = some (.int .u64 (bs[i].1.code : Int)) ∧ w.cell? ⟨ib, io + i * 5 + 3, none⟩ = some (.string bs[i].1.dg) ∧ w.cell? ⟨ib, io + i * 5 + 4, none⟩ = some (.string bs[i].2)
theorem BlosAt.off {w w' : World} {A : Option Addr} {ib io : Nat} {bs : List Bk} {S : List Nat} (h : BlosAt w A ib io bs) (ho : Off S w w') (hS : 0 < bs.length → ib ∉ S) : BlosAt w' A ib io bs := by
  refine ⟨fun h0 => ⟨(h.at_ h0).1, Nat.lt_of_lt_of_le (h.at_ h0).2 ho.size⟩, fun i hi => ?_⟩
  have h0 : 0 < bs.length := by omega
  obtain ⟨h1, h2, h3, h4, h5⟩ := h.cells i hi
  exact ⟨ho.cellE h1 (hS h0), ho.cellE h2 (hS h0), ho.cellE h3 (hS h0), ho.cellE h4 (hS h0), ho.cellE h5 (hS h0)⟩

def secs (bs : List Bk) : List UInt8 := (bs.map Bk.b).flatMap fun b => secB b.1 b.2
theorem secs_snoc (bs : List Bk) (b : Bk) : secs (bs ++ [b]) = secs bs ++ secB (cidB b.1) b.2.data.toList := by
  unfold secs
  rw [List.map_append, List.flatMap_append]
  simp [Bk.b]
theorem secB_len {b : Bk} (h : b.ok) : (secB (cidB b.1) b.2.data.toList).length ≤ 33100 := by
  have h1 := (cidB_len h.e).2
  have h2 := h.dg
  have h3 := h.data
  have h4 : b.2.data.toList.length = b.2.size := by simp
  have h5 := Lib.uvarint_length64 (x := (cidB b.1).length + b.2.size) (by omega)
  unfold secB
  rw [List.length_append, List.length_append, h4]
  omega

theorem hdrB_len (es : List Ent) (hes : ∀ e, e ∈ es → e.ok ∧ e.dg.size ≤ 200) (hn : es.length ≤ 50) : (hdrB (es.map cidB) 1).length ≤ 13000 := by
  have h1 := hdrBody_len (es.map cidB) 1 231 (fun c hc => by
    obtain ⟨e, he, rfl⟩ := List.mem_map.1 hc
    have h1 := (cidB_len (hes e he).1).2
    have h2 := (hes e he).2
    omega)
  rw [List.length_map] at h1
  have h3 : (231 + 6) * es.length ≤ (231 + 6) * 50 := Nat.mul_le_mul_left _ hn
  have h2 := Lib.uvarint_length64 (x := (hdrBody (es.map cidB) 1).length) (by omega)
  unfold hdrB
  rw [List.length_append]
  omega

set_option maxRecDepth 100000 in
set_option maxHeartbeats 1000000 in
theorem car1_any (rs : List Ent) (bs : List Bk) (A B : Option Addr) (ib io c n jb jo c2 m : Nat) (w : World) (hrs : ∀ e, e ∈ rs → e.ok ∧ e.dg.size ≤ 200) (hbs : ∀ b, b ∈ bs → b.ok) (hn : rs.length = n) (hn2 : n ≤ 50) (hm : bs.length = m) (hm2 : m ≤ 50) (hat : CidsAt w A ib io rs) (hbt : BlosAt w B jb jo bs) :
    Calls Tryz.prog 6 #[.agg #[.slice A n c, .slice B m c2]] w fun r w' => r = .returned (.string (str (car1B (rs.map cidB) (bs.map Bk.b)))) ∧ Off [] w w' := by
  have hA : Off [] w (w.alloc (.cells #[.slice A n c, .slice B m c2] 25)) := (Off.refl [] w).alloc _
  have HH := Lib.hid (headerBytes_any rs A ib io c n _ hrs hn hn2 (hat.off hA (by simp)))
  obtain ⟨s1, hs1⟩ : ∃ s, s = str (hdrB (rs.map cidB) 1) := ⟨_, rfl⟩
  rw [← hs1] at HH
  have hz1 : s1.size ≤ 13000 := by rw [hs1]; exact hdrB_len rs hrs (by omega)
  have HBX := Lib.hid (Blk.new w 25 #[.slice A n c, .slice B m c2])
  have HS1 := Lib.hid hs1
  have HBS := Lib.hid hbs
  have HBT := Lib.hid hbt
  have HM := Lib.hid hm
  have HA := Lib.hid hA
  clear hs1 hbs hbt hm hat hrs hn hA
  go_enter Tryz.func6, Tryz.ntmps6
  go_wp2_with fail
  refine HH.out.mono ?_
  rintro r w1 ⟨rfl, ho1⟩
  have hb1 := ho1.blk HBX.out (by simp)
  have x1 := hb1.cell 1
  simp at x1
  have HO1 := Lib.hid (HA.out.then ho1 (fun x hx => by simp at hx))
  clear ho1 hb1
  go_wp2_with fail
  go_loopg [3, 12] m (fun kx x3 x12 wr => ∃ (i : Nat) (s : ByteArray), x12 = .int .i64 (i : Int) ∧ x3 = .string s ∧ i ≤ m ∧ m - i ≤ kx ∧ s.size ≤ 13000 + 33100 * i ∧ Hid (s = str (hdrB (rs.map cidB) 1 ++ secs (bs.take i))) ∧ Hid (Off [] w wr))
  case atStart => exact ⟨0, s1, rfl, rfl, Nat.zero_le _, Nat.le_refl _, by omega, Lib.hid (by rw [HS1.out]; simp [secs]), HO1⟩
  case round =>
    rename World => wr
    obtain ⟨i, s, rfl, rfl, hin, hkx, hsz, HS, HO⟩ := hrel
    by_cases hlt : i < m
    · have hltz : (i : Int) < (m : Int) := by omega
      have hie : i < bs.length := by rw [HM.out]; exact hlt
      have hat := HBT.out.off HO.out (by simp)
      obtain ⟨hA, hib⟩ := hat.at_ (by omega)
      obtain ⟨c0, c1, c2', c3, c4⟩ := hat.cells i hie
      obtain ⟨bk, hbk⟩ : ∃ bk, bk = bs[i] := ⟨_, rfl⟩
      rw [← hbk] at c0 c1 c2' c3 c4
      have hok := HBS.out bk (by rw [hbk]; exact List.getElem_mem _)
      obtain ⟨ent, data⟩ := bk
      obtain ⟨sl, hsl⟩ : ∃ sl, sl = str (secB (cidB ent) data.data.toList) := ⟨_, rfl⟩
      have HL := Lib.hid (fun W => section_any ent data W hok.e (by have := hok.data; show data.size ≤ 1000000; have h : data.size ≤ 32768 := this; omega))
      rw [← hsl] at HL
      have zl : sl.size ≤ 33100 := by
        rw [hsl]
        exact secB_len hok
      have b6 : ¬ ((9223372036854775807 : Int) < (s.size : Int) + (sl.size : Int)) := by omega
      have htk : secs (bs.take (i + 1)) = secs (bs.take i) ++ secB (cidB ent) data.data.toList := by
        rw [List.take_succ_eq_append_getElem hie, secs_snoc, ← hbk]
      have HTK := Lib.hid htk
      have HSL := Lib.hid hsl
      have HALX : Hid (Off [] wr (wr.alloc (.cells #[.int .u64 (ent.ver : Int), .int .u64 (ent.codec : Int), .int .u64 (ent.code : Int), .string ent.dg, .string data] 44))) := Lib.hid ((Off.refl [] wr).alloc _)
      subst hA
      clear hat hbk hok hsl htk
      go_wp2_with (first
        | (go_at_call 13; refine (HL.out _).mono ?_; rintro r w4 ⟨rfl, ho4⟩; have HO4 := Lib.hid ho4; clear ho4))
      go_roundg (m - (i + 1))
      case measure => omega
      case rel =>
        refine ⟨i + 1, s ++ sl, by go_num, rfl, by omega, Nat.le_refl _, by rw [ByteArray.size_append]; omega, Lib.hid ?_, Lib.hid ((HO.out.then HALX.out (fun x hx => by simp at hx)).then HO4.out (fun x hx => by simp at hx))⟩
        rw [HS.out, HSL.out, str_app', HTK.out, List.append_assoc]
    · obtain rfl : i = m := by omega
      have hltz : ¬ (i : Int) < (i : Int) := by omega
      go_wp2_with fail
      go_ret
      refine ⟨?_, HO.out⟩
      have e1 : s = str (car1B (rs.map cidB) (bs.map Bk.b)) := by
        rw [HS.out, List.take_of_length_le (by rw [HM.out]; exact Nat.le_refl _)]
        rfl
      first | (rw [e1]; done) | (rw [e1]; rfl)
end Go.Proofs.YthmhnknkidkdlaaGreatDoor
namespace Go.Proofs.YthmhnknkidkdlaaGreatDoor
open Go.RowKit

end Go.Proofs.YthmhnknkidkdlaaGreatDoor
namespace Go.Proofs.YthmhnknkidkdlaaGreatDoor
open Go.RowKit

section
variable {P : Program} {ops : Array Oper} {o : Oper} {a : Act} {Q : Exit → Act → World → Prop}
/-- append of a row onto a row of one's own, in a region that draws. -/
theorem step_append_own2 {K : Act → World → Prop} {E : Prop} (w : World) (hgd : o.guard = none) (s x : Operand) (t : TypeId) (ho : o.op = .call { callee := .builtin .append, args := #[s, x], argTypes := #[t, t] })
    (base : Nat) (e : TypeId) (i : TypeInfo) (z : Value) (size bytes : Nat) (ht : P.underlying t = some (.slice e)) (hi : P.info? e = some i) (hz : i.zero = some z) (hsize : i.size = size) (hby : i.bytes = bytes) (hzs : z.cells.size = size) (hsz : 0 < size)
    (v : Value) (n : Nat) (xs : List Value) (hs : a.eval s = v) (hown : w.ownsRow base e size v n xs)
    (ad : Addr) (m c : Nat) (news : List Value) (hx : a.eval x = .slice (some ad) m c) (hl : news.length = m * size) (hnews : ∀ j u, news[j]? = some u → w.cell? (ad.add j) = some u) (h1 : ∀ u ∈ news, u.oneCell' = true)
    (h63 : n + m ≤ maxLen) (hbytes : (n + m) * bytes ≤ 140737488355328) (hbase : base ≤ w.heap.size)
    (h : ∀ v' w', Hid (w'.ownsRow base e size v' (n + m) (xs ++ news)) → Hid (w.grownBy w' v.ownBlock) → Hid (v'.ownBlock = v.ownBlock ∨ v'.ownBlock = some w.heap.size) → K (a.put o.dst v') w') :
    if Region.wanted o (yielded ops a.tmps) = true then Oper.wp P o a w K Q else E := by
  have hw : Region.wanted o (yielded ops a.tmps) = true := by simp [Region.wanted, hgd]
  rw [if_pos hw]
  obtain ⟨v', w', hr, h2, h3, h4, h5⟩ := run_append_own_at (P := P) w base t o.type e i z size bytes ht hi hz hsize hby hzs hsz v n xs hown ad m c news hl hnews h1 h63 hbytes hbase
  unfold Oper.wp execOp
  simp only [ho, resolve, invoke, builtin, Sem.run_bind, Sem.run_pure, Result.andThen_ok, List.map_toArray, List.map_cons, List.map_nil, hs, hx, hr]
  exact h v' w' h2 h3 h5
end

/-- The entries of a file's sections, those of identity hashes apart. -/
def genE (a : Nat) : List Bk → List Ent
  | [] => []
  | b :: bs => (if b.1.code = 0 then [] else [⟨b.1.ver, b.1.codec, b.1.code, b.1.dg, a⟩]) ++ genE (a + (secB (cidB b.1) b.2.data.toList).length) bs
theorem genE_snoc : ∀ (a : Nat) (bs : List Bk) (b : Bk), genE a (bs ++ [b]) = genE a bs ++ (if b.1.code = 0 then [] else [⟨b.1.ver, b.1.codec, b.1.code, b.1.dg, a + (secs bs).length⟩])
  | a, [], b => by simp [genE, secs]
  | a, c :: bs, b => by
    rw [List.cons_append, genE, genE_snoc _ bs b, genE, List.append_assoc]
    have e : (secs (c :: bs)).length = (secB (cidB c.1) c.2.data.toList).length + (secs bs).length := by
      unfold secs
      rw [List.map_cons, List.flatMap_cons, List.length_append]
      rfl
    rw [e, Nat.add_assoc]
theorem genE_len : ∀ (a : Nat) (bs : List Bk), (genE a bs).length ≤ bs.length
  | _, [] => Nat.le_refl _
  | a, b :: bs => by
    have ih := genE_len (a + (secB (cidB b.1) b.2.data.toList).length) bs
    rw [genE, List.length_append, List.length_cons]
    split <;> simp <;> omega

end Go.Proofs.YthmhnknkidkdlaaGreatDoor
