/-
  spec.Car1, spec.Places: a file of version 1, and where its sections begin.
  spec.Places: where the sections of a file of version 1 begin, and where the last one ends.
  spec.Generated: the entries of a file's sections, those of identity hashes apart.
  (No condition beyond those that each theorem states.)
-/
import Derived.Test.YtkdbjocchponfaaGreatDoorM38
import Derived.Test.YtkdbjocchponfaaGreatDoorM34
import Derived.Deep.RegionLaw
namespace Go.Proofs.YtkdbjocchponfaaGreatDoor
open Go.RowKit

/-- A block: its identifier and its data. -/
abbrev Bk := Ent × ByteArray
def Bk.b (b : Bk) : List UInt8 × List UInt8 := (cidB b.1, b.2.data.toList)
structure Bk.ok (b : Bk) : Prop where
  e : b.1.ok
  dg : b.1.dg.size ≤ 200
  data : b.2.size ≤ 32768
def bkC (b : Bk) : List Value := [.int .u64 (b.1.ver : Int), .int .u64 (b.1.codec : Int), .int .u64 (b.1.code : Int), .string b.1.dg, .string b.2]

/-- Blocks in memory. -/
structure BlosAt (w : World) (A : Option Addr) (ib io : Nat) (bs : List Bk) : Prop where
  at_ : 0 < bs.length → A = some ⟨ib, io, none⟩ ∧ ib < w.heap.size
  cells : ∀ i (h : i < bs.length), w.cell? ⟨ib, io + i * 5, none⟩ = some (.int .u64 (bs[i].1.ver : Int)) ∧ w.cell? ⟨ib, io + i * 5 + 1, none⟩ = some (.int .u64 (bs[i].1.codec : Int)) ∧ w.cell? ⟨ib, io + i * 5 + 2, none⟩ = some (.int .u64 (bs[i].1.code : Int)) ∧ w.cell? ⟨ib, io + i * 5 + 3, none⟩ = some (.string bs[i].1.dg) ∧ w.cell? ⟨ib, io + i * 5 + 4, none⟩ = some (.string bs[i].2)
theorem BlosAt.off {w w' : World} {A : Option Addr} {ib io : Nat} {bs : List Bk} {S : List Nat} (h : BlosAt w A ib io bs) (ho : Off S w w') (hS : 0 < bs.length → ib ∉ S) : BlosAt w' A ib io bs := by
  refine ⟨fun h0 => ⟨(h.at_ h0).1, Nat.lt_of_lt_of_le (h.at_ h0).2 ho.size⟩, fun i hi => ?_⟩
  have h0 : 0 < bs.length := by omega
  obtain ⟨h1, h2, h3, h4, h5⟩ := h.cells i hi
  exact ⟨ho.cellE h1 (hS h0), ho.cellE h2 (hS h0), ho.cellE h3 (hS h0), ho.cellE h4 (hS h0), ho.cellE h5 (hS h0)⟩

def secs (bs : List Bk) : List UInt8 := (bs.map Bk.b).flatMap fun b => secB b.1 b.2
theorem secs_snoc (bs : List Bk) (b : Bk) : secs (bs ++ [b]) = secs bs ++ secB (cidB b.1) b.2.data.toList := by
  unfold secs
  rw [List.map_append, List.flatMap_append]
  simp [Bk.b]
theorem secB_len {b : Bk} (h : b.ok) : (secB (cidB b.1) b.2.data.toList).length ≤ 33100 := by
  have h1 := (cidB_len h.e).2
  have h2 := h.dg
  have h3 := h.data
  have h4 : b.2.data.toList.length = b.2.size := by simp
  have h5 := Lib.uvarint_length64 (x := (cidB b.1).length + b.2.size) (by omega)
  unfold secB
  rw [List.length_append, List.length_append, h4]
  omega

theorem hdrB_len (es : List Ent) (hes : ∀ e, e ∈ es → e.ok ∧ e.dg.size ≤ 200) (hn : es.length ≤ 50) : (hdrB (es.map cidB) 1).length ≤ 13000 := by
  have h1 := hdrBody_len (es.map cidB) 1 231 (fun c hc => by
    obtain ⟨e, he, rfl⟩ := List.mem_map.1 hc
    have h1 := (cidB_len (hes e he).1).2
    have h2 := (hes e he).2
    omega)
  rw [List.length_map] at h1
  have h3 : (231 + 6) * es.length ≤ (231 + 6) * 50 := Nat.mul_le_mul_left _ hn
  have h2 := Lib.uvarint_length64 (x := (hdrBody (es.map cidB) 1).length) (by omega)
  unfold hdrB
  rw [List.length_append]
  omega

set_option maxRecDepth 100000 in
set_option maxHeartbeats 1000000 in
theorem car1_any (rs : List Ent) (bs : List Bk) (A B : Option Addr) (ib io c n jb jo c2 m : Nat) (w : World) (hrs : ∀ e, e ∈ rs → e.ok ∧ e.dg.size ≤ 200) (hbs : ∀ b, b ∈ bs → b.ok) (hn : rs.length = n) (hn2 : n ≤ 50) (hm : bs.length = m) (hm2 : m ≤ 50) (hat : CidsAt w A ib io rs) (hbt : BlosAt w B jb jo bs) :
    Calls Tryz.prog 8 #[.agg #[.slice A n c, .slice B m c2]] w fun r w' => r = .returned (.string (str (car1B (rs.map cidB) (bs.map Bk.b)))) ∧ Off [] w w' := by
  have hA : Off [] w (w.alloc (.cells #[.slice A n c, .slice B m c2] 25)) := (Off.refl [] w).alloc _
  have HH := Lib.hid (headerBytes_any rs A ib io c n _ hrs hn hn2 (hat.off hA (by simp)))
  obtain ⟨s1, hs1⟩ : ∃ s, s = str (hdrB (rs.map cidB) 1) := ⟨_, rfl⟩
  rw [← hs1] at HH
  have hz1 : s1.size ≤ 13000 := by rw [hs1]; exact hdrB_len rs hrs (by omega)
  have HBX := Lib.hid (Blk.new w 25 #[.slice A n c, .slice B m c2])
  have HS1 := Lib.hid hs1
  have HBS := Lib.hid hbs
  have HBT := Lib.hid hbt
  have HM := Lib.hid hm
  have HA := Lib.hid hA
  clear hs1 hbs hbt hm hat hrs hn hA
  go_enter Tryz.func8, Tryz.ntmps8
  go_wp2_with fail
  refine HH.out.mono ?_
  rintro r w1 ⟨rfl, ho1⟩
  have hb1 := ho1.blk HBX.out (by simp)
  have x1 := hb1.cell 1
  simp at x1
  have HO1 := Lib.hid (HA.out.then ho1 (fun x hx => by simp at hx))
  clear ho1 hb1
  go_wp2_with fail
  go_loopg [3, 12] m (fun kx x3 x12 wr => ∃ (i : Nat) (s : ByteArray), x12 = .int .i64 (i : Int) ∧ x3 = .string s ∧ i ≤ m ∧ m - i ≤ kx ∧ s.size ≤ 13000 + 33100 * i ∧ Hid (s = str (hdrB (rs.map cidB) 1 ++ secs (bs.take i))) ∧ Hid (Off [] w wr))
  case atStart => exact ⟨0, s1, rfl, rfl, Nat.zero_le _, Nat.le_refl _, by omega, Lib.hid (by rw [HS1.out]; simp [secs]), HO1⟩
  case round =>
    rename World => wr
    obtain ⟨i, s, rfl, rfl, hin, hkx, hsz, HS, HO⟩ := hrel
    by_cases hlt : i < m
    · have hltz : (i : Int) < (m : Int) := by omega
      have hie : i < bs.length := by rw [HM.out]; exact hlt
      have hat := HBT.out.off HO.out (by simp)
      obtain ⟨hA, hib⟩ := hat.at_ (by omega)
      obtain ⟨c0, c1, c2', c3, c4⟩ := hat.cells i hie
      obtain ⟨bk, hbk⟩ : ∃ bk, bk = bs[i] := ⟨_, rfl⟩
      rw [← hbk] at c0 c1 c2' c3 c4
      have hok := HBS.out bk (by rw [hbk]; exact List.getElem_mem _)
      obtain ⟨ent, data⟩ := bk
      obtain ⟨sl, hsl⟩ : ∃ sl, sl = str (secB (cidB ent) data.data.toList) := ⟨_, rfl⟩
      have HL := Lib.hid (fun W => section_any ent data W hok.e (by have := hok.data; show data.size ≤ 1000000; have h : data.size ≤ 32768 := this; omega))
      rw [← hsl] at HL
      have zl : sl.size ≤ 33100 := by
        rw [hsl]
        exact secB_len hok
      have b6 : ¬ ((9223372036854775807 : Int) < (s.size : Int) + (sl.size : Int)) := by omega
      have htk : secs (bs.take (i + 1)) = secs (bs.take i) ++ secB (cidB ent) data.data.toList := by
        rw [List.take_succ_eq_append_getElem hie, secs_snoc, ← hbk]
      have HTK := Lib.hid htk
      have HSL := Lib.hid hsl
      have HALX : Hid (Off [] wr (wr.alloc (.cells #[.int .u64 (ent.ver : Int), .int .u64 (ent.codec : Int), .int .u64 (ent.code : Int), .string ent.dg, .string data] 45))) := Lib.hid ((Off.refl [] wr).alloc _)
      subst hA
      clear hat hbk hok hsl htk
      go_wp2_with (first
        | (go_at_call 16; refine (HL.out _).mono ?_; rintro r w4 ⟨rfl, ho4⟩; have HO4 := Lib.hid ho4; clear ho4))
      go_roundg (m - (i + 1))
      case measure => omega
      case rel =>
        refine ⟨i + 1, s ++ sl, by go_num, rfl, by omega, Nat.le_refl _, by rw [ByteArray.size_append]; omega, Lib.hid ?_, Lib.hid ((HO.out.then HALX.out (fun x hx => by simp at hx)).then HO4.out (fun x hx => by simp at hx))⟩
        rw [HS.out, HSL.out, str_app', HTK.out, List.append_assoc]
    · obtain rfl : i = m := by omega
      have hltz : ¬ (i : Int) < (i : Int) := by omega
      go_wp2_with fail
      go_ret
      refine ⟨?_, HO.out⟩
      have e1 : s = str (car1B (rs.map cidB) (bs.map Bk.b)) := by
        rw [HS.out, List.take_of_length_le (by rw [HM.out]; exact Nat.le_refl _)]
        rfl
      first | (rw [e1]; done) | (rw [e1]; rfl)
end Go.Proofs.YtkdbjocchponfaaGreatDoor
namespace Go.Proofs.YtkdbjocchponfaaGreatDoor
open Go.RowKit

theorem Tryz.infoIntP : (Tryz.prog.info? 3).map (fun i => (i.zero, i.size, i.bytes)) = some (some (.int .i64 0), 1, 8) := by kernel_rfl

/-- The places' cells: those of the first i sections, and where they end. -/
def plc (a i : Nat) (bs : List Bk) : List Value := (placesOf a ((bs.take i).map Bk.b) ++ [a + (secs (bs.take i)).length]).map fun (x : Nat) => Value.int .i64 (x : Int)
theorem plc_len (a i : Nat) (bs : List Bk) (hi : i ≤ bs.length) : (plc a i bs).length = i + 1 := by
  unfold plc
  rw [List.length_map, List.length_append, placesOf_len, List.length_map, List.length_take, Nat.min_eq_left hi]
  rfl
theorem plc_succ (a i : Nat) (bs : List Bk) (hi : i < bs.length) : plc a (i + 1) bs = plc a i bs ++ [Value.int .i64 ((a + (secs (bs.take (i + 1))).length : Nat) : Int)] := by
  have e1 : (bs.take (i + 1)).map Bk.b = (bs.take i).map Bk.b ++ [Bk.b bs[i]] := by
    rw [List.take_succ_eq_append_getElem hi, List.map_append]
    rfl
  unfold plc
  rw [e1, placesOf_snoc, List.map_append]
  rfl

set_option maxRecDepth 100000 in
set_option maxHeartbeats 1000000 in
theorem places_any (rs : List Ent) (bs : List Bk) (A B : Option Addr) (ib io c n jb jo c2 m : Nat) (w : World) (hrs : ∀ e, e ∈ rs → e.ok ∧ e.dg.size ≤ 200) (hbs : ∀ b, b ∈ bs → b.ok) (hn : rs.length = n) (hn2 : n ≤ 50) (hm : bs.length = m) (hm2 : m ≤ 50) (hat : CidsAt w A ib io rs) (hbt : BlosAt w B jb jo bs) :
    Calls Tryz.prog 14 #[.agg #[.slice A n c, .slice B m c2]] w fun r w' => ∃ v, r = .returned v ∧ w'.ownsRow w.heap.size 3 1 v (m + 1) (plc (hdrB (rs.map cidB) 1).length m bs) ∧ Off [] w w' := by
  obtain ⟨i0, hi0, hz0, hz1, hz2⟩ := info_parts Tryz.infoIntP
  have hA : Off [] w (w.alloc (.cells #[.slice A n c, .slice B m c2] 25)) := (Off.refl [] w).alloc _
  have HH := Lib.hid (headerBytes_any rs A ib io c n _ hrs hn hn2 (hat.off hA (by simp)))
  obtain ⟨s1, hs1⟩ : ∃ s, s = str (hdrB (rs.map cidB) 1) := ⟨_, rfl⟩
  rw [← hs1] at HH
  obtain ⟨a, ha⟩ : ∃ a, a = (hdrB (rs.map cidB) 1).length := ⟨_, rfl⟩
  have hz1' : s1.size = a := by rw [hs1, ha]; rfl
  have ha2 : a ≤ 13000 := by rw [ha]; exact hdrB_len rs hrs (by omega)
  rw [← ha]
  have hzi : (s1.size : Int) = (a : Int) := by omega
  have HBX := Lib.hid (Blk.new w 25 #[.slice A n c, .slice B m c2])
  have HBS := Lib.hid hbs
  have HBT := Lib.hid hbt
  have HM := Lib.hid hm
  have HA := Lib.hid hA
  clear hs1 hbs hbt hm hat hrs hn hA ha hz1'
  go_enter Tryz.func14, Tryz.ntmps14
  go_wp2_with fail
  refine HH.out.mono ?_
  rintro r w1 ⟨rfl, ho1⟩
  have hb1 := ho1.blk HBX.out (by simp)
  have y1 : ∀ ob, (w1.alloc ob).cell? ⟨w.heap.size, 1, none⟩ = some (.slice B m c2) := fun ob => (hb1.alloc ob).cell 1
  have HO1 := Lib.hid (HA.out.then ho1 (fun x hx => by simp at hx))
  have HROW : Hid ((w1.alloc (.cells #[.int .i64 (a : Int)] 3)).ownsRow w.heap.size 3 1 (.slice (some ⟨w1.heap.size, 0, none⟩) 1 1) 1 (plc a 0 bs)) := Lib.hid (by
    have h1 := HO1.out.size
    refine ⟨by rw [plc_len a 0 bs (Nat.zero_le _)], Or.inr ⟨w1.heap.size, 1, _, rfl, h1, Blk.new w1 _ _, Nat.le_refl _, by unfold maxLen; omega, rfl, ?_⟩⟩
    simp [plc, placesOf, secs])
  clear ho1 hb1
  go_wp2_with fail
  go_loopg [3, 4, 16] m (fun kx x3 x4 x16 wr => ∃ (i p : Nat), x16 = .int .i64 (i : Int) ∧ x3 = .int .i64 (p : Int) ∧ i ≤ m ∧ m - i ≤ kx ∧ p ≤ 13000 + 33100 * i ∧ Hid (p = a + (secs (bs.take i)).length) ∧ Hid (wr.ownsRow w.heap.size 3 1 x4 (i + 1) (plc a i bs)) ∧ Hid (Off [] w wr))
  case atStart => exact ⟨0, a, rfl, rfl, Nat.zero_le _, Nat.le_refl _, by omega, Lib.hid (by simp [secs]), HROW, Lib.hid (HO1.out.alloc _)⟩
  case round =>
    rename World => wr
    obtain ⟨i, p, rfl, rfl, hin, hkx, hsz, HS, HR, HO⟩ := hrel
    by_cases hlt : i < m
    · have hltz : (i : Int) < (m : Int) := by omega
      have hie : i < bs.length := by rw [HM.out]; exact hlt
      have hat := HBT.out.off HO.out (by simp)
      obtain ⟨hA, hib⟩ := hat.at_ (by omega)
      obtain ⟨c0, c1, c2', c3, c4⟩ := hat.cells i hie
      obtain ⟨bk, hbk⟩ : ∃ bk, bk = bs[i] := ⟨_, rfl⟩
      rw [← hbk] at c0 c1 c2' c3 c4
      have hok := HBS.out bk (by rw [hbk]; exact List.getElem_mem _)
      obtain ⟨ent, data⟩ := bk
      obtain ⟨sl, hsl⟩ : ∃ sl, sl = str (secB (cidB ent) data.data.toList) := ⟨_, rfl⟩
      have HL := Lib.hid (fun W => section_any ent data W hok.e (by have h : data.size ≤ 32768 := hok.data; omega))
      rw [← hsl] at HL
      have zl : sl.size ≤ 33100 := by rw [hsl]; exact secB_len hok
      have htk : secs (bs.take (i + 1)) = secs (bs.take i) ++ secB (cidB ent) data.data.toList := by
        rw [List.take_succ_eq_append_getElem hie, secs_snoc, ← hbk]
      obtain ⟨p2, hp2⟩ : ∃ p2, p2 = p + sl.size := ⟨_, rfl⟩
      have hp3 : p2 = a + (secs (bs.take (i + 1))).length := by
        rw [hp2, HS.out, htk, List.length_append, hsl]
        show a + _ + (secB (cidB ent) data.data.toList).length = _
        omega
      have hadd : (p : Int) + (sl.size : Int) = (p2 : Int) := by omega
      have hwr : IntKind.i64.wrap (p2 : Int) = (p2 : Int) := by rw [IntKind.wrap_i64]; omega
      have HP3 := Lib.hid hp3
      have hpb : p2 ≤ 13000 + 33100 * (i + 1) := by omega
      have HALX : Hid (Off [] wr (wr.alloc (.cells #[.int .u64 (ent.ver : Int), .int .u64 (ent.codec : Int), .int .u64 (ent.code : Int), .string ent.dg, .string data] 45))) := Lib.hid ((Off.refl [] wr).alloc _)
      subst hA
      clear hat hbk hok hsl htk hp2 hp3
      go_wp2_with (first
        | (go_at_call 16; refine (HL.out _).mono ?_; rintro r w4 ⟨rfl, ho4⟩
           have ho5 := (HALX.out.then ho4 (fun x hx => by simp at hx)).alloc (.cells #[.int .i64 (p2 : Int)] 3)
           have HO4 := Lib.hid ho5
           have HOWN := Lib.hid (own_off HR.out ho5 (fun x _ => by simp))
           have hB : w.heap.size ≤ (w4.alloc (.cells #[.int .i64 (p2 : Int)] 3)).heap.size := Nat.le_trans HO.out.size ho5.size
           have HB := Lib.hid hB
           clear ho4 ho5 hB)
        | (at_builtin
           refine wpList_append_own_at _ rfl _ _ 46 rfl w.heap.size 3 i0 _ 1 8 Tryz.underlying46 hi0 hz0 hz1 hz2 rfl (by decide) u4 (i + 1) (plc a i bs) rfl HOWN.out ⟨w4.heap.size, 0, none⟩ 1 1 [.int .i64 (p2 : Int)] rfl rfl (new_one w4 _ _) (fun u hu => by simp at hu; subst hu; rfl) (by unfold maxLen; omega) (by omega) HB.out ?_
           intro v5 w5 hown5 hgr hnil hat
           have HO5 := Lib.hid hown5
           have HG5 := Lib.hid hgr
           clear hown5 hgr hnil hat))
      go_roundg (m - (i + 1))
      case measure => omega
      case rel =>
        refine ⟨i + 1, p2, by go_num, rfl, by omega, Nat.le_refl _, hpb, HP3, Lib.hid ?_, Lib.hid ?_⟩
        · rw [plc_succ a i bs (by rw [HM.out]; exact hlt), ← HP3.out]
          exact HO5.out
        · exact (HO.out.then HO4.out (fun x hx => by simp at hx)).then (off_grown_own (S := ob u4) HG5.out (fun g hg => by simp [ob, hg])) (fun x hx => Or.inr (own_base HR.out x hx))
    · obtain rfl : i = m := by omega
      have hltz : ¬ (i : Int) < (i : Int) := by omega
      go_wp2_with fail
      go_ret
      exact ⟨_, rfl, HR.out, HO.out⟩
end Go.Proofs.YtkdbjocchponfaaGreatDoor
namespace Go.Proofs.YtkdbjocchponfaaGreatDoor
open Go.RowKit

section
variable {P : Program} {ops : Array Oper} {o : Oper} {a : Act} {Q : Exit → Act → World → Prop}
/-- append of a row onto a row of one's own, in a region that draws. -/
theorem step_append_own2 {K : Act → World → Prop} {E : Prop} (w : World) (hgd : o.guard = none) (s x : Operand) (t : TypeId) (ho : o.op = .call { callee := .builtin .append, args := #[s, x], argTypes := #[t, t] })
    (base : Nat) (e : TypeId) (i : TypeInfo) (z : Value) (size bytes : Nat) (ht : P.underlying t = some (.slice e)) (hi : P.info? e = some i) (hz : i.zero = some z) (hsize : i.size = size) (hby : i.bytes = bytes) (hzs : z.cells.size = size) (hsz : 0 < size)
    (v : Value) (n : Nat) (xs : List Value) (hs : a.eval s = v) (hown : w.ownsRow base e size v n xs)
    (ad : Addr) (m c : Nat) (news : List Value) (hx : a.eval x = .slice (some ad) m c) (hl : news.length = m * size) (hnews : ∀ j u, news[j]? = some u → w.cell? (ad.add j) = some u) (h1 : ∀ u ∈ news, u.oneCell' = true)
    (h63 : n + m ≤ maxLen) (hbytes : (n + m) * bytes ≤ 140737488355328) (hbase : base ≤ w.heap.size)
    (h : ∀ v' w', Hid (w'.ownsRow base e size v' (n + m) (xs ++ news)) → Hid (w.grownBy w' v.ownBlock) → Hid (v'.ownBlock = v.ownBlock ∨ v'.ownBlock = some w.heap.size) → K (a.put o.dst v') w') :
    if Region.wanted o (yielded ops a.tmps) = true then Oper.wp P o a w K Q else E := by
  have hw : Region.wanted o (yielded ops a.tmps) = true := by simp [Region.wanted, hgd]
  rw [if_pos hw]
  obtain ⟨v', w', hr, h2, h3, h4, h5⟩ := run_append_own_at (P := P) w base t o.type e i z size bytes ht hi hz hsize hby hzs hsz v n xs hown ad m c news hl hnews h1 h63 hbytes hbase
  unfold Oper.wp execOp
  simp only [ho, resolve, invoke, builtin, Sem.run_bind, Sem.run_pure, Result.andThen_ok, List.map_toArray, List.map_cons, List.map_nil, hs, hx, hr]
  exact h v' w' h2 h3 h5
end

theorem Tryz.infoEntG : (Tryz.prog.info? 49).map (fun i => (i.zero, i.size, i.bytes)) = some (some (.agg #[.int .u64 0, .int .u64 0, .int .u64 0, .string ByteArray.empty, .int .u64 0]), 5, 48) := by kernel_rfl
theorem placesOf_get : ∀ (a : Nat) (bs : List (List UInt8 × List UInt8)) (i : Nat), i < bs.length → (placesOf a bs)[i]? = some (a + ((bs.take i).flatMap fun b => secB b.1 b.2).length)
  | _, [], i, h => by simp at h
  | a, b :: bs, 0, _ => by simp [placesOf]
  | a, b :: bs, i + 1, h => by
    rw [placesOf, List.getElem?_cons_succ, placesOf_get _ bs i (by simpa using h), List.take_succ_cons, List.flatMap_cons, List.length_append, Nat.add_assoc]
theorem plc_get (a m : Nat) (bs : List Bk) (hm : bs.length = m) (i : Nat) (hi : i < m) : (plc a m bs)[i]? = some (Value.int .i64 ((a + (secs (bs.take i)).length : Nat) : Int)) := by
  unfold plc
  rw [List.getElem?_map, List.take_of_length_le (by omega), List.getElem?_append_left (by rw [placesOf_len, List.length_map]; omega), placesOf_get a _ i (by rw [List.length_map]; omega), ← List.map_take]
  rfl

/-- The entries of a file's sections, those of identity hashes apart. -/
def genE (a : Nat) : List Bk → List Ent
  | [] => []
  | b :: bs => (if b.1.code = 0 then [] else [⟨b.1.ver, b.1.codec, b.1.code, b.1.dg, a⟩]) ++ genE (a + (secB (cidB b.1) b.2.data.toList).length) bs
theorem genE_snoc : ∀ (a : Nat) (bs : List Bk) (b : Bk), genE a (bs ++ [b]) = genE a bs ++ (if b.1.code = 0 then [] else [⟨b.1.ver, b.1.codec, b.1.code, b.1.dg, a + (secs bs).length⟩])
  | a, [], b => by simp [genE, secs]
  | a, c :: bs, b => by
    rw [List.cons_append, genE, genE_snoc _ bs b, genE, List.append_assoc]
    have e : (secs (c :: bs)).length = (secB (cidB c.1) c.2.data.toList).length + (secs bs).length := by
      unfold secs
      rw [List.map_cons, List.flatMap_cons, List.length_append]
      rfl
    rw [e, Nat.add_assoc]
theorem genE_len : ∀ (a : Nat) (bs : List Bk), (genE a bs).length ≤ bs.length
  | _, [] => Nat.le_refl _
  | a, b :: bs => by
    have ih := genE_len (a + (secB (cidB b.1) b.2.data.toList).length) bs
    rw [genE, List.length_append, List.length_cons]
    split <;> simp <;> omega

set_option maxRecDepth 100000 in
set_option maxHeartbeats 1000000 in
theorem generated_any (rs : List Ent) (bs : List Bk) (A B : Option Addr) (ib io c n jb jo c2 m : Nat) (w : World) (hrs : ∀ e, e ∈ rs → e.ok ∧ e.dg.size ≤ 200) (hbs : ∀ b, b ∈ bs → b.ok) (hn : rs.length = n) (hn2 : n ≤ 50) (hm : bs.length = m) (hm2 : m ≤ 50) (hat : CidsAt w A ib io rs) (hbt : BlosAt w B jb jo bs) :
    Calls Tryz.prog 6 #[.agg #[.slice A n c, .slice B m c2], .bool false] w fun r w' => ∃ v, r = .returned v ∧ RowE w' w.heap.size v (genE (hdrB (rs.map cidB) 1).length bs) ∧ Off [] w w' := by
  obtain ⟨i0, hi0, hz0, hz1, hz2⟩ := info_parts Tryz.infoEntG
  have hA : Off [] w (w.alloc (.cells #[.slice A n c, .slice B m c2] 25)) := (Off.refl [] w).alloc _
  have HH := Lib.hid (places_any rs bs A B ib io c n jb jo c2 m _ hrs hbs hn hn2 hm hm2 (hat.off hA (by simp)) (hbt.off hA (by simp)))
  obtain ⟨a, ha⟩ : ∃ a, a = (hdrB (rs.map cidB) 1).length := ⟨_, rfl⟩
  have ha2 : a ≤ 13000 := by rw [ha]; exact hdrB_len rs hrs (by omega)
  rw [← ha] at HH ⊢
  have HBX := Lib.hid (Blk.new w 25 #[.slice A n c, .slice B m c2])
  have HBS := Lib.hid hbs
  have HBT := Lib.hid hbt
  have HM := Lib.hid hm
  have HA := Lib.hid hA
  have hsec : ∀ i, i ≤ m → (secs (bs.take i)).length ≤ 33100 * i := fun i => by
    induction i with
    | zero => intro _; simp [secs]
    | succ i ih =>
      intro hi
      have hib : i < bs.length := by rw [hm]; omega
      have h1 := secB_len (hbs bs[i] (List.getElem_mem _))
      have h2 := ih (by omega)
      rw [List.take_succ_eq_append_getElem hib, secs_snoc, List.length_append]
      omega
  have HSEC := Lib.hid hsec
  clear hbs hbt hm hat hrs hn hA ha hsec
  go_enter Tryz.func6, Tryz.ntmps6
  go_wp2_with fail
  refine HH.out.mono ?_
  rintro r w1 ⟨pv, rfl, hp1, ho1⟩
  obtain ⟨pA, pb, pc, rfl, -, hpx⟩ := own_shape hp1
  obtain ⟨rfl, hpo, hpl, hpc⟩ := hpx (by omega)
  have hb1 := ho1.blk HBX.out (by simp)
  have y1 : w1.cell? ⟨w.heap.size, 1, none⟩ = some (.slice B m c2) := hb1.cell 1
  have HO1 := Lib.hid (HA.out.then ho1 (fun x hx => by simp at hx))
  have HPC := Lib.hid hpc
  have hbl1 := hb1.lt
  clear ho1 hb1 hpx hp1 hpc hpo
  go_wp2_with fail
  go_loopg [5, 14] m (fun kx x5 x14 wr => ∃ (i k : Nat), x14 = .int .i64 (i : Int) ∧ i ≤ m ∧ m - i ≤ kx ∧ k ≤ 50 ∧ Hid (k = (genE a (bs.take i)).length) ∧ Hid (wr.ownsRow w1.heap.size 49 5 x5 k (entsC (genE a (bs.take i)))) ∧ Hid (Off [] w1 wr))
  case atStart => exact ⟨0, 0, rfl, Nat.zero_le _, Nat.le_refl _, by omega, Lib.hid (by simp [genE]), Lib.hid (by simpa [genE, entsC] using World.ownsRow_nil _ _ _ _), Lib.hid (Off.refl _ _)⟩
  case round =>
    rename World => wr
    obtain ⟨i, k, rfl, hin, hkx, hk50, HK, HR, HO⟩ := hrel
    by_cases hlt : i < m
    · have hltz : (i : Int) < (m : Int) := by omega
      have hie : i < bs.length := by rw [HM.out]; exact hlt
      have hat := (HBT.out.off HO1.out (by simp)).off HO.out (by simp)
      obtain ⟨hA, hib⟩ := hat.at_ (by omega)
      obtain ⟨c0, c1, c2', c3, c4⟩ := hat.cells i hie
      obtain ⟨bk, hbk⟩ : ∃ bk, bk = bs[i] := ⟨_, rfl⟩
      rw [← hbk] at c0 c1 c2' c3 c4
      obtain ⟨ent, data⟩ := bk
      obtain ⟨p, hp⟩ : ∃ p, p = a + (secs (bs.take i)).length := ⟨_, rfl⟩
      have hp2 : p ≤ 20000000 := by have := HSEC.out i (by omega); omega
      have hpw : IntKind.u64.wrap (p : Int) = (p : Int) := by rw [IntKind.wrap_u64]; omega
      have hpcell : wr.cell? ⟨pb, i, none⟩ = some (.int .i64 (p : Int)) := HO.out.cellE (HPC.out i _ (by rw [hp]; exact plc_get a m bs HM.out i hlt)) (by simp)
      have hpca : ∀ ob, (wr.alloc ob).cell? ⟨pb, i, none⟩ = some (.int .i64 (p : Int)) := fun ob => ((Off.refl [] wr).alloc ob).cellE hpcell (by simp)
      have hil : i < m + 1 := by omega
      have hilz : (i : Int) < ((m + 1 : Nat) : Int) := by omega
      have hilz2 : (i : Int) < (m : Int) + 1 := by omega
      have htk : genE a (bs.take (i + 1)) = genE a (bs.take i) ++ (if ent.code = 0 then [] else [⟨ent.ver, ent.codec, ent.code, ent.dg, p⟩]) := by
        rw [List.take_succ_eq_append_getElem hie, genE_snoc, ← hbk, ← hp]
      have hkl : (genE a (bs.take (i + 1))).length ≤ 50 := by
        have h1 := genE_len a (bs.take (i + 1))
        rw [List.length_take] at h1
        omega
      have HTK := Lib.hid htk
      have HKL := Lib.hid hkl
      have HALX : Hid (Off [] wr (wr.alloc (.cells #[.int .u64 (ent.ver : Int), .int .u64 (ent.codec : Int), .int .u64 (ent.code : Int), .string ent.dg, .string data] 45))) := Lib.hid ((Off.refl [] wr).alloc _)
      subst hA
      clear hat hbk htk hkl hp
      by_cases hc0' : ent.code = 0
      · have hcz : ((ent.code : Int) == 0) = true := by simp [hc0']
        have HC0 := Lib.hid hc0'
        clear hc0'
        go_wp2_with fail
        go_roundg (m - (i + 1))
        case measure => omega
        case rel =>
          have e1 : genE a (bs.take (i + 1)) = genE a (bs.take i) := by rw [HTK.out, if_pos HC0.out, List.append_nil]
          exact ⟨i + 1, k, by go_num, by omega, Nat.le_refl _, hk50, Lib.hid (by rw [e1]; exact HK.out), Lib.hid (by rw [e1]; exact own_off HR.out ((Off.refl [] wr).alloc _) (fun x _ => by simp)), Lib.hid (HO.out.alloc _)⟩
      · have hcz : ((ent.code : Int) == 0) = false := beq_eq_false_iff_ne.2 (by omega)
        have hk49 : k + 1 ≤ 50 := by
          have h1 := HKL.out
          rw [HTK.out, if_neg hc0', List.length_append, ← HK.out] at h1
          simpa using h1
        have HC0 := Lib.hid hc0'
        obtain ⟨ent2, hent2⟩ : ∃ e2 : Ent, e2 = ⟨ent.ver, ent.codec, ent.code, ent.dg, p⟩ := ⟨_, rfl⟩
        have HNEW : Hid (∀ j u, (entC ent2)[j]? = some u → ((wr.alloc (.cells #[.int .u64 (ent.ver : Int), .int .u64 (ent.codec : Int), .int .u64 (ent.code : Int), .string ent.dg, .string data] 45)).alloc (.cells #[.int .u64 (ent.ver : Int), .int .u64 (ent.codec : Int), .int .u64 (ent.code : Int), .string ent.dg, .int .u64 (p : Int)] 49)).cell? ((⟨wr.heap.size + 1, 0, none⟩ : Addr).add j) = some u) := Lib.hid (by
          have h1 := news_alloc (wr.alloc (.cells #[.int .u64 (ent.ver : Int), .int .u64 (ent.codec : Int), .int .u64 (ent.code : Int), .string ent.dg, .string data] 45)) (entC ent2) 49
          rw [size_alloc] at h1
          rw [hent2] at h1 ⊢
          exact h1)
        have HOWN : Hid (∀ W, Off [] wr W → W.ownsRow w1.heap.size 49 5 u5 k (entsC (genE a (bs.take i)))) := Lib.hid (fun W hW => own_off HR.out hW (fun x _ => by simp))
        have HB2 : Hid (∀ W, Off [] wr W → w1.heap.size ≤ W.heap.size) := Lib.hid (fun W hW => by
          have h1 := HO.out.size
          have h2 := HO1.out.size
          have h3 := hW.size
          omega)
        have h63 : k + 1 ≤ maxLen := by unfold maxLen; omega
        have h48 : (k + 1) * 48 ≤ 140737488355328 := by omega
        have HENT := Lib.hid hent2
        clear hc0' hent2
        go_wp2_with fail
        go_region_law (refine step_append_own2 _ rfl (.tmp 26) (.tmp 35) 27 rfl w1.heap.size 49 i0 _ 5 48 Tryz.underlying27 hi0 hz0 hz1 hz2 rfl (by decide) u5 k (entsC (genE a (bs.take i))) (by simp [Act.eval]) (HOWN.out _ (by repeat' (first | exact Off.refl _ _ | refine Off.alloc ?_ _ | refine Off.drew ?_))) ⟨wr.heap.size + 1, 0, none⟩ 1 1 (entC ent2) (by simp [Act.eval]) rfl (fun j u hj => HNEW.out j u hj) (entC_one _) h63 h48 (HB2.out _ (by repeat' (first | exact Off.refl _ _ | refine Off.alloc ?_ _ | refine Off.drew ?_))) ?_; intro v5 w5 HO5 HG5 HV5)
        all_goals
          go_wp2_with fail
          go_roundg (m - (i + 1))
          case measure => omega
          case rel =>
            have e1 : genE a (bs.take (i + 1)) = genE a (bs.take i) ++ [ent2] := by rw [HTK.out, if_neg HC0.out, HENT.out]
            have hg := off_grown_own (S := ob u5) HG5.out (fun g hg => by simp [ob, hg])
            refine ⟨i + 1, k + 1, by go_num, by omega, Nat.le_refl _, hk49, Lib.hid ?_, Lib.hid ?_, Lib.hid ?_⟩
            · rw [e1, List.length_append, ← HK.out]; rfl
            · rw [e1, entsC_snoc]; exact HO5.out
            · refine Off.then (S := []) (HO.out.then (b := wr) (Off.refl [] wr) (fun x hx => by simp at hx) |>.then (S' := []) ?_ (fun x hx => by simp at hx)) hg (fun x hx => Or.inr (own_base HR.out x hx))
              repeat' (first | exact Off.refl _ _ | refine Off.alloc ?_ _ | refine Off.drew ?_)
    · obtain rfl : i = m := by omega
      have hltz : ¬ (i : Int) < (i : Int) := by omega
      go_wp2_with fail
      go_ret
      refine ⟨_, rfl, ?_, HO1.out.then HO.out (fun x hx => by simp at hx)⟩
      have h1 := HR.out
      rw [HK.out, List.take_of_length_le (by rw [HM.out]; exact Nat.le_refl _)] at h1
      rcases id h1.2 with ⟨h2, h3⟩ | ⟨g, cap, cur, h2, h3, h4⟩
      · exact ⟨h1.1, Or.inl ⟨h2, h3⟩⟩
      · exact ⟨h1.1, Or.inr ⟨g, cap, cur, h2, by have := HO1.out.size; omega, h4⟩⟩
end Go.Proofs.YtkdbjocchponfaaGreatDoor
