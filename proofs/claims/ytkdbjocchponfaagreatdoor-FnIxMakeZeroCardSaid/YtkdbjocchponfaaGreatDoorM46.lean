/-
  laws.wrGood over a file in memory.
  spec.IndexBytes: an index, as the specification writes it.
  spec.Once: no two entries are one to an index.
  (No condition beyond those that each theorem states.)
-/
import Derived.Test.YtkdbjocchponfaaGreatDoorM45
import Derived.Test.YtkdbjocchponfaaGreatDoorM28
import Derived.Test.YtkdbjocchponfaaGreatDoorM34
import Derived.Deep.RegionWith
import Derived.Test.YtkdbjocchponfaaGreatDoorM05
import Derived.Deep.DeepCutAuto
import Derived.Deep.LoopGhost
import Derived.LoopTactic
import Derived.WalkKit
namespace Go.Proofs.YtkdbjocchponfaaGreatDoor
open Go.RowKit

def gdC (e : Ent) : Bool := decide (e.dg.size ≤ 200) && tidyB e.ver e.codec e.code e.dg.size
def gdK (b : Bk) : Bool := decide (b.1.dg.size ≤ 200) && (decide (b.2.size ≤ 32768) && tidyB b.1.ver b.1.codec b.1.code b.1.dg.size)
def wrB (rs : List Ent) (bs : List Bk) : Bool := (decide (rs.length ≤ 50) && decide (bs.length ≤ 50)) && (rs.all gdC && bs.all gdK)
theorem wrB_c {rs : List Ent} {bs : List Bk} {e : Ent} (he : e ∈ rs) (h : gdC e = false) : wrB rs bs = false := by
  unfold wrB
  rw [Bool.and_eq_false_iff]
  refine Or.inr ?_
  rw [Bool.and_eq_false_iff]
  exact Or.inl (List.all_eq_false.2 ⟨e, he, by rw [h]; decide⟩)
theorem wrB_k {rs : List Ent} {bs : List Bk} {e : Bk} (he : e ∈ bs) (h : gdK e = false) : wrB rs bs = false := by
  unfold wrB
  rw [Bool.and_eq_false_iff]
  refine Or.inr ?_
  rw [Bool.and_eq_false_iff]
  exact Or.inr (List.all_eq_false.2 ⟨e, he, by rw [h]; decide⟩)
theorem wrB_ok {rs : List Ent} {bs : List Bk} (h : wrB rs bs = true) (ho : ∀ e, e ∈ rs → e.off = 0) (hk : ∀ b, b ∈ bs → b.1.off = 0) : rs.length ≤ 50 ∧ bs.length ≤ 50 ∧ (∀ e, e ∈ rs → e.ok ∧ e.dg.size ≤ 200) ∧ ∀ b, b ∈ bs → b.ok := by
  unfold wrB at h
  simp only [Bool.and_eq_true, decide_eq_true_eq] at h
  obtain ⟨⟨h1, h2⟩, h3, h4⟩ := h
  refine ⟨h1, h2, fun e he => ?_, fun b hb => ?_⟩
  · have h5 := List.all_eq_true.1 h3 e he
    unfold gdC at h5
    rw [Bool.and_eq_true, decide_eq_true_eq] at h5
    exact ⟨ok_of_tidy h5.2.symm h5.1 (by rw [ho e he]; omega), h5.1⟩
  · have h5 := List.all_eq_true.1 h4 b hb
    unfold gdK at h5
    simp only [Bool.and_eq_true, decide_eq_true_eq] at h5
    exact ⟨ok_of_tidy h5.2.2.symm h5.1 (by rw [hk b hb]; omega), h5.1, h5.2.1⟩
theorem tidy_off (ver codec code : Nat) (dg : ByteArray) (w : World) :
    Calls Tryz.prog 13 #[.agg #[.int .u64 (ver : Int), .int .u64 (codec : Int), .int .u64 (code : Int), .string dg]] w fun e w' => e = .returned (.bool (tidyB ver codec code dg.size)) ∧ Off [] w w' := by
  refine (tidy_any ver codec code dg w).mono ?_
  rintro e w1 ⟨h, hb⟩
  exact ⟨h, Off.ofBelow (S := []) hb⟩

set_option maxRecDepth 100000 in
set_option maxHeartbeats 4000000 in
theorem wrGood_any (rs : List Ent) (bs : List Bk) (A B : Option Addr) (ib io jb jo c c2 n m : Nat) (w : World) (hn : rs.length = n) (hm : bs.length = m) (hat : CidsAt w A ib io rs) (hbt : BlosAt w B jb jo bs) :
    Calls Tryz.prog 5 #[.agg #[.slice A n c, .slice B m c2]] w fun r w' => r = .returned (.bool (wrB rs bs)) ∧ Off [] w w' := by
  obtain ⟨F, hF⟩ : ∃ F, F = wrB rs bs := ⟨_, rfl⟩
  rw [← hF]
  have HF := Lib.hid hF
  have hA : Off [] w (w.alloc (.cells #[.slice A n c, .slice B m c2] 25)) := (Off.refl [] w).alloc _
  have hB := Blk.new w 25 #[.slice A n c, .slice B m c2]
  have HAT := Lib.hid hat
  have HBT := Lib.hid hbt
  have HN := Lib.hid hn
  have HM := Lib.hid hm
  have HB := Lib.hid hB
  have HA := Lib.hid hA
  clear hA hB hat hbt hn hm hF
  by_cases h1 : n ≤ 50
  · by_cases h2 : m ≤ 50
    · have h1' : (n : Int) ≤ 50 := by omega
      have h2' : (m : Int) ≤ 50 := by omega
      go_enter Tryz.func5, Tryz.ntmps5
      go_wp2_with fail
      go_loopg [20] n (fun kx s20 wr => ∃ j : Nat, s20 = .int .i64 (j : Int) ∧ j ≤ n ∧ n - j ≤ kx ∧ Hid (Off [] (w.alloc (.cells #[.slice A n c, .slice B m c2] 25)) wr) ∧ Hid (∀ e, e ∈ rs.take j → gdC e = true))
      case atStart => exact ⟨0, rfl, Nat.zero_le _, by omega, Lib.hid (Off.refl [] _), Lib.hid (fun e he => by simp at he)⟩
      case round =>
        rename World => wr
        obtain ⟨j, rfl, hjn, hkx, HO, HG⟩ := hrel
        by_cases hlt : j < n
        · have hie : j < rs.length := by have := HN.out; omega
          have hat := (HAT.out.off HA.out (by simp)).off HO.out (by simp)
          obtain ⟨hA, hib⟩ := hat.at_ (by omega)
          obtain ⟨c0, c1, c2', c3⟩ := hat.cells j hie
          obtain ⟨ent, hent⟩ : ∃ ent, ent = rs[j] := ⟨_, rfl⟩
          rw [← hent] at c0 c1 c2' c3
          have HME := Lib.hid (show ent ∈ rs by rw [hent]; exact List.getElem_mem _)
          have HTK := Lib.hid (show rs.take (j + 1) = rs.take j ++ [ent] by rw [List.take_succ_eq_append_getElem hie, hent])
          have HT := Lib.hid fun W => tidy_off ent.ver ent.codec ent.code ent.dg W
          obtain ⟨T, hT⟩ : ∃ T, T = tidyB ent.ver ent.codec ent.code ent.dg.size := ⟨_, rfl⟩
          rw [← hT] at HT
          have HTT := Lib.hid hT
          clear hent hat hT
          subst hA
          by_cases hz : ent.dg.size ≤ 200
          · have hz2 : (ent.dg.size : Int) ≤ 200 := by omega
            have HZ := Lib.hid hz
            clear hz
            cases T
            · go_wp2_with (go_at_call 13; refine (HT.out _).mono ?_; rintro r w1 ⟨rfl, hb⟩; have HO1 := Lib.hid (Off.then (Off.alloc HO.out _) hb (fun x hx => by simp at hx)); clear hb)
              go_ret
              refine ⟨?_, HA.out.then HO1.out (fun x hx => by simp at hx)⟩
              rw [HF.out, wrB_c HME.out (by unfold gdC; rw [← HTT.out, Bool.and_false])]
              rfl
            · go_wp2_with (go_at_call 13; refine (HT.out _).mono ?_; rintro r w1 ⟨rfl, hb⟩; have HO1 := Lib.hid (Off.then (Off.alloc HO.out _) hb (fun x hx => by simp at hx)); clear hb)
              go_roundg (n - (j + 1))
              case measure => omega
              case rel =>
                refine ⟨j + 1, rfl, by omega, by omega, HO1, Lib.hid ?_⟩
                rw [HTK.out]
                intro e he
                rcases List.mem_append.1 he with he | he
                · exact HG.out e he
                · rw [List.mem_singleton.1 he]
                  unfold gdC
                  rw [← HTT.out, decide_eq_true HZ.out]; rfl
          · have hz2 : ¬ (ent.dg.size : Int) ≤ 200 := by omega
            have HZ := Lib.hid hz
            clear hz
            go_wp2_with fail
            go_ret
            refine ⟨?_, (HA.out.then HO.out (fun x hx => by simp at hx)).alloc _⟩
            rw [HF.out, wrB_c HME.out (by unfold gdC; rw [decide_eq_false HZ.out, Bool.false_and])]
            rfl
        · obtain rfl : j = n := by omega
          have k1 := (HO.out.blk HB.out (by simp)).cell 1
          simp at k1
          have HOA := Lib.hid (HA.out.then HO.out (fun x hx => by simp at hx))
          have HGR := Lib.hid (show ∀ e, e ∈ rs → gdC e = true from fun e he => HG.out e (by rw [List.take_of_length_le (by have := HN.out; omega)]; exact he))
          clear HG
          go_wp2_with fail
          go_loopg [37] m (fun kx s37 wq => ∃ i : Nat, s37 = .int .i64 (i : Int) ∧ i ≤ m ∧ m - i ≤ kx ∧ Hid (Off [] wr wq) ∧ Hid (∀ e, e ∈ bs.take i → gdK e = true))
          case atStart => exact ⟨0, rfl, Nat.zero_le _, by omega, Lib.hid (Off.refl [] _), Lib.hid (fun e he => by simp at he)⟩
          case round =>
            rename World => wq
            obtain ⟨i, rfl, him, hkm, HP, HG⟩ := hrel
            by_cases hlt2 : i < m
            · have hie : i < bs.length := by have := HM.out; omega
              have hat := (HBT.out.off HOA.out (by simp)).off HP.out (by simp)
              obtain ⟨hA, hib⟩ := hat.at_ (by omega)
              obtain ⟨c0, c1, c2', c3, c4⟩ := hat.cells i hie
              obtain ⟨bk, hbk⟩ : ∃ bk, bk = bs[i] := ⟨_, rfl⟩
              rw [← hbk] at c0 c1 c2' c3 c4
              have HME := Lib.hid (show bk ∈ bs by rw [hbk]; exact List.getElem_mem _)
              have HTK := Lib.hid (show bs.take (i + 1) = bs.take i ++ [bk] by rw [List.take_succ_eq_append_getElem hie, hbk])
              obtain ⟨ent, data⟩ := bk
              have HT := Lib.hid fun W => tidy_off ent.ver ent.codec ent.code ent.dg W
              obtain ⟨T, hT⟩ : ∃ T, T = tidyB ent.ver ent.codec ent.code ent.dg.size := ⟨_, rfl⟩
              rw [← hT] at HT
              have HTT := Lib.hid hT
              clear hbk hat hT
              subst hA
              by_cases hz : ent.dg.size ≤ 200
              · have hz2 : (ent.dg.size : Int) ≤ 200 := by omega
                have HZ := Lib.hid hz
                clear hz
                by_cases hy : data.size ≤ 32768
                · have hy2 : (data.size : Int) ≤ 32768 := by omega
                  have HY := Lib.hid hy
                  clear hy
                  cases T
                  · go_wp2_with (go_at_call 13; refine (HT.out _).mono ?_; rintro r w1 ⟨rfl, hb⟩; have HO1 := Lib.hid (Off.then (Off.alloc HP.out _) hb (fun x hx => by simp at hx)); clear hb)
                    go_ret
                    refine ⟨?_, HOA.out.then HO1.out (fun x hx => by simp at hx)⟩
                    rw [HF.out, wrB_k HME.out (by unfold gdK; rw [← HTT.out, Bool.and_false, Bool.and_false])]
                    rfl
                  · go_wp2_with (go_at_call 13; refine (HT.out _).mono ?_; rintro r w1 ⟨rfl, hb⟩; have HO1 := Lib.hid (Off.then (Off.alloc HP.out _) hb (fun x hx => by simp at hx)); clear hb)
                    go_roundg (m - (i + 1))
                    case measure => omega
                    case rel =>
                      refine ⟨i + 1, rfl, by omega, by omega, HO1, Lib.hid ?_⟩
                      rw [HTK.out]
                      intro e he
                      rcases List.mem_append.1 he with he | he
                      · exact HG.out e he
                      · rw [List.mem_singleton.1 he]
                        unfold gdK
                        rw [← HTT.out, decide_eq_true HZ.out, decide_eq_true HY.out]; rfl
                · have hy2 : ¬ (data.size : Int) ≤ 32768 := by omega
                  have HY := Lib.hid hy
                  clear hy
                  go_wp2_with fail
                  go_ret
                  refine ⟨?_, (HOA.out.then HP.out (fun x hx => by simp at hx)).alloc _⟩
                  rw [HF.out, wrB_k HME.out (by unfold gdK; rw [decide_eq_false HY.out, Bool.false_and, Bool.and_false])]
                  rfl
              · have hz2 : ¬ (ent.dg.size : Int) ≤ 200 := by omega
                have HZ := Lib.hid hz
                clear hz
                go_wp2_with fail
                go_ret
                refine ⟨?_, (HOA.out.then HP.out (fun x hx => by simp at hx)).alloc _⟩
                rw [HF.out, wrB_k HME.out (by unfold gdK; rw [decide_eq_false HZ.out, Bool.false_and])]
                rfl
            · obtain rfl : i = m := by omega
              go_wp2_with fail
              go_ret
              refine ⟨?_, HOA.out.then HP.out (fun x hx => by simp at hx)⟩
              have hl := HN.out
              have hl2 := HM.out
              have : wrB rs bs = true := by
                unfold wrB
                rw [decide_eq_true (by omega), decide_eq_true (by omega), List.all_eq_true.2 HGR.out, List.all_eq_true.2 fun e he => HG.out e (by rw [List.take_of_length_le (by omega)]; exact he)]
                rfl
              rw [HF.out, this]
              rfl
    · have h1' : (n : Int) ≤ 50 := by omega
      have h2' : ¬ (m : Int) ≤ 50 := by omega
      go_enter Tryz.func5, Tryz.ntmps5
      go_wp2_with fail
      go_ret
      refine ⟨?_, HA.out⟩
      have hl2 := HM.out
      have : wrB rs bs = false := by unfold wrB; rw [decide_eq_false (p := bs.length ≤ 50) (by omega), Bool.and_false, Bool.false_and]
      rw [HF.out, this]
      rfl
  · have h1' : ¬ (n : Int) ≤ 50 := by omega
    go_enter Tryz.func5, Tryz.ntmps5
    go_wp2_with fail
    go_ret
    refine ⟨?_, HA.out⟩
    have hl := HN.out
    have : wrB rs bs = false := by unfold wrB; rw [decide_eq_false (p := rs.length ≤ 50) (by omega), Bool.false_and, Bool.false_and]
    rw [HF.out, this]
    rfl
end Go.Proofs.YtkdbjocchponfaaGreatDoor
namespace Go.Proofs.YtkdbjocchponfaaGreatDoor
open Go.RowKit Go.Sort

theorem str_app (a b : List UInt8) : str a ++ str b = ⟨(a ++ b).toArray⟩ := by
  apply ByteArray.ext
  simp [str]

set_option maxRecDepth 100000 in
set_option maxHeartbeats 4000000 in
theorem indexBytes_of (kind : Nat) (es : List Ent) (A : Option Addr) (c n : Nat) (w : World) (hu : 0 < (Lib.uvarint kind).length) (hlen : ∀ s, Enc kind (rws es) s → s.length ≤ 2000000)
    (hV : ∀ W, Calls Tryz.prog 21 #[.int .u64 (kind : Int)] W fun r w' => ∃ v', r = .returned v' ∧ Row8 w' W.heap.size v' (Lib.uvarint kind) ∧ Off [] W w')
    (hB : ∀ W, Off [] w W → Calls Tryz.prog 22 #[.slice A n c, .int .u64 (kind : Int)] W fun r w' => ∃ l, r = .returned (.string (str l)) ∧ Enc kind (rws es) (Lib.uvarint kind ++ l) ∧ Off [] W w') :
    Calls Tryz.prog 10 #[.slice A n c, .int .u64 (kind : Int)] w fun r w' => ∃ s, Enc kind (rws es) s ∧ r = .returned (.string ⟨s.toArray⟩) ∧ Off [] w w' := by
  have HV := Lib.hid hV
  have HB := Lib.hid hB
  have HLEN := Lib.hid hlen
  have D0 : Hid (Off [] w w) := Lib.hid (Off.refl [] w)
  have D1 : Hid (Off [] w w.drew) := Lib.hid (Off.refl [] w).drew
  clear hV hB hlen
  go_enter Tryz.func10, Tryz.ntmps10
  go_wp2_with fail
  go_region_with (first
    | (go_at_call 22
       refine (HB.out _ P0.out).mono ?_
       rintro r w2 ⟨l, rfl, hl, ho2⟩
       obtain ⟨sl, hsl⟩ : ∃ sl, sl = str l := ⟨_, rfl⟩
       rw [← hsl]
       have hll : su.size + sl.size ≤ 2000000 := by
         have h1 := HLEN.out _ hl
         have h2 : su.size = (Lib.uvarint kind).length := by rw [HSU.out]; rfl
         have h3 : sl.size = l.length := by rw [hsl]; rfl
         rw [List.length_append] at h1
         omega
       have hz : ¬ ((9223372036854775807 : Int) < (su.size : Int) + (sl.size : Int)) := by omega
       have hcv3 : (convert 32 9 v1).run Tryz.prog w2 = .ok (.string su) w2 := by rw [HSU.out]; exact row8_conv (HR1.out.off ((Off.refl [] w1).then ho2 (fun x hx => by simp at hx)) (fun x _ => by simp)) hu
       have HL := Lib.hid hl
       have HSL := Lib.hid hsl
       have HO2 := Lib.hid (P0.out.then ho2 (fun x hx => by simp at hx))
       clear hl ho2 hsl hll)
    | (go_at_call 22
       refine (HB.out _ P1.out).mono ?_
       rintro r w2 ⟨l, rfl, hl, ho2⟩
       obtain ⟨sl, hsl⟩ : ∃ sl, sl = str l := ⟨_, rfl⟩
       rw [← hsl]
       have hll : su.size + sl.size ≤ 2000000 := by
         have h1 := HLEN.out _ hl
         have h2 : su.size = (Lib.uvarint kind).length := by rw [HSU.out]; rfl
         have h3 : sl.size = l.length := by rw [hsl]; rfl
         rw [List.length_append] at h1
         omega
       have hz : ¬ ((9223372036854775807 : Int) < (su.size : Int) + (sl.size : Int)) := by omega
       have hcv3 : (convert 32 9 v1).run Tryz.prog w2 = .ok (.string su) w2 := by rw [HSU.out]; exact row8_conv (HR1.out.off ((Off.refl [] w1).drew.then ho2 (fun x hx => by simp at hx)) (fun x _ => by simp)) hu
       have HL := Lib.hid hl
       have HSL := Lib.hid hsl
       have HO2 := Lib.hid (P1.out.then ho2 (fun x hx => by simp at hx))
       clear hl ho2 hsl hll)
    | (go_at_call 21
       refine (HV.out _).mono ?_
       rintro r w1 ⟨v1, rfl, hr1, ho1⟩
       obtain ⟨su, hsu⟩ : ∃ su, su = str (Lib.uvarint kind) := ⟨_, rfl⟩
       have hcv : (convert 32 9 v1).run Tryz.prog w1 = .ok (.string su) w1 := by rw [hsu]; exact row8_conv hr1 hu
       have hcv2 : (convert 32 9 v1).run Tryz.prog w1.drew = .ok (.string su) w1.drew := by rw [hsu]; exact row8_conv (hr1.off (Off.refl [] w1).drew (fun x _ => by simp)) hu
       have HR1 := Lib.hid hr1
       have HSU := Lib.hid hsu
       have P0 := Lib.hid (D1.out.then ho1 (fun x hx => by simp at hx))
       have P1 := Lib.hid (D1.out.then ho1 (fun x hx => by simp at hx)).drew
       clear hr1 ho1 hsu))
  all_goals go_wp2_with fail
  all_goals go_ret
  all_goals exact ⟨_, HL.out, by rw [← str_app, ← HSU.out, ← HSL.out]; rfl, by first | exact HO2.out | exact HO2.out.drew⟩

theorem indexBytes_any (kind : Nat) (hk : kind = 1024 ∨ kind = 1025) (es : List Ent) (A : Option Addr) (ib io c n : Nat) (w : World) (hes : ∀ e, e ∈ es → e.ok) (hn : es.length = n) (hn2 : n ≤ 100) (hA0 : A = none → n = 0 ∧ c = 0) (hat : EntsAt w A ib io es) :
    Calls Tryz.prog 10 #[.slice A n c, .int .u64 (kind : Int)] w fun r w' => ∃ s, Enc kind (rws es) s ∧ r = .returned (.string ⟨s.toArray⟩) ∧ Off [] w w' := by
  have hlen : ∀ s, Enc kind (rws es) s → s.length ≤ 2000000 := fun s h => h.len (by rw [rws, List.length_map]; omega) (fun r hr => (rws_small es hes r hr).2.1)
  rcases hk with rfl | rfl
  · exact indexBytes_of 1024 es A c n w (by rw [uv1024]; omega) hlen varint_1024 (fun W hW => indexBody_1024 es A ib io c n W hes hn hn2 hA0 (hat.off hW (by simp)))
  · exact indexBytes_of 1025 es A c n w (by rw [uv1025]; omega) hlen varint_1025 (fun W hW => indexBody_1025 es A ib io c n W hes hn hn2 hA0 (hat.off hW (by simp)))
end Go.Proofs.YtkdbjocchponfaaGreatDoor
namespace Go.Proofs.YtkdbjocchponfaaGreatDoor
open Go.RowKit

/-- One digest; in 0x0401 one hash function besides. -/
def sameP (kind : Nat) (a b : Ent) : Prop := a.dg = b.dg ∧ (kind = 1024 ∨ a.code = b.code)
def onceP (kind : Nat) (es : List Ent) : Prop := ∀ (p q : Nat) (hp : p < es.length) (hq : q < p), ¬ sameP kind es[p] (es[q]'(Nat.lt_trans hq hp))
noncomputable def onceB (kind : Nat) (es : List Ent) : Bool := @decide (onceP kind es) (Classical.propDecidable _)
theorem onceB_t {kind : Nat} {es : List Ent} (h : onceP kind es) : onceB kind es = true := @decide_eq_true _ (Classical.propDecidable _) h
theorem onceB_f {kind : Nat} {es : List Ent} (h : ¬ onceP kind es) : onceB kind es = false := @decide_eq_false _ (Classical.propDecidable _) h
theorem onceP_of {kind : Nat} {es : List Ent} (h : onceB kind es = true) : onceP kind es := @of_decide_eq_true _ (Classical.propDecidable _) h
theorem dg_ne {a b : ByteArray} (h : ¬ a = b) : ¬ a.toList = b.toList := fun k => h (by rw [ByteArray.toList_eq, ByteArray.toList_eq] at k; exact ByteArray.ext (Array.toList_inj.1 k))

def entA (e : Ent) : Array Value := #[.int .u64 (e.ver : Int), .int .u64 (e.codec : Int), .int .u64 (e.code : Int), .string e.dg, .int .u64 (e.off : Int)]

set_option maxRecDepth 100000 in
set_option maxHeartbeats 4000000 in
theorem once_any (es : List Ent) (A : Option Addr) (ib io c n kind : Nat) (w : World) (hn : es.length = n) (hn2 : n ≤ 1000) (hnc : n ≤ c) (hat : EntsAt w A ib io es) :
    Calls Tryz.prog 7 #[.slice A n c, .int .u64 (kind : Int)] w fun r w' => r = .returned (.bool (onceB kind es)) ∧ Off [] w w' := by
  have HN := Lib.hid hn
  have HAT := Lib.hid hat
  obtain ⟨BV, hbv⟩ : ∃ BV, BV = onceB kind es := ⟨_, rfl⟩
  rw [← hbv]
  have HBV := Lib.hid hbv
  clear hn hat hbv
  go_enter Tryz.func7, Tryz.ntmps7
  go_wp2_with fail
  go_loopg [11] n (fun kx s11 wr => ∃ i : Nat, s11 = .int .i64 (i : Int) ∧ i ≤ n ∧ n - i ≤ kx ∧ Hid (Off [] w wr ∧ ∀ (p q : Nat) (hp : p < es.length) (hq : q < p), p < i → ¬ sameP kind es[p] (es[q]'(Nat.lt_trans hq hp))))
  case atStart => exact ⟨0, rfl, Nat.zero_le _, by omega, Lib.hid ⟨Off.refl _ _, fun p q hp hq h => by omega⟩⟩
  case round =>
    rename World => wr
    obtain ⟨i, rfl, hin, hkx, hh⟩ := hrel
    by_cases hlt : i < n
    · have hie : i < es.length := by have := HN.out; omega
      have hat := HAT.out.off hh.out.1 (by simp)
      obtain ⟨hA, hib⟩ := hat.at_ (by omega)
      obtain ⟨c0, c1, c2, c3, c4⟩ := hat.cells i hie
      obtain ⟨ea, hea⟩ : ∃ ea, ea = es[i] := ⟨_, rfl⟩
      rw [← hea] at c0 c1 c2 c3 c4
      have HEA := Lib.hid (show ∃ h : i < es.length, ea = es[i] from ⟨hie, hea⟩)
      clear hat hea hie
      subst hA
      have hii : (i : Int) ≤ (c : Int) := by omega
      go_wp2_with fail
      obtain ⟨w1, hw1⟩ : ∃ w1, w1 = wr.alloc (.cells #[.int .u64 (ea.ver : Int), .int .u64 (ea.codec : Int), .int .u64 (ea.code : Int), .string ea.dg, .int .u64 (ea.off : Int)] 49) := ⟨_, rfl⟩
      have HOA : Hid (Off [] w w1) := Lib.hid (by rw [hw1]; exact hh.out.1.alloc _)
      have HBA : Hid (Blk w1 wr.heap.size 49 (entA ea)) := Lib.hid (by rw [hw1]; exact Blk.new _ _ _)
      rw [← hw1]
      have hzz : wr.heap.size < w1.heap.size := HBA.out.lt
      clear c0 c1 c2 c3 c4 hw1 hii
      go_loopg [20] i (fun kx s20 wr => ∃ j : Nat, s20 = .int .i64 (j : Int) ∧ j ≤ i ∧ i - j ≤ kx ∧ Hid (Off [] w1 wr ∧ ∀ (q : Nat) (hq : q < es.length), q < j → ¬ sameP kind ea es[q]))
      case atStart => exact ⟨0, rfl, Nat.zero_le _, by omega, Lib.hid ⟨Off.refl _ _, fun q hq h => by omega⟩⟩
      case round =>
        rename World => wp
        obtain ⟨j, rfl, hji, hkx2, hh2⟩ := hrel
        by_cases hlt2 : j < i
        · have hje : j < es.length := by have := HN.out; omega
          have hat := (HAT.out.off HOA.out (by simp)).off hh2.out.1 (by simp)
          obtain ⟨_, hib2⟩ := hat.at_ (by omega)
          obtain ⟨c0, c1, c2, c3, c4⟩ := hat.cells j hje
          obtain ⟨eb, heb⟩ : ∃ eb, eb = es[j] := ⟨_, rfl⟩
          rw [← heb] at c0 c1 c2 c3 c4
          have HEB := Lib.hid (show ∃ h : j < es.length, eb = es[j] from ⟨hje, heb⟩)
          have hba := HBA.out.off hh2.out.1 (by simp)
          have hbb := hba.alloc (.cells #[.int .u64 (eb.ver : Int), .int .u64 (eb.codec : Int), .int .u64 (eb.code : Int), .string eb.dg, .int .u64 (eb.off : Int)] 49)
          have a2 : (wp.alloc (.cells #[.int .u64 (eb.ver : Int), .int .u64 (eb.codec : Int), .int .u64 (eb.code : Int), .string eb.dg, .int .u64 (eb.off : Int)] 49)).cell? ⟨wr.heap.size, 2, none⟩ = some (.int .u64 (ea.code : Int)) := hbb.cell 2
          have a3 : (wp.alloc (.cells #[.int .u64 (eb.ver : Int), .int .u64 (eb.codec : Int), .int .u64 (eb.code : Int), .string eb.dg, .int .u64 (eb.off : Int)] 49)).cell? ⟨wr.heap.size, 3, none⟩ = some (.string ea.dg) := hbb.cell 3
          clear hat heb hje hba hbb
          have next : ¬ sameP kind ea eb → Hid (Off [] w1 (wp.alloc (.cells #[.int .u64 (eb.ver : Int), .int .u64 (eb.codec : Int), .int .u64 (eb.code : Int), .string eb.dg, .int .u64 (eb.off : Int)] 49)) ∧ ∀ (q : Nat) (hq : q < es.length), q < j + 1 → ¬ sameP kind ea es[q]) := fun hs => Lib.hid ⟨hh2.out.1.alloc _, fun q hq hqj => by
            by_cases hq2 : q = j
            · obtain ⟨h1, h2⟩ := HEB.out
              subst hq2
              rw [← h2]; exact hs
            · exact hh2.out.2 q hq (by omega)⟩
          have NEXT := Lib.hid next
          have BAD : Hid (sameP kind ea eb → BV = false) := Lib.hid (fun hs => by
            rw [HBV.out]
            obtain ⟨h1, h2⟩ := HEB.out
            obtain ⟨h3, h4⟩ := HEA.out
            exact onceB_f (fun h => h i j h3 hlt2 (by rw [← h2, ← h4]; exact hs)))
          clear next
          by_cases hdg : ea.dg = eb.dg
          · have hdt : ea.dg.toList = eb.dg.toList := by rw [hdg]
            have HDG := Lib.hid hdg
            clear hdg
            by_cases hk : kind = 1024
            · have hkz : (kind : Int) = 1024 := by omega
              have HK := Lib.hid hk
              clear hk
              go_wp2_with fail
              go_ret
              exact ⟨by rw [BAD.out ⟨HDG.out, Or.inl HK.out⟩]; rfl, HOA.out.then (hh2.out.1.alloc _) (fun x hx => Or.inl hx)⟩
            · have hkz : ((kind : Int) == 1024) = false := beq_eq_false_iff_ne.2 (by omega)
              have HK := Lib.hid hk
              clear hk
              by_cases hcd : ea.code = eb.code
              · have hcz : ((ea.code : Int) == (eb.code : Int)) = true := beq_iff_eq.2 (by omega)
                have HC := Lib.hid hcd
                clear hcd
                go_wp2_with fail
                go_ret
                exact ⟨by rw [BAD.out ⟨HDG.out, Or.inr HC.out⟩]; rfl, HOA.out.then (hh2.out.1.alloc _) (fun x hx => Or.inl hx)⟩
              · have hcz : ((ea.code : Int) == (eb.code : Int)) = false := beq_eq_false_iff_ne.2 (by omega)
                have HC := Lib.hid hcd
                clear hcd
                go_wp2_with fail
                go_roundg (i - (j + 1))
                case measure => omega
                case rel => exact ⟨j + 1, rfl, by omega, by omega, NEXT.out (fun h => h.2.elim HK.out HC.out)⟩
          · have hdt : ¬ ea.dg.toList = eb.dg.toList := dg_ne hdg
            have HDG := Lib.hid hdg
            clear hdg
            go_wp2_with fail
            go_roundg (i - (j + 1))
            case measure => omega
            case rel => exact ⟨j + 1, rfl, by omega, by omega, NEXT.out (fun h => HDG.out h.1)⟩
        · obtain rfl : j = i := by omega
          clear hlt2 hkx2
          go_wp2_with fail
          go_roundg (n - (j + 1))
          case measure => omega
          case rel =>
            refine ⟨j + 1, rfl, by omega, by omega, Lib.hid ⟨HOA.out.then hh2.out.1 (fun x hx => Or.inl hx), fun p q hp hq hpj => ?_⟩⟩
            by_cases hpe : p = j
            · subst hpe
              obtain ⟨h3, h4⟩ := HEA.out
              rw [← h4]
              exact hh2.out.2 q (by omega) hq
            · exact hh.out.2 p q hp hq (by omega)
    · obtain rfl : n = i := by omega
      go_wp2_with fail
      go_ret
      obtain ⟨h1, h2⟩ := hh.out
      exact ⟨by rw [HBV.out, onceB_t (fun p q hp hq => h2 p q hp hq (by have := HN.out; omega))]; rfl, h1⟩
end Go.Proofs.YtkdbjocchponfaaGreatDoor
