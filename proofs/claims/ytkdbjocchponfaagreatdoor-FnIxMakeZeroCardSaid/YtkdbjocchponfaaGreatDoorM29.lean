/-
  spec.Codes: the hash functions of entries, each once, the least first.
  DERIVED: THE SHELF's CONTRACTS AT THIS DUMP, IN PLAIN WORDS (tools/lay-plain.mjs out of 'TryzShelf.lean', which tools/lay-shelf.mjs wrote): THE SAME DECLARATIONS UNDER THE SAME NAMES: 'import', 'namespace', 'open', 'def', 'theorem' AND NOTHING ELSE: no command of the shelf's: FOR A HAND-IN. Each laying: the table of numbers ('.._ren') and one theorem, a field a fact of the dump's own or the kernel's comparison; each contract: ONE APPLICATION.
  spec.Widths: the lengths of entries' digests, each once, the least first.
  (No condition beyond those that each theorem states.)
-/
import Derived.Test.YtkdbjocchponfaaGreatDoorM28
import Derived.Test.YtkdbjocchponfaaGreatDoorM07
import Derived.Shelf.Sort.Plain
import Derived.Shelf.Slices.In.SortNone2
import Derived.Test.YtkdbjocchponfaaGreatDoorProg
namespace Go.Proofs.YtkdbjocchponfaaGreatDoor
open Go.RowKit

theorem zeroBool (w : World) : (zeroValue 4).run Tryz.prog w = .ok (.bool false) w := by kernel_rfl
set_option maxRecDepth 100000 in
set_option maxHeartbeats 4000000 in
theorem codes_any (es : List Ent) (A : Option Addr) (ib io c n : Nat) (w : World) (hn : es.length = n) (hn2 : n ≤ 1000) (hcode : ∀ e, e ∈ es → e.code < 18446744073709551616) (hat : EntsAt w A ib io es) :
    Calls Tryz.prog 46 #[.slice A n c] w fun r w' => ∃ v outs, r = .returned v ∧ outs.Nodup ∧ (∀ k, k ∈ outs ↔ ∃ e, e ∈ es ∧ e.code = k) ∧ SrtRow w' v outs ∧ Off [] w w' := by
  obtain ⟨i0, hi, hz0, hz1, hz2⟩ := info_parts Tryz.infoU64
  have hmm := @run_makeMap Tryz.prog
  obtain ⟨wA, hwA⟩ : ∃ wA, wA = (w.alloc (.cells #[.slice none 0 0] 92)).alloc (.map #[] 0) := ⟨_, rfl⟩
  have hoA : Off [] w wA := by rw [hwA]; exact ((Off.refl [] w).alloc _).alloc _
  have hbA : Blk wA w.heap.size 92 #[.slice none 0 0] := by rw [hwA]; exact (Blk.new w _ _).alloc _
  have hmA : MpN Tryz.prog 30 .u64 wA (w.heap.size + 1) 0 [] (fun _ => .bool true) := by
    rw [hwA]
    have h := Mp.made (w.alloc (.cells #[.slice none 0 0] 92)) Tryz.prog 30 .u64 (fun _ => .bool true)
    simpa [MpN, ints] using h
  have hzA : wA.heap.size = w.heap.size + 2 := by rw [hwA]; simp
  have HAT := Lib.hid (hat.off hoA (by simp))
  have HIB := Lib.hid (fun h0 : 0 < es.length => (hat.at_ h0).2)
  have HOA := Lib.hid hoA
  have HBA := Lib.hid hbA
  have HMA := Lib.hid hmA
  have HN := Lib.hid hn
  have HWA := Lib.hid hwA
  have HZA := Lib.hid hzA
  have HCO := Lib.hid hcode
  clear hoA hbA hmA hat hn hwA hzA hcode
  go_enter Tryz.func46, Tryz.ntmps46
  go_wp2_with fail
  go_loopg [10] n (fun kx s10 wr => ∃ j : Nat, s10 = .int .i64 (j : Int) ∧ j ≤ n ∧ n - j ≤ kx ∧ Hid (∃ outs v, outs.Nodup ∧ (∀ k, k ∈ outs ↔ ∃ e, e ∈ es.take j ∧ e.code = k) ∧ outs.length ≤ j ∧ Off [w.heap.size, w.heap.size + 1] wA wr ∧ Blk wr w.heap.size 92 #[v] ∧ OutRow wA wr v outs ∧ MpN Tryz.prog 30 .u64 wr (w.heap.size + 1) outs.length outs (fun _ => .bool true)))
  case atStart => exact ⟨0, rfl, Nat.zero_le _, by omega, Lib.hid (by rw [← HWA.out]; exact ⟨[], _, List.nodup_nil, fun k => by simp, by simp, Off.refl _ _, HBA.out, Or.inl ⟨rfl, rfl⟩, HMA.out⟩)⟩
  case round =>
    rename World => wr
    obtain ⟨j, rfl, hjn, hkx, hh⟩ := hrel
    by_cases hlt : j < n
    · obtain ⟨outs, v, hnd, hmem, hlen, hO, hB, hR, hM⟩ := hh.out
      have hie : j < es.length := by have := HN.out; omega
      have hat := HAT.out.off hO (fun h0 => by have := HIB.out h0; exact ni2 (by omega) (by omega))
      obtain ⟨hA, hib⟩ := hat.at_ (by omega)
      obtain ⟨c0, c1, c2, c3, c4⟩ := hat.cells j hie
      obtain ⟨ent, hent⟩ : ∃ ent, ent = es[j] := ⟨_, rfl⟩
      rw [← hent] at c0 c1 c2 c3 c4
      have hwf : (Lit.int .u64 (ent.code : Int)).wf = true := WalkArith.wf_u64 (by have := HCO.out ent (by rw [hent]; exact List.getElem_mem _); omega)
      have HTK := Lib.hid (show es.take (j + 1) = es.take j ++ [ent] by rw [List.take_succ_eq_append_getElem hie, hent])
      have hoE : Off [] wr (wr.alloc (.cells #[.int .u64 (ent.ver : Int), .int .u64 (ent.codec : Int), .int .u64 (ent.code : Int), .string ent.dg, .int .u64 (ent.off : Int)] 49)) := Off.alloc (Off.refl [] wr) _
      have hmE := Mp.off hM hoE (by simp)
      have hl := (Mp.look hmE Tryz.underlying30 Tryz.underlying145 (zeroBool _) (ent.code : Int) hwf).2
      have HH := Lib.hid (And.intro hnd (And.intro hmem (And.intro hlen (And.intro hO (And.intro hB hR)))))
      have HME := Lib.hid hmE
      have hzw := hO.size
      subst hA
      clear hat hent hnd hmem hB hR hM hoE hmE hh
      by_cases hin : ent.code ∈ outs
      · rw [if_pos (mem_mapN.2 hin)] at hl
        have HIN := Lib.hid hin
        clear hin hO
        go_wp2_with fail
        go_roundg (n - (j + 1))
        case measure => omega
        case rel =>
          obtain ⟨hnd, hmem, hlen, hO, hB, hR⟩ := HH.out
          refine ⟨j + 1, rfl, by omega, by omega, Lib.hid ⟨outs, v, hnd, fun k => ?_, by omega, hO.alloc _, hB.alloc _, hR.off (Off.alloc (Off.refl [] wr) _) (fun x hx => by simp at hx), HME.out⟩⟩
          rw [hmem k, HTK.out]
          constructor
          · rintro ⟨x, hx, hk⟩; exact ⟨x, by simp [hx], hk⟩
          · rintro ⟨x, hx, hk⟩
            rcases List.mem_append.1 hx with hx | hx
            · exact ⟨x, hx, hk⟩
            · rw [List.mem_singleton.1 hx] at hk
              rw [← hk]
              exact (hmem _).1 HIN.out
      · rw [if_neg (fun h => hin (mem_mapN.1 h))] at hl
        have HIN := Lib.hid hin
        clear hin hO
        obtain ⟨hnd, hmem, hlen, hO', hB, hR⟩ := HH.out
        obtain ⟨m, hm⟩ : ∃ m, m = outs.length := ⟨_, rfl⟩
        obtain ⟨A', cap, hvA⟩ : ∃ A' cap, v = .slice A' m cap := by
          rcases hR with ⟨h1, h2⟩ | ⟨g, cap, sp, h2, _⟩
          · exact ⟨none, 0, by rw [hm, h1, h2]; rfl⟩
          · exact ⟨_, cap, by rw [hm]; exact h2⟩
        subst hvA
        have hbE := hB.alloc (.cells #[.int .u64 (ent.ver : Int), .int .u64 (ent.codec : Int), .int .u64 (ent.code : Int), .string ent.dg, .int .u64 (ent.off : Int)] 49)
        have hcE := (Blk.new wr 49 #[.int .u64 (ent.ver : Int), .int .u64 (ent.codec : Int), .int .u64 (ent.code : Int), .string ent.dg, .int .u64 (ent.off : Int)])
        have HBE := Lib.hid hbE
        have HCE := Lib.hid hcE
        have HM := Lib.hid hm
        have HR := Lib.hid hR
        have HXL := Lib.hid (show ((ints outs).map (Value.int .u64)).length = m * 1 by simp [ints, hm])
        have hm1000 : m ≤ 1000 := by omega
        have hoE : Off [] wr (wr.alloc (.cells #[.int .u64 (ent.ver : Int), .int .u64 (ent.codec : Int), .int .u64 (ent.code : Int), .string ent.dg, .int .u64 (ent.off : Int)] 49)) := Off.alloc (Off.refl [] wr) _
        have HOE := Lib.hid hoE
        have hne1 : wr.heap.size ≠ w.heap.size + 1 := by have := HZA.out; omega
        have hzz := HZA.out
        clear hnd hmem hlen hO' hB hR hm hbE hcE hoE
        go_wp2_with (first
          | (at_mapUpdate
             refine wpList_mapUpdate_mp rfl _ _ _ 145 rfl Tryz.underlying30 Tryz.underlying145 HME.out rfl (by rw [← HM.out]; unfold maxLen; omega) (ent.code : Int) rfl hwf (.bool true) rfl ?_
             intro w6 hm6 ho6 hs6
             have hb6 := HBE.out.off ho6.out (ni1 (by omega))
             have b6 : w6.cell? ⟨w.heap.size, 0, none⟩ = some (.slice A' m cap) := hb6.cell 0
             have hc6 := HCE.out.off ho6.out (ni1 hne1)
             have e6 : w6.cell? ⟨wr.heap.size, 2, none⟩ = some (.int .u64 (ent.code : Int)) := hc6.cell 2
             have HB6 := Lib.hid hb6
             have HS6 := Lib.hid hs6
             have HOWN := Lib.hid (((HR.out.off (HOE.out.mono (S' := [w.heap.size + 1]) (fun x hx => by simp at hx)) (fun x hx => by simp at hx; omega)).off ho6.out (fun x hx => by simp at hx; omega)).off (Off.alloc (Off.refl [] w6) (.cells #[.int .u64 (ent.code : Int)] 30)) (fun x hx => by simp at hx)).owns
             clear hb6 hc6 hs6 hl)
          | (at_builtin
             refine wpList_append_blk rfl _ _ 92 rfl 30 i0 _ 1 8 Tryz.underlying92 hi hz0 hz1 hz2 rfl (by decide) (.slice A' m cap) m ((ints outs).map (Value.int .u64)) HXL.out rfl (by have h := HOWN.out; rw [← HM.out] at h; exact h) ⟨w6.heap.size, 0, none⟩ 1 [.int .u64 (ent.code : Int)] rfl rfl (news_alloc _ _ _) (oneInt _ _) (by unfold maxLen; omega) (by omega) ?_
             intro g' cap' sp' w7 hb7 q1 q2 q3 hg7 ho7 hown7
             have ho7' := ho7.out (Value.slice A' m cap).ownBlock.toList (fun g hg => by simp [hg])
             have hvs : ∀ y, y ∈ (Value.slice A' m cap).ownBlock.toList → wA.heap.size ≤ y := fun y hy => HR.out.own y (by simpa using hy)
             have hob7 := (HB6.out.alloc (.cells #[.int .u64 (ent.code : Int)] 30)).off ho7' (fun hx => by have := hvs _ hx; omega)
             have f7 := hob7.frozen 0
             have d7 : w7.cell? ⟨w.heap.size, 0, none⟩ = some (.slice A' m cap) := hob7.cell 0
             have HO7 := Lib.hid ((Off.alloc (Off.refl (Value.slice A' m cap).ownBlock.toList w6) (.cells #[.int .u64 (ent.code : Int)] 30)).then ho7' (fun x hx => Or.inl hx))
             have HOB := Lib.hid hob7; have HQ3 := Lib.hid q3; have HG7 := Lib.hid hg7
             have HVS := Lib.hid hvs
             clear hob7 q3 hg7 hown7 ho7' hvs))
        go_roundg (n - (j + 1))
        case measure => omega
        case rel =>
          obtain ⟨hnd, hmem, hlen, hO, hB, hR⟩ := HH.out
          have hzr := hO.size
          have hz6 : w6.heap.size = wr.heap.size + 1 := by rw [HS6.out]; simp
          have hg : wA.heap.size ≤ g' := by
            rcases HG7.out with h | h
            · exact HR.out.own g' h
            · rw [h]; simp; omega
          have hO8 : Off [w.heap.size] w7 (w7.setCell ⟨w.heap.size, 0, none⟩ (.slice (some ⟨g', 0, none⟩) (m + 1) cap')) := (Off.refl [w.heap.size] w7).setCell (p := ⟨w.heap.size, 0, none⟩) (Or.inl (by simp)) _
          have hl1 : (outs ++ [ent.code]).length = m + 1 := by rw [List.length_append, ← HM.out]; rfl
          have hO67 : Off [w.heap.size, w.heap.size + 1] wA w7 := ((hO.then HOE.out (fun x hx => by simp at hx)).then ho6.out (fun x hx => by simp at hx; simp [hx])).then HO7.out (fun x hx => Or.inr (HVS.out x hx))
          have hst := MpN.stored (m := ent.code) (K := outs) (V := fun _ => .bool true) hm6.out
          rw [if_neg HIN.out] at hst
          have hst2 : MpN Tryz.prog 30 .u64 w6 (w.heap.size + 1) (m + 1) (outs ++ [ent.code]) (fun _ => .bool true) := by
            rw [HM.out]
            exact Mp.congr hst (fun x _ => by simp)
          refine ⟨j + 1, rfl, by omega, by omega, Lib.hid ⟨outs ++ [ent.code], .slice (some ⟨g', 0, none⟩) (m + 1) cap', ?_, fun k => ?_, by rw [hl1]; have := HM.out; omega, hO67.then hO8 (fun x hx => by simp at hx; simp [hx]), HOB.out.set_ 0 _, Or.inr ⟨g', cap', sp', by rw [hl1], hg, ?_, by rw [hl1]; exact HQ3.out, by rw [hl1]; exact q1, q2⟩, ?_⟩⟩
          · exact List.nodup_append.2 ⟨hnd, by simp, fun a ha b hb => by simp at hb; subst hb; exact fun h => HIN.out (h ▸ ha)⟩
          · rw [HTK.out, List.mem_append, hmem k]
            constructor
            · rintro (⟨x, hx, hk⟩ | hk)
              · exact ⟨x, by simp [hx], hk⟩
              · exact ⟨ent, by simp, (List.mem_singleton.1 hk).symm⟩
            · rintro ⟨x, hx, hk⟩
              rcases List.mem_append.1 hx with hx | hx
              · exact Or.inl ⟨x, hx, hk⟩
              · rw [List.mem_singleton.1 hx] at hk
                exact Or.inr (by simp [hk])
          · have h1 := hb7.out.off hO8 (ni1 (by omega))
            simpa [ints] using h1
          · rw [hl1]
            exact Mp.off (Mp.off hst2 HO7.out (fun hx => by have := HVS.out _ hx; omega)) hO8 (ni1 (by omega))
    · obtain rfl : n = j := by omega
      obtain ⟨outs, v, hnd, hmem, hlen, hO, hB, hR, hM⟩ := hh.out
      rw [List.take_of_length_le (by have := HN.out; omega)] at hmem
      have HND := Lib.hid hnd
      have HMEM := Lib.hid hmem
      have HO2 := Lib.hid hO
      have hzz := HZA.out
      rcases hR with ⟨h1, h2⟩ | ⟨g, cap, sp, h2, hg, hbg, h5, h6, h7⟩
      · subst h1 h2
        have b0 := hB.cell 0
        simp at b0
        have ST := Lib.hid fun W => sortTinyC none 0 0 w.heap.size (by omega) W
        clear hO hB hh hM hlt hkx hnd hmem hlen
        go_wp2_with (first
          | (go_at_call 74
             refine (ST.out _).mono ?_
             rintro r w3 ⟨rfl, os, rfl⟩
             have ho3 := off_grow wr os
             have b3 := ho3.cellS b0 (by simp)
             have HO3 := Lib.hid ho3
             clear ho3))
        go_ret
        exact ⟨_, [], rfl, HND.out, HMEM.out, Or.inl ⟨rfl, rfl⟩, HOA.out.then ((HO2.out.mono (S' := [w.heap.size, w.heap.size + 1]) (fun x hx => Or.inl hx)).then HO3.out (fun x hx => by simp at hx)) (fun x hx => by simp at hx; right; omega)⟩
      · subst h2
        obtain ⟨m, hm⟩ : ∃ m, m = outs.length := ⟨_, rfl⟩
        rw [← hm] at hB hlen
        have hne : w.heap.size ≠ g := by omega
        have b0 := hB.cell 0
        simp at b0
        have ST := Lib.hid (sortAllC g cap w.heap.size m (ints outs) sp (by rw [ints, List.length_map, hm]) (by omega) wr hbg hB hne)
        have HMQ := Lib.hid hm
        have HGL := Lib.hid hbg.lt
        have HG := Lib.hid hg
        clear hO hB hh hM hlt hkx hnd hmem hlen hm hg hbg h5 h6 h7
        go_wp2_with (first
          | (go_at_call 74
             refine ST.out.mono ?_
             rintro r w3 ⟨rfl, ho3, hc3⟩
             have b3 := ho3.cellS b0 (ni1 hne)
             have HO3 := Lib.hid ho3
             have HC3 := Lib.hid hc3
             clear ho3 hc3))
        go_ret
        refine ⟨_, outs, rfl, HND.out, HMEM.out, Or.inr ⟨some ⟨g, 0, none⟩, cap, by rw [← HMQ.out]; rfl, g, 0, rfl, Nat.lt_of_lt_of_le HGL.out HO3.out.size, fun j hj => ?_⟩, ?_⟩
        · rw [Nat.zero_add]; exact HC3.out j hj
        · exact HOA.out.then ((HO2.out.mono (S' := [w.heap.size, w.heap.size + 1, g]) (fun x hx => by simp at hx; left; rcases hx with h | h <;> simp [h])).then HO3.out (fun x hx => by simp at hx; simp [hx])) (fun x hx => by have := HG.out; simp at hx; right; omega)
end Go.Proofs.YtkdbjocchponfaaGreatDoor
namespace Go.Proofs
open Go.Shelf
open Go.Sort Go.RowKit in
def Tryz.lays191_ren : Go.Shelf.Ren := ⟨fun | 191 => 87 | 189 => 102 | 125 => 93 | 257 => 135 | 128 => 113 | 129 => 114 | 294 => 145 | 295 => 146 | 296 => 147 | 297 => 148 | 298 => 149 | 299 => 150 | 216 => 151 | 300 => 152 | 301 => 153 | 328 => 165 | 329 => 166 | 330 => 167 | 331 => 168 | 332 => 169 | 215 => 170 | 343 => 181 | n => n, fun | 28 => 46 | 0 => 0 | 3 => 3 | 46 => 90 | 51 => 233 | 53 => 30 | 4 => 4 | 183 => 284 | 182 => 283 | 131 => 241 | 5 => 5 | 9 => 9 | 218 => 303 | 222 => 263 | 228 => 319 | 229 => 290 | n => n, fun | n => n⟩
theorem Tryz.lays191 : Go.Proofs.Lays.n191 Tryz.prog Tryz.lays191_ren := {
  mixed := by kernel_rfl
  f125 := Tryz.func93.trans (congrArg some (by kernel_rfl))
  f128 := Tryz.func113.trans (congrArg some (by kernel_rfl))
  f129 := Tryz.func114.trans (congrArg some (by kernel_rfl))
  f189 := Tryz.func102.trans (congrArg some (by kernel_rfl))
  f191 := Tryz.func87.trans (congrArg some (by kernel_rfl))
  f215 := Tryz.func170.trans (congrArg some (by kernel_rfl))
  f216 := Tryz.func151.trans (congrArg some (by kernel_rfl))
  f257 := Tryz.func135.trans (congrArg some (by kernel_rfl))
  f294 := Tryz.func145.trans (congrArg some (by kernel_rfl))
  f295 := Tryz.func146.trans (congrArg some (by kernel_rfl))
  f296 := Tryz.func147.trans (congrArg some (by kernel_rfl))
  f297 := Tryz.func148.trans (congrArg some (by kernel_rfl))
  f298 := Tryz.func149.trans (congrArg some (by kernel_rfl))
  f299 := Tryz.func150.trans (congrArg some (by kernel_rfl))
  f300 := Tryz.func152.trans (congrArg some (by kernel_rfl))
  f301 := Tryz.func153.trans (congrArg some (by kernel_rfl))
  f328 := Tryz.func165.trans (congrArg some (by kernel_rfl))
  f329 := Tryz.func166.trans (congrArg some (by kernel_rfl))
  f330 := Tryz.func167.trans (congrArg some (by kernel_rfl))
  f331 := Tryz.func168.trans (congrArg some (by kernel_rfl))
  f332 := Tryz.func169.trans (congrArg some (by kernel_rfl))
  f343 := Tryz.func181.trans (congrArg some (by kernel_rfl))
  t0 := Tryz.underlying0
  a0 := Tryz.isAgg0
  z0 := Tryz.sizeOf0
  v0 := Tryz.zeroValue0
  t3 := Tryz.underlying3
  a3 := Tryz.isAgg3
  z3 := Tryz.sizeOf3
  v3 := Tryz.zeroValue3
  t4 := Tryz.underlying4
  a4 := Tryz.isAgg4
  z4 := Tryz.sizeOf4
  v4 := Tryz.zeroValue4
  t5 := Tryz.underlying5
  a5 := Tryz.isAgg5
  z5 := Tryz.sizeOf5
  v5 := Tryz.zeroValue5
  t9 := Tryz.underlying9
  a9 := Tryz.isAgg9
  z9 := Tryz.sizeOf9
  v9 := Tryz.zeroValue9
  t28 := Tryz.underlying46
  a28 := Tryz.isAgg46
  z28 := Tryz.sizeOf46
  v28 := Tryz.zeroValue46
  t46 := Tryz.underlying90
  a46 := Tryz.isAgg90
  z46 := Tryz.sizeOf90
  v46 := Tryz.zeroValue90
  t51 := Tryz.underlying233
  a51 := Tryz.isAgg233
  z51 := Tryz.sizeOf233
  v51 := Tryz.zeroValue233
  t53 := Tryz.underlying30
  a53 := Tryz.isAgg30
  z53 := Tryz.sizeOf30
  v53 := Tryz.zeroValue30
  t131 := Tryz.underlying241
  a131 := Tryz.isAgg241
  z131 := Tryz.sizeOf241
  v131 := Tryz.zeroValue241
  t182 := Tryz.underlying283
  a182 := Tryz.isAgg283
  z182 := Tryz.sizeOf283
  v182 := Tryz.zeroValue283
  t183 := Tryz.underlying284
  a183 := Tryz.isAgg284
  z183 := Tryz.sizeOf284
  v183 := Tryz.zeroValue284
  t218 := Tryz.underlying303
  a218 := Tryz.isAgg303
  z218 := Tryz.sizeOf303
  v218 := Tryz.zeroValue303
  t222 := Tryz.underlying263
  a222 := Tryz.isAgg263
  z222 := Tryz.sizeOf263
  v222 := Tryz.zeroValue263
  t228 := Tryz.underlying319
  a228 := Tryz.isAgg319
  z228 := Tryz.sizeOf319
  v228 := Tryz.zeroValue319
  t229 := Tryz.underlying290
  a229 := Tryz.isAgg290
  z229 := Tryz.sizeOf290
  v229 := Tryz.zeroValue290 }
open Go.Sort Go.RowKit in
theorem Tryz.sort_Ints (blk off cap : Nat) (zs : List Int) (w : World) (hH : Holds (Value.int .i64) w blk off zs.toArray) (hblk : blk < w.heap.size) (hsz : zs.length < 4611686018427387904) :
    Calls Tryz.prog 87 #[.slice (some ⟨blk, off, none⟩) zs.length cap] w fun e w' =>
      e = .returned (.tuple #[]) ∧ ∃ n os, w' = grow (putRow (Value.int .i64) (Sort.ahead w n) blk off (zs.mergeSort fun x y => decide (x ≤ y)).toArray) os := Any.sort_Ints Tryz.lays191 blk off cap zs w hH hblk hsz
open Go.RowKit Go.Sort in
/-- .. and plain. (LAID: no walk: one application.) -/
theorem Tryz.sort_Ints_none (p : Option Addr) (cap : Nat) (w : World) :
    Calls Tryz.prog 87 #[.slice p 0 cap] w fun e w' => e = .returned (.tuple #[]) ∧ w' = w := Any.sort_Ints_none Tryz.lays191 p cap w
end Go.Proofs
namespace Go.Proofs.YtkdbjocchponfaaGreatDoor
open Go.RowKit Go.Sort

/-- A row of ints, the least first; none at all: nil. -/
def SrtRowI (w : World) (B : Nat) (v : Value) (outs : List Nat) : Prop := (outs = [] ∧ v = .slice none 0 0) ∨ ∃ b c, v = .slice (some ⟨b, 0, none⟩) outs.length c ∧ b < w.heap.size ∧ B ≤ b ∧ ∀ j (h : j < (srtI (ints outs)).length), w.cell? ⟨b, j, none⟩ = some (.int .i64 (srtI (ints outs))[j])
theorem off_putRowI (w : World) (n blk off : Nat) (d : Array Int) (os : Array Obj) : Off [blk] w (grow (putRow (Value.int .i64) (Sort.ahead w n) blk off d) os) := by
  refine ⟨rfl, rfl, rfl, by rw [size_grow]; simp [putRow, mapBlock, Sort.ahead], fun i hi hn => ?_⟩
  have hne : blk ≠ i := fun e => hn (by simp [e])
  rw [heap_grow_old _ _ (by simpa [putRow, mapBlock, Sort.ahead] using hi)]
  simp [putRow, mapBlock, Sort.ahead, Array.getElem?_modify, hne]
theorem sortInts_any (blk c n : Nat) (zs : List Int) (sp : List Value) (hn : zs.length = n) (h12 : n ≤ 1000) (w : World) (hB : Blk w blk 3 (zs.map (Value.int .i64) ++ sp).toArray) :
    Calls Tryz.prog 87 #[.slice (some ⟨blk, 0, none⟩) n c] w fun e w' => e = .returned (.tuple #[]) ∧ Off [blk] w w' ∧ ∀ j (h : j < (srtI zs).length), w'.cell? ⟨blk, j, none⟩ = some (.int .i64 (srtI zs)[j]) := by
  subst hn
  have hcell : ∀ j (h : j < zs.length), w.cell? ⟨blk, j, none⟩ = some (.int .i64 zs[j]) := fun j h => by
    rw [hB.cell]
    simp [List.getElem?_append, h]
  have hH : Holds (Value.int .i64) w blk 0 zs.toArray := fun j hj => by
    have hj' : j < zs.length := by simpa using hj
    refine ⟨?_, by rw [Nat.zero_add]; exact hB.frozen _⟩
    rw [Nat.zero_add, hcell j hj']
    simp [hj']
  refine (Tryz.sort_Ints blk 0 c zs w hH hB.lt (by omega)).mono ?_
  rintro e w' ⟨rfl, m, os, rfl⟩
  refine ⟨rfl, off_putRowI _ _ _ _ _ _, fun j hj => ?_⟩
  have hl : (srtI zs).length = zs.length := srtI_len zs
  have := cell?_grow (putRow (Value.int .i64) (Sort.ahead w m) blk 0 (srtI zs).toArray) os ⟨blk, j, none⟩ (by simpa [putRow, mapBlock, Sort.ahead] using hB.lt)
  refine this.trans ?_
  have h3 := cell?_putRow (Value.int .i64) (Sort.ahead w m) blk 0 zs.toArray (srtI zs).toArray (holds_ahead _ _ _ _ _ _ hH) (by simp [hl]) j (by simp; omega)
  rw [Nat.zero_add] at h3
  rw [h3]
  simp [hj]

/-- A row of ints over a block of its own (or none). -/
def RowI (w : World) (B : Nat) (v : Value) (outs : List Nat) : Prop := w.ownsRow B 3 1 v outs.length ((ints outs).map (Value.int .i64))
theorem RowI.off {w w' : World} {B : Nat} {v : Value} {l : List Nat} {S : List Nat} (h : RowI w B v l) (ho : Off S w w') (hS : ∀ x, x ∈ ob v → x ∉ S) : RowI w' B v l := by
  refine ⟨h.1, ?_⟩
  rcases id h.2 with hn | ⟨g, cap, cur, rfl, hg, hgg, rest⟩
  · exact .inl hn
  · exact .inr ⟨g, cap, cur, rfl, hg, by rw [ho.block g (Array.getElem?_eq_some_iff.1 hgg).1 (hS g (by simp [ob, Value.ownBlock]))]; exact hgg, rest⟩
theorem RowI.base {w : World} {B : Nat} {v : Value} {l : List Nat} (h : RowI w B v l) : ∀ x, x ∈ ob v → B ≤ x := fun x hx => by
  rcases id h.2 with ⟨rfl, _⟩ | ⟨g, cap, cur, rfl, hg, hgg, rest⟩
  · simp [ob, Value.ownBlock] at hx
  · simp [ob, Value.ownBlock] at hx
    omega
theorem Tryz.infoInt2 : (Tryz.prog.info? 3).map (fun i => (i.zero, i.size, i.bytes)) = some (some (.int .i64 0), 1, 8) := by kernel_rfl

set_option maxRecDepth 100000 in
set_option maxHeartbeats 4000000 in
theorem widths_any (es : List Ent) (A : Option Addr) (ib io c n : Nat) (w : World) (hn : es.length = n) (hn2 : n ≤ 1000) (hdg : ∀ e, e ∈ es → e.dg.size ≤ 1000) (hat : EntsAt w A ib io es) :
    Calls Tryz.prog 72 #[.slice A n c] w fun r w' => ∃ v outs, r = .returned v ∧ outs.Nodup ∧ (∀ k, k ∈ outs ↔ ∃ e, e ∈ es ∧ e.dg.size = k) ∧ SrtRowI w' w.heap.size v outs ∧ Off [] w w' := by
  obtain ⟨i0, hi, hz0, hz1, hz2⟩ := info_parts Tryz.infoInt2
  have hmm := @run_makeMap Tryz.prog
  obtain ⟨wA, hwA⟩ : ∃ wA, wA = w.alloc (.map #[] 0) := ⟨_, rfl⟩
  have hoA : Off [] w wA := by rw [hwA]; exact (Off.refl [] w).alloc _
  have hmA : MpN Tryz.prog 3 .i64 wA w.heap.size 0 [] (fun _ => .bool true) := by
    rw [hwA]
    exact Mp.made w Tryz.prog 3 .i64 (fun _ => .bool true)
  have hzA : wA.heap.size = w.heap.size + 1 := by rw [hwA]; simp
  have HAT := Lib.hid (hat.off hoA (by simp))
  have HIB := Lib.hid (fun h0 : 0 < es.length => (hat.at_ h0).2)
  have HOA := Lib.hid hoA
  have HMA := Lib.hid hmA
  have HN := Lib.hid hn
  have HWA := Lib.hid hwA
  have HZA := Lib.hid hzA
  have HDG := Lib.hid hdg
  clear hoA hmA hat hn hwA hzA hdg
  go_enter Tryz.func72, Tryz.ntmps72
  go_wp2_with fail
  go_loopg [3, 11] n (fun kx s3 s11 wr => ∃ j : Nat, s11 = .int .i64 (j : Int) ∧ j ≤ n ∧ n - j ≤ kx ∧ Hid (∃ outs, outs.Nodup ∧ (∀ k, k ∈ outs ↔ ∃ e, e ∈ es.take j ∧ e.dg.size = k) ∧ outs.length ≤ j ∧ Off [w.heap.size] wA wr ∧ RowI wr wA.heap.size s3 outs ∧ MpN Tryz.prog 3 .i64 wr w.heap.size outs.length outs (fun _ => .bool true)))
  case atStart => exact ⟨0, rfl, Nat.zero_le _, by omega, Lib.hid (by rw [← HWA.out]; exact ⟨[], List.nodup_nil, fun k => by simp, by simp, Off.refl _ _, World.ownsRow_nil _ _ _ _, HMA.out⟩)⟩
  case round =>
    rename World => wr
    obtain ⟨j, rfl, hjn, hkx, hh⟩ := hrel
    by_cases hlt : j < n
    · obtain ⟨outs, hnd, hmem, hlen, hO, hR, hM⟩ := hh.out
      have hie : j < es.length := by have := HN.out; omega
      have hat := HAT.out.off hO (fun h0 => by have := HIB.out h0; exact ni1 (by omega))
      obtain ⟨hA, hib⟩ := hat.at_ (by omega)
      obtain ⟨c0, c1, c2, c3, c4⟩ := hat.cells j hie
      obtain ⟨ent, hent⟩ : ∃ ent, ent = es[j] := ⟨_, rfl⟩
      rw [← hent] at c0 c1 c2 c3 c4
      have hsz : ent.dg.size ≤ 1000 := HDG.out ent (by rw [hent]; exact List.getElem_mem _)
      have hwf : (Lit.int .i64 (ent.dg.size : Int)).wf = true := WalkArith.wf_i64 (by omega)
      have HTK := Lib.hid (show es.take (j + 1) = es.take j ++ [ent] by rw [List.take_succ_eq_append_getElem hie, hent])
      have hoE : Off [] wr (wr.alloc (.cells #[.int .u64 (ent.ver : Int), .int .u64 (ent.codec : Int), .int .u64 (ent.code : Int), .string ent.dg, .int .u64 (ent.off : Int)] 49)) := Off.alloc (Off.refl [] wr) _
      have hmE := Mp.off hM hoE (by simp)
      have hl := (Mp.look hmE Tryz.underlying3 Tryz.underlying193 (zeroBool _) (ent.dg.size : Int) hwf).2
      have HH := Lib.hid (And.intro hnd (And.intro hmem (And.intro hlen (And.intro hO hR))))
      have HME := Lib.hid hmE
      have hzw := hO.size
      subst hA
      clear hat hent hnd hmem hR hM hoE hmE hh
      by_cases hin : ent.dg.size ∈ outs
      · rw [if_pos (mem_mapN.2 hin)] at hl
        have HIN := Lib.hid hin
        clear hin hO
        go_wp2_with fail
        go_roundg (n - (j + 1))
        case measure => omega
        case rel =>
          obtain ⟨hnd, hmem, hlen, hO, hR⟩ := HH.out
          refine ⟨j + 1, rfl, by omega, by omega, Lib.hid ⟨outs, hnd, fun k => ?_, by omega, hO.alloc _, hR.off (S := []) (Off.alloc (Off.refl [] wr) _) (fun x _ => by simp), HME.out⟩⟩
          rw [hmem k, HTK.out]
          constructor
          · rintro ⟨x, hx, hk⟩; exact ⟨x, by simp [hx], hk⟩
          · rintro ⟨x, hx, hk⟩
            rcases List.mem_append.1 hx with hx | hx
            · exact ⟨x, hx, hk⟩
            · rw [List.mem_singleton.1 hx] at hk
              rw [← hk]
              exact (hmem _).1 HIN.out
      · rw [if_neg (fun h => hin (mem_mapN.1 h))] at hl
        have HIN := Lib.hid hin
        clear hin hO
        obtain ⟨hnd, hmem, hlen, hO', hR⟩ := HH.out
        obtain ⟨m, hm⟩ : ∃ m, m = outs.length := ⟨_, rfl⟩
        have HM := Lib.hid hm
        have HR := Lib.hid hR
        have hm1000 : m ≤ 1000 := by omega
        have HOE := Lib.hid (show Off [] wr (wr.alloc (.cells #[.int .u64 (ent.ver : Int), .int .u64 (ent.codec : Int), .int .u64 (ent.code : Int), .string ent.dg, .int .u64 (ent.off : Int)] 49)) from Off.alloc (Off.refl [] wr) _)
        have hzz := HZA.out
        clear hnd hmem hlen hO' hR hm
        go_wp2_with (first
          | (at_mapUpdate
             refine wpList_mapUpdate_mp rfl _ _ _ 193 rfl Tryz.underlying3 Tryz.underlying193 HME.out rfl (by rw [← HM.out]; unfold maxLen; omega) (ent.dg.size : Int) rfl hwf (.bool true) rfl ?_
             intro w6 hm6 ho6 hs6
             have HS6 := Lib.hid hs6
             have HOWN := Lib.hid (((HR.out.off (S := []) HOE.out (fun x _ => by simp)).off ho6.out (fun x hx => by have := HR.out.base x hx; simp; omega)).off (S := []) (Off.alloc (Off.refl [] w6) (.cells #[.int .i64 (ent.dg.size : Int)] 3)) (fun x _ => by simp))
             have HZ6 := Lib.hid (show wA.heap.size ≤ w6.heap.size by have := hs6; simp at this; omega)
             clear hs6 hl)
          | (at_builtin
             refine wpList_append_own_at _ rfl _ _ 46 rfl wA.heap.size 3 i0 _ 1 8 Tryz.underlying46 hi hz0 hz1 hz2 rfl (by decide) u3 m ((ints outs).map (Value.int .i64)) rfl (by have h := HOWN.out; unfold RowI at h; rw [← HM.out] at h; exact h) ⟨w6.heap.size, 0, none⟩ 1 1 [.int .i64 (ent.dg.size : Int)] rfl rfl (new_one w6 _ _) (fun u hu => by simp at hu; subst hu; rfl) (by unfold maxLen; omega) (by omega) (by have := HZ6.out; simp; omega) ?_
             intro v7 w7 hown7 hgr hnil hat7
             have HO7 := Lib.hid hown7
             have HG7 := Lib.hid hgr
             clear hown7 hgr hnil hat7))
        go_roundg (n - (j + 1))
        case measure => omega
        case rel =>
          obtain ⟨hnd, hmem, hlen, hO, hR⟩ := HH.out
          have hzr := hO.size
          have hl1 : (outs ++ [ent.dg.size]).length = m + 1 := by rw [List.length_append, ← HM.out]; rfl
          have hO7 : Off (ob u3) w6 w7 := (Off.alloc (Off.refl (ob u3) w6) _).then (off_grown_own (S := ob u3) HG7.out (fun g hg => by simp [ob, hg])) (fun x hx => Or.inl hx)
          have hO67 : Off [w.heap.size] wA w7 := ((hO.then HOE.out (fun x hx => by simp at hx)).then ho6.out (fun x hx => Or.inl hx)).then hO7 (fun x hx => Or.inr (hR.base x hx))
          have hst := MpN.stored (m := ent.dg.size) (K := outs) (V := fun _ => .bool true) hm6.out
          rw [if_neg HIN.out] at hst
          have hst2 : MpN Tryz.prog 3 .i64 w6 w.heap.size (m + 1) (outs ++ [ent.dg.size]) (fun _ => .bool true) := by
            rw [HM.out]
            exact Mp.congr hst (fun x _ => by simp)
          refine ⟨j + 1, rfl, by omega, by omega, Lib.hid ⟨outs ++ [ent.dg.size], ?_, fun k => ?_, by rw [hl1]; have := HM.out; omega, hO67, ?_, ?_⟩⟩
          · exact List.nodup_append.2 ⟨hnd, by simp, fun a ha b hb => by simp at hb; subst hb; exact fun h => HIN.out (h ▸ ha)⟩
          · rw [HTK.out, List.mem_append, hmem k]
            constructor
            · rintro (⟨x, hx, hk⟩ | hk)
              · exact ⟨x, by simp [hx], hk⟩
              · exact ⟨ent, by simp, (List.mem_singleton.1 hk).symm⟩
            · rintro ⟨x, hx, hk⟩
              rcases List.mem_append.1 hx with hx | hx
              · exact Or.inl ⟨x, hx, hk⟩
              · rw [List.mem_singleton.1 hx] at hk
                exact Or.inr (by simp [hk])
          · show World.ownsRow _ _ _ _ _ (outs ++ [ent.dg.size]).length _
            rw [hl1]
            have h1 := HO7.out
            simpa [ints] using h1
          · rw [hl1]
            exact Mp.off hst2 hO7 (fun hx => by have := hR.base _ hx; omega)
    · obtain rfl : n = j := by omega
      obtain ⟨outs, hnd, hmem, hlen, hO, hR, hM⟩ := hh.out
      rw [List.take_of_length_le (by have := HN.out; omega)] at hmem
      have HND := Lib.hid hnd
      have HMEM := Lib.hid hmem
      have HO2 := Lib.hid hO
      have hzz := HZA.out
      have hoff0 : ∀ (S : List Nat) (w3 : World), (∀ x, x ∈ S → wA.heap.size ≤ x) → Off S wr w3 → Off [] w w3 := fun S w3 hS h3 => HOA.out.then (HO2.out.then h3 (fun x hx => Or.inr (hS x hx))) (fun x hx => by simp at hx; right; omega)
      have HOFF := Lib.hid hoff0
      rcases id hR.2 with ⟨h1, h0⟩ | ⟨g, cp, cur, h1, hg, hgg, hnc, hcm, hcs, htake⟩
      · have h0' : outs = [] := List.eq_nil_of_length_eq_zero h0
        subst h0' h1
        clear hO hh hM hlt hkx hnd hmem hlen hR hoff0 h0
        go_wp2_with (go_at_call 87; refine (Tryz.sort_Ints_none none 0 _).mono ?_; rintro r w3 ⟨rfl, rfl⟩)
        go_ret
        exact ⟨_, [], rfl, HND.out, HMEM.out, Or.inl ⟨rfl, rfl⟩, HOFF.out [] _ (fun x hx => by simp at hx) (Off.refl [] _)⟩
      · subst h1
        have hcur : cur = ((ints outs).map (Value.int .i64) ++ cur.toList.drop (outs.length * 1)).toArray := by
          have := List.take_append_drop (outs.length * 1) cur.toList
          rw [htake] at this
          rw [this]
        have hB : Blk wr g 3 ((ints outs).map (Value.int .i64) ++ cur.toList.drop (outs.length * 1)).toArray := by
          show _ = _
          rw [← hcur]
          exact hgg
        obtain ⟨m, hm⟩ : ∃ m, m = outs.length := ⟨_, rfl⟩
        have ST := Lib.hid (sortInts_any g cp m (ints outs) _ (by rw [ints, List.length_map, hm]) (by omega) wr hB)
        have HMQ := Lib.hid hm
        have HG := Lib.hid hg
        have HGL := Lib.hid hB.lt
        rw [← hm]
        clear hO hh hM hlt hkx hnd hmem hlen hR hoff0 hm hg hgg hnc hcm hcs htake hcur hB
        go_wp2_with (go_at_call 87; refine ST.out.mono ?_; rintro r w3 ⟨rfl, ho3, hc3⟩; have HO3 := Lib.hid ho3; have HC3 := Lib.hid hc3; clear ho3 hc3)
        go_ret
        exact ⟨_, outs, rfl, HND.out, HMEM.out, Or.inr ⟨g, cp, by rw [← HMQ.out]; rfl, Nat.lt_of_lt_of_le HGL.out HO3.out.size, by have := HG.out; omega, HC3.out⟩, HOFF.out [g] _ (fun x hx => by simp at hx; subst hx; exact HG.out) HO3.out⟩
end Go.Proofs.YtkdbjocchponfaaGreatDoor
