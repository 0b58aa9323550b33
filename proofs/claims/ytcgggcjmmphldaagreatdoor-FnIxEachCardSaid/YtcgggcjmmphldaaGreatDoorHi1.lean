/-
  GetAll of a multiWidthIndex and of a MultihashIndexSorted, with impl.offsets' callback.
  GetAll of a MultihashIndexSorted, with impl.offsets' callback.
  (No condition beyond those that each theorem states.)
-/
import Derived.Test.YtcgggcjmmphldaaGreatDoorHg3
import Derived.Test.YtcgggcjmmphldaaGreatDoorHh3
import Derived.Test.YtcgggcjmmphldaaGreatDoorHa7
namespace Go.Proofs.YtcgggcjmmphldaaGreatDoor
open Go.RowKit

theorem zeroSw (w : World) : (zeroValue 293).run Tryz.prog w = .ok (.agg #[.int .u32 0, .int .u64 0, .slice none 0 0]) w := by kernel_rfl
theorem look_none {d : List UInt8} {G : List (Nat × List Rw)} (h : d.length ∉ G.map (·.1)) : look d G = [] := by
  have : G.lookup d.length = none := by
    rw [List.lookup_eq_none_iff]
    intro p hp
    have : p.1 ∈ G.map (·.1) := List.mem_map.2 ⟨p, hp, rfl⟩
    simpa using fun e : d.length = p.1 => h (e ▸ this)
  simp [look, this]
theorem look_some {d : List UInt8} {G : List (Nat × List Rw)} (h : d.length ∈ G.map (·.1)) : ∃ L, (d.length, L) ∈ G ∧ rowsOf G d.length = L ∧ look d G = (L.filter fun r => r.d == d).map (·.off) := by
  cases hl : G.lookup d.length with
  | none =>
    obtain ⟨p, hp, he⟩ := List.mem_map.1 h
    have := List.lookup_eq_none_iff.1 hl p hp
    simp [he] at this
  | some L =>
    refine ⟨L, ?_, by simp [rowsOf, hl], by simp [look, hl]⟩
    obtain ⟨l1, l2, h1, _⟩ := List.lookup_eq_some_iff.1 hl
    rw [h1]; simp

set_option maxRecDepth 100000 in
set_option maxHeartbeats 4000000 in
theorem mwGetAll_any (w w0 : World) (B pb mm ob mb most code : Nat) (s : ByteArray) (d : List UInt8) (G : List (Nat × List Rw)) (ev : Value)
    (hs : IsCid s.data.toList code d) (hdl : d.length ≤ 1000) (hG : Bks G) (hsm : ∀ p, p ∈ G → p.1 ≤ 1000 ∧ p.2.length ≤ 1000) (hmost : ∀ p, p ∈ G → p.2.length < most) (hoff : ∀ p, p ∈ G → ∀ r, r ∈ p.2 → r.off < 18446744073709551616)
    (hmw : MwAt B w0 mm (G.map (·.1)) (rowsOf G)) (ho : Off [] w0 w) (hp : w.cell? ⟨pb, 0, none⟩ = some (.map (some mm))) (hob : Blk w ob 33 #[.slice none 0 0]) (hmb : Blk w mb 3 #[.int .i64 (most : Int)]) (hne : mb ≠ ob) (h0 : w0.heap.size ≤ ob)
    (hE : w.cell? ⟨0, 0, none⟩ = some ev) (hEo : 0 ≠ ob) :
    Calls Tryz.prog 190 #[.pointer (some ⟨pb, 0, none⟩), .agg #[.string s], .func (.func 41) #[] #[.pointer (some ⟨ob, 0, none⟩), .pointer (some ⟨mb, 0, none⟩)]] w fun e w' =>
      e = .returned (if look d G = [] then ev else .nilIface) ∧ ∃ w1, Off [] w w1 ∧ OutAt w1 ob mb most (look d G) w' := by
  obtain ⟨rv, hrv⟩ : ∃ rv, rv = (if look d G = [] then ev else .nilIface) := ⟨_, rfl⟩
  rw [← hrv]
  have HRV := Lib.hid hrv
  have hcode := hs.1
  have HH := Lib.hid fun W => hash_any s code d W hs
  have HD := Lib.hid fun (W : World) (b o c : Nat) (hc : (mhB code d).length ≤ c) (hsg : Seg W b o (mhB code d)) (hb : b < W.heap.size) => decodeP_ok code b o (mhB code d).length c d W hcode (by omega) rfl hc hsg hb
  have HMW := Lib.hid hmw
  have HO := Lib.hid ho
  have HP := Lib.hid hp
  have HOB := Lib.hid hob
  have HMB := Lib.hid hmb
  have HE := Lib.hid hE
  have HG := Lib.hid hG
  have HSM := Lib.hid hsm
  have HMO := Lib.hid hmost
  have HOF := Lib.hid hoff
  clear hrv hs hcode hmw ho hp hob hmb hE hG hsm hmost hoff
  go_enter Tryz.func190, Tryz.ntmps190
  go_wp2_with (first
    | (go_at_call 188; refine (HH.out _).mono ?_; rintro e w2 ⟨g2, o2, cc2, rfl, h1, h2, h3, h4, h5⟩
       have ho2 : Off [] w w2 := Off.then (by repeat' (first | exact Off.refl [] _ | refine Off.alloc ?_ _ | refine Off.drew ?_)) (Off.ofBelow (S := []) h5) (fun x hx => by simp at hx)
       have hg2 : w.heap.size ≤ g2 := by simp at h1; omega
       have HS2 := Lib.hid h4; have HO2 := Lib.hid ho2; have HC2 := Lib.hid h3; clear h1 h3 h4 h5 ho2)
    | (go_at_call 57; refine (HD.out _ _ _ _ HC2.out HS2.out h2).mono ?_; rintro e w3 ⟨A3, C3, g3, rfl, k1, k2, k3, k4⟩
       have hd3 : w3.cell? ⟨g3, 3, none⟩ = some (.slice A3 d.length C3) := k2.cell 3
       have hw3 : w2.heap.size ≤ w3.heap.size := k4.size
       have HO3 := Lib.hid (HO2.out.then (Off.ofBelow (S := []) k4) (fun x hx => by simp at hx)); have HS3 := Lib.hid (mhB_dig (HS2.out.below k4 h2)); have HDG := Lib.hid k3; have HB3 := Lib.hid k2; clear k1 k2 k3 k4
       have p3 : w3.cell? ⟨pb, 0, none⟩ = some (.map (some mm)) := HO3.out.cell HP.out (by simp)))
  have hoff3 : Off [] w0 w3 := HO.out.then HO3.out (fun x hx => by simp at hx)
  have hwf : (Lit.int .u32 ((d.length + 8 : Nat) : Int)).wf = true := WalkArith.wf_u32 (by omega)
  obtain ⟨V, Cs, hmp0, hrow⟩ := HMW.out.ex
  have hmp := Mp.off hmp0 hoff3.drew (by simp)
  have hal : Off [] w3 (w3.alloc (.cells #[.int .u32 0, .int .u64 0, .slice none 0 0] 293)).drew := (Off.alloc (Off.refl [] _) _).drew
  have hl3 := (Mp.look hmp Tryz.underlying143 Tryz.underlying169 (zeroSw w3.drew) ((d.length + 8 : Nat) : Int) hwf).1
  have hl4 := (Mp.look (Mp.off hmp0 (hoff3.then hal (fun x hx => by simp at hx)) (by simp)) Tryz.underlying143 Tryz.underlying169 (zeroSw _) ((d.length + 8 : Nat) : Int) hwf).1
  have hkm : ((d.length + 8 : Nat) : Int) ∈ ints ((G.map (·.1)).map (· + 8)) ↔ d.length ∈ G.map (·.1) := by
    rw [mem_mapN, List.mem_map]
    exact ⟨fun ⟨x, hx, he⟩ => by have : x = d.length := by omega
                                 exact this ▸ hx, fun h => ⟨_, h, rfl⟩⟩
  have hc8 : IntKind.u32.wrap ((d.length : Int) + 8) = ((d.length + 8 : Nat) : Int) := by rw [IntKind.wrap_u32]; omega
  have hc9 : IntKind.i64.wrap ((d.length : Int) + 8) = (d.length : Int) + 8 := by rw [IntKind.wrap_i64]; omega
  have hE3 : w3.cell? ⟨0, 0, none⟩ = some ev := HO3.out.cell HE.out (by simp)
  have p4 : (w3.alloc (.cells #[.int .u32 0, .int .u64 0, .slice none 0 0] 293)).drew.cell? ⟨pb, 0, none⟩ = some (.map (some mm)) := hal.cell (v := .map (some mm)) p3 (by simp)
  have d4 : (w3.alloc (.cells #[.int .u32 0, .int .u64 0, .slice none 0 0] 293)).drew.cell? ⟨g3, 3, none⟩ = some (.slice A3 d.length C3) := hal.cell (v := .slice A3 d.length C3) hd3 (by simp)
  have HROW := Lib.hid hrow
  have HH3 := Lib.hid hoff3
  clear hmp0 hrow hal hmp hoff3
  by_cases hin : d.length ∈ G.map (·.1)
  · rw [if_pos (hkm.2 hin), decide_eq_true (hkm.2 hin)] at hl3 hl4
    simp only [Int.toNat_natCast] at hl3 hl4
    obtain ⟨L, hLG, hLr, hlk⟩ := look_some (G := G) hin
    obtain ⟨hV, hsg, hBC, hCl, hwd⟩ := HROW.out _ hin
    rw [hLr] at hV hsg hwd
    rw [hV] at hl3 hl4
    unfold swv at hl3 hl4
    obtain ⟨M, hM⟩ : ∃ M, M = (d.length + 8) * L.length := ⟨_, rfl⟩
    rw [← hM] at hl3 hl4
    obtain ⟨C, hC⟩ : ∃ C, C = Cs d.length := ⟨_, rfl⟩
    rw [← hC] at hl3 hl4 hsg hCl
    obtain ⟨k, hk⟩ : ∃ k, k = L.length := ⟨_, rfl⟩
    rw [← hk] at hl3 hl4
    obtain ⟨W8, hW8⟩ : ∃ W8, W8 = d.length + 8 := ⟨_, rfl⟩
    rw [← hW8] at hl3 hl4 hc8
    have HW8 := Lib.hid hW8
    have HKL := Lib.hid hk
    have HCC := Lib.hid hC
    have HMM := Lib.hid hM
    have HSG := Lib.hid hsg
    have HWD := Lib.hid hwd
    have HLK := Lib.hid hlk
    have HLG := Lib.hid hLG
    have hal5 : Off [] w3 (w3.alloc (.cells #[.int .u32 (W8 : Int), .int .u64 (k : Int), .slice (some ⟨C, 0, none⟩) M M] 293)) := Off.alloc (Off.refl [] _) _
    have p5 : (w3.alloc (.cells #[.int .u32 (W8 : Int), .int .u64 (k : Int), .slice (some ⟨C, 0, none⟩) M M] 293)).cell? ⟨pb, 0, none⟩ = some (.map (some mm)) := hal5.cell p3 (by simp)
    have d5 : (w3.alloc (.cells #[.int .u32 (W8 : Int), .int .u64 (k : Int), .slice (some ⟨C, 0, none⟩) M M] 293)).cell? ⟨g3, 3, none⟩ = some (.slice A3 d.length C3) := hal5.cell hd3 (by simp)
    have hobl := HOB.out.lt
    have hws := HO3.out.size
    have hgl := HO2.out.size
    have HGA : Hid (∀ W, Off [] (w3.alloc (.cells #[.int .u32 (W8 : Int), .int .u64 (k : Int), .slice (some ⟨C, 0, none⟩) M M] 293)).drew W → Calls Tryz.prog 205 #[.pointer (some ⟨w3.heap.size, 0, none⟩), .slice A3 d.length C3, .func (.func 41) #[] #[.pointer (some ⟨ob, 0, none⟩), .pointer (some ⟨mb, 0, none⟩)]] W fun e w' =>
        e = .returned rv ∧ ∃ w1, Off [] w w1 ∧ OutAt w1 ob mb most (look d G) w') := Lib.hid fun W hW => by
      have h5 : Off [] w3 W := hal5.drew.then hW (fun x hx => by simp at hx)
      have hwW : Off [] w W := HO3.out.then h5 (fun x hx => by simp at hx)
      have hsrt : Srtd L := HG.out.srt _ HLG.out
      have hdg : ∀ W', Off [ob] W W' → DgIn W' (.slice A3 d.length C3) d := fun W' hW' =>
        ⟨A3, C3, g2, o2 + mhO code d, rfl, HDG.out.2, (HS3.out.off h5 (by simp)).off hW' (ni1 (by omega))⟩
      refine (getAll_any W w3.heap.size d.length W8 k M C C3 ob mb most A3 L d (((Blk.new w3 _ _).off (Off.drew (Off.refl [] _)) (by simp)).off hW (by simp)) HW8.out hdl HKL.out.symm (by rw [HKL.out]; exact (HSM.out _ HLG.out).2) (by rw [HMM.out, HW8.out, HKL.out]) HWD.out ((HSG.out.off HH3.out (by simp)).off h5 (by simp))
        (hdg W (Off.refl _ _)) HDG.out.1 hsrt ev (HOB.out.off hwW (by simp)) (HMB.out.off hwW (by simp)) hne (by omega) (by omega) hdg (by rw [HKL.out]; exact HMO.out _ HLG.out) (HOF.out _ HLG.out) (hwW.cell HE.out (by simp)) hEo).mono ?_
      rintro e w' ⟨rfl, w1, h1, h2⟩
      refine ⟨?_, w1, hwW.then h1 (fun x hx => by simp at hx), by rw [HLK.out]; exact h2⟩
      rw [HRV.out, HLK.out]
      by_cases hf : (L.filter fun r => r.d == d) = []
      · rw [if_pos hf, if_pos (by rw [hf]; rfl)]
      · rw [if_neg hf, if_neg (fun h => hf (List.map_eq_nil_iff.1 h))]
    clear hV hsg hwd hlk hLG hLr hM hC hk hW8 hin hkm hwf hal5 hobl
    go_region_held3 (fun w' => w'.cell? ⟨pb, 0, none⟩ = some (.map (some mm)) ∧ w'.cell? ⟨g3, 3, none⟩ = some (.slice A3 d.length C3)) (first | exact ⟨p3, hd3⟩ | exact ⟨p4, d4⟩ | exact ⟨p5, d5⟩) (fail)
    all_goals go_wp2_with (go_at_call 205; refine (HGA.out _ (Off.refl [] _)).mono ?_; rintro e w9 ⟨rfl, hO9⟩; have HO9 := Lib.hid hO9; clear hO9)
    all_goals
      go_ret
      exact ⟨rfl, HO9.out⟩
  · rw [if_neg (fun h => hin (hkm.1 h)), decide_eq_false (fun h => hin (hkm.1 h))] at hl3 hl4
    have hal5 : Off [] w3 (w3.alloc (.cells #[.int .u32 0, .int .u64 0, .slice none 0 0] 293)) := Off.alloc (Off.refl [] _) _
    have p5 : (w3.alloc (.cells #[.int .u32 0, .int .u64 0, .slice none 0 0] 293)).cell? ⟨pb, 0, none⟩ = some (.map (some mm)) := hal5.cell p3 (by simp)
    have d5 : (w3.alloc (.cells #[.int .u32 0, .int .u64 0, .slice none 0 0] 293)).cell? ⟨g3, 3, none⟩ = some (.slice A3 d.length C3) := hal5.cell hd3 (by simp)
    have e5 : (w3.alloc (.cells #[.int .u32 0, .int .u64 0, .slice none 0 0] 293)).drew.cell? ⟨0, 0, none⟩ = some ev := hal5.drew.cell hE3 (by simp)
    have HNO := Lib.hid (look_none hin)
    obtain ⟨W8, hW8⟩ : ∃ W8, W8 = d.length + 8 := ⟨_, rfl⟩
    rw [← hW8] at hl3 hl4 hc8
    have HW8 := Lib.hid hW8
    have HX := Lib.hid (HO3.out.then hal5 (fun x hx => by simp at hx))
    have hobl := HOB.out.lt
    have HOBL := Lib.hid hobl
    clear hkm hwf hal5 hin hobl hW8
    go_region_held3 (fun w' => w'.cell? ⟨pb, 0, none⟩ = some (.map (some mm)) ∧ w'.cell? ⟨g3, 3, none⟩ = some (.slice A3 d.length C3)) (first | exact ⟨p3, hd3⟩ | exact ⟨p4, d4⟩ | exact ⟨p5, d5⟩) (fail)
    all_goals go_wp2_with fail
    all_goals
      go_ret
      refine ⟨by rw [HRV.out, HNO.out]; rfl, (w3.alloc (.cells #[.int .u32 0, .int .u64 0, .slice none 0 0] 293)).drew, HX.out.drew, ?_⟩
      rw [HNO.out]
      have hO := HX.out.drew
      exact { off := Off.refl _ _, row := ⟨_, HOB.out.off hO (by simp), Or.inl ⟨rfl, rfl⟩⟩, mst := HMB.out.off hO (by simp), ne := hne, lt := Nat.lt_of_lt_of_le HOBL.out hO.size }
end Go.Proofs.YtcgggcjmmphldaaGreatDoor
namespace Go.Proofs.YtcgggcjmmphldaaGreatDoor
open Go.RowKit

theorem zeroMwc (w : World) : (zeroValue 268).run Tryz.prog w = .ok (.pointer none) w := by kernel_rfl

set_option maxRecDepth 100000 in
set_option maxHeartbeats 2000000 in
theorem misGet_any (w : World) (pb mm g code : Nat) (r : Value) (ok : Bool) (ev : Value) (hp : w.cell? ⟨pb, 0, none⟩ = some (.map (some mm))) (hg : w.cell? ⟨g, 0, none⟩ = some (.int .u64 (code : Int)))
    (hl : (Instr.lookup 172 (.map (some mm)) (.int .u64 (code : Int)) true).run Tryz.prog w.drew = .ok (.tuple #[r, .bool ok]) w.drew) (hE : w.cell? ⟨0, 0, none⟩ = some ev) :
    Calls Tryz.prog 189 #[.pointer (some ⟨pb, 0, none⟩), .pointer (some ⟨g, 0, none⟩)] w fun e w' => e = .returned (if ok then .tuple #[r, .nilIface] else .tuple #[.pointer none, ev]) ∧ Drew w w' := by
  cases ok
  · go_enter Tryz.func189, Tryz.ntmps189
    go_wp2_with fail
    go_region_held3 (fun w' => w'.cell? ⟨pb, 0, none⟩ = some (.map (some mm)) ∧ w'.cell? ⟨g, 0, none⟩ = some (.int .u64 (code : Int))) (first | exact ⟨hp, hg⟩) (fail)
    all_goals go_wp2_with fail
    all_goals go_quiet (fail)
    all_goals go_wp2_with fail
    all_goals go_ret2
    all_goals exact ⟨rfl, Drew.more (Drew.refl _) _⟩
  · go_enter Tryz.func189, Tryz.ntmps189
    go_wp2_with fail
    go_region_held3 (fun w' => w'.cell? ⟨pb, 0, none⟩ = some (.map (some mm)) ∧ w'.cell? ⟨g, 0, none⟩ = some (.int .u64 (code : Int))) (first | exact ⟨hp, hg⟩) (fail)
    all_goals go_wp2_with fail
    all_goals go_ret2
    all_goals exact ⟨rfl, by repeat' (first | exact Drew.refl _ | exact Drew.one _ | refine Drew.more ?_ 1)⟩

theorem clook_none {c : Nat} {d : List UInt8} {H : List (Nat × List (Nat × List Rw))} (h : c ∉ H.map (·.1)) : clook c d H = [] := by
  have : H.lookup c = none := by
    rw [List.lookup_eq_none_iff]
    intro p hp
    have : p.1 ∈ H.map (·.1) := List.mem_map.2 ⟨p, hp, rfl⟩
    simpa using fun e : c = p.1 => h (e ▸ this)
  simp [clook, this]
theorem clook_some {c : Nat} {d : List UInt8} {H : List (Nat × List (Nat × List Rw))} (h : c ∈ H.map (·.1)) : ∃ G, (c, G) ∈ H ∧ gOf H c = G ∧ clook c d H = look d G := by
  cases hl : H.lookup c with
  | none =>
    obtain ⟨p, hp, he⟩ := List.mem_map.1 h
    have := List.lookup_eq_none_iff.1 hl p hp
    simp [he] at this
  | some G =>
    refine ⟨G, ?_, by simp [gOf, hl], by simp [clook, hl]⟩
    obtain ⟨l1, l2, h1, _⟩ := List.lookup_eq_some_iff.1 hl
    rw [h1]; simp

set_option maxRecDepth 100000 in
set_option maxHeartbeats 4000000 in
theorem misGetAll_any (w w0 : World) (B pb mm ob mb most code : Nat) (s : ByteArray) (d : List UInt8) (H : List (Nat × List (Nat × List Rw))) (ev : Value) (tv : TypeId) (av : Value) (hev : ev = .iface tv av)
    (hs : IsCid s.data.toList code d) (hdl : d.length ≤ 1000) (hsm : ∀ p, p ∈ H → Bks p.2 ∧ ∀ x, x ∈ p.2 → x.1 ≤ 1000 ∧ x.2.length ≤ 1000 ∧ x.2.length < most ∧ ∀ r, r ∈ x.2 → r.off < 18446744073709551616)
    (hmi : MisAt B w0 mm (H.map (·.1)) (fun c => (gOf H c).map (·.1)) (fun c => rowsOf (gOf H c))) (ho : Off [] w0 w) (hp : w.cell? ⟨pb, 0, none⟩ = some (.map (some mm))) (hob : Blk w ob 33 #[.slice none 0 0]) (hmb : Blk w mb 3 #[.int .i64 (most : Int)]) (hne : mb ≠ ob) (h0 : w0.heap.size ≤ ob)
    (hE : w.cell? ⟨0, 0, none⟩ = some ev) (hEo : 0 ≠ ob) :
    Calls Tryz.prog 182 #[.pointer (some ⟨pb, 0, none⟩), .agg #[.string s], .func (.func 41) #[] #[.pointer (some ⟨ob, 0, none⟩), .pointer (some ⟨mb, 0, none⟩)]] w fun e w' =>
      e = .returned (if clook code d H = [] then ev else .nilIface) ∧ ∃ w1, Off [] w w1 ∧ OutAt w1 ob mb most (clook code d H) w' := by
  obtain ⟨rv, hrv⟩ : ∃ rv, rv = (if clook code d H = [] then ev else .nilIface) := ⟨_, rfl⟩
  rw [← hrv]
  have HRV := Lib.hid hrv
  have hcode := hs.1
  have HH := Lib.hid fun W => hash_any s code d W hs
  have HD := Lib.hid fun (W : World) (b o c : Nat) (hc : (mhB code d).length ≤ c) (hsg : Seg W b o (mhB code d)) (hb : b < W.heap.size) => decodeP_ok code b o (mhB code d).length c d W hcode (by omega) rfl hc hsg hb
  have HS := Lib.hid hs
  have HMI := Lib.hid hmi
  have HO := Lib.hid ho
  have HP := Lib.hid hp
  have HOB := Lib.hid hob
  have HMB := Lib.hid hmb
  have HE := Lib.hid hE
  have HSM := Lib.hid hsm
  have hwf : (Lit.int .u64 (code : Int)).wf = true := WalkArith.wf_u64 (by omega)
  have hob0 := hob.lt
  clear hrv hs hcode hmi ho hp hob hmb hE hsm
  obtain ⟨V, q, m, hmp0, hrow⟩ := HMI.out.ex
  have HROW := Lib.hid hrow
  clear hrow
  by_cases hin : code ∈ H.map (·.1)
  · obtain ⟨hV, hqb, hmw, hBq, hBm⟩ := HROW.out code hin
    obtain ⟨G, hGH, hg, hck⟩ := clook_some (d := d) hin
    have hGs := HSM.out _ hGH
    obtain ⟨Q, hQ⟩ : ∃ Q, Q = q code := ⟨_, rfl⟩
    rw [← hQ] at hV hqb
    simp only [hg] at hmw
    have HGA : Hid (∀ W, Off [] w W → Calls Tryz.prog 190 #[.pointer (some ⟨Q, 0, none⟩), .agg #[.string s], .func (.func 41) #[] #[.pointer (some ⟨ob, 0, none⟩), .pointer (some ⟨mb, 0, none⟩)]] W fun e w' =>
        e = .returned rv ∧ ∃ w1, Off [] W w1 ∧ OutAt w1 ob mb most (clook code d H) w') := Lib.hid fun W hW => by
      have h5 : Off [] w0 W := HO.out.then hW (fun x hx => by simp at hx)
      refine (mwGetAll_any W w0 B Q (m code) ob mb most code s d G ev HS.out hdl hGs.1 (fun p hp => ⟨(hGs.2 p hp).1, (hGs.2 p hp).2.1⟩) (fun p hp => (hGs.2 p hp).2.2.1) (fun p hp => (hGs.2 p hp).2.2.2) hmw h5 ((hqb.off h5 (by simp)).cell 0) (HOB.out.off hW (by simp)) (HMB.out.off hW (by simp)) hne h0 (hW.cell HE.out (by simp)) hEo).mono ?_
      rintro e w' ⟨rfl, w1, h1, h2⟩
      refine ⟨by rw [HRV.out, hck], w1, h1, by rw [hck]; exact h2⟩
    have HV := Lib.hid hV
    have HIN := Lib.hid hin
    clear hqb hmw hBq hBm hGH hg hck hGs hV hQ hin
    go_enter Tryz.func182, Tryz.ntmps182
    go_wp2_with (first
      | (go_at_call 188; refine (HH.out _).mono ?_; rintro e w2 ⟨g2, o2, cc2, rfl, h1, h2, h3, h4, h5⟩
         have ho2 : Off [] w w2 := Off.then (by repeat' (first | exact Off.refl [] _ | refine Off.alloc ?_ _ | refine Off.drew ?_)) (Off.ofBelow (S := []) h5) (fun x hx => by simp at hx)
         have b2 : w2.cell? ⟨w.heap.size, 0, none⟩ = some (.string s) := by rw [h5.cell (p := ⟨w.heap.size, 0, none⟩) (by simp)]; simp
         have hg2 : w.heap.size ≤ g2 := by simp at h1; omega
         have HS2 := Lib.hid h4; have HO2 := Lib.hid ho2; have HC2 := Lib.hid h3; clear h1 h3 h4 h5 ho2)
      | (go_at_call 57; refine (HD.out _ _ _ _ HC2.out HS2.out h2).mono ?_; rintro e w3 ⟨A3, C3, g3, rfl, k1, k2, k3, k4⟩
         have hd3 : w3.cell? ⟨g3, 0, none⟩ = some (.int .u64 (code : Int)) := k2.cell 0
         have hx4 : Off [] w2 w3 := Off.ofBelow (S := []) k4
         have HO3 := Lib.hid (HO2.out.then hx4 (fun x hx => by simp at hx))
         have p3 : w3.cell? ⟨pb, 0, none⟩ = some (.map (some mm)) := HO3.out.cell HP.out (by simp)
         have b3 : w3.cell? ⟨w.heap.size, 0, none⟩ = some (.string s) := hx4.cell b2 (by simp)
         have e3 : w3.cell? ⟨0, 0, none⟩ = some ev := HO3.out.cell HE.out (by simp)
         have hl3 := (Mp.look (Mp.off hmp0 ((HO.out.then HO3.out (fun x hx => by simp at hx)).drew) (by simp)) Tryz.underlying23 Tryz.underlying172 (zeroMwc w3.drew) (code : Int) hwf).1
         rw [if_pos (mem_mapN.2 HIN.out), decide_eq_true (mem_mapN.2 HIN.out)] at hl3
         simp only [Int.toNat_natCast] at hl3
         rw [HV.out] at hl3
         have HGT := Lib.hid (misGet_any w3 pb mm g3 code _ true ev p3 hd3 hl3 e3)
         clear k1 k2 k3 k4 hl3 e3 hx4 b2)
      | (go_at_call 189; refine HGT.out.mono ?_; rintro e w4 ⟨rfl, hd4⟩
         have ho4 : Off [] w3 w4 := Off.ofDrew hd4
         have b4 : w4.cell? ⟨w.heap.size, 0, none⟩ = some (.string s) := ho4.cell b3 (by simp)
         have HO4 := Lib.hid (HO3.out.then ho4 (fun x hx => by simp at hx))
         clear hd4 ho4))
    go_region_held3 (fun w' => w'.cell? ⟨w.heap.size, 0, none⟩ = some (.string s)) (first | exact b4 | exact b9) (first | (go_at_call 190; refine (HGA.out _ (HO4.out.then (Off.ofDrew (S := []) (by repeat' (first | exact Drew.refl _ | exact Drew.one _ | refine Drew.more ?_ 1))) (fun x hx => by simp at hx))).mono ?_; rintro e w9 ⟨rfl, w1, hw1, hO9⟩; have b9 : w9.cell? ⟨w.heap.size, 0, none⟩ = some (.string s) := hO9.off.cell (hw1.cell (v := .string s) b4 (by simp)) (ni1 (by show w.heap.size ≠ ob; omega)); have HO9 := Lib.hid hO9; have HW1 := Lib.hid hw1; clear hO9 hw1))
    all_goals go_wp2_with fail
    all_goals
      go_ret
      exact ⟨rfl, w1, (HO4.out.then (Off.ofDrew (S := []) (by repeat' (first | exact Drew.refl _ | exact Drew.one _ | refine Drew.more ?_ 1))) (fun x hx => by simp at hx)).then HW1.out (fun x hx => by simp at hx), HO9.out⟩
  · subst hev
    have HNO := Lib.hid (clook_none (d := d) hin)
    have HNK := Lib.hid (show ¬ ((code : Int) ∈ ints (H.map (·.1))) from fun h => hin (mem_mapN.1 h))
    clear hin
    go_enter Tryz.func182, Tryz.ntmps182
    go_wp2_with (first
      | (go_at_call 188; refine (HH.out _).mono ?_; rintro e w2 ⟨g2, o2, cc2, rfl, h1, h2, h3, h4, h5⟩
         have ho2 : Off [] w w2 := Off.then (by repeat' (first | exact Off.refl [] _ | refine Off.alloc ?_ _ | refine Off.drew ?_)) (Off.ofBelow (S := []) h5) (fun x hx => by simp at hx)
         have b2 : w2.cell? ⟨w.heap.size, 0, none⟩ = some (.string s) := by rw [h5.cell (p := ⟨w.heap.size, 0, none⟩) (by simp)]; simp
         have hg2 : w.heap.size ≤ g2 := by simp at h1; omega
         have HS2 := Lib.hid h4; have HO2 := Lib.hid ho2; have HC2 := Lib.hid h3; clear h1 h3 h4 h5 ho2)
      | (go_at_call 57; refine (HD.out _ _ _ _ HC2.out HS2.out h2).mono ?_; rintro e w3 ⟨A3, C3, g3, rfl, k1, k2, k3, k4⟩
         have hd3 : w3.cell? ⟨g3, 0, none⟩ = some (.int .u64 (code : Int)) := k2.cell 0
         have hx4 : Off [] w2 w3 := Off.ofBelow (S := []) k4
         have HO3 := Lib.hid (HO2.out.then hx4 (fun x hx => by simp at hx))
         have p3 : w3.cell? ⟨pb, 0, none⟩ = some (.map (some mm)) := HO3.out.cell HP.out (by simp)
         have b3 : w3.cell? ⟨w.heap.size, 0, none⟩ = some (.string s) := hx4.cell b2 (by simp)
         have e3 : w3.cell? ⟨0, 0, none⟩ = some (.iface tv av) := HO3.out.cell HE.out (by simp)
         have hl3 := (Mp.look (Mp.off hmp0 ((HO.out.then HO3.out (fun x hx => by simp at hx)).drew) (by simp)) Tryz.underlying23 Tryz.underlying172 (zeroMwc w3.drew) (code : Int) hwf).1
         rw [if_neg HNK.out, decide_eq_false HNK.out] at hl3
         have HGT := Lib.hid (misGet_any w3 pb mm g3 code _ false _ p3 hd3 hl3 e3)
         clear k1 k2 k3 k4 hl3 e3 hx4 b2)
      | (go_at_call 189; refine HGT.out.mono ?_; rintro e w4 ⟨rfl, hd4⟩
         have ho4 : Off [] w3 w4 := Off.ofDrew hd4
         have b4 : w4.cell? ⟨w.heap.size, 0, none⟩ = some (.string s) := ho4.cell b3 (by simp)
         have HO4 := Lib.hid (HO3.out.then ho4 (fun x hx => by simp at hx))
         clear hd4 ho4))
    go_ret
    refine ⟨by rw [HRV.out, HNO.out]; rfl, _, HO4.out, ?_⟩
    rw [HNO.out]
    have hO := HO4.out
    exact { off := Off.refl _ _, row := ⟨_, HOB.out.off hO (by simp), Or.inl ⟨rfl, rfl⟩⟩, mst := HMB.out.off hO (by simp), ne := hne, lt := Nat.lt_of_lt_of_le hob0 hO.size }
end Go.Proofs.YtcgggcjmmphldaaGreatDoor
