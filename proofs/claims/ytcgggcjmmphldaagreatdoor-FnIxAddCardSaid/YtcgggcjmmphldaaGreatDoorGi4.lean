/-
  index.ReadCodec, index.ReadFrom over a bytes.Reader.
  (No condition beyond those that each theorem states.)
-/
import Derived.Test.YtcgggcjmmphldaaGreatDoorGh4
import Derived.Test.YtcgggcjmmphldaaGreatDoorGi3
namespace Go.Proofs.YtcgggcjmmphldaaGreatDoor
open Go.RowKit

theorem RAt.byte {R b cap i : Nat} {l : List UInt8} {w : World} (h : RAt R b cap l i w) (hi : i < l.length) (c : Int) (hc : ((l[i]).toNat : Int) = c) :
    Calls Tryz.prog 177 #[.pointer (some ⟨R, 0, none⟩)] w fun e w' => e = .returned (.tuple #[.int .u8 c, .nilIface]) ∧ RAt R b cap l (i + 1) w' ∧ Off [R] w w' := by
  obtain ⟨p, hp⟩ := h.rd
  refine (brReadByte R b l.length cap i p l w rfl hp h.seg h.ne hi h.len c hc).mono ?_
  rintro e w' ⟨he, h1, h2⟩
  exact ⟨he, { h with rd := ⟨_, h1⟩, seg := h.seg.off h2 (ni1 (fun e => h.ne e.symm)) }, h2⟩

theorem uvarint_mw : Lib.uvarint 1024 = [128, 8] := by
  rw [Lib.uvarint, dif_neg (by omega), Lib.uvarint_small (by omega)]
  rfl
set_option maxRecDepth 100000 in
set_option maxHeartbeats 1000000 in
theorem readUvarint_mw {R b cap : Nat} {l t : List UInt8} {w : World} (h : RAt R b cap l 0 w) (hl : l = 128 :: 8 :: t) :
    Calls Tryz.prog 97 #[.iface 71 (.pointer (some ⟨R, 0, none⟩))] w fun e w' => e = .returned (.tuple #[.int .u64 1024, .nilIface]) ∧ RAt R b cap l 2 w' ∧ Off [R] w w' := by
  have H0 := Lib.hid (h.byte (by rw [hl]; simp) 128 (by subst hl; rfl))
  have H1 : Hid (∀ W, RAt R b cap l (0 + 1) W → _) := Lib.hid fun W hW => hW.byte (by rw [hl]; simp) 8 (by subst hl; rfl)
  have hm1 := method_readByte
  clear h hl
  go_enter Tryz.func97, Tryz.ntmps97
  go_wp2_with fail
  refine wp_loop_rounds 2 ?_
  rw [rounds_succ]
  go_wp2_with fail
  refine H0.out.mono ?_
  rintro e w1 ⟨rfl, h1, h2⟩
  have HR1 := Lib.hid h1
  have HO1 := Lib.hid h2
  clear h1 h2
  go_wp2_with fail
  rw [rounds_succ]
  go_wp2_with fail
  refine (H1.out _ HR1.out).mono ?_
  rintro e w2 ⟨rfl, h1, h2⟩
  have HR2 := Lib.hid h1
  have HO2 := Lib.hid h2
  clear h1 h2
  go_wp2_with fail
  go_ret2
  exact ⟨rfl, HR2.out, HO1.out.then HO2.out (fun x hx => Or.inl hx)⟩
set_option maxRecDepth 100000 in
theorem readCodec_mw {R b cap : Nat} {l t : List UInt8} {w : World} (h : RAt R b cap l 0 w) (hl : l = 128 :: 8 :: t) :
    Calls Tryz.prog 55 #[.iface 71 (.pointer (some ⟨R, 0, none⟩))] w fun e w' => e = .returned (.tuple #[.int .u64 1024, .nilIface]) ∧ RAt R b cap l 2 w' ∧ Off [R] w w' := by
  have HU := Lib.hid (readUvarint_mw h hl)
  clear h hl
  go_enter Tryz.func55, Tryz.ntmps55
  go_wp2_with (first
    | (go_at_call 98; refine (toBr _ _).mono ?_; rintro e w' ⟨rfl, rfl⟩)
    | (go_at_call 97; refine HU.out.mono ?_; rintro e w1 ⟨rfl, hR1, hO1⟩))
  go_ret2
  exact ⟨rfl, hR1, hO1⟩
theorem method_mwUnmarshal (a : Addr) (w : World) : (method 472 170 (.pointer (some a)) "Unmarshal").run Tryz.prog w = .ok (214, .pointer (some a)) w := by kernel_rfl

theorem uvarint_mis : Lib.uvarint 1025 = [129, 8] := by
  rw [Lib.uvarint, dif_neg (by omega), Lib.uvarint_small (by omega)]
  rfl
set_option maxRecDepth 100000 in
set_option maxHeartbeats 1000000 in
theorem readUvarint_mis {R b cap : Nat} {l t : List UInt8} {w : World} (h : RAt R b cap l 0 w) (hl : l = 129 :: 8 :: t) :
    Calls Tryz.prog 97 #[.iface 71 (.pointer (some ⟨R, 0, none⟩))] w fun e w' => e = .returned (.tuple #[.int .u64 1025, .nilIface]) ∧ RAt R b cap l 2 w' ∧ Off [R] w w' := by
  have H0 := Lib.hid (h.byte (by rw [hl]; simp) 129 (by subst hl; rfl))
  have H1 : Hid (∀ W, RAt R b cap l (0 + 1) W → _) := Lib.hid fun W hW => hW.byte (by rw [hl]; simp) 8 (by subst hl; rfl)
  have hm1 := method_readByte
  clear h hl
  go_enter Tryz.func97, Tryz.ntmps97
  go_wp2_with fail
  refine wp_loop_rounds 2 ?_
  rw [rounds_succ]
  go_wp2_with fail
  refine H0.out.mono ?_
  rintro e w1 ⟨rfl, h1, h2⟩
  have HR1 := Lib.hid h1
  have HO1 := Lib.hid h2
  clear h1 h2
  go_wp2_with fail
  rw [rounds_succ]
  go_wp2_with fail
  refine (H1.out _ HR1.out).mono ?_
  rintro e w2 ⟨rfl, h1, h2⟩
  have HR2 := Lib.hid h1
  have HO2 := Lib.hid h2
  clear h1 h2
  go_wp2_with fail
  go_ret2
  exact ⟨rfl, HR2.out, HO1.out.then HO2.out (fun x hx => Or.inl hx)⟩
set_option maxRecDepth 100000 in
theorem readCodec_mis {R b cap : Nat} {l t : List UInt8} {w : World} (h : RAt R b cap l 0 w) (hl : l = 129 :: 8 :: t) :
    Calls Tryz.prog 55 #[.iface 71 (.pointer (some ⟨R, 0, none⟩))] w fun e w' => e = .returned (.tuple #[.int .u64 1025, .nilIface]) ∧ RAt R b cap l 2 w' ∧ Off [R] w w' := by
  have HU := Lib.hid (readUvarint_mis h hl)
  clear h hl
  go_enter Tryz.func55, Tryz.ntmps55
  go_wp2_with (first
    | (go_at_call 98; refine (toBr _ _).mono ?_; rintro e w' ⟨rfl, rfl⟩)
    | (go_at_call 97; refine HU.out.mono ?_; rintro e w1 ⟨rfl, hR1, hO1⟩))
  go_ret2
  exact ⟨rfl, hR1, hO1⟩
theorem method_misUnmarshal (a : Addr) (w : World) : (method 472 124 (.pointer (some a)) "Unmarshal").run Tryz.prog w = .ok (185, .pointer (some a)) w := by kernel_rfl

set_option maxRecDepth 100000 in
set_option maxHeartbeats 1000000 in
theorem readFrom_mw {R b cap : Nat} {l : List UInt8} {w : World} (h : RAt R b cap l 0 w) (G : List (Nat × List Rw)) (hl : l = Lib.uvarint 1024 ++ mwB G) (hG : Bks G) (hGl : G.length ≤ 1000) (hGw : ∀ p, p ∈ G → p.1 ≤ 1000 ∧ p.2.length ≤ 1000) (hbw : b < w.heap.size) :
    Calls Tryz.prog 35 #[.iface 71 (.pointer (some ⟨R, 0, none⟩))] w fun e w' => ∃ pb mm, e = .returned (.tuple #[.iface 170 (.pointer (some ⟨pb, 0, none⟩)), .nilIface]) ∧ w'.cell? ⟨pb, 0, none⟩ = some (.map (some mm)) ∧ MwAt w.heap.size w' mm (G.map (·.1)) (rowsOf G) ∧ Off [R] w w' ∧ w.heap.size ≤ pb ∧ w.heap.size ≤ mm ∧ pb ≠ mm := by
  have hRlt := h.lt
  have hl2 : l = 128 :: 8 :: mwB G := by rw [hl, uvarint_mw]; rfl
  have HC := Lib.hid (readCodec_mw h hl2)
  have hd : l.drop 2 = mwB G ++ [] := by rw [hl2]; simp
  have HU : Hid (∀ W pb mm, RAt R b cap l 2 W → W.cell? ⟨pb, 0, none⟩ = some (.map (some mm)) → Mp Tryz.prog 143 .u32 W mm 0 [] (fun _ => undef) → pb ≠ mm → pb ≠ R → mm ≠ R → mm ≠ b → b < W.heap.size → _) := Lib.hid fun W pb mm a1 a2 a3 a4 a5 a6 a7 a8 => mwUnmarshal_at a1 pb mm G [] hd hG hGl hGw a2 a3 a4 a5 a6 a7 a8
  have hm := method_mwUnmarshal
  clear h hl hl2 hd hG hGl hGw
  go_enter Tryz.func35, Tryz.ntmps35
  go_wp2_with (first
    | (go_at_call 55; refine HC.out.mono ?_; rintro e w1 ⟨rfl, hR1, hO1⟩)
    | (go_at_call 38; refine (new_mw _).mono ?_; rintro e w2 ⟨pb, mm, rfl, hp2, hm2, ho2, hpb, hmm, hpm⟩
       have hs1 := hO1.size
       have hs2 := ho2.size
       have HP2 := Lib.hid hp2; have HM2 := Lib.hid hm2; have HO2 := Lib.hid ho2; have HR2 := Lib.hid (hR1.off ho2 (by simp) (by simp)); clear hp2 hm2 ho2 hR1)
    | (go_at_call 214; refine (HU.out _ _ _ HR2.out HP2.out HM2.out hpm (by omega) (by omega) (by omega) (by omega)).mono ?_; rintro e w3 ⟨rfl, hM3, hR3, hO3⟩))
  go_ret2
  have hpR : pb ≠ R := by omega
  exact ⟨pb, mm, rfl, hO3.cell HP2.out (ni2 hpR hpm), hM3.mono (by omega), (hO1.then HO2.out (fun x hx => by simp at hx)).then hO3 (fun x hx => by simp at hx; rcases hx with rfl | rfl; exact Or.inl (by simp); right; omega), by omega, by omega, hpm⟩

set_option maxRecDepth 100000 in
set_option maxHeartbeats 1000000 in
theorem readFrom_mis {R b cap : Nat} {l : List UInt8} {w : World} (h : RAt R b cap l 0 w) (G : List (Nat × List (Nat × List Rw))) (hl : l = Lib.uvarint 1025 ++ mhiB G) (hG : (G.map (·.1)).Pairwise (· < ·)) (hGl : G.length ≤ 1000) (hGw : ∀ p, p ∈ G → p.1 < 18446744073709551616 ∧ Bks p.2 ∧ p.2.length ≤ 1000 ∧ ∀ x, x ∈ p.2 → x.1 ≤ 1000 ∧ x.2.length ≤ 1000) (hbw : b < w.heap.size) :
    Calls Tryz.prog 35 #[.iface 71 (.pointer (some ⟨R, 0, none⟩))] w fun e w' => ∃ pb mm, e = .returned (.tuple #[.iface 124 (.pointer (some ⟨pb, 0, none⟩)), .nilIface]) ∧ w'.cell? ⟨pb, 0, none⟩ = some (.map (some mm)) ∧ MisAt w.heap.size w' mm (G.map (·.1)) (fun c => (gOf G c).map (·.1)) (fun c => rowsOf (gOf G c)) ∧ Off [R] w w' ∧ w.heap.size ≤ pb ∧ w.heap.size ≤ mm ∧ pb ≠ mm := by
  have hRlt := h.lt
  have hl2 : l = 129 :: 8 :: mhiB G := by rw [hl, uvarint_mis]; rfl
  have HC := Lib.hid (readCodec_mis h hl2)
  have hd : l.drop 2 = mhiB G ++ [] := by rw [hl2]; simp
  have HU : Hid (∀ W pb mm, RAt R b cap l 2 W → W.cell? ⟨pb, 0, none⟩ = some (.map (some mm)) → Mp Tryz.prog 23 .u64 W mm 0 [] (fun _ => undef) → pb ≠ mm → pb ≠ R → mm ≠ R → mm ≠ b → b < W.heap.size → _) := Lib.hid fun W pb mm a1 a2 a3 a4 a5 a6 a7 a8 => misUnmarshal_at a1 pb mm G [] hd hG hGl hGw a2 a3 a4 a5 a6 a7 a8
  have hm := method_misUnmarshal
  clear h hl hl2 hd hG hGl hGw
  go_enter Tryz.func35, Tryz.ntmps35
  go_wp2_with (first
    | (go_at_call 55; refine HC.out.mono ?_; rintro e w1 ⟨rfl, hR1, hO1⟩)
    | (go_at_call 38; refine (new_mis _).mono ?_; rintro e w2 ⟨pb, mm, rfl, hp2, hm2, ho2, hpb, hmm, hpm⟩
       have hs1 := hO1.size
       have hs2 := ho2.size
       have HP2 := Lib.hid hp2; have HM2 := Lib.hid hm2; have HO2 := Lib.hid ho2; have HR2 := Lib.hid (hR1.off ho2 (by simp) (by simp)); clear hp2 hm2 ho2 hR1)
    | (go_at_call 185; refine (HU.out _ _ _ HR2.out HP2.out HM2.out hpm (by omega) (by omega) (by omega) (by omega)).mono ?_; rintro e w3 ⟨rfl, hM3, hR3, hO3⟩))
  go_ret2
  have hs12 : w.heap.size ≤ w2.heap.size := by omega
  have hpR : pb ≠ R := by omega
  refine ⟨pb, mm, rfl, hO3.cell HP2.out (ni2 hpR hpm), ?_, (hO1.then HO2.out (fun x hx => by simp at hx)).then hO3 (fun x hx => by simp at hx; rcases hx with rfl | rfl; exact Or.inl (by simp); right; omega), by omega, by omega, hpm⟩
  obtain ⟨V, q, m, k1, k2⟩ := hM3.ex
  exact ⟨V, q, m, k1, fun c hc => by obtain ⟨a1, a2, a3, a4, a5⟩ := k2 c hc; exact ⟨a1, a2, a3.mono hs12, by omega, by omega⟩⟩
end Go.Proofs.YtcgggcjmmphldaaGreatDoor
