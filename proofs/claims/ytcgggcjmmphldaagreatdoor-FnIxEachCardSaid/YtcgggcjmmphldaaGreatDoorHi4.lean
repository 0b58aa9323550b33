/-
  index.ReadCodec, index.ReadFrom over a bytes.Reader.
  impl.found: 0 at nil, 1 at index.ErrNotFound.
  impl.offsets: an index's bytes read, an identifier looked up.
  (No condition beyond those that each theorem states.)
-/
import Derived.Test.YtcgggcjmmphldaaGreatDoorHh3
import Derived.Test.YtcgggcjmmphldaaGreatDoorHi3
import Derived.Test.YtcgggcjmmphldaaGreatDoorProg
import Derived.Test.YtcgggcjmmphldaaGreatDoorHa4
import Derived.WalkSpells
import Derived.WalkKit
import Derived.LaidEql
import Derived.Test.YtcgggcjmmphldaaGreatDoorHi1
namespace Go.Proofs.YtcgggcjmmphldaaGreatDoor
open Go.RowKit

theorem RAt.byte {R b cap i : Nat} {l : List UInt8} {w : World} (h : RAt R b cap l i w) (hi : i < l.length) (c : Int) (hc : ((l[i]).toNat : Int) = c) :
    Calls Tryz.prog 177 #[.pointer (some ⟨R, 0, none⟩)] w fun e w' => e = .returned (.tuple #[.int .u8 c, .nilIface]) ∧ RAt R b cap l (i + 1) w' ∧ Off [R] w w' := by
  obtain ⟨p, hp⟩ := h.rd
  refine (brReadByte R b l.length cap i p l w rfl hp h.seg h.ne hi h.len c hc).mono ?_
  rintro e w' ⟨he, h1, h2⟩
  exact ⟨he, { h with rd := ⟨_, h1⟩, seg := h.seg.off h2 (ni1 (fun e => h.ne e.symm)) }, h2⟩

theorem uvarint_mw : Lib.uvarint 1024 = [128, 8] := by
  rw [Lib.uvarint, dif_neg (by omega), Lib.uvarint_small (by omega)]
  rfl
set_option maxRecDepth 100000 in
set_option maxHeartbeats 1000000 in
theorem readUvarint_mw {R b cap : Nat} {l t : List UInt8} {w : World} (h : RAt R b cap l 0 w) (hl : l = 128 :: 8 :: t) :
    Calls Tryz.prog 97 #[.iface 71 (.pointer (some ⟨R, 0, none⟩))] w fun e w' => e = .returned (.tuple #[.int .u64 1024, .nilIface]) ∧ RAt R b cap l 2 w' ∧ Off [R] w w' := by
  have H0 := Lib.hid (h.byte (by rw [hl]; simp) 128 (by subst hl; rfl))
  have H1 : Hid (∀ W, RAt R b cap l (0 + 1) W → _) := Lib.hid fun W hW => hW.byte (by rw [hl]; simp) 8 (by subst hl; rfl)
  have hm1 := method_readByte
  clear h hl
  go_enter Tryz.func97, Tryz.ntmps97
  go_wp2_with fail
  refine wp_loop_rounds 2 ?_
  rw [rounds_succ]
  go_wp2_with fail
  refine H0.out.mono ?_
  rintro e w1 ⟨rfl, h1, h2⟩
  have HR1 := Lib.hid h1
  have HO1 := Lib.hid h2
  clear h1 h2
  go_wp2_with fail
  rw [rounds_succ]
  go_wp2_with fail
  refine (H1.out _ HR1.out).mono ?_
  rintro e w2 ⟨rfl, h1, h2⟩
  have HR2 := Lib.hid h1
  have HO2 := Lib.hid h2
  clear h1 h2
  go_wp2_with fail
  go_ret2
  exact ⟨rfl, HR2.out, HO1.out.then HO2.out (fun x hx => Or.inl hx)⟩
set_option maxRecDepth 100000 in
theorem readCodec_mw {R b cap : Nat} {l t : List UInt8} {w : World} (h : RAt R b cap l 0 w) (hl : l = 128 :: 8 :: t) :
    Calls Tryz.prog 55 #[.iface 71 (.pointer (some ⟨R, 0, none⟩))] w fun e w' => e = .returned (.tuple #[.int .u64 1024, .nilIface]) ∧ RAt R b cap l 2 w' ∧ Off [R] w w' := by
  have HU := Lib.hid (readUvarint_mw h hl)
  clear h hl
  go_enter Tryz.func55, Tryz.ntmps55
  go_wp2_with (first
    | (go_at_call 98; refine (toBr _ _).mono ?_; rintro e w' ⟨rfl, rfl⟩)
    | (go_at_call 97; refine HU.out.mono ?_; rintro e w1 ⟨rfl, hR1, hO1⟩))
  go_ret2
  exact ⟨rfl, hR1, hO1⟩
theorem method_mwUnmarshal (a : Addr) (w : World) : (method 472 170 (.pointer (some a)) "Unmarshal").run Tryz.prog w = .ok (214, .pointer (some a)) w := by kernel_rfl

theorem uvarint_mis : Lib.uvarint 1025 = [129, 8] := by
  rw [Lib.uvarint, dif_neg (by omega), Lib.uvarint_small (by omega)]
  rfl
set_option maxRecDepth 100000 in
set_option maxHeartbeats 1000000 in
theorem readUvarint_mis {R b cap : Nat} {l t : List UInt8} {w : World} (h : RAt R b cap l 0 w) (hl : l = 129 :: 8 :: t) :
    Calls Tryz.prog 97 #[.iface 71 (.pointer (some ⟨R, 0, none⟩))] w fun e w' => e = .returned (.tuple #[.int .u64 1025, .nilIface]) ∧ RAt R b cap l 2 w' ∧ Off [R] w w' := by
  have H0 := Lib.hid (h.byte (by rw [hl]; simp) 129 (by subst hl; rfl))
  have H1 : Hid (∀ W, RAt R b cap l (0 + 1) W → _) := Lib.hid fun W hW => hW.byte (by rw [hl]; simp) 8 (by subst hl; rfl)
  have hm1 := method_readByte
  clear h hl
  go_enter Tryz.func97, Tryz.ntmps97
  go_wp2_with fail
  refine wp_loop_rounds 2 ?_
  rw [rounds_succ]
  go_wp2_with fail
  refine H0.out.mono ?_
  rintro e w1 ⟨rfl, h1, h2⟩
  have HR1 := Lib.hid h1
  have HO1 := Lib.hid h2
  clear h1 h2
  go_wp2_with fail
  rw [rounds_succ]
  go_wp2_with fail
  refine (H1.out _ HR1.out).mono ?_
  rintro e w2 ⟨rfl, h1, h2⟩
  have HR2 := Lib.hid h1
  have HO2 := Lib.hid h2
  clear h1 h2
  go_wp2_with fail
  go_ret2
  exact ⟨rfl, HR2.out, HO1.out.then HO2.out (fun x hx => Or.inl hx)⟩
set_option maxRecDepth 100000 in
theorem readCodec_mis {R b cap : Nat} {l t : List UInt8} {w : World} (h : RAt R b cap l 0 w) (hl : l = 129 :: 8 :: t) :
    Calls Tryz.prog 55 #[.iface 71 (.pointer (some ⟨R, 0, none⟩))] w fun e w' => e = .returned (.tuple #[.int .u64 1025, .nilIface]) ∧ RAt R b cap l 2 w' ∧ Off [R] w w' := by
  have HU := Lib.hid (readUvarint_mis h hl)
  clear h hl
  go_enter Tryz.func55, Tryz.ntmps55
  go_wp2_with (first
    | (go_at_call 98; refine (toBr _ _).mono ?_; rintro e w' ⟨rfl, rfl⟩)
    | (go_at_call 97; refine HU.out.mono ?_; rintro e w1 ⟨rfl, hR1, hO1⟩))
  go_ret2
  exact ⟨rfl, hR1, hO1⟩
theorem method_misUnmarshal (a : Addr) (w : World) : (method 472 124 (.pointer (some a)) "Unmarshal").run Tryz.prog w = .ok (185, .pointer (some a)) w := by kernel_rfl

set_option maxRecDepth 100000 in
set_option maxHeartbeats 1000000 in
theorem readFrom_mw {R b cap : Nat} {l : List UInt8} {w : World} (h : RAt R b cap l 0 w) (G : List (Nat × List Rw)) (hl : l = Lib.uvarint 1024 ++ mwB G) (hG : Bks G) (hGl : G.length ≤ 1000) (hGw : ∀ p, p ∈ G → p.1 ≤ 1000 ∧ p.2.length ≤ 1000) (hbw : b < w.heap.size) :
    Calls Tryz.prog 35 #[.iface 71 (.pointer (some ⟨R, 0, none⟩))] w fun e w' => ∃ pb mm, e = .returned (.tuple #[.iface 170 (.pointer (some ⟨pb, 0, none⟩)), .nilIface]) ∧ w'.cell? ⟨pb, 0, none⟩ = some (.map (some mm)) ∧ MwAt w.heap.size w' mm (G.map (·.1)) (rowsOf G) ∧ Off [R] w w' ∧ w.heap.size ≤ pb ∧ w.heap.size ≤ mm ∧ pb ≠ mm := by
  have hRlt := h.lt
  have hl2 : l = 128 :: 8 :: mwB G := by rw [hl, uvarint_mw]; rfl
  have HC := Lib.hid (readCodec_mw h hl2)
  have hd : l.drop 2 = mwB G ++ [] := by rw [hl2]; simp
  have HU : Hid (∀ W pb mm, RAt R b cap l 2 W → W.cell? ⟨pb, 0, none⟩ = some (.map (some mm)) → Mp Tryz.prog 143 .u32 W mm 0 [] (fun _ => undef) → pb ≠ mm → pb ≠ R → mm ≠ R → mm ≠ b → b < W.heap.size → _) := Lib.hid fun W pb mm a1 a2 a3 a4 a5 a6 a7 a8 => mwUnmarshal_at a1 pb mm G [] hd hG hGl hGw a2 a3 a4 a5 a6 a7 a8
  have hm := method_mwUnmarshal
  clear h hl hl2 hd hG hGl hGw
  go_enter Tryz.func35, Tryz.ntmps35
  go_wp2_with (first
    | (go_at_call 55; refine HC.out.mono ?_; rintro e w1 ⟨rfl, hR1, hO1⟩)
    | (go_at_call 38; refine (new_mw _).mono ?_; rintro e w2 ⟨pb, mm, rfl, hp2, hm2, ho2, hpb, hmm, hpm⟩
       have hs1 := hO1.size
       have hs2 := ho2.size
       have HP2 := Lib.hid hp2; have HM2 := Lib.hid hm2; have HO2 := Lib.hid ho2; have HR2 := Lib.hid (hR1.off ho2 (by simp) (by simp)); clear hp2 hm2 ho2 hR1)
    | (go_at_call 214; refine (HU.out _ _ _ HR2.out HP2.out HM2.out hpm (by omega) (by omega) (by omega) (by omega)).mono ?_; rintro e w3 ⟨rfl, hM3, hR3, hO3⟩))
  go_ret2
  have hpR : pb ≠ R := by omega
  exact ⟨pb, mm, rfl, hO3.cell HP2.out (ni2 hpR hpm), hM3.mono (by omega), (hO1.then HO2.out (fun x hx => by simp at hx)).then hO3 (fun x hx => by simp at hx; rcases hx with rfl | rfl; exact Or.inl (by simp); right; omega), by omega, by omega, hpm⟩

set_option maxRecDepth 100000 in
set_option maxHeartbeats 1000000 in
theorem readFrom_mis {R b cap : Nat} {l : List UInt8} {w : World} (h : RAt R b cap l 0 w) (G : List (Nat × List (Nat × List Rw))) (hl : l = Lib.uvarint 1025 ++ mhiB G) (hG : (G.map (·.1)).Pairwise (· < ·)) (hGl : G.length ≤ 1000) (hGw : ∀ p, p ∈ G → p.1 < 18446744073709551616 ∧ Bks p.2 ∧ p.2.length ≤ 1000 ∧ ∀ x, x ∈ p.2 → x.1 ≤ 1000 ∧ x.2.length ≤ 1000) (hbw : b < w.heap.size) :
    Calls Tryz.prog 35 #[.iface 71 (.pointer (some ⟨R, 0, none⟩))] w fun e w' => ∃ pb mm, e = .returned (.tuple #[.iface 124 (.pointer (some ⟨pb, 0, none⟩)), .nilIface]) ∧ w'.cell? ⟨pb, 0, none⟩ = some (.map (some mm)) ∧ MisAt w.heap.size w' mm (G.map (·.1)) (fun c => (gOf G c).map (·.1)) (fun c => rowsOf (gOf G c)) ∧ Off [R] w w' ∧ w.heap.size ≤ pb ∧ w.heap.size ≤ mm ∧ pb ≠ mm := by
  have hRlt := h.lt
  have hl2 : l = 129 :: 8 :: mhiB G := by rw [hl, uvarint_mis]; rfl
  have HC := Lib.hid (readCodec_mis h hl2)
  have hd : l.drop 2 = mhiB G ++ [] := by rw [hl2]; simp
  have HU : Hid (∀ W pb mm, RAt R b cap l 2 W → W.cell? ⟨pb, 0, none⟩ = some (.map (some mm)) → Mp Tryz.prog 23 .u64 W mm 0 [] (fun _ => undef) → pb ≠ mm → pb ≠ R → mm ≠ R → mm ≠ b → b < W.heap.size → _) := Lib.hid fun W pb mm a1 a2 a3 a4 a5 a6 a7 a8 => misUnmarshal_at a1 pb mm G [] hd hG hGl hGw a2 a3 a4 a5 a6 a7 a8
  have hm := method_misUnmarshal
  clear h hl hl2 hd hG hGl hGw
  go_enter Tryz.func35, Tryz.ntmps35
  go_wp2_with (first
    | (go_at_call 55; refine HC.out.mono ?_; rintro e w1 ⟨rfl, hR1, hO1⟩)
    | (go_at_call 38; refine (new_mis _).mono ?_; rintro e w2 ⟨pb, mm, rfl, hp2, hm2, ho2, hpb, hmm, hpm⟩
       have hs1 := hO1.size
       have hs2 := ho2.size
       have HP2 := Lib.hid hp2; have HM2 := Lib.hid hm2; have HO2 := Lib.hid ho2; have HR2 := Lib.hid (hR1.off ho2 (by simp) (by simp)); clear hp2 hm2 ho2 hR1)
    | (go_at_call 185; refine (HU.out _ _ _ HR2.out HP2.out HM2.out hpm (by omega) (by omega) (by omega) (by omega)).mono ?_; rintro e w3 ⟨rfl, hM3, hR3, hO3⟩))
  go_ret2
  have hs12 : w.heap.size ≤ w2.heap.size := by omega
  have hpR : pb ≠ R := by omega
  refine ⟨pb, mm, rfl, hO3.cell HP2.out (ni2 hpR hpm), ?_, (hO1.then HO2.out (fun x hx => by simp at hx)).then hO3 (fun x hx => by simp at hx; rcases hx with rfl | rfl; exact Or.inl (by simp); right; omega), by omega, by omega, hpm⟩
  obtain ⟨V, q, m, k1, k2⟩ := hM3.ex
  exact ⟨V, q, m, k1, fun c hc => by obtain ⟨a1, a2, a3, a4, a5⟩ := k2 c hc; exact ⟨a1, a2, a3.mono hs12, by omega, by omega⟩⟩
end Go.Proofs.YtcgggcjmmphldaaGreatDoor
namespace Go.Proofs.YtcgggcjmmphldaaGreatDoor
open Go.RowKit

set_option maxRecDepth 100000 in
theorem found_nil (w : World) : Calls Tryz.prog 42 #[.nilIface] w fun e w' => e = .returned (.int .u8 0) ∧ w' = w := by
  go_enter Tryz.func42, Tryz.ntmps42
  go_wp2_with fail
  go_ret
  exact ⟨rfl, rfl⟩
set_option maxRecDepth 100000 in
theorem found_not (a : Addr) (w : World) (hE : w.cell? ⟨0, 0, none⟩ = some (.iface 173 (.pointer (some a)))) : Calls Tryz.prog 42 #[.iface 173 (.pointer (some a))] w fun e w' => e = .returned (.int .u8 1) ∧ w' = w := by
  obtain ⟨j, hj⟩ : ∃ j, Tryz.prog.info? 175 = some j := Option.isSome_iff_exists.1 (by kernel_rfl)
  obtain ⟨i, hi, hc⟩ : ∃ i, Tryz.prog.info? 173 = some i ∧ i.comparable = true := ⟨(Tryz.prog.info? 173).get (by kernel_rfl), by kernel_rfl, by kernel_rfl⟩
  have hs : ∀ W : World, (binOp .eql 68 (.iface 173 (.pointer (some a))) (.iface 173 (.pointer (some a)))).run Tryz.prog W = .ok (.bool true) W := fun W => run_eql_iface_ptr_same W a Tryz.underlying68 Tryz.underlying173 hi hc hj
  go_enter Tryz.func42, Tryz.ntmps42
  go_wp2_with fail
  go_ret
  exact ⟨rfl, rfl⟩
end Go.Proofs.YtcgggcjmmphldaaGreatDoor
namespace Go.Proofs.YtcgggcjmmphldaaGreatDoor
open Go.RowKit

set_option maxRecDepth 100000 in
set_option maxHeartbeats 1000000 in
theorem newBrd_ok (b n c : Nat) (w : World) :
    Calls Tryz.prog 36 #[.slice (some ⟨b, 0, none⟩) n c] w fun e w' => ∃ R, e = .returned (.pointer (some ⟨R, 0, none⟩)) ∧ R = w.heap.size ∧ RdC w' R b n c 0 (-1) ∧ Off [] w w' := by
  go_enter Tryz.func36, Tryz.ntmps36
  go_wp2_with fail
  go_ret
  exact ⟨_, rfl, rfl, Blk.new w _ _, (Off.refl [] w).alloc _⟩
theorem OutRow.low {w wB W : World} {v : Value} {outs : List Nat} (h : OutRow wB W v outs) (hl : w.heap.size ≤ wB.heap.size) : OutRow w W v outs := by
  rcases h with h | ⟨g, cap, sp, h1, h2, h3⟩
  · exact Or.inl h
  · exact Or.inr ⟨g, cap, sp, h1, Nat.le_trans hl h2, h3⟩
abbrev notF (a : Addr) : Value := .iface 173 (.pointer (some a))
theorem found_any (b : Bool) (a : Addr) (W : World) (hE : W.cell? ⟨0, 0, none⟩ = some (notF a)) : Calls Tryz.prog 42 #[if b then notF a else .nilIface] W fun e w' => e = .returned (.int .u8 (if b then 1 else 0)) ∧ w' = W := by
  cases b
  · exact found_nil W
  · exact found_not a W hE
theorem method_mwGetAll (a : Addr) (w : World) : (method 472 170 (.pointer (some a)) "GetAll").run Tryz.prog w = .ok (190, .pointer (some a)) w := by kernel_rfl
theorem method_misGetAll (a : Addr) (w : World) : (method 472 124 (.pointer (some a)) "GetAll").run Tryz.prog w = .ok (182, .pointer (some a)) w := by kernel_rfl

set_option maxRecDepth 100000 in
set_option maxHeartbeats 4000000 in
theorem offsets_mw (sb : ByteArray) (l : List UInt8) (hsb : sb.data.toList = l) (G : List (Nat × List Rw)) (hl : l = Lib.uvarint 1024 ++ mwB G) (hG : Bks G) (hsm : G.length ≤ 1000 ∧ ∀ p, p ∈ G → p.1 ≤ 1000 ∧ p.2.length ≤ 1000) (hsl : l.length ≤ 2000000) (e : Ent) (he : e.ok) (most : Nat) (hmost : ∀ p, p ∈ G → p.2.length < most) (hoff : ∀ p, p ∈ G → ∀ r, r ∈ p.2 → r.off < 18446744073709551616) (a : Addr) (w : World) (hE : w.cell? ⟨0, 0, none⟩ = some (notF a)) :
    Calls Tryz.prog 24 #[.string sb, .agg #[.int .u64 (e.ver : Int), .int .u64 (e.codec : Int), .int .u64 (e.code : Int), .string e.dg], .int .i64 (most : Int)] w fun r w' => ∃ v, r = .returned (.tuple #[v, .int .u8 (if look e.dg.data.toList G = [] then 1 else 0)]) ∧ OutRow w w' v (look e.dg.data.toList G) ∧ Off [] w w' := by
  obtain ⟨outs, houts⟩ : ∃ outs, outs = look e.dg.data.toList G := ⟨_, rfl⟩
  obtain ⟨nf, hnf⟩ : ∃ nf, nf = decide (look e.dg.data.toList G = []) := ⟨_, rfl⟩
  obtain ⟨fv, hfv⟩ : ∃ fv : Int, fv = if nf then 1 else 0 := ⟨_, rfl⟩
  obtain ⟨rv, hrv⟩ : ∃ rv, rv = if nf then notF a else .nilIface := ⟨_, rfl⟩
  have hfv2 : (if look e.dg.data.toList G = [] then (1 : Int) else 0) = fv := by rw [hfv, hnf]; by_cases h : look e.dg.data.toList G = [] <;> simp [h]
  have hrv2 : (if look e.dg.data.toList G = [] then notF a else .nilIface) = rv := by rw [hrv, hnf]; by_cases h : look e.dg.data.toList G = [] <;> simp [h]
  rw [hfv2, ← houts]
  have HFD : Hid (∀ W : World, W.cell? ⟨0, 0, none⟩ = some (notF a) → Calls Tryz.prog 42 #[rv] W fun e w' => e = .returned (.int .u8 fv) ∧ w' = W) := Lib.hid fun W hW => by
    rw [hrv, hfv]; exact found_any nf a W hW
  have hz : sb.size = l.length := by rw [← hsb, Array.length_toList]; rfl
  have hcv := fun W => run_bytes_of_string (P := Tryz.prog) W 9 46 5 sb Tryz.underlying9 Tryz.underlying46 Tryz.underlying5
  have hmf : ∀ (fn : Fn) (first cap : Array Value) (w : World), (Instr.makeFunc fn first cap).run Tryz.prog w = .ok (.func fn first cap) w := fun _ _ _ _ => rfl
  have hmt := method_mwGetAll
  obtain ⟨wA, hwA⟩ : ∃ wA, wA = (w.alloc (.cells #[.int .u64 (e.ver : Int), .int .u64 (e.codec : Int), .int .u64 (e.code : Int), .string e.dg] 25)).alloc (.cells #[.int .i64 (most : Int)] 3) := ⟨_, rfl⟩
  have hoA : Off [] w wA := by rw [hwA]; exact ((Off.refl [] w).alloc _).alloc _
  have hcA : Blk wA w.heap.size 25 #[.int .u64 (e.ver : Int), .int .u64 (e.codec : Int), .int .u64 (e.code : Int), .string e.dg] := by rw [hwA]; exact (Blk.new w _ _).alloc _
  have hmA : Blk wA (w.heap.size + 1) 3 #[.int .i64 (most : Int)] := by rw [hwA]; exact Blk.new' _ _ _ (by simp)
  have hzA : wA.heap.size = w.heap.size + 2 := by rw [hwA]; simp
  have HRF : Hid (∀ (W : World) (R b cap : Nat), RAt R b cap l 0 W → b < W.heap.size → _) := Lib.hid fun W R b cap h hb => readFrom_mw h G hl hG hsm.1 hsm.2 hb
  have HCI := Lib.hid fun W => cidIn_ent e he W
  have HIC := Lib.hid (Ent.it_ok he).cid
  have hdl : e.it.d.length ≤ 1000 := (Ent.it_ok he).small
  have HGA : Hid (∀ (W W0 : World) (B pb mm ob : Nat), MwAt B W0 mm (G.map (·.1)) (rowsOf G) → Off [] W0 W → W.cell? ⟨pb, 0, none⟩ = some (.map (some mm)) → Blk W ob 33 #[.slice none 0 0] → Blk W (w.heap.size + 1) 3 #[.int .i64 (most : Int)] → w.heap.size + 1 ≠ ob → W0.heap.size ≤ ob → W.cell? ⟨0, 0, none⟩ = some (notF a) → 0 ≠ ob →
      Calls Tryz.prog 190 #[.pointer (some ⟨pb, 0, none⟩), .agg #[.string e.it.s], .func (.func 41) #[] #[.pointer (some ⟨ob, 0, none⟩), .pointer (some ⟨w.heap.size + 1, 0, none⟩)]] W fun r w' => r = .returned rv ∧ ∃ w1, Off [] W w1 ∧ OutAt w1 ob (w.heap.size + 1) most outs w') := Lib.hid fun W W0 B pb mm ob h1 h2 h3 h4 h5 h6 h7 h8 h9 => by
    rw [← hrv2, houts]
    exact mwGetAll_any W W0 B pb mm ob (w.heap.size + 1) most e.code e.it.s e.dg.data.toList G _ HIC.out hdl hG hsm.2 hmost hoff h1 h2 h3 h4 h5 h6 h7 h8 h9
  have HE := Lib.hid hE
  have hE0 : 0 < w.heap.size := World.block_lt_of_cell? _ _ hE
  have HOA := Lib.hid hoA
  have HCA := Lib.hid hcA
  have HMA := Lib.hid hmA
  have HSB := Lib.hid hsb
  have HZ := Lib.hid hz
  have HWA := Lib.hid hwA
  clear hwA
  clear hsb hl hG hsm hmost hoff he houts hnf hfv hrv hfv2 hrv2 hz hoA hcA hmA hE
  go_enter Tryz.func24, Tryz.ntmps24
  go_wp2_with (first
    | (go_at_call 36
       rw [← HWA.out]
       generalize hC : grownCap wA sb.size 0 5 = C
       have hCs : sb.size ≤ C := by rw [← hC]; exact grownCap_ge _ _ _ _
       clear hC
       refine (newBrd_ok _ _ _ _).mono ?_
       rintro r w1 ⟨R, rfl, hR, hr1, ho1⟩
       have hb0 : w.heap.size + 1 + 1 = wA.heap.size := by omega
       have hs1 : Seg w1 (w.heap.size + 1 + 1) 0 l := by
         rw [hb0, ← HSB.out]
         exact (Seg.off (seg_bytes wA sb C _ _) (Off.drew (Off.refl [] _)) (by simp)).off ho1 (by simp)
       have hO1 : Off [] wA w1 := Off.then (by repeat' (first | exact Off.refl [] wA | refine Off.alloc ?_ _ | refine Off.drew ?_)) ho1 (fun x hx => by simp at hx)
       have hR2 : w.heap.size + 2 < R := by rw [hR]; simp; omega
       have hRw := Blk.lt hr1
       have HRA : Hid (RAt R (w.heap.size + 1 + 1) C l 0 w1) := Lib.hid { rd := ⟨_, by rw [← HZ.out]; exact hr1⟩, seg := hs1, ne := by omega, len := by omega, cap_ := by rw [← HZ.out]; exact hCs }
       have HO1 := Lib.hid hO1
       clear hs1 hO1 hr1 ho1 hR hb0 hCs)
    | (go_at_call 35
       refine (HRF.out _ _ _ _ HRA.out (by omega)).mono ?_
       rintro r w2 ⟨pb, mm, rfl, hpb, hmw, ho2, hpl, hml, hpm⟩
       have hO2 : Off [] wA w2 := HO1.out.then (ho2.mono (S' := [R]) (fun x hx => Or.inl hx)) (fun x hx => by simp at hx; right; omega)
       have hcb := HCA.out.off hO2 (by simp)
       have c0 : w2.cell? ⟨w.heap.size, 0, none⟩ = some (.int .u64 (e.ver : Int)) := hcb.cell 0
       have c1 : w2.cell? ⟨w.heap.size, 1, none⟩ = some (.int .u64 (e.codec : Int)) := hcb.cell 1
       have c2 : w2.cell? ⟨w.heap.size, 2, none⟩ = some (.int .u64 (e.code : Int)) := hcb.cell 2
       have c3 : w2.cell? ⟨w.heap.size, 3, none⟩ = some (.string e.dg) := hcb.cell 3
       have HO2 := Lib.hid hO2
       have HMW := Lib.hid hmw
       clear hO2 hmw ho2 hcb hpl hml hpm)
    | (go_at_call 39
       refine (HCI.out _).mono ?_
       rintro r w3 ⟨rfl, hb3⟩
       have hO3 : Off [] w2 w3 := Off.ofBelow (S := []) hb3
       have p3 : w3.cell? ⟨pb, 0, none⟩ = some (.map (some mm)) := hO3.cell hpb (by simp)
       have HO3 := Lib.hid hO3
       clear hb3 hO3)
    | (go_at_call 190
       have hO6 : Off [] w2 ((w3.alloc (.cells #[.string e.it.s] 78)).alloc (.cells #[.slice none 0 0] 33)) := (HO3.out.alloc _).alloc _
       have hA6 := HO2.out.then hO6 (fun x hx => by simp at hx)
       have hw6 := HOA.out.then hA6 (fun x hx => by simp at hx)
       have hl2 := HO2.out.size
       have hl3 := HO3.out.size
       refine (HGA.out _ w2 _ pb mm (w3.heap.size + 1) HMW.out hO6 (hO6.cell hpb (by simp)) (Blk.new' _ _ _ (by simp)) (HMA.out.off hA6 (by simp)) (by omega) (by omega) (hw6.cell HE.out (by simp)) (by omega)).mono ?_
       rintro r w7 ⟨rfl, w8, ho8, hOut⟩
       obtain ⟨v, hvb, hvr⟩ := hOut.row
       have v7 : w7.cell? ⟨w3.heap.size + 1, 0, none⟩ = some v := hvb.cell 0
       have hw8 := hw6.then ho8 (fun x hx => by simp at hx)
       have e7 : w7.cell? ⟨0, 0, none⟩ = some (notF a) := hOut.off.cell (hw8.cell HE.out (by simp)) (ni1 (show 0 ≠ w3.heap.size + 1 by omega))
       have HVR := Lib.hid (hvr.low hw8.size)
       have HW7 := Lib.hid (hw8.then (hOut.off.mono (S' := [w3.heap.size + 1]) (fun x hx => Or.inl hx)) (fun x hx => by simp at hx; right; omega))
       clear hO6 hA6 hw6 hl2 hl3 hOut hvb hvr hw8 ho8))
  go_region_held3 (fun w' => w'.cell? ⟨w3.heap.size + 1, 0, none⟩ = some v) (first | exact v7) (first | (go_at_call 42; refine (HFD.out _ (show (World.drew w7).cell? _ = _ from e7)).mono ?_; rintro r w9 ⟨rfl, rfl⟩))
  all_goals go_wp2_with fail
  all_goals
    go_ret2
    refine ⟨v, rfl, ?_, ?_⟩
    · exact HVR.out.off (Off.ofDrew (S := []) (by repeat' (first | exact Drew.refl _ | exact Drew.one _ | refine Drew.more ?_ 1))) (fun x hx => by simp at hx)
    · exact HW7.out.then (Off.ofDrew (S := []) (by repeat' (first | exact Drew.refl _ | exact Drew.one _ | refine Drew.more ?_ 1))) (fun x hx => by simp at hx)

set_option maxRecDepth 100000 in
set_option maxHeartbeats 4000000 in
theorem offsets_mis (sb : ByteArray) (l : List UInt8) (hsb : sb.data.toList = l) (H : List (Nat × List (Nat × List Rw))) (hl : l = Lib.uvarint 1025 ++ mhiB H) (hH : (H.map (·.1)).Pairwise (· < ·)) (hHl : H.length ≤ 1000) (hsm : ∀ p, p ∈ H → p.1 < 18446744073709551616 ∧ Bks p.2 ∧ p.2.length ≤ 1000 ∧ ∀ x, x ∈ p.2 → x.1 ≤ 1000 ∧ x.2.length ≤ 1000) (hsl : l.length ≤ 2000000) (e : Ent) (he : e.ok) (most : Nat) (hmost : ∀ p, p ∈ H → ∀ x, x ∈ p.2 → x.2.length < most ∧ ∀ r, r ∈ x.2 → r.off < 18446744073709551616) (a : Addr) (w : World) (hE : w.cell? ⟨0, 0, none⟩ = some (notF a)) :
    Calls Tryz.prog 24 #[.string sb, .agg #[.int .u64 (e.ver : Int), .int .u64 (e.codec : Int), .int .u64 (e.code : Int), .string e.dg], .int .i64 (most : Int)] w fun r w' => ∃ v, r = .returned (.tuple #[v, .int .u8 (if clook e.code e.dg.data.toList H = [] then 1 else 0)]) ∧ OutRow w w' v (clook e.code e.dg.data.toList H) ∧ Off [] w w' := by
  obtain ⟨outs, houts⟩ : ∃ outs, outs = clook e.code e.dg.data.toList H := ⟨_, rfl⟩
  obtain ⟨nf, hnf⟩ : ∃ nf, nf = decide (clook e.code e.dg.data.toList H = []) := ⟨_, rfl⟩
  obtain ⟨fv, hfv⟩ : ∃ fv : Int, fv = if nf then 1 else 0 := ⟨_, rfl⟩
  obtain ⟨rv, hrv⟩ : ∃ rv, rv = if nf then notF a else .nilIface := ⟨_, rfl⟩
  have hfv2 : (if clook e.code e.dg.data.toList H = [] then (1 : Int) else 0) = fv := by rw [hfv, hnf]; by_cases h : clook e.code e.dg.data.toList H = [] <;> simp [h]
  have hrv2 : (if clook e.code e.dg.data.toList H = [] then notF a else .nilIface) = rv := by rw [hrv, hnf]; by_cases h : clook e.code e.dg.data.toList H = [] <;> simp [h]
  rw [hfv2, ← houts]
  have HFD : Hid (∀ W : World, W.cell? ⟨0, 0, none⟩ = some (notF a) → Calls Tryz.prog 42 #[rv] W fun e w' => e = .returned (.int .u8 fv) ∧ w' = W) := Lib.hid fun W hW => by
    rw [hrv, hfv]; exact found_any nf a W hW
  have hz : sb.size = l.length := by rw [← hsb, Array.length_toList]; rfl
  have hcv := fun W => run_bytes_of_string (P := Tryz.prog) W 9 46 5 sb Tryz.underlying9 Tryz.underlying46 Tryz.underlying5
  have hmf : ∀ (fn : Fn) (first cap : Array Value) (w : World), (Instr.makeFunc fn first cap).run Tryz.prog w = .ok (.func fn first cap) w := fun _ _ _ _ => rfl
  have hmt := method_misGetAll
  obtain ⟨wA, hwA⟩ : ∃ wA, wA = (w.alloc (.cells #[.int .u64 (e.ver : Int), .int .u64 (e.codec : Int), .int .u64 (e.code : Int), .string e.dg] 25)).alloc (.cells #[.int .i64 (most : Int)] 3) := ⟨_, rfl⟩
  have hoA : Off [] w wA := by rw [hwA]; exact ((Off.refl [] w).alloc _).alloc _
  have hcA : Blk wA w.heap.size 25 #[.int .u64 (e.ver : Int), .int .u64 (e.codec : Int), .int .u64 (e.code : Int), .string e.dg] := by rw [hwA]; exact (Blk.new w _ _).alloc _
  have hmA : Blk wA (w.heap.size + 1) 3 #[.int .i64 (most : Int)] := by rw [hwA]; exact Blk.new' _ _ _ (by simp)
  have hzA : wA.heap.size = w.heap.size + 2 := by rw [hwA]; simp
  have HRF : Hid (∀ (W : World) (R b cap : Nat), RAt R b cap l 0 W → b < W.heap.size → _) := Lib.hid fun W R b cap h hb => readFrom_mis h H hl hH hHl hsm hb
  have HCI := Lib.hid fun W => cidIn_ent e he W
  have HIC := Lib.hid (Ent.it_ok he).cid
  have hdl : e.it.d.length ≤ 1000 := (Ent.it_ok he).small
  have HGA : Hid (∀ (W W0 : World) (B pb mm ob : Nat), MisAt B W0 mm (H.map (·.1)) (fun c => (gOf H c).map (·.1)) (fun c => rowsOf (gOf H c)) → Off [] W0 W → W.cell? ⟨pb, 0, none⟩ = some (.map (some mm)) → Blk W ob 33 #[.slice none 0 0] → Blk W (w.heap.size + 1) 3 #[.int .i64 (most : Int)] → w.heap.size + 1 ≠ ob → W0.heap.size ≤ ob → W.cell? ⟨0, 0, none⟩ = some (notF a) → 0 ≠ ob →
      Calls Tryz.prog 182 #[.pointer (some ⟨pb, 0, none⟩), .agg #[.string e.it.s], .func (.func 41) #[] #[.pointer (some ⟨ob, 0, none⟩), .pointer (some ⟨w.heap.size + 1, 0, none⟩)]] W fun r w' => r = .returned rv ∧ ∃ w1, Off [] W w1 ∧ OutAt w1 ob (w.heap.size + 1) most outs w') := Lib.hid fun W W0 B pb mm ob h1 h2 h3 h4 h5 h6 h7 h8 h9 => by
    rw [← hrv2, houts]
    exact misGetAll_any W W0 B pb mm ob (w.heap.size + 1) most e.code e.it.s e.dg.data.toList H _ _ _ rfl HIC.out hdl (fun p hp => ⟨(hsm p hp).2.1, fun x hx => ⟨((hsm p hp).2.2.2 x hx).1, ((hsm p hp).2.2.2 x hx).2, (hmost p hp x hx).1, (hmost p hp x hx).2⟩⟩) h1 h2 h3 h4 h5 h6 h7 h8 h9
  have HE := Lib.hid hE
  have hE0 : 0 < w.heap.size := World.block_lt_of_cell? _ _ hE
  have HOA := Lib.hid hoA
  have HCA := Lib.hid hcA
  have HMA := Lib.hid hmA
  have HSB := Lib.hid hsb
  have HZ := Lib.hid hz
  have HWA := Lib.hid hwA
  clear hwA
  clear hsb hl hH hHl hsm hmost he houts hnf hfv hrv hfv2 hrv2 hz hoA hcA hmA hE
  go_enter Tryz.func24, Tryz.ntmps24
  go_wp2_with (first
    | (go_at_call 36
       rw [← HWA.out]
       generalize hC : grownCap wA sb.size 0 5 = C
       have hCs : sb.size ≤ C := by rw [← hC]; exact grownCap_ge _ _ _ _
       clear hC
       refine (newBrd_ok _ _ _ _).mono ?_
       rintro r w1 ⟨R, rfl, hR, hr1, ho1⟩
       have hb0 : w.heap.size + 1 + 1 = wA.heap.size := by omega
       have hs1 : Seg w1 (w.heap.size + 1 + 1) 0 l := by
         rw [hb0, ← HSB.out]
         exact (Seg.off (seg_bytes wA sb C _ _) (Off.drew (Off.refl [] _)) (by simp)).off ho1 (by simp)
       have hO1 : Off [] wA w1 := Off.then (by repeat' (first | exact Off.refl [] wA | refine Off.alloc ?_ _ | refine Off.drew ?_)) ho1 (fun x hx => by simp at hx)
       have hR2 : w.heap.size + 2 < R := by rw [hR]; simp; omega
       have hRw := Blk.lt hr1
       have HRA : Hid (RAt R (w.heap.size + 1 + 1) C l 0 w1) := Lib.hid { rd := ⟨_, by rw [← HZ.out]; exact hr1⟩, seg := hs1, ne := by omega, len := by omega, cap_ := by rw [← HZ.out]; exact hCs }
       have HO1 := Lib.hid hO1
       clear hs1 hO1 hr1 ho1 hR hb0 hCs)
    | (go_at_call 35
       refine (HRF.out _ _ _ _ HRA.out (by omega)).mono ?_
       rintro r w2 ⟨pb, mm, rfl, hpb, hmw, ho2, hpl, hml, hpm⟩
       have hO2 : Off [] wA w2 := HO1.out.then (ho2.mono (S' := [R]) (fun x hx => Or.inl hx)) (fun x hx => by simp at hx; right; omega)
       have hcb := HCA.out.off hO2 (by simp)
       have c0 : w2.cell? ⟨w.heap.size, 0, none⟩ = some (.int .u64 (e.ver : Int)) := hcb.cell 0
       have c1 : w2.cell? ⟨w.heap.size, 1, none⟩ = some (.int .u64 (e.codec : Int)) := hcb.cell 1
       have c2 : w2.cell? ⟨w.heap.size, 2, none⟩ = some (.int .u64 (e.code : Int)) := hcb.cell 2
       have c3 : w2.cell? ⟨w.heap.size, 3, none⟩ = some (.string e.dg) := hcb.cell 3
       have HO2 := Lib.hid hO2
       have HMW := Lib.hid hmw
       clear hO2 hmw ho2 hcb hpl hml hpm)
    | (go_at_call 39
       refine (HCI.out _).mono ?_
       rintro r w3 ⟨rfl, hb3⟩
       have hO3 : Off [] w2 w3 := Off.ofBelow (S := []) hb3
       have p3 : w3.cell? ⟨pb, 0, none⟩ = some (.map (some mm)) := hO3.cell hpb (by simp)
       have HO3 := Lib.hid hO3
       clear hb3 hO3)
    | (go_at_call 182
       have hO6 : Off [] w2 ((w3.alloc (.cells #[.string e.it.s] 78)).alloc (.cells #[.slice none 0 0] 33)) := (HO3.out.alloc _).alloc _
       have hA6 := HO2.out.then hO6 (fun x hx => by simp at hx)
       have hw6 := HOA.out.then hA6 (fun x hx => by simp at hx)
       have hl2 := HO2.out.size
       have hl3 := HO3.out.size
       refine (HGA.out _ w2 _ pb mm (w3.heap.size + 1) HMW.out hO6 (hO6.cell hpb (by simp)) (Blk.new' _ _ _ (by simp)) (HMA.out.off hA6 (by simp)) (by omega) (by omega) (hw6.cell HE.out (by simp)) (by omega)).mono ?_
       rintro r w7 ⟨rfl, w8, ho8, hOut⟩
       obtain ⟨v, hvb, hvr⟩ := hOut.row
       have v7 : w7.cell? ⟨w3.heap.size + 1, 0, none⟩ = some v := hvb.cell 0
       have hw8 := hw6.then ho8 (fun x hx => by simp at hx)
       have e7 : w7.cell? ⟨0, 0, none⟩ = some (notF a) := hOut.off.cell (hw8.cell HE.out (by simp)) (ni1 (show 0 ≠ w3.heap.size + 1 by omega))
       have HVR := Lib.hid (hvr.low hw8.size)
       have HW7 := Lib.hid (hw8.then (hOut.off.mono (S' := [w3.heap.size + 1]) (fun x hx => Or.inl hx)) (fun x hx => by simp at hx; right; omega))
       clear hO6 hA6 hw6 hl2 hl3 hOut hvb hvr hw8 ho8))
  go_region_held3 (fun w' => w'.cell? ⟨w3.heap.size + 1, 0, none⟩ = some v) (first | exact v7) (first | (go_at_call 42; refine (HFD.out _ (show (World.drew w7).cell? _ = _ from e7)).mono ?_; rintro r w9 ⟨rfl, rfl⟩))
  all_goals go_wp2_with fail
  all_goals
    go_ret2
    refine ⟨v, rfl, ?_, ?_⟩
    · exact HVR.out.off (Off.ofDrew (S := []) (by repeat' (first | exact Drew.refl _ | exact Drew.one _ | refine Drew.more ?_ 1))) (fun x hx => by simp at hx)
    · exact HW7.out.then (Off.ofDrew (S := []) (by repeat' (first | exact Drew.refl _ | exact Drew.one _ | refine Drew.more ?_ 1))) (fun x hx => by simp at hx)
end Go.Proofs.YtcgggcjmmphldaaGreatDoor
