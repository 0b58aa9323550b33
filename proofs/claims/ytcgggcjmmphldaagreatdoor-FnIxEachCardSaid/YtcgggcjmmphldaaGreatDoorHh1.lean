/-
  bytes.Reader: Read and ReadByte where bytes are left.
  Reading out of a bytes.Reader: io.ReadFull, numbers; Seek.
  singleWidthIndex.Unmarshal out of a bytes.Reader.
  internalio.ToByteReadSeeker, ToByteReader of a bytes.Reader: itself.
  (No condition beyond those that each theorem states.)
-/
import Derived.Test.YtcgggcjmmphldaaGreatDoorHa4
import Derived.Test.YtcgggcjmmphldaaGreatDoorHa1
import Derived.Deep.QuietTactic
import Derived.BigQuiet
import Derived.Deep.DeepFit
import Derived.Test.YtcgggcjmmphldaaGreatDoorProg
import Derived.Test.YtcgggcjmmphldaaGreatDoorHb5
import Derived.Deep.RegionWith
import Derived.Deep.RegionLaw
import Derived.RegionCalls
import Derived.LoopTactic
import Derived.LoopN
import Derived.Test.YtcgggcjmmphldaaGreatDoorHa7
namespace Go.Proofs.YtcgggcjmmphldaaGreatDoor
open Go.RowKit

/-- Block R is a bytes.Reader over the n bytes from block b's beginning, at place i. -/
def RdC (w : World) (R b n cap i : Nat) (p : Int) : Prop := Blk w R 111 #[.slice (some ⟨b, 0, none⟩) n cap, .int .i64 i, .int .i64 p]

set_option maxRecDepth 100000 in
set_option maxHeartbeats 1000000 in
theorem brReadByte (R b n cap i : Nat) (p : Int) (l : List UInt8) (w : World) (hn : n = l.length) (hR : RdC w R b n cap i p) (hs : Seg w b 0 l) (hRb : R ≠ b) (hi : i < n) (hL : n ≤ 2147483700) (c : Int) (hc : ((l[i]'(hn ▸ hi)).toNat : Int) = c) :
    Calls Tryz.prog 177 #[.pointer (some ⟨R, 0, none⟩)] w fun e w' => e = .returned (.tuple #[.int .u8 c, .nilIface]) ∧ RdC w' R b n cap (i + 1) (-1) ∧ Off [R] w w' := by
  have c0 := hR.cell 0
  have c1 := hR.cell 1
  have c2 := hR.cell 2
  have f0 := hR.frozen 0
  have f1 := hR.frozen 1
  have f2 := hR.frozen 2
  have d0 := hs i (hn ▸ hi)
  rw [hc, Nat.zero_add] at d0
  have d1 : ∀ u, (w.setCell ⟨R, 2, none⟩ u).cell? ⟨b, i, none⟩ = some (.int .u8 c) := fun u => by rw [World.cell?_setCell_other w _ _ u (fun h => by injection h with h1 _ _; exact hRb h1)]; exact d0
  simp at c0 c1 c2
  have HD := Lib.hid d1
  have HR := Lib.hid hR
  have hle : ((n : Int) ≤ (i : Int)) = False := by simp; omega
  have hw1 : IntKind.i64.wrap ((i : Int) + 1) = (i : Int) + 1 := by rw [IntKind.wrap_i64]; omega
  have hi2 : i + 1 = i + 1 := rfl
  clear hs hc d0 d1 hR hn
  go_enter Tryz.func177, Tryz.ntmps177
  go_wp2_with fail
  have e1 := HD.out (.int .i64 (-1))
  go_quiet (fail)
  go_wp2_with fail
  go_quiet (fail)
  go_wp2_with fail
  go_ret2
  exact ⟨rfl, ((HR.out.set_ 2 _).drewN _).set_ 1 _, (((Off.refl [R] w).setCell (p := ⟨R, 2, none⟩) (by simp) _).drewN _).setCell (p := ⟨R, 1, none⟩) (by simp) _⟩

set_option maxRecDepth 100000 in
set_option maxHeartbeats 1000000 in
theorem brRead (R g o m dc b n cap i k : Nat) (p : Int) (l : List UInt8) (cur : List Value) (t : TypeId) (w : World) (hn : n = l.length) (hR : RdC w R b n cap i p) (hs : Seg w b 0 l) (hg : Blk w g t cur.toArray) (hRb : R ≠ b) (hRg : R ≠ g) (hi : i < n) (hk : k = Nat.min (n - i) m) (hk0 : 0 < k) (hfit : o + k ≤ cur.length) (hL : n ≤ 2147483700) (hcap : n ≤ cap) :
    Calls Tryz.prog 306 #[.pointer (some ⟨R, 0, none⟩), .slice (some ⟨g, o, none⟩) m dc] w fun e w' => e = .returned (.tuple #[.int .i64 k, .nilIface]) ∧ RdC w' R b n cap (i + k) (-1) ∧ Blk w' g t (splice cur o (Lib.byteCells ((l.drop i).take k))).toArray ∧ Off [R, g] w w' := by
  have c0 := hR.cell 0
  have c1 := hR.cell 1
  have c2 := hR.cell 2
  have f0 := hR.frozen 0
  have f1 := hR.frozen 1
  have f2 := hR.frozen 2
  simp at c0 c1 c2
  have hkl : ((l.drop i).take k).length = k := by
    have : k ≤ n - i := by rw [hk]; exact Nat.min_le_left _ _
    simp
    omega
  have hG : Blk (w.setCell ⟨R, 2, none⟩ (.int .i64 (-1))) g t cur.toArray := hg.far (p := ⟨R, 2, none⟩) (fun e => hRg e.symm) _
  have hSG : ∀ j v, (Lib.byteCells ((l.drop i).take k))[j]? = some v → (w.setCell ⟨R, 2, none⟩ (.int .i64 (-1))).cell? ((⟨b, i, none⟩ : Addr).add j) = some v := by
    have h2 := ((hs.drop i (by omega)).take k).setCell (p := ⟨R, 2, none⟩) hRb (.int .i64 (-1))
    rw [Nat.zero_add] at h2
    exact h2.cells
  have hD := hR.set_ 2 (.int .i64 (-1))
  have hO := (Off.refl [R] w).setCell (p := ⟨R, 2, none⟩) (by simp) (.int .i64 (-1))
  have HG := Lib.hid hG
  have HS := Lib.hid hSG
  have HDD := Lib.hid hD
  have HO := Lib.hid hO
  have HK := Lib.hid hk
  have hle : ((n : Int) ≤ (i : Int)) = False := by simp; omega
  have hin : i ≤ n := by omega
  have hci : ¬ (cap = i) := by omega
  have hkn : k ≤ n - i := by rw [HK.out]; exact Nat.min_le_left _ _
  have hw1 : IntKind.i64.wrap ((i : Int) + (k : Int)) = (i : Int) + (k : Int) := by rw [IntKind.wrap_i64]; omega
  have HKL := Lib.hid hkl
  have HF := Lib.hid hfit
  clear hs hR hn hg hG hSG hD hO hk hkl hfit
  go_enter Tryz.func306, Tryz.ntmps306
  go_wp2_with fail
  go_quiet (fail)
  go_wp2_with fail
  go_region_law (refine step_copyO rfl (.tmp 20) (.tmp 29) 46 46 rfl 5 Tryz.underlying46 Tryz.sizeByte g o cur t HG.out (Lib.byteCells ((l.drop i).take k)) (by rw [Lib.byteCells_length, HKL.out]; exact HF.out) (byteCells_one _) m dc (n - i) (cap - i) ⟨b, i, none⟩ (by simp [Act.eval, Act.put]) (by simp [Act.eval, Act.put]) (by rw [Lib.byteCells_length, HKL.out]; exact HK.out) HS.out k (by rw [Lib.byteCells_length, HKL.out]) ?_; intro w4 HW4 HO4)
  all_goals
    have hO5 : Off [R, g] w w4 := (HO.out.mono (S' := [R, g]) (fun x h => by simp at h; simp [h])).next HO4.out ⟨rfl, rfl, rfl, rfl⟩ (fun x h => by simp at h; simp [h])
    have hR4 := HO4.out.blk HDD.out (by simp; exact hRg)
    have r1 := hR4.cell 1
    have rf1 := hR4.frozen 1
    simp at r1
    have HO5 := Lib.hid hO5
    have HR4 := Lib.hid hR4
    clear hO5 hR4
    go_wp2_with fail
    go_ret2
    exact ⟨rfl, HR4.out.set_ 1 _, HW4.out.far (p := ⟨R, 1, none⟩) (fun e => hRg e.symm) _, HO5.out.setCell (p := ⟨R, 1, none⟩) (by simp) _⟩
end Go.Proofs.YtcgggcjmmphldaaGreatDoor
namespace Go.Proofs.YtcgggcjmmphldaaGreatDoor
open Go.RowKit

theorem nil_read (a : Addr) (w : World) : (nilAhead 472 71 (.pointer (some a)) "Read").run Tryz.prog w = .ok (some false) w := by kernel_rfl
theorem method_read (a : Addr) (w : World) : (method 472 71 (.pointer (some a)) "Read").run Tryz.prog w = .ok (306, .pointer (some a)) w := by kernel_rfl
theorem method_readByte (a : Addr) (w : World) : (method 472 71 (.pointer (some a)) "ReadByte").run Tryz.prog w = .ok (177, .pointer (some a)) w := by kernel_rfl
theorem Drew.step {a b : World} (h : Drew a b) : Drew a b.drew := h.more 1

set_option maxRecDepth 100000 in
set_option maxHeartbeats 1000000 in
theorem readAtLeast_br (A g o m dc : Nat) (w : World) (Q : World → Prop) (hm0 : 0 < m) (hmc : m ≤ dc) (hbig : m ≤ 2147483700)
    (HC : ∀ W, Drew w W → Calls Tryz.prog 306 #[.pointer (some ⟨A, 0, none⟩), .slice (some ⟨g, o, none⟩) m dc] W fun e w' => e = .returned (.tuple #[.int .i64 m, .nilIface]) ∧ Q w') :
    Calls Tryz.prog 235 #[.iface 71 (.pointer (some ⟨A, 0, none⟩)), .slice (some ⟨g, o, none⟩) m dc, .int .i64 m] w fun e w' => e = .returned (.tuple #[.int .i64 m, .nilIface]) ∧ Q w' := by
  have hmf : ∀ (fn : Fn) (first cap : Array Value) (w : World), (Instr.makeFunc fn first cap).run Tryz.prog w = .ok (.func fn first cap) w := fun _ _ _ _ => rfl
  have hm1 := method_read
  have hm2 := nil_read
  have HH := Lib.hid HC
  have hw1 : IntKind.i64.wrap ((0 : Int) + (m : Int)) = (m : Int) := by rw [IntKind.wrap_i64]; omega
  have hdc : ¬ dc = 0 := by omega
  clear HC
  go_enter Tryz.func235, Tryz.ntmps235
  go_wp2_with fail
  refine wp_loop_rounds 2 ?_
  rw [rounds_succ]
  go_wp2_with fail
  go_region_with (go_at_call 306; refine (HH.out _ (by repeat' (first | exact Drew.refl _ | refine Drew.step ?_))).mono ?_; rintro e w1 ⟨rfl, hq⟩; have HQ1 := Lib.hid hq; clear hq)
  all_goals
    go_wp2_with fail
    rw [rounds_succ]
    go_wp2_with fail
    go_ret2
    exact ⟨rfl, HQ1.out⟩

set_option maxRecDepth 100000 in
/-- Reading a whole row out of a bytes.Reader. -/
theorem readFull_br (R g b m n cap i : Nat) (p : Int) (l : List UInt8) (cur : List Value) (t : TypeId) (w : World) (hn : n = l.length) (hR : RdC w R b n cap i p) (hs : Seg w b 0 l) (hg : Blk w g t cur.toArray) (hRb : R ≠ b) (hRg : R ≠ g) (hm0 : 0 < m) (hm : m ≤ n - i) (hcl : cur.length = m) (hL : n ≤ 2147483700) (hcap : n ≤ cap) :
    Calls Tryz.prog 211 #[.iface 71 (.pointer (some ⟨R, 0, none⟩)), .slice (some ⟨g, 0, none⟩) m m] w fun e w' => e = .returned (.tuple #[.int .i64 m, .nilIface]) ∧ RdC w' R b n cap (i + m) (-1) ∧ Blk w' g t (Lib.byteCells ((l.drop i).take m)).toArray ∧ Off [R, g] w w' := by
  have hbl : (Lib.byteCells ((l.drop i).take m)).length = m := by rw [Lib.byteCells_length]; simp; omega
  have HC := Lib.hid (readAtLeast_br R g 0 m m w (fun w' => RdC w' R b n cap (i + m) (-1) ∧ Blk w' g t (Lib.byteCells ((l.drop i).take m)).toArray ∧ Off [R, g] w w') hm0 (Nat.le_refl _) (by omega) (fun W hW => by
    refine (brRead R g 0 m m b n cap i m p l cur t W hn (hW.blk hR) (hW.seg hs) (hW.blk hg) hRb hRg (by omega) (by show m = min (n - i) m; omega) hm0 (by omega) hL hcap).mono ?_
    rintro e w' ⟨rfl, h1, h2, h3⟩
    refine ⟨rfl, h1, ?_, ((Off.ofDrew (S := []) hW).trans h3).mono (fun x h => by simp at h; rcases h with h | h <;> simp [h])⟩
    have e : splice cur 0 (Lib.byteCells ((l.drop i).take m)) = Lib.byteCells ((l.drop i).take m) := by simp only [splice]; rw [hbl]; simp [hcl]
    rwa [e] at h2))
  clear hR hs hg
  go_enter Tryz.func211, Tryz.ntmps211
  go_wp2_with fail
  refine HC.out.mono ?_
  rintro e w1 ⟨rfl, h1, h2, h3⟩
  have H1 := Lib.hid h1
  have H2 := Lib.hid h2
  have H3 := Lib.hid h3
  clear h1 h2 h3
  go_wp2_with fail
  go_ret2
  exact ⟨rfl, H1.out, H2.out, H3.out⟩

/-- Block R is a bytes.Reader over l (block b), at place i. -/
structure RAt (R b cap : Nat) (l : List UInt8) (i : Nat) (w : World) : Prop where
  rd : ∃ p, RdC w R b l.length cap i p
  seg : Seg w b 0 l
  ne : R ≠ b
  len : l.length ≤ 2147483700
  cap_ : l.length ≤ cap
theorem RAt.lt {R b cap i : Nat} {l : List UInt8} {w : World} (h : RAt R b cap l i w) : R < w.heap.size := by obtain ⟨p, hp⟩ := h.rd; exact Blk.lt hp
theorem RAt.off {R b cap i : Nat} {l : List UInt8} {w w' : World} {S : List Nat} (h : RAt R b cap l i w) (ho : Off S w w') (hR : R ∉ S) (hb : b ∉ S) : RAt R b cap l i w' := by
  obtain ⟨p, hp⟩ := h.rd
  exact { h with rd := ⟨p, Blk.off hp ho hR⟩, seg := h.seg.off ho hb }
theorem readFull_at {R b cap i : Nat} {l : List UInt8} {w : World} (h : RAt R b cap l i w) (g m : Nat) (cur : List Value) (t : TypeId) (hg : Blk w g t cur.toArray) (hRg : R ≠ g) (hbg : b ≠ g) (hm0 : 0 < m) (hm : m ≤ l.length - i) (hcl : cur.length = m) :
    Calls Tryz.prog 211 #[.iface 71 (.pointer (some ⟨R, 0, none⟩)), .slice (some ⟨g, 0, none⟩) m m] w fun e w' => e = .returned (.tuple #[.int .i64 m, .nilIface]) ∧ RAt R b cap l (i + m) w' ∧ Blk w' g t (Lib.byteCells ((l.drop i).take m)).toArray ∧ Off [R, g] w w' := by
  obtain ⟨p, hp⟩ := h.rd
  refine (readFull_br R g b m l.length cap i p l cur t w rfl hp h.seg hg h.ne hRg hm0 hm hcl h.len h.cap_).mono ?_
  rintro e w' ⟨he, h1, h2, h3⟩
  exact ⟨he, { h with rd := ⟨_, h1⟩, seg := h.seg.off h3 (ni2 (fun e => h.ne e.symm) hbg) }, h2, h3⟩

set_option maxRecDepth 100000 in
set_option maxHeartbeats 1000000 in
theorem zzRead32_at {R b cap i : Nat} {l : List UInt8} {w : World} (h : RAt R b cap l i w) (q o v : Nat) (t : TypeId) (cs : Array Value) (hq : Blk w q t cs) (hv : (l.drop i).take 4 = Lib.leBytes 4 v) (hvl : v < 4294967296) (h4 : 4 ≤ l.length - i) (hqR : q ≠ R) (hqb : q ≠ b) (ho : o < cs.size) :
    Calls Tryz.prog 198 #[.iface 71 (.pointer (some ⟨R, 0, none⟩)), .pointer (some ⟨q, o, none⟩)] w fun e w' => e = .returned .nilIface ∧ RAt R b cap l (i + 4) w' ∧ Blk w' q t (cs.setIfInBounds o (.int .u32 (v : Int))) ∧ Off [R, q] w w' := by
  have hRlt := h.lt
  have hqlt := hq.lt
  have hblt : b < w.heap.size := h.seg.lt (by omega)
  have hAl : Off [] w (w.alloc (.cells #[.int .u8 0, .int .u8 0, .int .u8 0, .int .u8 0] 5)) := Off.alloc (Off.refl [] w) _
  have HF := Lib.hid (readFull_at (h.off hAl (by simp) (by simp)) w.heap.size 4 [.int .u8 0, .int .u8 0, .int .u8 0, .int .u8 0] 5 (Blk.new' _ _ _ rfl) (by omega) (by omega) (by omega) h4 rfl)
  have hU : ∀ W, Blk W w.heap.size 5 (Lib.byteCells ((l.drop i).take 4)).toArray → Calls Tryz.prog 212 #[.agg #[], .slice (some ⟨w.heap.size, 0, none⟩) 4 4] W fun e w' => e = .returned (.int .u32 (v : Int)) ∧ Below W.heap.size W w' := fun W hW => uintLE32_seg w.heap.size 0 4 4 v hvl W (by omega) (by rw [← hv]; exact hW.seg')
  obtain ⟨old, hold⟩ : ∃ old, cs[o]? = some old := ⟨cs[o], by simp [ho]⟩
  have HU := Lib.hid hU
  have HQ := Lib.hid hq
  have HOLD := Lib.hid hold
  have HH := Lib.hid h
  have HAL := Lib.hid hAl
  have hmk := run_makeB4
  clear hU hq hold h hAl hv
  go_enter Tryz.func198, Tryz.ntmps198
  go_wp2_with (first
    | (go_at_call 211; refine HF.out.mono ?_; rintro e w2 ⟨rfl, hR2, hB2, hO2⟩; have HR2 := Lib.hid hR2; have HB2 := Lib.hid hB2; have HO2 := Lib.hid hO2; clear hR2 hB2 hO2)
    | (go_at_call 212; refine (HU.out _ HB2.out).mono ?_; rintro e w3 ⟨rfl, hb3⟩
       have hq3 := ((HQ.out.off HAL.out (by simp)).off HO2.out (ni2 hqR (by omega))).below hb3 (by have := HO2.out.size; simp at this; omega)
       have c3 : w3.cell? ⟨q, o, none⟩ = some old := by rw [hq3.cell]; exact HOLD.out
       have f3 := hq3.frozen o
       have HQ3 := Lib.hid hq3; have HB3 := Lib.hid (Off.ofBelow (S := []) hb3); clear hq3 hb3))
  go_ret
  have hO3 : Off [R, q] w w3 := ((HAL.out.mono (S' := [R, q]) (fun x hx => by simp at hx)).then HO2.out (fun x hx => by simp at hx; rcases hx with rfl | rfl <;> simp)).then HB3.out (fun x hx => by simp at hx)
  refine ⟨rfl, (HR2.out.off HB3.out (by simp) (by simp)).off ((Off.refl [q] w3).setCell (p := ⟨q, o, none⟩) (Or.inl (by simp)) _) (ni1 (fun e => hqR e.symm)) (ni1 (fun e => hqb e.symm)), HQ3.out.set_ o _, hO3.setCell (p := ⟨q, o, none⟩) (Or.inl (by simp)) _⟩

set_option maxRecDepth 100000 in
set_option maxHeartbeats 1000000 in
theorem zzRead64_at {R b cap i : Nat} {l : List UInt8} {w : World} (h : RAt R b cap l i w) (q o v : Nat) (t : TypeId) (cs : Array Value) (hq : Blk w q t cs) (hv : (l.drop i).take 8 = Lib.leBytes 8 v) (hvl : v < 18446744073709551616) (h4 : 8 ≤ l.length - i) (hqR : q ≠ R) (hqb : q ≠ b) (ho : o < cs.size) :
    Calls Tryz.prog 213 #[.iface 71 (.pointer (some ⟨R, 0, none⟩)), .pointer (some ⟨q, o, none⟩)] w fun e w' => e = .returned .nilIface ∧ RAt R b cap l (i + 8) w' ∧ Blk w' q t (cs.setIfInBounds o (.int .u64 (v : Int))) ∧ Off [R, q] w w' := by
  have hRlt := h.lt
  have hqlt := hq.lt
  have hblt : b < w.heap.size := h.seg.lt (by omega)
  have hAl : Off [] w (w.alloc (.cells #[.int .u8 0, .int .u8 0, .int .u8 0, .int .u8 0, .int .u8 0, .int .u8 0, .int .u8 0, .int .u8 0] 5)) := Off.alloc (Off.refl [] w) _
  have HF := Lib.hid (readFull_at (h.off hAl (by simp) (by simp)) w.heap.size 8 [.int .u8 0, .int .u8 0, .int .u8 0, .int .u8 0, .int .u8 0, .int .u8 0, .int .u8 0, .int .u8 0] 5 (Blk.new' _ _ _ rfl) (by omega) (by omega) (by omega) h4 rfl)
  have hU : ∀ W, Blk W w.heap.size 5 (Lib.byteCells ((l.drop i).take 8)).toArray → Calls Tryz.prog 231 #[.agg #[], .slice (some ⟨w.heap.size, 0, none⟩) 8 8] W fun e w' => e = .returned (.int .u64 (v : Int)) ∧ Below W.heap.size W w' := fun W hW => uintLE64_seg w.heap.size 0 8 8 v hvl W (by omega) (by rw [← hv]; exact hW.seg')
  obtain ⟨old, hold⟩ : ∃ old, cs[o]? = some old := ⟨cs[o], by simp [ho]⟩
  have HU := Lib.hid hU
  have HQ := Lib.hid hq
  have HOLD := Lib.hid hold
  have HH := Lib.hid h
  have HAL := Lib.hid hAl
  have hmk := run_makeB8
  clear hU hq hold h hAl hv
  go_enter Tryz.func213, Tryz.ntmps213
  go_wp2_with (first
    | (go_at_call 211; refine HF.out.mono ?_; rintro e w2 ⟨rfl, hR2, hB2, hO2⟩; have HR2 := Lib.hid hR2; have HB2 := Lib.hid hB2; have HO2 := Lib.hid hO2; clear hR2 hB2 hO2)
    | (go_at_call 231; refine (HU.out _ HB2.out).mono ?_; rintro e w3 ⟨rfl, hb3⟩
       have hq3 := ((HQ.out.off HAL.out (by simp)).off HO2.out (ni2 hqR (by omega))).below hb3 (by have := HO2.out.size; simp at this; omega)
       have c3 : w3.cell? ⟨q, o, none⟩ = some old := by rw [hq3.cell]; exact HOLD.out
       have f3 := hq3.frozen o
       have HQ3 := Lib.hid hq3; have HB3 := Lib.hid (Off.ofBelow (S := []) hb3); clear hq3 hb3))
  go_ret
  have hO3 : Off [R, q] w w3 := ((HAL.out.mono (S' := [R, q]) (fun x hx => by simp at hx)).then HO2.out (fun x hx => by simp at hx; rcases hx with rfl | rfl <;> simp)).then HB3.out (fun x hx => by simp at hx)
  refine ⟨rfl, (HR2.out.off HB3.out (by simp) (by simp)).off ((Off.refl [q] w3).setCell (p := ⟨q, o, none⟩) (Or.inl (by simp)) _) (ni1 (fun e => hqR e.symm)) (ni1 (fun e => hqb e.symm)), HQ3.out.set_ o _, hO3.setCell (p := ⟨q, o, none⟩) (Or.inl (by simp)) _⟩

set_option maxRecDepth 100000 in
set_option maxHeartbeats 1000000 in
theorem seek_at {R b cap i : Nat} {l : List UInt8} {w : World} (h : RAt R b cap l i w) (hi : i ≤ l.length) :
    Calls Tryz.prog 307 #[.pointer (some ⟨R, 0, none⟩), .int .i64 0, .int .i64 1] w fun e w' => e = .returned (.tuple #[.int .i64 (i : Int), .nilIface]) ∧ RAt R b cap l i w' ∧ Off [R] w w' := by
  obtain ⟨p, hp⟩ := h.rd
  have c0 : w.cell? ⟨R, 0, none⟩ = some (.slice (some ⟨b, 0, none⟩) l.length cap) := Blk.cell hp 0
  have c1 : w.cell? ⟨R, 1, none⟩ = some (.int .i64 (i : Int)) := Blk.cell hp 1
  have c2 : w.cell? ⟨R, 2, none⟩ = some (.int .i64 p) := Blk.cell hp 2
  have f1 := Blk.frozen hp 1
  have f2 := Blk.frozen hp 2
  have hlen := h.len
  have hw : IntKind.i64.wrap (i : Int) = (i : Int) := by rw [IntKind.wrap_i64]; omega
  have HH := Lib.hid h
  have HP := Lib.hid hp
  clear hp h
  go_enter Tryz.func307, Tryz.ntmps307
  go_wp2_with fail
  go_ret2
  have hO : Off [R] w ((w.setCell ⟨R, 2, none⟩ (.int .i64 (-1))).setCell ⟨R, 1, none⟩ (.int .i64 (i : Int))) := ((Off.refl [R] w).setCell (p := ⟨R, 2, none⟩) (Or.inl (by simp)) _).setCell (p := ⟨R, 1, none⟩) (Or.inl (by simp)) _
  refine ⟨rfl, { HH.out with rd := ⟨-1, ?_⟩, seg := HH.out.seg.off hO (ni1 (fun e => HH.out.ne e.symm)) }, hO⟩
  exact (Blk.set_ (Blk.set_ HP.out 2 (.int .i64 (-1))) 1 (.int .i64 (i : Int)))
end Go.Proofs.YtcgggcjmmphldaaGreatDoor
namespace Go.Proofs.YtcgggcjmmphldaaGreatDoor
open Go.RowKit

set_option maxRecDepth 100000 in
set_option maxHeartbeats 1000000 in
theorem checkLens_any (w : World) (q W8 k M : Nat) (a0 a1 : Int) (v : Value) (hq : Blk w q 293 #[.int .u32 a0, .int .u64 a1, v]) (h8 : 8 ≤ W8) (hW : W8 ≤ 33554432) (hM : M = W8 * k) (hM63 : M < 9223372036854775808) :
    Calls Tryz.prog 251 #[.pointer (some ⟨q, 0, none⟩), .int .u32 (W8 : Int), .int .u64 (M : Int), .int .u64 0] w fun e w' =>
      e = .returned .nilIface ∧ Blk w' q 293 #[.int .u32 (W8 : Int), .int .u64 (k : Int), v] ∧ Off [q] w w' := by
  have c0 : w.cell? ⟨q, 0, none⟩ = some (.int .u32 a0) := hq.cell 0
  have c1 : w.cell? ⟨q, 1, none⟩ = some (.int .u64 a1) := hq.cell 1
  have f0 := hq.frozen 0
  have f1 := hq.frozen 1
  have hw0 : IntKind.u64.wrap (M : Int) = (M : Int) := by rw [IntKind.wrap_u64]; omega
  have hw1 : IntKind.i64.wrap (M : Int) = (M : Int) := by rw [IntKind.wrap_i64]; omega
  have hw2 : IntKind.u64.wrap (W8 : Int) = (W8 : Int) := by rw [IntKind.wrap_u64]; omega
  have hd : (M : Int).tdiv (W8 : Int) = (k : Int) := by
    rw [hM, Int.natCast_mul, Int.mul_tdiv_cancel_left _ (by omega)]
  have hd2 : (M : Int) / (W8 : Int) = (k : Int) := by
    rw [hM, Int.natCast_mul, Int.mul_ediv_cancel_left _ (by omega)]
  have hk : (k : Int) ≤ (M : Int) := by
    have : k ≤ M := by rw [hM]; exact Nat.le_mul_of_pos_left k (by omega)
    omega
  have hw3 : IntKind.u64.wrap (k : Int) = (k : Int) := by rw [IntKind.wrap_u64]; omega
  have h8z : ¬ (W8 : Int) < 8 := by omega
  have hWz : ¬ (33554432 : Int) < (W8 : Int) := by omega
  have hW0 : ¬ (W8 : Int) = 0 := by omega
  have hM0 : ¬ (M : Int) < 0 := by omega
  have HQ := Lib.hid hq
  have HM := Lib.hid hM
  clear hq hM
  go_enter Tryz.func251, Tryz.ntmps251
  go_wp2_with fail
  go_ret
  exact ⟨rfl, (HQ.out.set_ 0 (.int .u32 (W8 : Int))).set_ 1 (.int .u64 (k : Int)), ((Off.refl [q] w).setCell (p := ⟨q, 0, none⟩) (Or.inl (by simp)) _).setCell (p := ⟨q, 1, none⟩) (Or.inl (by simp)) _⟩

theorem makeU64 (M : Nat) (hM : M < 1000000000000) : ∃ Z : List Value, Z.length = M ∧ ∀ W : World, (Instr.makeSlice 46 (.int .u64 (M : Int)) (.int .u64 (M : Int))).run Tryz.prog W = .ok (.slice (some ⟨W.heap.size, 0, none⟩) M M) (W.alloc (.cells Z.toArray 5)) := by
  obtain ⟨i0, hi, hz0, hz1, hz2⟩ := info_parts Tryz.infoByte
  refine ⟨(madeCells (Value.int .u8 0).cells (M * i0.size)).toList, by simp [size_madeCells, hz1], fun W => ?_⟩
  have hr := run_make (P := Tryz.prog) W 46 5 i0 _ Tryz.underlying46 hi hz0 .u64 .u64 (M : Int) (M : Int) (by omega) (by omega) (by rw [hz2]; omega) (by omega)
  simpa using hr

set_option maxRecDepth 100000 in
set_option maxHeartbeats 2000000 in
theorem swUnmarshal_at {R b cap i : Nat} {l : List UInt8} {w : World} (h : RAt R b cap l i w) (q W8 k M : Nat) (rows rest : List UInt8) (hq : Blk w q 293 #[.int .u32 0, .int .u64 0, .slice none 0 0]) (hqR : q ≠ R) (hqb : q ≠ b)
    (hl : l.drop i = Lib.leBytes 4 W8 ++ (Lib.leBytes 8 M ++ (rows ++ rest))) (hr : rows.length = M) (h8 : 8 ≤ W8) (hW : W8 ≤ 33554432) (hM : M = W8 * k) (hM0 : 0 < M) :
    Calls Tryz.prog 236 #[.pointer (some ⟨q, 0, none⟩), .iface 71 (.pointer (some ⟨R, 0, none⟩))] w fun e w' =>
      e = .returned .nilIface ∧ ∃ C, Blk w' q 293 #[.int .u32 (W8 : Int), .int .u64 (k : Int), .slice (some ⟨C, 0, none⟩) M M] ∧ Seg w' C 0 rows ∧ w.heap.size ≤ C ∧ C < w'.heap.size ∧ RAt R b cap l (i + (12 + M)) w' ∧ Off [R, q] w w' := by
  have hlen := h.len
  have hRlt := h.lt
  have hqlt := hq.lt
  have hll : l.length - i = 12 + M + rest.length := by
    have := congrArg List.length hl
    simp [Lib.leBytes_length, hr] at this
    omega
  have hblt : b < w.heap.size := h.seg.lt (by omega)
  have hd4 : l.drop (i + 4) = Lib.leBytes 8 M ++ (rows ++ rest) := by rw [← List.drop_drop, hl, List.drop_left' (Lib.leBytes_length _ _)]
  have hd12 : l.drop (i + 4 + 8) = rows ++ rest := by rw [← List.drop_drop, hd4, List.drop_left' (Lib.leBytes_length _ _)]
  have ht4 : (l.drop i).take 4 = Lib.leBytes 4 W8 := by rw [hl, List.take_left' (Lib.leBytes_length _ _)]
  have ht8 : (l.drop (i + 4)).take 8 = Lib.leBytes 8 M := by rw [hd4, List.take_left' (Lib.leBytes_length _ _)]
  have htM : (l.drop (i + 4 + 8)).take M = rows := by rw [hd12, List.take_left' hr]
  have hA1 : Off [] w (w.alloc (.cells #[.int .u32 0] 143)) := Off.alloc (Off.refl [] w) _
  have H1 := Lib.hid (zzRead32_at (h.off hA1 (by simp) (by simp)) w.heap.size 0 W8 143 #[.int .u32 0] (Blk.new' _ _ _ rfl) ht4 (by omega) (by omega) (by omega) (by omega) (by decide))
  have H2 : Hid (∀ W g, RAt R b cap l (i + 4) W → Blk W g 23 #[.int .u64 0] → g ≠ R → g ≠ b → _) := Lib.hid fun W g a1 a2 a3 a4 => zzRead64_at a1 g 0 M 23 #[.int .u64 0] a2 ht8 (by omega) (by omega) a3 a4 (by decide)
  have H3 : Hid (∀ W v, Blk W q 293 #[.int .u32 0, .int .u64 0, v] → _) := Lib.hid fun W v a1 => checkLens_any W q W8 k M 0 0 v a1 h8 hW hM (by omega)
  obtain ⟨Z, hZ, hmk⟩ := makeU64 M (by omega)
  have H4 : Hid (∀ W g, RAt R b cap l (i + 4 + 8) W → Blk W g 5 Z.toArray → R ≠ g → b ≠ g → _) := Lib.hid fun W g a1 a2 a3 a4 => readFull_at a1 g M Z 5 a2 a3 a4 hM0 (by omega) hZ
  have HQ := Lib.hid hq
  have HA1 := Lib.hid hA1
  have HTM := Lib.hid htM
  clear hq h hl hd4 hd12 ht4 ht8 htM hA1 hM hr hZ hll
  go_enter Tryz.func236, Tryz.ntmps236
  go_wp2_with (first
    | (go_at_call 198; refine H1.out.mono ?_; rintro e w1 ⟨rfl, hR1, hB1, hO1⟩
       have hs1 : w.heap.size < w1.heap.size := by have := hO1.size; simp at this; omega
       have HR1 := Lib.hid hR1; have HB1 := Lib.hid hB1
       have HO1 := Lib.hid ((HA1.out.mono (S' := [R]) (fun x hx => by simp at hx)).then hO1 (fun x hx => by simp at hx; rcases hx with rfl | rfl <;> simp))
       clear hR1 hB1 hO1)
    | (go_at_call 213
       have hal : Off [] w1 (w1.alloc (.cells #[.int .u64 0] 23)) := Off.alloc (Off.refl [] w1) _
       refine (H2.out _ _ (HR1.out.off hal (by simp) (by simp)) (Blk.new' _ _ _ rfl) (by omega) (by omega)).mono ?_; rintro e w2 ⟨rfl, hR2, hB2, hO2⟩
       have hs2 : w1.heap.size < w2.heap.size := by have := hO2.size; simp at this; omega
       have c5 : w2.cell? ⟨w.heap.size, 0, none⟩ = some (.int .u32 (W8 : Int)) := ((HB1.out.off hal (by simp)).off hO2 (ni2 (by omega) (by omega))).cell 0
       have c7 : w2.cell? ⟨w1.heap.size, 0, none⟩ = some (.int .u64 (M : Int)) := hB2.cell 0
       have HB2 := Lib.hid hB2
       have hO02 : Off [R] w w2 := (HO1.out.then hal (fun x hx => by simp at hx)).then hO2 (fun x hx => by simp at hx; rcases hx with rfl | rfl; exact Or.inl (by simp); right; omega)
       have hq2 := HQ.out.off hO02 (ni1 hqR)
       have HQ2 := Lib.hid hq2; have HO2 := Lib.hid hO02; have HR2 := Lib.hid hR2; clear hq2 hO02 hR2 hO2 hal hB2)
    | (go_at_call 251; refine (H3.out _ _ HQ2.out).mono ?_; rintro e w3 ⟨rfl, hQ3, hO3⟩
       have c77 : w3.cell? ⟨w1.heap.size, 0, none⟩ = some (.int .u64 (M : Int)) := (HB2.out.off hO3 (ni1 (by omega))).cell 0
       have hs3 := hO3.size
       have HQ3 := Lib.hid hQ3; have HR3 := Lib.hid (HR2.out.off hO3 (ni1 (fun e => hqR e.symm)) (ni1 (fun e => hqb e.symm)))
       have HO3 := Lib.hid ((HO2.out.mono (S' := [R, q]) (fun x hx => by simp at hx; simp [hx])).then hO3 (fun x hx => by simp at hx; simp [hx]))
       clear hQ3 hO3 c5 c7)
    | (go_at_call 211
       have hal : Off [] w3 (w3.alloc (.cells Z.toArray 5)) := Off.alloc (Off.refl [] w3) _
       refine (H4.out _ _ (HR3.out.off hal (by simp) (by simp)) (Blk.new' _ _ _ rfl) (by omega) (by omega)).mono ?_; rintro e w4 ⟨rfl, hR4, hB4, hO4⟩
       have hq4 := (HQ3.out.off hal (by simp)).off hO4 (ni2 hqR (by omega))
       have c2 : w4.cell? ⟨q, 2, none⟩ = some (.slice none 0 0) := hq4.cell 2
       have f2 := hq4.frozen 2
       have HQ4 := Lib.hid hq4; have HR4 := Lib.hid hR4; have HB4 := Lib.hid hB4
       have HO4 := Lib.hid ((HO3.out.then hal (fun x hx => by simp at hx)).then hO4 (fun x hx => by simp at hx; rcases hx with rfl | rfl; exact Or.inl (by simp); right; omega))
       have hs4 := hB4.lt
       clear hq4 hR4 hB4 hO4 hal))
  go_ret
  have hO5 : Off [q] w4 (w4.setCell ⟨q, 2, none⟩ (.slice (some ⟨w3.heap.size, 0, none⟩) M M)) := (Off.refl [q] w4).setCell (p := ⟨q, 2, none⟩) (Or.inl (by simp)) _
  refine ⟨rfl, w3.heap.size, HQ4.out.set_ 2 _, ?_, by omega, Nat.lt_of_lt_of_le hs4 hO5.size, ?_, HO4.out.then hO5 (fun x hx => by simp at hx; simp [hx])⟩
  · have := HB4.out.seg'
    rw [HTM.out] at this
    exact this.off hO5 (ni1 (by omega))
  · have := HR4.out.off hO5 (ni1 (fun e => hqR e.symm)) (ni1 (fun e => hqb e.symm))
    rwa [show i + 4 + 8 + M = i + (12 + M) by omega] at this
end Go.Proofs.YtcgggcjmmphldaaGreatDoor
namespace Go.Proofs.YtcgggcjmmphldaaGreatDoor
open Go.RowKit
set_option maxRecDepth 100000 in
theorem toBrs (a : Addr) (w : World) : Calls Tryz.prog 197 #[.iface 71 (.pointer (some a))] w fun e w' => e = .returned (.iface 71 (.pointer (some a))) ∧ w = w' := by
  have hta : ∀ W, (Instr.typeAssert (.iface 71 (.pointer (some a))) 106 281 true).run Tryz.prog W = .ok (.tuple #[.iface 71 (.pointer (some a)), .bool true]) W := fun W => by kernel_rfl
  go_enter Tryz.func197, Tryz.ntmps197
  go_wp2_with fail
  go_ret
  exact ⟨rfl, rfl⟩
set_option maxRecDepth 100000 in
theorem toBr (a : Addr) (w : World) : Calls Tryz.prog 98 #[.iface 71 (.pointer (some a))] w fun e w' => e = .returned (.iface 71 (.pointer (some a))) ∧ w = w' := by
  have hta : ∀ W, (Instr.typeAssert (.iface 71 (.pointer (some a))) 106 164 true).run Tryz.prog W = .ok (.tuple #[.iface 71 (.pointer (some a)), .bool true]) W := fun W => by kernel_rfl
  go_enter Tryz.func98, Tryz.ntmps98
  go_wp2_with fail
  go_ret
  exact ⟨rfl, rfl⟩
end Go.Proofs.YtcgggcjmmphldaaGreatDoor
