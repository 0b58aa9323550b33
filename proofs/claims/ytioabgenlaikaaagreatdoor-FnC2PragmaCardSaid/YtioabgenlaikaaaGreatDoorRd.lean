/- bytes.Reader: Read and ReadByte where bytes are left. -/
import Derived.Test.YtioabgenlaikaaaGreatDoorOff
import Derived.Test.YtioabgenlaikaaaGreatDoorByt
import Derived.Deep.QuietTactic
import Derived.BigQuiet
import Derived.Deep.DeepFit
namespace Go.Proofs.YtioabgenlaikaaaGreatDoor
open Go.RowKit

/-- Block R is a bytes.Reader over the n bytes from block b's beginning, at place i. -/
def RdC (w : World) (R b n cap i : Nat) (p : Int) : Prop := Blk w R 52 #[.slice (some ⟨b, 0, none⟩) n cap, .int .i64 i, .int .i64 p]

set_option maxRecDepth 100000 in
set_option maxHeartbeats 1000000 in
theorem brReadByte (R b n cap i : Nat) (p : Int) (l : List UInt8) (w : World) (hn : n = l.length) (hR : RdC w R b n cap i p) (hs : Seg w b 0 l) (hRb : R ≠ b) (hi : i < n) (hL : n ≤ 2147483700) (c : Int) (hc : ((l[i]'(hn ▸ hi)).toNat : Int) = c) :
    Calls Tryz.prog 103 #[.pointer (some ⟨R, 0, none⟩)] w fun e w' => e = .returned (.tuple #[.int .u8 c, .nilIface]) ∧ RdC w' R b n cap (i + 1) (-1) ∧ Off [R] w w' := by
  have c0 := hR.cell 0
  have c1 := hR.cell 1
  have c2 := hR.cell 2
  have f0 := hR.frozen 0
  have f1 := hR.frozen 1
  have f2 := hR.frozen 2
  have d0 := hs i (hn ▸ hi)
  rw [hc, Nat.zero_add] at d0
  have d1 : ∀ u, (w.setCell ⟨R, 2, none⟩ u).cell? ⟨b, i, none⟩ = some (.int .u8 c) := fun u => by rw [World.cell?_setCell_other w _ _ u (fun h => by injection h with h1 _ _; exact hRb h1)]; exact d0
  simp at c0 c1 c2
  have HD := Lib.hid d1
  have HR := Lib.hid hR
  have hle : ((n : Int) ≤ (i : Int)) = False := by simp; omega
  have hw1 : IntKind.i64.wrap ((i : Int) + 1) = (i : Int) + 1 := by rw [IntKind.wrap_i64]; omega
  have hi2 : i + 1 = i + 1 := rfl
  clear hs hc d0 d1 hR hn
  go_enter Tryz.func103, Tryz.ntmps103
  go_wp2_with fail
  have e1 := HD.out (.int .i64 (-1))
  go_quiet (fail)
  go_wp2_with fail
  go_quiet (fail)
  go_wp2_with fail
  go_ret2
  exact ⟨rfl, ((HR.out.set_ 2 _).drewN _).set_ 1 _, (((Off.refl [R] w).setCell (p := ⟨R, 2, none⟩) (by simp) _).drewN _).setCell (p := ⟨R, 1, none⟩) (by simp) _⟩

set_option maxRecDepth 100000 in
set_option maxHeartbeats 1000000 in
theorem brRead (R g o m dc b n cap i k : Nat) (p : Int) (l : List UInt8) (cur : List Value) (t : TypeId) (w : World) (hn : n = l.length) (hR : RdC w R b n cap i p) (hs : Seg w b 0 l) (hg : Blk w g t cur.toArray) (hRb : R ≠ b) (hRg : R ≠ g) (hi : i < n) (hk : k = Nat.min (n - i) m) (hk0 : 0 < k) (hfit : o + k ≤ cur.length) (hL : n ≤ 2147483700) (hcap : n ≤ cap) :
    Calls Tryz.prog 102 #[.pointer (some ⟨R, 0, none⟩), .slice (some ⟨g, o, none⟩) m dc] w fun e w' => e = .returned (.tuple #[.int .i64 k, .nilIface]) ∧ RdC w' R b n cap (i + k) (-1) ∧ Blk w' g t (splice cur o (Lib.byteCells ((l.drop i).take k))).toArray ∧ Off [R, g] w w' := by
  have c0 := hR.cell 0
  have c1 := hR.cell 1
  have c2 := hR.cell 2
  have f0 := hR.frozen 0
  have f1 := hR.frozen 1
  have f2 := hR.frozen 2
  simp at c0 c1 c2
  have hkl : ((l.drop i).take k).length = k := by
    have : k ≤ n - i := by rw [hk]; exact Nat.min_le_left _ _
    simp
    omega
  have hG : Blk (w.setCell ⟨R, 2, none⟩ (.int .i64 (-1))) g t cur.toArray := hg.far (p := ⟨R, 2, none⟩) (fun e => hRg e.symm) _
  have hSG : ∀ j v, (Lib.byteCells ((l.drop i).take k))[j]? = some v → (w.setCell ⟨R, 2, none⟩ (.int .i64 (-1))).cell? ((⟨b, i, none⟩ : Addr).add j) = some v := by
    have h2 := ((hs.drop i (by omega)).take k).setCell (p := ⟨R, 2, none⟩) hRb (.int .i64 (-1))
    rw [Nat.zero_add] at h2
    exact h2.cells
  have hD := hR.set_ 2 (.int .i64 (-1))
  have hO := (Off.refl [R] w).setCell (p := ⟨R, 2, none⟩) (by simp) (.int .i64 (-1))
  have HG := Lib.hid hG
  have HS := Lib.hid hSG
  have HDD := Lib.hid hD
  have HO := Lib.hid hO
  have HK := Lib.hid hk
  have hle : ((n : Int) ≤ (i : Int)) = False := by simp; omega
  have hin : i ≤ n := by omega
  have hci : ¬ (cap = i) := by omega
  have hkn : k ≤ n - i := by rw [HK.out]; exact Nat.min_le_left _ _
  have hw1 : IntKind.i64.wrap ((i : Int) + (k : Int)) = (i : Int) + (k : Int) := by rw [IntKind.wrap_i64]; omega
  have HKL := Lib.hid hkl
  have HF := Lib.hid hfit
  clear hs hR hn hg hG hSG hD hO hk hkl hfit
  go_enter Tryz.func102, Tryz.ntmps102
  go_wp2_with fail
  go_quiet (fail)
  go_wp2_with fail
  go_region_law (refine step_copyO rfl (.tmp 20) (.tmp 29) 35 35 rfl 5 Tryz.underlying35 Tryz.sizeByte g o cur t HG.out (Lib.byteCells ((l.drop i).take k)) (by rw [Lib.byteCells_length, HKL.out]; exact HF.out) (byteCells_one _) m dc (n - i) (cap - i) ⟨b, i, none⟩ (by simp [Act.eval, Act.put]) (by simp [Act.eval, Act.put]) (by rw [Lib.byteCells_length, HKL.out]; exact HK.out) HS.out k (by rw [Lib.byteCells_length, HKL.out]) ?_; intro w4 HW4 HO4)
  all_goals
    have hO5 : Off [R, g] w w4 := (HO.out.mono (S' := [R, g]) (fun x h => by simp at h; simp [h])).next HO4.out ⟨rfl, rfl, rfl, rfl⟩ (fun x h => by simp at h; simp [h])
    have hR4 := HO4.out.blk HDD.out (by simp; exact hRg)
    have r1 := hR4.cell 1
    have rf1 := hR4.frozen 1
    simp at r1
    have HO5 := Lib.hid hO5
    have HR4 := Lib.hid hR4
    clear hO5 hR4
    go_wp2_with fail
    go_ret2
    exact ⟨rfl, HR4.out.set_ 1 _, HW4.out.far (p := ⟨R, 1, none⟩) (fun e => hRg e.symm) _, HO5.out.setCell (p := ⟨R, 1, none⟩) (by simp) _⟩
end Go.Proofs.YtioabgenlaikaaaGreatDoor
