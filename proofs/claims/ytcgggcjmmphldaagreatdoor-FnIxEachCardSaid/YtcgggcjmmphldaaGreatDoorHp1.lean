/-
  singleWidthIndex.forEachDigest with a callback that gathers.
  multiWidthIndex.forEachDigest with a callback that gathers: the widths in increasing order.
  multiWidthCodedIndex.forEach with a callback that gathers: each digest as a multihash of its function.
  MultihashIndexSorted.ForEach with a callback that gathers: the hash functions in increasing order.
  impl.each's callback: it gathers each hash function, digest and offset as an entry.
  (No condition beyond those that each theorem states.)
-/
import Derived.Test.YtcgggcjmmphldaaGreatDoorHg3
import Derived.Test.YtcgggcjmmphldaaGreatDoorHe2
import Derived.Test.YtcgggcjmmphldaaGreatDoorHa2
import Derived.Test.YtcgggcjmmphldaaGreatDoorHg1
import Derived.Test.YtcgggcjmmphldaaGreatDoorHg2
import Derived.Test.YtcgggcjmmphldaaGreatDoorHk1
import Derived.Test.YtcgggcjmmphldaaGreatDoorHk8
import Derived.Test.YtcgggcjmmphldaaGreatDoorHb3
import Derived.Deep.RegionLaw
namespace Go.Proofs.YtcgggcjmmphldaaGreatDoor
open Go.RowKit

/-- A function of digests and offsets that gathers them: 'I T rs w': by then it has gathered rs; T: the blocks that it may write. -/
structure Cbk (fid : Nat) (bound : Array Value) (I : List Nat → List Rw → World → Prop) (mx : Nat) : Prop where
  enter : ∀ args w, (callFunc fid args).run Tryz.prog w = .ok (.enter fid args) w
  fresh : ∀ (T : List Nat) (rs : List Rw) {w w' : World}, I T rs w → Off [] w w' → I T rs w'
  lt : ∀ {T : List Nat} {rs : List Rw} {w : World}, I T rs w → ∀ x, x ∈ T → x < w.heap.size
  call : ∀ {T : List Nat} {rs : List Rw} {w : World} (b o c : Nat) (d : List UInt8) (off : Nat), I T rs w → Seg w b o d → b < w.heap.size → d.length ≤ c → d.length ≤ 1000 → off < 18446744073709551616 → rs.length < mx →
    Calls Tryz.prog fid (#[.slice (some ⟨b, o, none⟩) d.length c, .int .u64 (off : Int)] ++ bound) w fun e w' => e = .returned .nilIface ∧ ∃ T', I T' (rs ++ [⟨d, off⟩]) w' ∧ Off T w w' ∧ ∀ x, x ∈ T' → x ∈ T ∨ w.heap.size ≤ x

/-- What has been gathered since w. -/
def Gthd (I : List Nat → List Rw → World → Prop) (T : List Nat) (w : World) (rs : List Rw) (wr : World) : Prop := ∃ T', I T' rs wr ∧ Off T w wr ∧ ∀ x, x ∈ T' → x ∈ T ∨ w.heap.size ≤ x
theorem Gthd.start {I : List Nat → List Rw → World → Prop} {T : List Nat} {w : World} {rs : List Rw} (h : I T rs w) : Gthd I T w rs w := ⟨T, h, Off.refl T w, fun _x hx => Or.inl hx⟩
theorem Gthd.off {fid : Nat} {bound : Array Value} {I : List Nat → List Rw → World → Prop} {mx : Nat} (C : Cbk fid bound I mx) {T : List Nat} {w wr w' : World} {rs : List Rw} (h : Gthd I T w rs wr) (ho : Off [] wr w') : Gthd I T w rs w' := by
  obtain ⟨T', h1, h2, h3⟩ := h
  exact ⟨T', C.fresh T' rs h1 ho, h2.then ho (fun x hx => by simp at hx), h3⟩
theorem Gthd.next {I : List Nat → List Rw → World → Prop} {T : List Nat} {w wr w' : World} {rs' : List Rw} {T1 : List Nat} (h2 : Off T w wr) (h3 : ∀ x, x ∈ T1 → x ∈ T ∨ w.heap.size ≤ x) (k : Gthd I T1 wr rs' w') : Gthd I T w rs' w' := by
  obtain ⟨T', k1, k2, k3⟩ := k
  refine ⟨T', k1, h2.then k2 h3, fun x hx => ?_⟩
  rcases k3 x hx with h | h
  · exact h3 x h
  · exact Or.inr (Nat.le_trans h2.size h)

set_option maxRecDepth 100000 in
set_option maxHeartbeats 4000000 in
theorem swEach_any {fid : Nat} {bound : Array Value} {I : List Nat → List Rw → World → Prop} {mx : Nat} (C0 : Cbk fid bound I mx) (T : List Nat) (rs : List Rw) (q C W8 k M n : Nat) (rows : List Rw) (w : World) (hI : I T rs w)
    (hq : Blk w q 293 #[.int .u32 (W8 : Int), .int .u64 (k : Int), .slice (some ⟨C, 0, none⟩) M M]) (hW : W8 = n + 8) (hM : M = W8 * k) (hk : rows.length = k) (hseg : Seg w C 0 (rowsB rows)) (hC : C < w.heap.size) (hwid : ∀ r, r ∈ rows → r.d.length = n) (hoff : ∀ r, r ∈ rows → r.off < 18446744073709551616)
    (hn : n ≤ 1000) (hk2 : k ≤ 1000) (hqT : q ∉ T) (hCT : C ∉ T) (hrs : rs.length + k ≤ mx) :
    Calls Tryz.prog 225 #[.pointer (some ⟨q, 0, none⟩), .func (.func fid) #[] bound] w fun e w' => e = .returned .nilIface ∧ Gthd I T w (rs ++ rows) w' := by
  have eL := C0.enter
  have HC0 := Lib.hid C0
  have HI := Lib.hid hI
  have HQ := Lib.hid hq
  have HW8 := Lib.hid hW
  have HMM := Lib.hid hM
  have HKK := Lib.hid hk
  have HSG := Lib.hid hseg
  have HWD := Lib.hid hwid
  have HOFF := Lib.hid hoff
  have HQT := Lib.hid hqT
  have HCT := Lib.hid hCT
  have HQL := Lib.hid hq.lt
  have hMle : M ≤ 1008000 := by rw [hM]; exact Nat.le_trans (Nat.mul_le_mul (show W8 ≤ 1008 by omega) hk2) (by omega)
  have q0 : w.cell? ⟨q, 0, none⟩ = some (.int .u32 (W8 : Int)) := hq.cell 0
  have q2 : w.cell? ⟨q, 2, none⟩ = some (.slice (some ⟨C, 0, none⟩) M M) := hq.cell 2
  have hW8 : ¬ (W8 : Int) = 0 := by omega
  have hc4 : IntKind.i64.wrap (W8 : Int) = (W8 : Int) := by rw [IntKind.wrap_i64]; omega
  have hW8le : W8 ≤ 1008 := by omega
  have hdv : (M : Int) / (W8 : Int) = (k : Int) := by rw [hM, Int.natCast_mul]; exact Int.mul_ediv_cancel_left _ hW8
  clear hI hq hM hk hseg hwid hoff hqT hCT C0 hW
  go_enter Tryz.func225, Tryz.ntmps225
  go_wp2_with fail
  go_quiet (fail)
  obtain ⟨w0, hw0⟩ : ∃ w0, w0 = w.drewN nq := ⟨_, rfl⟩
  rw [← hw0]
  have HO0 := Lib.hid (show Off [] w w0 by rw [hw0]; exact (Off.refl [] w).drewN nq)
  clear hw0 hdv hc4 q0 q2
  go_wp2_with fail
  go_loopg [6] k (fun kx s6 wr => ∃ x : Nat, s6 = .int .i64 (x : Int) ∧ x ≤ k ∧ k - x ≤ kx ∧ Hid (Gthd I T w (rs ++ rows.take x) wr))
  case atStart => exact ⟨0, rfl, Nat.zero_le _, by omega, Lib.hid (by rw [List.take_zero, List.append_nil]; exact Gthd.off HC0.out (Gthd.start HI.out) HO0.out)⟩
  case round =>
    rename World => wr
    obtain ⟨x, rfl, hxk, hkx, HG⟩ := hrel
    by_cases hlt : x < k
    · have hltz : (x : Int) < (k : Int) := by omega
      obtain ⟨T1, hI1, hO1, hT1⟩ := HG.out
      have hqn : q ∉ T1 := fun hx => by
        rcases hT1 _ hx with h | h
        · exact HQT.out h
        · have := HQL.out; omega
      have hCn : C ∉ T1 := fun hx => by
        rcases hT1 _ hx with h | h
        · exact HCT.out h
        · omega
      have hq' := hO1.blk HQ.out HQT.out
      have q0 : wr.cell? ⟨q, 0, none⟩ = some (.int .u32 (W8 : Int)) := hq'.cell 0
      have q2 : wr.cell? ⟨q, 2, none⟩ = some (.slice (some ⟨C, 0, none⟩) M M) := hq'.cell 2
      have hxr : x < rows.length := by have := HKK.out; omega
      obtain ⟨y, hy⟩ : ∃ y, y = (rows[x]'hxr) := ⟨_, rfl⟩
      have hym : y ∈ rows := by rw [hy]; exact List.getElem_mem _
      have hyn : y.d.length = n := HWD.out y hym
      have hyo : y.off < 18446744073709551616 := HOFF.out y hym
      obtain ⟨o1, ho1⟩ : ∃ o1, o1 = x * W8 := ⟨_, rfl⟩
      obtain ⟨o2, ho2⟩ : ∃ o2, o2 = o1 + n := ⟨_, rfl⟩
      obtain ⟨o3, ho3⟩ : ∃ o3, o3 = (x + 1) * W8 := ⟨_, rfl⟩
      have hW := HW8.out
      have hM := HMM.out
      have h13 : o3 = o1 + W8 := by rw [ho3, ho1, Nat.succ_mul]
      have h3M : o3 ≤ M := by rw [ho3, hM, Nat.mul_comm W8 k]; exact Nat.mul_le_mul_right _ hlt
      have hsr := HSG.out.off hO1 HCT.out
      have hsx : Seg wr C o1 y.d ∧ Seg wr C o2 (Lib.leBytes 8 y.off) := by
        obtain ⟨rest, hr⟩ := rowsB_at n rows x hxr HWD.out
        rw [← hW, ← ho1] at hr
        have hle : o1 ≤ (rowsB rows).length := by rw [rowsB_length rows n HWD.out, ← hW, HKK.out, ← hM]; omega
        have h1 := hsr.drop o1 hle
        rw [hr, Nat.zero_add, rowB, ← hy] at h1
        refine ⟨h1.left.left, ?_⟩
        have := h1.left.right
        rwa [hyn, ← ho2] at this
      have hc1 : IntKind.i64.wrap ((x : Int) * (W8 : Int)) = (o1 : Int) := by
        have : ((x : Int) * (W8 : Int)) = (o1 : Int) := by rw [ho1, Int.natCast_mul]
        rw [IntKind.wrap_i64, this]; omega
      have hc2 : IntKind.i64.wrap (((x : Int) + 1) * (W8 : Int)) = (o3 : Int) := by
        have : (((x : Int) + 1) * (W8 : Int)) = (o3 : Int) := by rw [ho3, Int.natCast_mul]; rfl
        rw [IntKind.wrap_i64, this]; omega
      have hc3 : IntKind.i64.wrap ((x : Int) + 1) = (x : Int) + 1 := by rw [IntKind.wrap_i64]; omega
      have hc4 : IntKind.i64.wrap (W8 : Int) = (W8 : Int) := by rw [IntKind.wrap_i64]; omega
      have hc5 : IntKind.i64.wrap ((o3 : Int) - 8) = (o2 : Int) := by rw [IntKind.wrap_i64]; omega
      have hz1 : (0 : Int) ≤ (o1 : Int) := by omega
      have hz2 : (o1 : Int) ≤ (o2 : Int) := by omega
      have hz3 : (o2 : Int) ≤ (M : Int) := by omega
      have hz4 : (0 : Int) ≤ (o2 : Int) := by omega
      have hz5 : (o2 : Int) ≤ (o3 : Int) := by omega
      have hz6 : (o3 : Int) ≤ (M : Int) := by omega
      have hz7 : (0 : Int) ≤ (o3 : Int) := by omega
      have hMo : ¬ M = o1 := by omega
      have hMo2 : ¬ M = o2 := by omega
      have e21 : o2 - o1 = n := by omega
      have e32 : o3 - o2 = 8 := by omega
      have HLE : Hid (∀ W, Off [] wr W → Calls Tryz.prog 231 #[.agg #[], .slice (some ⟨C, o2, none⟩) (o3 - o2) (M - o2)] W fun e w' => e = .returned (.int .u64 (y.off : Int)) ∧ Below W.heap.size W w') := Lib.hid fun W hW =>
        uintLE64_seg C o2 (o3 - o2) (M - o2) y.off hyo W (by omega) (hsx.2.off hW (by simp))
      have HCB : Hid (∀ W, Off [] wr W → Calls Tryz.prog fid (#[.slice (some ⟨C, o1, none⟩) (o2 - o1) (M - o1), .int .u64 (y.off : Int)] ++ bound) W fun e w' => e = .returned .nilIface ∧ Gthd I T w (rs ++ rows.take (x + 1)) w') := Lib.hid (fun W hW => by
        have hc := HC0.out.call (T := T1) (rs := rs ++ rows.take x) C o1 (M - o1) y.d y.off (HC0.out.fresh T1 (rs ++ rows.take x) hI1 hW) (hsx.1.off hW (by simp)) (Nat.lt_of_lt_of_le hC (Nat.le_trans hO1.size hW.size)) (by omega) (by omega) hyo (by rw [List.length_append, List.length_take]; omega)
        rw [hyn, ← e21] at hc
        refine hc.mono ?_
        rintro e w' ⟨rfl, T2, h1, h2, h3⟩
        refine ⟨rfl, ?_⟩
        rw [List.take_succ_eq_append_getElem hxr, ← hy, ← List.append_assoc]
        exact Gthd.next (hO1.then hW (fun x hx => by simp at hx)) (fun x hx => by
          rcases hT1 x hx with h | h
          · exact Or.inl h
          · exact Or.inr h) ⟨T2, h1, h2, h3⟩)
      clear hsr hsx ho1 ho2 ho3 h13 h3M e21 e32 hq' hO1 hym hyn hyo hy hW hM hI1 hT1 hxr HG
      go_wp2_with fail
      go_region_held3 (fun w' => w'.cell? ⟨q, 2, none⟩ = some (.slice (some ⟨C, 0, none⟩) M M)) (first | exact q2 | exact f2) (first | (go_at_call 231; refine (HLE.out _ (Off.ofDrew (by repeat' (first | exact Drew.refl _ | exact Drew.one _ | refine Drew.more ?_ 1)))).mono ?_; rintro e w6 ⟨rfl, hb6⟩; have ho6 : Off [] wr w6 := Off.then (Off.ofDrew (S := []) (by repeat' (first | exact Drew.refl _ | exact Drew.one _ | refine Drew.more ?_ 1))) (Off.ofBelow (S := []) hb6) (fun z hz => by simp at hz); have f2 := ho6.cell q2 (by simp); have HO6 := Lib.hid ho6; clear hb6 ho6))
      all_goals go_wp2_with (go_at_fn fid; refine (HCB.out _ HO6.out).mono ?_; rintro e w7 ⟨rfl, hG7⟩; have HG7 := Lib.hid hG7; clear hG7)
      all_goals
        go_roundg (k - (x + 1))
        case measure => omega
        case rel => exact ⟨x + 1, by go_num, by omega, by omega, HG7⟩
    · obtain rfl : x = k := by omega
      go_wp2_with fail
      go_ret
      have h := HG.out
      rw [List.take_of_length_le (by have := HKK.out; omega)] at h
      exact ⟨rfl, h⟩
end Go.Proofs.YtcgggcjmmphldaaGreatDoor
namespace Go.Proofs.YtcgggcjmmphldaaGreatDoor
open Go.RowKit

theorem flatMap_len {S : Nat → List Rw} {Ds D : List Nat} (h : Ds.Perm D) : (Ds.flatMap S).length = (D.flatMap S).length := (h.flatMap_right S).length_eq
theorem flatMap_le {S : Nat → List Rw} {Ds : List Nat} {n : Nat} (h : n ∈ Ds) : (S n).length ≤ (Ds.flatMap S).length := by
  obtain ⟨a, b, rfl⟩ := List.append_of_mem h
  rw [List.flatMap_append, List.flatMap_cons, List.length_append, List.length_append]
  omega

set_option maxRecDepth 100000 in
set_option maxHeartbeats 4000000 in
theorem mwEach_any {fid : Nat} {bound : Array Value} {I : List Nat → List Rw → World → Prop} {mx : Nat} (C0 : Cbk fid bound I mx) (T : List Nat) (rs : List Rw) (w0 w : World) (hI : I T rs w) (h0 : Off [] w0 w) (hT : ∀ x, x ∈ T → w0.heap.size ≤ x)
    (pb mm B0 : Nat) (D : List Nat) (S : Nat → List Rw) (hp : w0.cell? ⟨pb, 0, none⟩ = some (.map (some mm))) (hmw : MwAt B0 w0 mm D S)
    (hD : D.length ≤ 1000) (hn : ∀ n, n ∈ D → n ≤ 1000 ∧ (S n).length ≤ 1000 ∧ ∀ r, r ∈ S n → r.off < 18446744073709551616) (hrs : rs.length + (D.flatMap S).length ≤ mx) :
    Calls Tryz.prog 201 #[.pointer (some ⟨pb, 0, none⟩), .func (.func fid) #[] bound] w fun e w' => e = .returned .nilIface ∧ ∃ Ds : List Nat, Ds.Perm D ∧ Ds.Pairwise (· < ·) ∧ Gthd I T w (rs ++ Ds.flatMap S) w' := by
  obtain ⟨V, C, hmp, hrow⟩ := hmw.ex
  have hnd := hmw.nodup
  have hmlt : mm < w0.heap.size := hmw.lt
  have hplt : pb < w0.heap.size := World.block_lt_of_cell? w0 _ hp
  obtain ⟨N, hN⟩ : ∃ N, N = D.length := ⟨_, rfl⟩
  have hKl : (ints (D.map (· + 8))).length = N := by simp [ints, hN]
  have hMP : ∀ W, Off [] w0 W → MpN Tryz.prog 143 .u32 W mm D.length (D.map (· + 8)) V := fun W ho => hmp.off ho (by simp)
  have HMP := Lib.hid hMP
  have hlen0 : (Builtin.len_ #[169] 3 #[.map (some mm)]).run Tryz.prog w = .ok (.int .i64 (N : Int)) w := by
    have := Mp.len (hMP w h0) Tryz.underlying169 3
    rwa [hKl] at this
  have hc0 : w.cell? ⟨pb, 0, none⟩ = some (.map (some mm)) := h0.cell hp (by simp)
  obtain ⟨Z, hZ, hmk⟩ := make32 N (by omega)
  have hc2 : (w.alloc (.cells Z.toArray 143)).cell? ⟨pb, 0, none⟩ = some (.map (some mm)) := (Off.alloc (Off.refl [] w) _).cell hc0 (by simp)
  have HC0 := Lib.hid C0
  have HI := Lib.hid hI
  have H0 := Lib.hid h0
  have HT := Lib.hid hT
  have HTL := Lib.hid (C0.lt hI)
  have HROW := Lib.hid hrow
  have HP := Lib.hid hp
  have HND := Lib.hid hnd
  have HN := Lib.hid hn
  have HKL := Lib.hid hKl
  have HNN := Lib.hid hN
  have HZ := Lib.hid hZ
  have HRS := Lib.hid hrs
  have hN1000 : N ≤ 1000 := by omega
  have HWW := Lib.hid h0.size
  clear hrow hp hnd hn hKl hN hmp hmw hMP hZ h0 hT hI hrs C0
  go_enter Tryz.func201, Tryz.ntmps201
  go_wp2_with (at_range; refine wpList_range_mp rfl _ 169 rfl Tryz.underlying143 Tryz.underlying169 (HMP.out _ (H0.out.then (Off.alloc (Off.refl [] w) _) (fun x hx => by simp at hx))) rfl ?_; intro w3 hr3 ho3 hs3)
  have hal : (w.alloc (.cells Z.toArray 143)).heap.size = w.heap.size + 1 := by simp
  generalize (w.alloc (.cells Z.toArray 143)).heap.size = rr at hal hr3 hs3 ⊢
  have HO3 := Lib.hid ho3.out
  have hw01 : w0.heap.size ≤ w.heap.size := HWW.out
  (try go_frame)
  go_loopg [5] N (fun kx s8 wq => ∃ (L P : List Int) (p g cap : Nat) (sp : List Value), s8 = .slice (some ⟨g, 0, none⟩) p cap ∧ Hid (P.length = p ∧ L.length ≤ kx ∧ Kys w wq mm rr g cap D.length .u32 143 (ints (D.map (· + 8))) (fun x => V x.toNat) P L sp))
  case atStart =>
    refine ⟨ints (D.map (· + 8)), [], 0, w.heap.size, N, Z, rfl, Lib.hid ⟨rfl, Nat.le_of_eq HKL.out, ?_⟩⟩
    exact { perm := List.Perm.refl _, blk := (Blk.new' w 143 Z.toArray rfl).off HO3.out (by simp), sp := by simp [HZ.out], le := Nat.zero_le _, cm := by unfold maxLen; omega, rg := hr3.out, off := (Off.alloc (Off.refl [] w) _).then HO3.out (fun x hx => by simp at hx), g1 := Nat.le_refl _, g2 := by omega, r1 := by omega, r2 := by omega }
  case round =>
    rename World => wq
    obtain ⟨L, P, p, g, cap, sp, rfl, hh⟩ := hrel
    obtain ⟨hpl, hlen, hk⟩ := hh.out
    have HK := Lib.hid hk
    have hrg := hk.rg
    have hPL : P.length + L.length = N := by have := hk.perm.length_eq; rw [HKL.out] at this; simpa using this
    have HPL := Lib.hid hpl
    have hpN : p + L.length = N := by rw [← hpl]; exact hPL
    clear hh hk hr3 hs3 hpl hPL hal
    go_wp2_with (at_next; refine wpList_next_mp rfl _ rfl Tryz.underlying143 rfl hrg ?_ ?_)
    · intro hL
      subst hL
      have hk := HK.out
      obtain rfl : p = N := by simpa using hpN
      have hsort := Ord32.sort_list g cap 143 P sp wq hk.blk (by rw [HPL.out]; omega)
      rw [HPL.out] at hsort
      have HSORT := Lib.hid hsort
      clear hsort hk
      go_wp2_with (go_at_call 224; refine HSORT.out.mono ?_; rintro e w4 ⟨rfl, ys, sp4, hperm, hasc, hb4, ho4⟩)
      have hk := HK.out
      obtain ⟨Ds, hDs1, hDs2, rfl⟩ := keys_sorted D HND.out 8 ys (hperm.trans (by have := hk.perm; simpa using this)) hasc
      have ho14 : Off [] w w4 := hk.off.then ho4 (fun x hx => by simp at hx; right; rw [hx]; exact hk.g1)
      have hDl : Ds.length = p := by rw [hDs1.length_eq]; exact HNN.out.symm
      have HGT : Hid (g ∉ T) := Lib.hid (fun hx => by have := HTL.out g hx; have := hk.g1; omega)
      have HB4 := Lib.hid hb4
      have HD1 := Lib.hid hDs1
      have HD2 := Lib.hid hDs2
      have HDL := Lib.hid hDl
      have HO4 := Lib.hid ho14
      have HI4 := Lib.hid (HC0.out.fresh T rs HI.out ho14)
      have hgl := hb4.lt
      clear hb4 hDs1 hDs2 hDl ho14 ho4 hperm hasc hk hrg HK HSORT
      go_loopg [32] p (fun kx s32 wr => ∃ i : Nat, s32 = .int .i64 (i : Int) ∧ i ≤ p ∧ p - i ≤ kx ∧ Hid (Gthd I T w4 (rs ++ (Ds.take i).flatMap S) wr))
      case atStart => exact ⟨0, rfl, Nat.zero_le _, Nat.le_refl _, Lib.hid (by rw [List.take_zero, List.flatMap_nil, List.append_nil]; exact Gthd.start HI4.out)⟩
      case round =>
        rename World => wr
        obtain ⟨i, rfl, hip, hkx, HG⟩ := hrel
        by_cases hlt : i < p
        · have hltz : (i : Int) < (p : Int) := by omega
          obtain ⟨T1, hI1, hO1, hT1⟩ := HG.out
          have hB := hO1.blk HB4.out HGT.out
          have hO0 : Off [] w0 wr := (H0.out.then HO4.out (fun x hx => by simp at hx)).then hO1 (fun x hx => Or.inr (HT.out x hx))
          have hT1g : ∀ x, x ∈ T1 → w0.heap.size ≤ x := fun x hx => by
            rcases hT1 x hx with h | h
            · exact HT.out x h
            · have := HO4.out.size; omega
          have hiD : i < Ds.length := by rw [HDL.out]; exact hlt
          obtain ⟨n, hn⟩ : ∃ n, n = Ds[i] := ⟨_, rfl⟩
          have hnD : n ∈ D := HD1.out.mem_iff.1 (by rw [hn]; exact List.getElem_mem _)
          obtain ⟨hv, hseg, hB0, hClt, hwid⟩ := HROW.out n hnD
          obtain ⟨hn1000, hSl, hSo⟩ := HN.out n hnD
          obtain ⟨W8, hW8⟩ : ∃ W8, W8 = n + 8 := ⟨_, rfl⟩
          obtain ⟨k, hkk⟩ : ∃ k, k = (S n).length := ⟨_, rfl⟩
          obtain ⟨M, hM⟩ : ∃ M, M = W8 * k := ⟨_, rfl⟩
          have hsw : swv n (S n).length (C n) = .agg #[.int .u32 (W8 : Int), .int .u64 (k : Int), .slice (some ⟨C n, 0, none⟩) M M] := by unfold swv; rw [← hkk, ← hW8, ← hM]
          have htk : (Ds.take (i + 1)).flatMap S = (Ds.take i).flatMap S ++ S n := by
            rw [List.take_succ_eq_append_getElem hiD, List.flatMap_append, ← hn]; simp
          have hcx : wr.cell? ⟨g, i, none⟩ = some (.int .u32 (W8 : Int)) := by
            rw [hB.cell, List.getElem?_toArray, List.getElem?_append_left (by simp [ints]; exact hiD)]
            simp [ints, hiD, hn, hW8]
          have hcp : wr.cell? ⟨pb, 0, none⟩ = some (.map (some mm)) := hO0.cell HP.out (by simp)
          have hwf : (Lit.int .u32 (W8 : Int)).wf = true := WalkArith.wf_u32 (by omega)
          have hlk := (Mp.look (HMP.out wr hO0) Tryz.underlying143 Tryz.underlying169 (zeroSW wr) (W8 : Int) hwf).2
          have hmemk : (W8 : Int) ∈ ints (D.map (· + 8)) := mem_mapN.2 (List.mem_map.2 ⟨n, hnD, hW8.symm⟩)
          rw [if_pos hmemk, Int.toNat_natCast, hW8, hv, hsw, ← hW8] at hlk
          have hal2 : Off [] wr (wr.alloc (.cells #[.int .u32 (W8 : Int), .int .u64 (k : Int), .slice (some ⟨C n, 0, none⟩) M M] 293)) := Off.alloc (Off.refl [] wr) _
          have HSW := Lib.hid (swEach_any HC0.out T1 (rs ++ (Ds.take i).flatMap S) wr.heap.size (C n) W8 k M n (S n) _ (HC0.out.fresh T1 _ hI1 hal2) (Blk.new wr 293 #[.int .u32 (W8 : Int), .int .u64 (k : Int), .slice (some ⟨C n, 0, none⟩) M M]) hW8 hM hkk.symm ((hseg.off hO0 (by simp)).off hal2 (by simp)) (by have h1 := hO0.size; have h2 := hal2.size; omega) hwid hSo hn1000 (by omega)
            (fun hx => by have := HC0.out.lt hI1 _ hx; omega) (fun hx => by have := hT1g _ hx; omega) (by
              have h1 := HRS.out
              have h2 : (D.flatMap S).length = ((Ds.take i).flatMap S).length + (S n).length + ((Ds.drop (i + 1)).flatMap S).length := by
                rw [← flatMap_len HD1.out, ← List.length_append, ← htk, ← List.length_append, ← List.flatMap_append, List.take_append_drop]
              rw [List.length_append]
              omega))
          have HTK := Lib.hid htk
          have HAL2 := Lib.hid hal2
          have HO1 := Lib.hid hO1
          have HT1 := Lib.hid hT1
          clear hB hO0 hT1g hv hseg hsw htk hwid hM hkk hW8 hmemk hwf hn hO1 hT1 hI1 hal2 HG hSo
          go_wp2_with (go_at_call 225; refine HSW.out.mono ?_; rintro e w5 ⟨rfl, hG5⟩; have HG5 := Lib.hid hG5; clear hG5)
          go_roundg (p - (i + 1))
          case measure => omega
          case rel =>
            refine ⟨i + 1, by go_num, by omega, Nat.le_refl _, Lib.hid ?_⟩
            rw [HTK.out, ← List.append_assoc]
            exact Gthd.next (HO1.out.then HAL2.out (fun x hx => by simp at hx)) HT1.out HG5.out
        · have hltz : ¬ (i : Int) < (p : Int) := by omega
          obtain rfl : i = p := by omega
          go_wp2_with fail
          go_ret
          have h := HG.out
          rw [List.take_of_length_le (by rw [HDL.out]; exact Nat.le_refl _)] at h
          exact ⟨rfl, Ds, HD1.out, HD2.out, Gthd.next (HO4.out.mono (fun x hx => by simp at hx)) (fun x hx => Or.inl hx) h⟩
    · intro x w4 hxL hwx hrg4 ho4 hs4 hen
      have hk := HK.out
      have hLpos := List.length_pos_of_mem hxL
      obtain ⟨i0, hi, hz0, hz1, hz2⟩ := info_parts Tryz.infoU32
      have hb4 := hk.blk.off ho4 (ni1 hk.g2)
      have hgw := hb4.lt
      have HB4 := Lib.hid hb4
      have HO4 := Lib.hid ho4
      have HRG4 := Lib.hid hrg4
      have hxl : (P.map (Value.int .u32)).length = p * 1 := by simp [HPL.out]
      have hown := owns_blk (HB4.out.alloc (.cells #[.int .u32 x] 143)) hxl (by have := hk.sp; rw [HPL.out] at this; exact this) (by have := hk.le; rw [HPL.out] at this; exact this) hk.cm
      have HOWN := Lib.hid hown
      have HXL := Lib.hid hxl
      clear hk hb4 ho4 hrg4 hrg hxl hown hs4
      go_wp2_with (at_builtin; refine wpList_append_blk rfl _ _ 328 rfl 143 i0 _ 1 4 Tryz.underlying328 hi hz0 hz1 hz2 rfl (by decide) (.slice (some ⟨g, 0, none⟩) p cap) p (P.map (Value.int .u32)) HXL.out rfl HOWN.out ⟨w4.heap.size, 0, none⟩ 1 [.int .u32 x] rfl rfl (news_alloc _ _ _) (oneInt _ _) (by unfold maxLen; omega) (by omega) ?_; intro g' cap' sp' w5 hb5 q1 q2 q3 hg5 ho5 hown5; have HQ3 := Lib.hid q3; have HG5 := Lib.hid hg5; clear q3 hg5 hown5)
      go_roundg (L.length - 1)
      case measure => omega
      case rel =>
        have hk := HK.out
        have hg5 := HG5.out
        have hsz5 : (w4.alloc (.cells #[.int .u32 x] 143)).heap.size = w4.heap.size + 1 := by simp
        rw [hsz5] at hg5
        have ho5' := ho5.out [g] (fun g hg => by simp [Value.ownBlock] at hg; simp [hg])
        have hAl : Off [] w4 (w4.alloc (.cells #[.int .u32 x] 143)) := Off.alloc (Off.refl [] w4) _
        have hw4s := HO4.out.size
        have hr2 := hk.r2
        have hr1 := hk.r1
        have hg1 := hk.g1
        have hos := ho5'.size
        rw [hsz5] at hos
        refine ⟨L.erase x, P ++ [x], p + 1, g', cap', sp', rfl, Lib.hid ⟨by simp [HPL.out], by rw [List.length_erase_of_mem hxL]; exact Nat.le_refl _, ?_⟩⟩
        exact { perm := by
                  refine List.Perm.trans ?_ hk.perm
                  rw [List.append_assoc]
                  exact List.Perm.append_left P (List.perm_cons_erase hxL).symm
                blk := by have := hb5.out; simpa using this
                sp := by have := HQ3.out; simp [HPL.out]; omega
                le := by simp [HPL.out]; exact q1
                cm := q2
                rg := (HRG4.out.off hAl (by simp) (by simp)).off ho5' (by simp; omega) (ni1 (fun e => hk.g2 e.symm))
                off := ((hk.off.then HO4.out (fun x hx => by simp at hx; right; omega)).then hAl (fun x hx => by simp at hx)).then ho5' (fun x hx => by simp at hx; right; omega)
                g1 := by rcases hg5 with h | h
                         · simp [Value.ownBlock] at h; omega
                         · omega
                g2 := by rcases hg5 with h | h
                         · simp [Value.ownBlock] at h; rw [← h]; exact hk.g2
                         · omega
                r1 := hk.r1
                r2 := by omega }
end Go.Proofs.YtcgggcjmmphldaaGreatDoor
namespace Go.Proofs.YtcgggcjmmphldaaGreatDoor
open Go.RowKit

/-- A function of multihashes and offsets that gathers them. -/
structure Mcb (fid : Nat) (bound : Array Value) (J : List Nat → List (Nat × Rw) → World → Prop) : Prop where
  enter : ∀ args w, (callFunc fid args).run Tryz.prog w = .ok (.enter fid args) w
  fresh : ∀ (T : List Nat) (rs : List (Nat × Rw)) {w w' : World}, J T rs w → Off [] w w' → J T rs w'
  lt : ∀ {T : List Nat} {rs : List (Nat × Rw)} {w : World}, J T rs w → ∀ x, x ∈ T → x < w.heap.size
  call : ∀ {T : List Nat} {rs : List (Nat × Rw)} {w : World} (b c code : Nat) (d : List UInt8) (off : Nat), J T rs w → Blk w b 5 (Lib.byteCells (mhB code d)).toArray → (mhB code d).length ≤ c → code < 9223372036854775808 → d.length ≤ 1000 → off < 18446744073709551616 → rs.length < 100000 →
    Calls Tryz.prog fid (#[.slice (some ⟨b, 0, none⟩) (mhB code d).length c, .int .u64 (off : Int)] ++ bound) w fun e w' => e = .returned .nilIface ∧ ∃ T', J T' (rs ++ [(code, ⟨d, off⟩)]) w' ∧ Off T w w' ∧ ∀ x, x ∈ T' → x ∈ T ∨ w.heap.size ≤ x

/-- The closure forEach$1: what it has gathered is what its own callback has, under one hash function. -/
structure Clo (fid : Nat) (bound : Array Value) (J : List Nat → List (Nat × Rw) → World → Prop) (b2 b3 q m code : Nat) (pre : List (Nat × Rw)) (T : List Nat) (rs : List Rw) (w : World) : Prop where
  j : J T (pre ++ rs.map fun r => (code, r)) w
  x2 : Blk w b2 268 #[.pointer (some ⟨q, 0, none⟩)]
  x3 : Blk w b3 122 #[.func (.func fid) #[] bound]
  xq : Blk w q 273 #[.map (some m), .int .u64 (code : Int)]
  n2 : b2 ∉ T
  n3 : b3 ∉ T
  nq : q ∉ T

set_option maxRecDepth 100000 in
set_option maxHeartbeats 4000000 in
theorem cbk_forEach {fid : Nat} {bound : Array Value} {J : List Nat → List (Nat × Rw) → World → Prop} (M : Mcb fid bound J) (b2 b3 q m code : Nat) (pre : List (Nat × Rw)) (hcode : code < 9223372036854775808) :
    Cbk 202 #[.pointer (some ⟨b2, 0, none⟩), .pointer (some ⟨b3, 0, none⟩)] (Clo fid bound J b2 b3 q m code pre) (100000 - pre.length) where
  enter args w := enters_of Tryz.func202 (by kernel_rfl) rfl args w
  fresh := fun T rs {w w'} h ho => ⟨M.fresh T _ h.j ho, h.x2.off ho (by simp), h.x3.off ho (by simp), h.xq.off ho (by simp), h.n2, h.n3, h.nq⟩
  lt h := M.lt h.j
  call {T rs w} b o c d off hI hseg hb hdc hd hoff hrs := by
    have eL := M.enter
    have HE := Lib.hid (encode_any b o c code d w (by omega) (by omega) hseg)
    have x2 : w.cell? ⟨b2, 0, none⟩ = some (.pointer (some ⟨q, 0, none⟩)) := hI.x2.cell 0
    have xq : w.cell? ⟨q, 1, none⟩ = some (.int .u64 (code : Int)) := hI.xq.cell 1
    have HI := Lib.hid hI
    have HM := Lib.hid M
    obtain ⟨dl, hdl⟩ : ∃ dl, dl = d.length := ⟨_, rfl⟩
    rw [← hdl] at HE ⊢
    have HDL := Lib.hid hdl
    clear hI M hseg hdl
    go_enter Tryz.func202, Tryz.ntmps202
    go_wp2_with (first
      | (go_at_call 62
         refine HE.out.mono ?_
         rintro e w1 ⟨rfl, hb1, hbl1⟩
         have ho1 : Off [] w w1 := Off.ofBelow (S := []) hbl1
         have x3 : w1.cell? ⟨b3, 0, none⟩ = some (.func (.func fid) #[] bound) := (HI.out.x3.off ho1 (by simp)).cell 0
         obtain ⟨ml, hml⟩ : ∃ ml, ml = (mhB code d).length := ⟨_, rfl⟩
         rw [← hml]
         have hcall := HM.out.call (T := T) (rs := pre ++ rs.map fun r => (code, r)) w.heap.size ml code d off (HM.out.fresh T _ HI.out.j ho1) hb1 (Nat.le_of_eq hml.symm) hcode (by have := HDL.out; omega) hoff (by rw [List.length_append, List.length_map]; omega)
         rw [← hml] at hcall
         have HC := Lib.hid hcall
         have HO1 := Lib.hid ho1
         clear hb1 hbl1 ho1 hml hcall)
      | (go_at_fn fid
         refine HC.out.mono ?_
         rintro e w2 ⟨rfl, T2, hj2, ho2, ht2⟩
         have H2 := Lib.hid (And.intro hj2 (And.intro ho2 ht2))
         clear hj2 ho2 ht2))
    go_ret
    obtain ⟨hj2, ho2, ht2⟩ := H2.out
    have hI := HI.out
    have ho := HO1.out
    have hz := ho.size
    have far : ∀ x, x ∉ T → x < w.heap.size → x ∉ T2 := fun x hx hl h => by
      rcases ht2 x h with h | h
      · exact hx h
      · omega
    refine ⟨rfl, T2, ⟨?_, (hI.x2.off ho (by simp)).off ho2 hI.n2, (hI.x3.off ho (by simp)).off ho2 hI.n3, (hI.xq.off ho (by simp)).off ho2 hI.nq, far _ hI.n2 hI.x2.lt, far _ hI.n3 hI.x3.lt, far _ hI.nq hI.xq.lt⟩, (ho.mono (fun x hx => by simp at hx)).then ho2 (fun x hx => Or.inl hx), fun x hx => (ht2 x hx).imp id (fun h => by omega)⟩
    rw [List.map_append, ← List.append_assoc]
    exact hj2

theorem Mcb.start {fid : Nat} {bound : Array Value} {J : List Nat → List (Nat × Rw) → World → Prop} (M : Mcb fid bound J) {T : List Nat} {rs : List (Nat × Rw)} {w w' : World} (h : J T rs w) (ho : Off [] w w') : J T rs w' := M.fresh T rs h ho

set_option maxRecDepth 100000 in
set_option maxHeartbeats 4000000 in
theorem cwEach_any {fid : Nat} {bound : Array Value} {J : List Nat → List (Nat × Rw) → World → Prop} (M : Mcb fid bound J) (T : List Nat) (rs : List (Nat × Rw)) (w0 w : World) (hJ : J T rs w) (h0 : Off [] w0 w) (hT : ∀ x, x ∈ T → w0.heap.size ≤ x)
    (q m B0 code : Nat) (D : List Nat) (S : Nat → List Rw) (hcode : code < 9223372036854775808) (hq : Blk w0 q 273 #[.map (some m), .int .u64 (code : Int)]) (hmw : MwAt B0 w0 m D S)
    (hD : D.length ≤ 1000) (hn : ∀ n, n ∈ D → n ≤ 1000 ∧ (S n).length ≤ 1000 ∧ ∀ r, r ∈ S n → r.off < 18446744073709551616) (hrs : rs.length + (D.flatMap S).length ≤ 100000) :
    Calls Tryz.prog 187 #[.pointer (some ⟨q, 0, none⟩), .func (.func fid) #[] bound] w fun e w' => e = .returned .nilIface ∧ ∃ Ds : List Nat, Ds.Perm D ∧ Ds.Pairwise (· < ·) ∧ ∃ T', J T' (rs ++ (Ds.flatMap S).map fun r => (code, r)) w' ∧ Off T w w' ∧ ∀ x, x ∈ T' → x ∈ T ∨ w.heap.size ≤ x := by
  obtain ⟨wb, hwb⟩ : ∃ wb, wb = (w.alloc (.cells #[.pointer (some ⟨q, 0, none⟩)] 268)).alloc (.cells #[.func (.func fid) #[] bound] 122) := ⟨_, rfl⟩
  have hob : Off [] w wb := by rw [hwb]; exact ((Off.refl [] w).alloc _).alloc _
  have hb2 : Blk wb w.heap.size 268 #[.pointer (some ⟨q, 0, none⟩)] := by rw [hwb]; exact (Blk.new w _ _).alloc _
  have hb3 : Blk wb (w.heap.size + 1) 122 #[.func (.func fid) #[] bound] := by rw [hwb]; exact Blk.new' _ _ _ (by simp)
  have hlt := M.lt hJ
  have hqlt := hq.lt
  have h0z := h0.size
  have hclo : Clo fid bound J w.heap.size (w.heap.size + 1) q m code rs T [] wb := ⟨by simpa using M.fresh T rs hJ hob, hb2, hb3, (hq.off h0 (by simp)).off hob (by simp), fun hx => by have := hlt _ hx; omega, fun hx => by have := hlt _ hx; omega, fun hx => by have := hT _ hx; omega⟩
  have HMW := Lib.hid (mwEach_any (cbk_forEach M w.heap.size (w.heap.size + 1) q m code rs hcode) T [] w0 wb hclo (h0.then hob (fun x hx => by simp at hx)) hT q m B0 D S (hq.cell 0) hmw hD hn (by rw [List.length_nil]; omega))
  have x2 : wb.cell? ⟨w.heap.size, 0, none⟩ = some (.pointer (some ⟨q, 0, none⟩)) := hb2.cell 0
  have HWB := Lib.hid hwb
  have HOB := Lib.hid hob
  clear hwb hob hb2 hb3 hlt hclo hJ h0 hT hq hmw hn
  go_enter Tryz.func187, Tryz.ntmps187
  go_upto_region 1 with fail
  rw [← HWB.out]
  go_wp2_with (go_at_call 201; refine HMW.out.mono ?_; rintro e w2 ⟨rfl, Ds, hd1, hd2, hG⟩; have H2 := Lib.hid (And.intro hd1 (And.intro hd2 hG)); clear hd1 hd2 hG)
  go_ret
  obtain ⟨hd1, hd2, T', h1, h2, h3⟩ := H2.out
  refine ⟨rfl, Ds, hd1, hd2, T', ?_, (HOB.out.mono (fun x hx => by simp at hx)).then h2 (fun x hx => Or.inl hx), fun x hx => (h3 x hx).imp id (fun h => Nat.le_trans HOB.out.size h)⟩
  have := h1.j
  simpa using this
end Go.Proofs.YtcgggcjmmphldaaGreatDoor
namespace Go.Proofs.YtcgggcjmmphldaaGreatDoor
open Go.RowKit

/-- How many rows a hash function has. -/
def rowsN (D : Nat → List Nat) (S : Nat → Nat → List Rw) (c : Nat) : Nat := ((D c).flatMap (S c)).length
theorem flat_map (Ds : List Nat) (S : Nat → List Rw) : flat (Ds.map fun n => (n, S n)) = Ds.flatMap S := by simp [flat, List.flatMap_map]
theorem cflat_len {D : Nat → List Nat} {S : Nat → Nat → List Rw} : ∀ (H : List (Nat × List (Nat × List Rw))), (∀ p, p ∈ H → ∃ Ds : List Nat, Ds.Perm (D p.1) ∧ Ds.Pairwise (· < ·) ∧ p.2 = Ds.map fun n => (n, S p.1 n)) → (cflat H).length = ((H.map (·.1)).map (rowsN D S)).sum
  | [], _ => rfl
  | p :: H, h => by
    have ih := cflat_len H (fun x hx => h x (List.mem_cons_of_mem _ hx))
    obtain ⟨Ds, h1, h2, h3⟩ := h p (List.mem_cons_self ..)
    have e : cflat (p :: H) = (flat p.2).map (fun r => (p.1, r)) ++ cflat H := rfl
    rw [e, List.length_append, ih, List.length_map, h3, flat_map, flatMap_len h1]
    simp [rowsN]

set_option maxRecDepth 100000 in
set_option maxHeartbeats 4000000 in
theorem misEach_any {fid : Nat} {bound : Array Value} {J : List Nat → List (Nat × Rw) → World → Prop} (M : Mcb fid bound J) (T : List Nat) (w0 w : World) (hJ : J T [] w) (h0 : Off [] w0 w) (hT : ∀ x, x ∈ T → w0.heap.size ≤ x)
    (pb mm B0 : Nat) (Cs : List Nat) (D : Nat → List Nat) (S : Nat → Nat → List Rw) (hp : w0.cell? ⟨pb, 0, none⟩ = some (.map (some mm))) (hmi : MisAt B0 w0 mm Cs D S)
    (hC : Cs.length ≤ 1000) (hc63 : ∀ c, c ∈ Cs → c < 9223372036854775808) (hD : ∀ c, c ∈ Cs → (D c).length ≤ 1000 ∧ ∀ n, n ∈ D c → n ≤ 1000 ∧ (S c n).length ≤ 1000 ∧ ∀ r, r ∈ S c n → r.off < 18446744073709551616) (htot : (Cs.map (rowsN D S)).sum ≤ 100000) :
    Calls Tryz.prog 181 #[.pointer (some ⟨pb, 0, none⟩), .func (.func fid) #[] bound] w fun e w' => e = .returned .nilIface ∧ ∃ H, Wrt Cs D S H ∧ ∃ T', J T' (cflat H) w' ∧ Off T w w' ∧ ∀ x, x ∈ T' → x ∈ T ∨ w.heap.size ≤ x := by
  obtain ⟨V, q, m, hmp, hrow⟩ := hmi.ex
  have hnd := hmi.nodup
  have hmlt : mm < w0.heap.size := hmi.lt
  have hplt : pb < w0.heap.size := World.block_lt_of_cell? w0 _ hp
  obtain ⟨N, hN⟩ : ∃ N, N = Cs.length := ⟨_, rfl⟩
  have hKl : (ints Cs).length = N := by simp [ints, hN]
  have hMP : ∀ W, Off [] w0 W → MpN Tryz.prog 23 .u64 W mm Cs.length Cs V := fun W ho => MpN.off hmp ho (by simp)
  have HMP := Lib.hid hMP
  have hlen0 : (Builtin.len_ #[172] 3 #[.map (some mm)]).run Tryz.prog w = .ok (.int .i64 (N : Int)) w := by
    have := Mp.len (hMP w h0) Tryz.underlying172 3
    rwa [hKl] at this
  have hc0 : w.cell? ⟨pb, 0, none⟩ = some (.map (some mm)) := h0.cell hp (by simp)
  obtain ⟨Z, hZ, hmk⟩ := make64 N (by omega)
  have hc2 : (w.alloc (.cells Z.toArray 23)).cell? ⟨pb, 0, none⟩ = some (.map (some mm)) := (Off.alloc (Off.refl [] w) _).cell hc0 (by simp)
  have HM := Lib.hid M
  have HJ := Lib.hid hJ
  have H0 := Lib.hid h0
  have HT := Lib.hid hT
  have HTL := Lib.hid (M.lt hJ)
  have HROW := Lib.hid hrow
  have HP := Lib.hid hp
  have HND := Lib.hid hnd
  have HC63 := Lib.hid hc63
  have HD := Lib.hid hD
  have HKL := Lib.hid hKl
  have HNN := Lib.hid hN
  have HZ := Lib.hid hZ
  have HTOT := Lib.hid htot
  have hN1000 : N ≤ 1000 := by omega
  have hw01 : w0.heap.size ≤ w.heap.size := h0.size
  clear hrow hp hnd hc63 hD hKl hN hmp hmi hMP hZ h0 hT hJ htot M
  go_enter Tryz.func181, Tryz.ntmps181
  go_wp2_with (at_range; refine wpList_range_mp rfl _ 172 rfl Tryz.underlying23 Tryz.underlying172 (HMP.out _ (H0.out.then (Off.alloc (Off.refl [] w) _) (fun x hx => by simp at hx))) rfl ?_; intro w3 hr3 ho3 hs3)
  have hal : (w.alloc (.cells Z.toArray 23)).heap.size = w.heap.size + 1 := by simp
  generalize (w.alloc (.cells Z.toArray 23)).heap.size = rr at hal hr3 hs3 ⊢
  have HO3 := Lib.hid ho3.out
  (try go_frame)
  go_loopg [5] N (fun kx s8 wq => ∃ (L P : List Int) (p g cap : Nat) (sp : List Value), s8 = .slice (some ⟨g, 0, none⟩) p cap ∧ Hid (P.length = p ∧ L.length ≤ kx ∧ Kys w wq mm rr g cap Cs.length .u64 23 (ints Cs) (fun x => V x.toNat) P L sp))
  case atStart =>
    refine ⟨ints Cs, [], 0, w.heap.size, N, Z, rfl, Lib.hid ⟨rfl, Nat.le_of_eq HKL.out, ?_⟩⟩
    exact { perm := List.Perm.refl _, blk := (Blk.new' w 23 Z.toArray rfl).off HO3.out (by simp), sp := by simp [HZ.out], le := Nat.zero_le _, cm := by unfold maxLen; omega, rg := hr3.out, off := (Off.alloc (Off.refl [] w) _).then HO3.out (fun x hx => by simp at hx), g1 := Nat.le_refl _, g2 := by omega, r1 := by omega, r2 := by omega }
  case round =>
    rename World => wq
    obtain ⟨L, P, p, g, cap, sp, rfl, hh⟩ := hrel
    obtain ⟨hpl, hlen, hk⟩ := hh.out
    have HK := Lib.hid hk
    have hrg := hk.rg
    have hPL : P.length + L.length = N := by have := hk.perm.length_eq; rw [HKL.out] at this; simpa using this
    have HPL := Lib.hid hpl
    have hpN : p + L.length = N := by rw [← hpl]; exact hPL
    clear hh hk hr3 hs3 hpl hPL hal
    go_wp2_with (at_next; refine wpList_next_mp rfl _ rfl Tryz.underlying23 rfl hrg ?_ ?_)
    · intro hL
      subst hL
      have hk := HK.out
      obtain rfl : p = N := by simpa using hpN
      have hsort := Ord64.sort_list g cap 23 P sp wq hk.blk (by rw [HPL.out]; omega)
      rw [HPL.out] at hsort
      have HSORT := Lib.hid hsort
      clear hsort hk
      go_wp2_with (go_at_call 186; refine HSORT.out.mono ?_; rintro e w4 ⟨rfl, ys, sp4, hperm, hasc, hb4, ho4⟩)
      have hk := HK.out
      obtain ⟨Ks, hKs1, hKs2, he⟩ := keys_sorted Cs HND.out 0 ys (hperm.trans (by have := hk.perm; simpa using this)) hasc
      have he2 : ys = ints Ks := by simpa using he
      subst he2
      have ho14 : Off [] w w4 := hk.off.then ho4 (fun x hx => by simp at hx; right; rw [hx]; exact hk.g1)
      have hKl : Ks.length = p := by rw [hKs1.length_eq]; exact HNN.out.symm
      have HGT : Hid (g ∉ T) := Lib.hid (fun hx => by have := HTL.out g hx; have := hk.g1; omega)
      have HB4 := Lib.hid hb4
      have HD1 := Lib.hid hKs1
      have HD2 := Lib.hid hKs2
      have HDL := Lib.hid hKl
      have HO4 := Lib.hid ho14
      have HJ4 := Lib.hid (HM.out.fresh T [] HJ.out ho14)
      have hgl := hb4.lt
      clear hb4 hKs1 hKs2 hKl ho14 ho4 hperm hasc hk hrg HK HSORT he
      go_loopg [32] p (fun kx s32 wr => ∃ i : Nat, s32 = .int .i64 (i : Int) ∧ i ≤ p ∧ p - i ≤ kx ∧ Hid (∃ H : List (Nat × List (Nat × List Rw)), H.map (·.1) = Ks.take i ∧ (∀ p, p ∈ H → ∃ Ds : List Nat, Ds.Perm (D p.1) ∧ Ds.Pairwise (· < ·) ∧ p.2 = Ds.map fun n => (n, S p.1 n)) ∧ ∃ T1, J T1 (cflat H) wr ∧ Off T w4 wr ∧ ∀ x, x ∈ T1 → x ∈ T ∨ w4.heap.size ≤ x))
      case atStart => exact ⟨0, rfl, Nat.zero_le _, Nat.le_refl _, Lib.hid ⟨[], by simp, fun p hp => by simp at hp, T, HJ4.out, Off.refl _ _, fun x hx => Or.inl hx⟩⟩
      case round =>
        rename World => wr
        obtain ⟨i, rfl, hip, hkx, HG⟩ := hrel
        by_cases hlt : i < p
        · have hltz : (i : Int) < (p : Int) := by omega
          obtain ⟨H, hH1, hH2, T1, hJ1, hO1, hT1⟩ := HG.out
          have hB := hO1.blk HB4.out HGT.out
          have h04 : Off [] w0 w4 := H0.out.then HO4.out (fun x hx => by simp at hx)
          have hO0 : Off [] w0 wr := h04.then hO1 (fun x hx => Or.inr (HT.out x hx))
          have hT1g : ∀ x, x ∈ T1 → w0.heap.size ≤ x := fun x hx => by
            rcases hT1 x hx with h | h
            · exact HT.out x h
            · have := h04.size; omega
          have hiD : i < Ks.length := by rw [HDL.out]; exact hlt
          obtain ⟨c, hn⟩ : ∃ c, c = Ks[i] := ⟨_, rfl⟩
          have hnD : c ∈ Cs := HD1.out.mem_iff.1 (by rw [hn]; exact List.getElem_mem _)
          obtain ⟨hv, hqb, hmw, hq0, hm0⟩ := HROW.out c hnD
          obtain ⟨hDl, hDn⟩ := HD.out c hnD
          have hc63 := HC63.out c hnD
          have hcx : wr.cell? ⟨g, i, none⟩ = some (.int .u64 (c : Int)) := by
            rw [hB.cell, List.getElem?_toArray, List.getElem?_append_left (by simp [ints]; exact hiD)]
            simp [ints, hiD, hn]
          have hcp : wr.cell? ⟨pb, 0, none⟩ = some (.map (some mm)) := hO0.cell HP.out (by simp)
          have hwf : (Lit.int .u64 (c : Int)).wf = true := WalkArith.wf_u64 (by omega)
          have hlk := (Mp.look (HMP.out wr hO0) Tryz.underlying23 Tryz.underlying172 (zeroCW wr) (c : Int) hwf).2
          rw [if_pos (mem_mapN.2 hnD), Int.toNat_natCast, hv] at hlk
          have htk : Ks.take (i + 1) = Ks.take i ++ [c] := by rw [List.take_succ_eq_append_getElem hiD, hn]
          have hsum : (cflat H).length + ((D c).flatMap (S c)).length ≤ 100000 := by
            have h1 := HTOT.out
            have h2 : (Cs.map (rowsN D S)).sum = (Ks.map (rowsN D S)).sum := (HD1.out.symm.map _).sum_nat
            have h3 : Ks = Ks.take i ++ [c] ++ Ks.drop (i + 1) := by rw [← htk, List.take_append_drop]
            rw [cflat_len H hH2, hH1]
            rw [h2, h3] at h1
            simp only [List.map_append, List.sum_append, List.map_cons, List.map_nil, List.sum_cons, List.sum_nil, rowsN] at h1 ⊢
            omega
          have HSW := Lib.hid (cwEach_any HM.out T1 (cflat H) w0 wr hJ1 hO0 hT1g (q c) (m c) B0 c (D c) (S c) hc63 hqb hmw hDl hDn hsum)
          have HTK := Lib.hid htk
          have HH1 := Lib.hid hH1
          have HH2 := Lib.hid hH2
          have HO1 := Lib.hid hO1
          have HT1 := Lib.hid hT1
          clear hB h04 hO0 hT1g hv hqb hmw hq0 hm0 hDl hDn hwf hn hO1 hT1 hJ1 HG htk hH1 hH2 hsum
          go_wp2_with (go_at_call 187; refine HSW.out.mono ?_; rintro e w5 ⟨rfl, Ds, hd1, hd2, T2, hj2, ho2, ht2⟩; have H5 := Lib.hid (And.intro hd1 (And.intro hd2 (And.intro hj2 (And.intro ho2 ht2)))); clear hd1 hd2 hj2 ho2 ht2)
          go_roundg (p - (i + 1))
          case measure => omega
          case rel =>
            obtain ⟨hd1, hd2, hj2, ho2, ht2⟩ := H5.out
            refine ⟨i + 1, by go_num, by omega, Nat.le_refl _, Lib.hid ⟨H ++ [(c, Ds.map fun n => (n, S c n))], ?_, fun x hx => ?_, T2, ?_, HO1.out.then ho2 HT1.out, fun x hx => ?_⟩⟩
            · rw [HTK.out, List.map_append, HH1.out]; rfl
            · rcases List.mem_append.1 hx with hx | hx
              · exact HH2.out x hx
              · obtain rfl := List.mem_singleton.1 hx
                exact ⟨Ds, hd1, hd2, rfl⟩
            · have e : cflat (H ++ [(c, Ds.map fun n => (n, S c n))]) = cflat H ++ (Ds.flatMap (S c)).map fun r => (c, r) := by
                unfold cflat
                rw [List.flatMap_append]
                simp only [List.flatMap_cons, List.flatMap_nil, List.append_nil, flat_map]
              rw [e]
              exact hj2
            · rcases ht2 x hx with h | h
              · exact HT1.out x h
              · exact Or.inr (Nat.le_trans HO1.out.size h)
        · have hltz : ¬ (i : Int) < (p : Int) := by omega
          obtain rfl : i = p := by omega
          go_wp2_with fail
          go_ret
          obtain ⟨H, hH1, hH2, T1, hJ1, hO1, hT1⟩ := HG.out
          rw [List.take_of_length_le (by rw [HDL.out]; exact Nat.le_refl _)] at hH1
          refine ⟨rfl, H, ⟨by rw [hH1]; exact HD1.out, by rw [hH1]; exact HD2.out, hH2⟩, T1, hJ1, (HO4.out.mono (fun x hx => by simp at hx)).then hO1 (fun x hx => Or.inl hx), fun x hx => (hT1 x hx).imp id (fun h => Nat.le_trans HO4.out.size h)⟩
    · intro x w4 hxL hwx hrg4 ho4 hs4 hen
      have hk := HK.out
      have hLpos := List.length_pos_of_mem hxL
      obtain ⟨i0, hi, hz0, hz1, hz2⟩ := info_parts Tryz.infoU64
      have hb4 := hk.blk.off ho4 (ni1 hk.g2)
      have hgw := hb4.lt
      have HB4 := Lib.hid hb4
      have HO4 := Lib.hid ho4
      have HRG4 := Lib.hid hrg4
      have hxl : (P.map (Value.int .u64)).length = p * 1 := by simp [HPL.out]
      have hown := owns_blk (HB4.out.alloc (.cells #[.int .u64 x] 23)) hxl (by have := hk.sp; rw [HPL.out] at this; exact this) (by have := hk.le; rw [HPL.out] at this; exact this) hk.cm
      have HOWN := Lib.hid hown
      have HXL := Lib.hid hxl
      clear hk hb4 ho4 hrg4 hrg hxl hown hs4
      go_wp2_with (at_builtin; refine wpList_append_blk rfl _ _ 33 rfl 23 i0 _ 1 8 Tryz.underlying33 hi hz0 hz1 hz2 rfl (by decide) (.slice (some ⟨g, 0, none⟩) p cap) p (P.map (Value.int .u64)) HXL.out rfl HOWN.out ⟨w4.heap.size, 0, none⟩ 1 [.int .u64 x] rfl rfl (news_alloc _ _ _) (oneInt _ _) (by unfold maxLen; omega) (by omega) ?_; intro g' cap' sp' w5 hb5 q1 q2 q3 hg5 ho5 hown5; have HQ3 := Lib.hid q3; have HG5 := Lib.hid hg5; clear q3 hg5 hown5)
      go_roundg (L.length - 1)
      case measure => omega
      case rel =>
        have hk := HK.out
        have hg5 := HG5.out
        have hsz5 : (w4.alloc (.cells #[.int .u64 x] 23)).heap.size = w4.heap.size + 1 := by simp
        rw [hsz5] at hg5
        have ho5' := ho5.out [g] (fun g hg => by simp [Value.ownBlock] at hg; simp [hg])
        have hAl : Off [] w4 (w4.alloc (.cells #[.int .u64 x] 23)) := Off.alloc (Off.refl [] w4) _
        have hw4s := HO4.out.size
        have hr2 := hk.r2
        have hr1 := hk.r1
        have hg1 := hk.g1
        have hos := ho5'.size
        rw [hsz5] at hos
        refine ⟨L.erase x, P ++ [x], p + 1, g', cap', sp', rfl, Lib.hid ⟨by simp [HPL.out], by rw [List.length_erase_of_mem hxL]; exact Nat.le_refl _, ?_⟩⟩
        exact { perm := by
                  refine List.Perm.trans ?_ hk.perm
                  rw [List.append_assoc]
                  exact List.Perm.append_left P (List.perm_cons_erase hxL).symm
                blk := by have := hb5.out; simpa using this
                sp := by have := HQ3.out; simp [HPL.out]; omega
                le := by simp [HPL.out]; exact q1
                cm := q2
                rg := (HRG4.out.off hAl (by simp) (by simp)).off ho5' (by simp; omega) (ni1 (fun e => hk.g2 e.symm))
                off := ((hk.off.then HO4.out (fun x hx => by simp at hx; right; omega)).then hAl (fun x hx => by simp at hx)).then ho5' (fun x hx => by simp at hx; right; omega)
                g1 := by rcases hg5 with h | h
                         · simp [Value.ownBlock] at h; omega
                         · omega
                g2 := by rcases hg5 with h | h
                         · simp [Value.ownBlock] at h; rw [← h]; exact hk.g2
                         · omega
                r1 := hk.r1
                r2 := by omega }
end Go.Proofs.YtcgggcjmmphldaaGreatDoor
namespace Go.Proofs.YtcgggcjmmphldaaGreatDoor
open Go.RowKit

section
variable {P : Program} {ops : Array Oper} {o : Oper} {a : Act} {Q : Exit → Act → World → Prop}
/-- append of a row onto a row of one's own, in a region that draws. -/
theorem step_append_own {K : Act → World → Prop} {E : Prop} (w : World) (hgd : o.guard = none) (s x : Operand) (t : TypeId) (ho : o.op = .call { callee := .builtin .append, args := #[s, x], argTypes := #[t, t] })
    (base : Nat) (e : TypeId) (i : TypeInfo) (z : Value) (size bytes : Nat) (ht : P.underlying t = some (.slice e)) (hi : P.info? e = some i) (hz : i.zero = some z) (hsize : i.size = size) (hby : i.bytes = bytes) (hzs : z.cells.size = size) (hsz : 0 < size)
    (v : Value) (n : Nat) (xs : List Value) (hs : a.eval s = v) (hown : w.ownsRow base e size v n xs)
    (ad : Addr) (m c : Nat) (news : List Value) (hx : a.eval x = .slice (some ad) m c) (hl : news.length = m * size) (hnews : ∀ j u, news[j]? = some u → w.cell? (ad.add j) = some u) (h1 : ∀ u ∈ news, u.oneCell' = true)
    (h63 : n + m ≤ maxLen) (hbytes : (n + m) * bytes ≤ 140737488355328) (hbase : base ≤ w.heap.size)
    (h : ∀ v' w', w'.ownsRow base e size v' (n + m) (xs ++ news) → w.grownBy w' v.ownBlock → (v'.ownBlock = v.ownBlock ∨ v'.ownBlock = some w.heap.size) → K (a.put o.dst v') w') :
    if Region.wanted o (yielded ops a.tmps) = true then Oper.wp P o a w K Q else E := by
  have hw : Region.wanted o (yielded ops a.tmps) = true := by simp [Region.wanted, hgd]
  rw [if_pos hw]
  obtain ⟨v', w', hr, h2, h3, h4, h5⟩ := run_append_own_at (P := P) w base t o.type e i z size bytes ht hi hz hsize hby hzs hsz v n xs hown ad m c news hl hnews h1 h63 hbytes hbase
  unfold Oper.wp execOp
  simp only [ho, resolve, invoke, builtin, Sem.run_bind, Sem.run_pure, Result.andThen_ok, List.map_toArray, List.map_cons, List.map_nil, hs, hx, hr]
  exact h v' w' h2 h3 h5
end

/-- An entry as the callback makes it. -/
def eacE (r : Nat × Rw) : Ent := ⟨0, 0, r.1, str r.2.d, r.2.off⟩
/-- What has been gathered: the box xb holds the row. -/
structure EacAt (xb : Nat) (T : List Nat) (rs : List (Nat × Rw)) (w : World) : Prop where
  ex : ∃ v, Blk w xb 22 #[v] ∧ RowE w (xb + 1) v (rs.map eacE) ∧ T = xb :: ob v

theorem own_slice {w : World} {B e size : Nat} {v : Value} {n : Nat} {xs : List Value} (h : w.ownsRow B e size v n xs) : ∃ A c, v = .slice A n c := by
  rcases id h.2 with ⟨rfl, h0⟩ | ⟨g, cap, cur, rfl, _⟩
  · exact ⟨none, 0, by rw [h0]⟩
  · exact ⟨_, _, rfl⟩
theorem off_grown_own' {w : World} (v : Value) : ∀ {W : World}, w.grownBy W v.ownBlock → Off (ob v) w W := fun {W} h => off_grown_own h (fun g hg => by unfold ob; rw [hg]; simp)
theorem rowE_lt {w : World} {B : Nat} {v : Value} {l : List Ent} (h : RowE w B v l) : ∀ x, x ∈ ob v → x < w.heap.size := fun x hx => by
  rcases id h.2 with ⟨rfl, _⟩ | ⟨g, cap, cur, rfl, hg, hgg, rest⟩
  · simp [ob, Value.ownBlock] at hx
  · simp [ob, Value.ownBlock] at hx
    subst hx
    exact (Array.getElem?_eq_some_iff.1 hgg).1

theorem eac_done {w w1 w2 w5 : World} {xb nr code off : Nat} {d : List UInt8} {rs : List (Nat × Rw)} {v v5 : Value} (hb : Blk w5 xb 22 #[v]) (ho : w5.ownsRow (xb + 1) 27 5 v5 (nr + 1) (entsC (rs.map eacE) ++ entC (eacE (code, ⟨d, off⟩)))) (hn : nr = (rs.map eacE).length)
    (h1 : Off [] w w1) (h2 : Off [] w1 w2) (h5 : Off (ob v) w2 w5) (hv : v5.ownBlock = v.ownBlock ∨ v5.ownBlock = some w2.heap.size) :
    ∃ T', EacAt xb T' (rs ++ [(code, ⟨d, off⟩)]) (w5.setCell ⟨xb, 0, none⟩ v5) ∧ Off (xb :: ob v) w (w5.setCell ⟨xb, 0, none⟩ v5) ∧ ∀ x, x ∈ T' → x ∈ xb :: ob v ∨ w.heap.size ≤ x := by
  have h6 : Off [xb] w5 (w5.setCell ⟨xb, 0, none⟩ v5) := (Off.refl [xb] w5).setCell (p := ⟨xb, 0, none⟩) (Or.inl (by simp)) _
  have hr : RowE w5 (xb + 1) v5 ((rs ++ [(code, (⟨d, off⟩ : Rw))]).map eacE) := by
    unfold RowE
    rw [List.map_append, List.map_cons, List.map_nil, entsC_snoc, List.length_append, List.length_singleton, ← hn]
    exact ho
  refine ⟨xb :: ob v5, ⟨v5, hb.set_ 0 v5, hr.off h6 (fun x hx => ni1 (by have := hr.base x hx; omega)), rfl⟩, ?_, fun x hx => ?_⟩
  · exact (((h1.then h2 (fun x hx => by simp at hx)).mono (S' := xb :: ob v) (fun x hx => by simp at hx)).then h5 (fun x hx => Or.inl (List.mem_cons_of_mem _ hx))).then h6 (fun x hx => by simp at hx; subst hx; exact Or.inl (by simp))
  · rcases List.mem_cons.1 hx with rfl | hx
    · exact Or.inl (by simp)
    · unfold ob at hx ⊢
      rcases hv with h | h
      · rw [h] at hx; exact Or.inl (List.mem_cons_of_mem _ hx)
      · rw [h] at hx; simp at hx; subst hx; exact Or.inr (Nat.le_trans h1.size h2.size)

set_option maxRecDepth 100000 in
set_option maxHeartbeats 4000000 in
theorem mcb_each (xb : Nat) : Mcb 56 #[.pointer (some ⟨xb, 0, none⟩)] (EacAt xb) where
  enter args w := enters_of Tryz.func56 (by kernel_rfl) rfl args w
  fresh := fun T rs {w w'} h ho => by
    obtain ⟨v, h1, h2, h3⟩ := h.ex
    exact ⟨v, h1.off ho (by simp), h2.off ho (fun x _ => by simp), h3⟩
  lt h := fun x hx => by
    obtain ⟨v, h1, h2, rfl⟩ := h.ex
    rcases List.mem_cons.1 hx with rfl | hx
    · exact h1.lt
    · exact rowE_lt h2 x hx
  call {T rs w} b c code d off hJ hb hdc hcode hd hoff hrs := by
    obtain ⟨v, h1, h2, rfl⟩ := hJ.ex
    obtain ⟨i0, hi, hz0, hz1, hz2⟩ := info_parts Tryz.infoEnt2
    have hseg : Seg w b 0 (mhB code d) := hb.seg'
    have HD := Lib.hid (decodeP_ok code b 0 (mhB code d).length c d w hcode (by omega) rfl hdc hseg hb.lt)
    obtain ⟨ml, hml⟩ : ∃ ml, ml = (mhB code d).length := ⟨_, rfl⟩
    rw [← hml] at HD ⊢
    have H1 := Lib.hid h1
    have H2 := Lib.hid h2
    have HSEG := Lib.hid hseg
    clear h1 h2 hJ hb hseg hml hdc
    go_enter Tryz.func56, Tryz.ntmps56
    go_wp2_with (go_at_call 57; refine HD.out.mono ?_; rintro e w1 ⟨A, C, g, rfl, hg1, hb1, hdg1, hbl1⟩)
    have ho1 : Off [] w w1 := Off.ofBelow (S := []) hbl1
    have d0 : w1.cell? ⟨g, 0, none⟩ = some (.int .u64 (code : Int)) := hb1.cell 0
    have d3 : w1.cell? ⟨g, 3, none⟩ = some (.slice A d.length C) := hb1.cell 3
    have hbx := H1.out.off ho1 (by simp)
    have bx : w1.cell? ⟨xb, 0, none⟩ = some v := hbx.cell 0
    have hfx := hbx.frozen 0
    have hdi : ∀ W, Off [] w1 W → DgIn W (.slice A d.length C) d := fun W hW => ⟨A, C, b, 0 + mhO code d, rfl, hdg1.2, (mhB_dig (HSEG.out.off ho1 (by simp))).off hW (by simp)⟩
    have hcv := conv_dg (hdi w1 (Off.refl [] w1))
    have hcv2 := conv_dg (hdi w1.drew (Off.refl [] w1).drew)
    obtain ⟨sd, hsd⟩ : ∃ sd, sd = (⟨d.toArray⟩ : ByteArray) := ⟨_, rfl⟩
    rw [← hsd] at hcv hcv2
    obtain ⟨nr, hnr⟩ : ∃ m, m = (rs.map eacE).length := ⟨_, rfl⟩
    obtain ⟨dl, hdl⟩ : ∃ m, m = d.length := ⟨_, rfl⟩
    rw [← hdl] at d3 hcv hcv2
    have HSD := Lib.hid hsd
    have HNR := Lib.hid hnr
    have HO1 := Lib.hid ho1
    have HBX := Lib.hid hbx
    clear hb1 hdg1 hbl1 hdi hsd hdl hbx ho1
    obtain ⟨w2, hw2⟩ : ∃ w2, w2 = (w1.alloc (.cells #[.int .u64 0, .int .u64 0, .int .u64 (code : Int), .string sd, .int .u64 (off : Int)] 27)).drew := ⟨_, rfl⟩
    have ho2 : Off [] w1 w2 := by rw [hw2]; exact ((Off.refl [] w1).alloc _).drew
    have bx2 : w2.cell? ⟨xb, 0, none⟩ = some v := ho2.cell bx (by simp)
    have d02 : w2.cell? ⟨g, 0, none⟩ = some (.int .u64 (code : Int)) := ho2.cell d0 (by simp)
    have d32 : w2.cell? ⟨g, 3, none⟩ = some (.slice A dl C) := ho2.cell d3 (by simp)
    have harr : (#[.int .u64 0, .int .u64 0, .int .u64 (code : Int), .string sd, .int .u64 (off : Int)] : Array Value) = (entC (eacE (code, ⟨d, off⟩))).toArray := by
      rw [HSD.out]
      simp [entC, eacE]
    have HNEW : Hid (∀ (k : Nat) (x : Value), (entC (eacE (code, ⟨d, off⟩)))[k]? = some x → w2.cell? ((⟨w1.heap.size, 0, none⟩ : Addr).add k) = some x) := Lib.hid (fun k x hx => by
      have hb : Blk w2 w1.heap.size 27 (entC (eacE (code, ⟨d, off⟩))).toArray := by rw [hw2, ← harr]; exact (Blk.new w1 _ _).off (Off.refl [] _).drew (by simp)
      rw [add_plain, Nat.zero_add, hb.cell, List.getElem?_toArray]
      exact hx)
    have HOWN : Hid (w2.ownsRow (xb + 1) 27 5 v nr (entsC (rs.map eacE))) := Lib.hid (by
      have h := H2.out.off ((HO1.out).then ho2 (fun x hx => by simp at hx)) (fun x _ => by simp)
      unfold RowE at h
      rw [← HNR.out] at h
      exact h)
    have HO2 := Lib.hid ho2
    have HW2 := Lib.hid hw2
    have hnr2 : nr < 100000 := by rw [hnr, List.length_map]; exact hrs
    have HXB := Lib.hid (show xb + 1 ≤ w2.heap.size by have := H1.out.lt; have := HO1.out.size; have := ho2.size; omega)
    have HBX2 := Lib.hid (HBX.out.off ho2 (by simp))
    have h63 : nr + 1 ≤ maxLen := by unfold maxLen; omega
    have h48 : (nr + 1) * 48 ≤ 140737488355328 := by omega
    have hxv : xb ∉ ob v := fun h => by have := H2.out.base xb h; omega
    have hgv : g ∉ ob v := fun h => by have := rowE_lt H2.out g h; omega
    have HGR : Hid (∀ {W : World}, w2.grownBy W v.ownBlock → Off (ob v) w2 W) := Lib.hid (off_grown_own' v)
    have bx3 : (w1.alloc (.cells #[.int .u64 0, .int .u64 0, .int .u64 (code : Int), .string sd, .int .u64 (off : Int)] 27)).cell? ⟨xb, 0, none⟩ = some v := by have h := bx2; rw [hw2] at h; exact h
    clear harr hw2 ho2 hnr
    go_region_law (first
      | (rw [← HW2.out]; refine step_append_own w2 rfl (.tmp 16) (.tmp 29) 22 rfl (xb + 1) 27 i0 _ 5 48 Tryz.underlying22 hi hz0 hz1 hz2 rfl (by decide) v nr (entsC (rs.map eacE)) rfl HOWN.out ⟨w1.heap.size, 0, none⟩ 1 1 (entC (eacE (code, ⟨d, off⟩))) rfl rfl HNEW.out (entC_one _) h63 h48 HXB.out ?_; intro v5 w5 hown5 hgrow5 hvo5; obtain ⟨A5, c5, hv5⟩ := own_slice hown5; subst hv5; have HO5 := Lib.hid (HGR.out hgrow5); have HOWN5 := Lib.hid hown5; have HVO5 := Lib.hid hvo5; have HBX5 := Lib.hid (HBX2.out.off HO5.out hxv); have bx5 : w5.cell? ⟨xb, 0, none⟩ = some v := HBX5.out.cell 0; have d05 := HO5.out.cell d02 hgv; have d35 := HO5.out.cell d32 hgv; have hf5 := HBX5.out.frozen 0; clear hown5 hgrow5 hvo5))
    all_goals
      go_wp2_with fail
      go_ret
      exact ⟨rfl, eac_done HBX5.out HOWN5.out HNR.out HO1.out HO2.out HO5.out HVO5.out⟩
end Go.Proofs.YtcgggcjmmphldaaGreatDoor
