/-
  spec.FileBytes without an index.
  impl.memory: a file in memory that is written behind its end.
  car.zzCopy: what its 512 bytes are laid as.
  binary.LittleEndian: numbers written into a stretch of a block that is known whole, and read out of bytes.
  readerToScanner: Read and ReadByte over a bytes.Reader where bytes are left.
  (No condition beyond those that each theorem states.)
-/
import Derived.Test.YthedhibdbgcgoaaGreatDoorB02
import Derived.Test.YthedhibdbgcgoaaGreatDoorB04
import Derived.Test.YthedhibdbgcgoaaGreatDoorB03
import Derived.LoopTactic
import Derived.LoopN
import Derived.Deep.LoopGhost
import Derived.Test.YthedhibdbgcgoaaGreatDoorB01
namespace Go.Proofs.YthedhibdbgcgoaaGreatDoor
open Go.RowKit

theorem new_zeroF (w : World) : ∀ (j : Nat) (x : Value), (Lib.byteCells [0])[j]? = some x → (w.alloc (.cells #[.int .u8 0] 5)).cell? ((⟨w.heap.size, 0, none⟩ : Addr).add j) = some x := fun j x hj => by
  have h := Blk.new w 5 #[.int .u8 0]
  rw [add_plain, Nat.zero_add, h.cell]
  simpa [Lib.byteCells] using hj
def pragL : List UInt8 := [10, 161, 103, 118, 101, 114, 115, 105, 111, 110, 2]

set_option maxRecDepth 100000 in
set_option maxHeartbeats 4000000 in
theorem fileBytes_any (hi lo k n : Nat) (hd : List UInt8) (hhd : hd = (Lib.leBytes 8 hi ++ Lib.leBytes 8 lo) ++ (Lib.leBytes 8 (51 + k) ++ (Lib.leBytes 8 n ++ Lib.leBytes 8 0))) (h1 : hi < 18446744073709551616) (h2 : lo < 18446744073709551616) (hk : k ≤ 255) (h4 : n < 18446744073709551616) (data : ByteArray) (hdz : data.size ≤ 100000000) (w : World) :
    Calls Tryz.prog 54 #[.agg #[.int .u64 (hi : Int), .int .u64 (lo : Int), .int .u64 ((51 + k : Nat) : Int), .int .u64 (n : Int), .int .u64 0], .string data, .string ⟨#[]⟩] w fun e w' => e = .returned (.string (str (pragL ++ hd ++ List.replicate k 0 ++ data.data.toList))) ∧ Off [] w w' := by
  obtain ⟨i0, hi0, hz0, hz1, hz2⟩ := info_parts Tryz.infoByte
  have HB := Lib.hid (fun W => headBytes_any hi lo (51 + k) n 0 h1 h2 (by omega) h4 (by omega) W)
  rw [← hhd] at HB
  obtain ⟨sh, hsh⟩ : ∃ sh, sh = str hd := ⟨_, rfl⟩
  rw [← hsh] at HB
  have hsz : sh.size = 40 := by rw [hsh, str_size, hhd]; simp [Lib.leBytes_length]
  obtain ⟨d, hdd⟩ : ∃ d, d = 51 + k := ⟨_, rfl⟩
  rw [← hdd] at HB ⊢
  have hd1 : d ≤ 306 := by omega
  have hd51 : 51 ≤ d := by omega
  have HK := Lib.hid hdd
  have HSH := Lib.hid hsh
  clear hhd hsh hdd
  have hbk := Lib.hid (Blk.new w 112 #[.int .u64 (hi : Int), .int .u64 (lo : Int), .int .u64 (d : Int), .int .u64 (n : Int), .int .u64 0])
  have hof := Lib.hid ((Off.refl [] w).alloc (.cells #[.int .u64 (hi : Int), .int .u64 (lo : Int), .int .u64 (d : Int), .int .u64 (n : Int), .int .u64 0] 112))
  have hb51 : ¬ ((9223372036854775807 : Int) < 11 + (sh.size : Int)) := by omega
  go_enter Tryz.func54, Tryz.ntmps54
  go_wp2_with (go_at_call 92; refine (HB.out _).mono ?_; rintro r w1 ⟨rfl, ho1⟩; have hcv := fun s => run_bytes_of_string (P := Tryz.prog) w1 9 45 5 s Tryz.underlying9 Tryz.underlying45 Tryz.underlying5; have B1 := Lib.hid (ho1.blk hbk.out (by simp)); have P1 := Lib.hid (hof.out.then ho1 (fun x hx => by simp at hx)); clear ho1)
  obtain ⟨base, hbase⟩ : ∃ base, base = pragL ++ hd := ⟨_, rfl⟩
  have hS : ({ data := #[10, 161, 103, 118, 101, 114, 115, 105, 111, 110, 2] } : ByteArray) ++ sh = str base := by rw [hbase, HSH.out]; exact str_add pragL hd
  have hsb : (str base).data.toList = base := List.toList_toArray
  have hbl : base.length = 51 := by
    have h9 := hsz
    rw [HSH.out, str_size] at h9
    rw [hbase, List.length_append, h9]; rfl
  have hssz : (str base).size = 51 := by rw [str_size, hbl]
  rw [hS]
  obtain ⟨C, hC⟩ : ∃ C, C = grownCap w1 51 0 5 := ⟨_, rfl⟩
  have hC51 : 51 ≤ C := by rw [hC]; exact grownCap_ge _ _ _ _
  have hCm : C ≤ maxLen := by rw [hC]; exact grownCap_le_maxLen _ _ _ _ (by unfold maxLen; omega)
  have hm0 := mrow_conv w1 (str base) C (by rw [hssz]; exact hC51) hCm
  rw [hsb, hssz] at hm0
  rw [← hC]
  have HM0 := Lib.hid hm0
  have hbase' := Lib.hid hbase
  have HBL := Lib.hid hbl
  clear hm0 hsb hssz hbl hbase hC hS
  go_loopg [7] (k + 1) (fun kx s7 wr => ∃ j : Nat, j ≤ k ∧ k - j ≤ kx ∧ Hid (MRow wr s7 (base ++ List.replicate j 0)) ∧ Hid (Off [] w wr) ∧ Hid (∀ x, s7.ownBlock = some x → w.heap.size < x) ∧ Hid (Blk wr w.heap.size 112 #[.int .u64 (hi : Int), .int .u64 (lo : Int), .int .u64 (d : Int), .int .u64 (n : Int), .int .u64 0]))
  case atStart =>
    refine ⟨0, Nat.zero_le _, by omega, Lib.hid ?_, Lib.hid ?_, Lib.hid ?_, Lib.hid ?_⟩
    · rw [List.replicate_zero, List.append_nil]; exact HM0.out
    · exact (P1.out.alloc _).drew
    · intro x hx
      simp [Value.ownBlock] at hx
      rw [← hx]; exact B1.out.lt
    · exact B1.out.alloc _
  case round =>
    rename World => wr
    obtain ⟨j, hjk, hkx, HM, HO, HX, HBk⟩ := hrel
    obtain ⟨q, cap, hv, _⟩ := HM.out.seg
    have hll : (base ++ List.replicate j (0 : UInt8)).length = 51 + j := by rw [List.length_append, List.length_replicate, HBL.out]
    rw [hll] at hv
    subst hv
    have hq : w.heap.size < q := HX.out q rfl
    have c2 : wr.cell? ⟨w.heap.size, 2, none⟩ = some (.int .u64 (d : Int)) := HBk.out.cell 2
    have c4 : wr.cell? ⟨w.heap.size, 4, none⟩ = some (.int .u64 0) := HBk.out.cell 4
    have hd2 := HK.out
    have HLL := Lib.hid hll
    clear hll
    by_cases hlt : j < k
    · have hltz : 51 + (j : Int) < (d : Int) := by omega
      have HM1 := Lib.hid (HM.out.off (S := []) ((Off.refl [] wr).alloc (.cells #[.int .u8 0] 5)) (fun x _ => by simp))
      clear hd2
      go_wp2_with (first
        | (at_builtin
           refine wpList_append_M rfl _ _ 45 rfl i0 Tryz.underlying45 hi0 hz0 hz1 hz2 (.slice (some ⟨q, 0, none⟩) (51 + j) cap) (base ++ List.replicate j 0) rfl HM1.out ⟨wr.heap.size, 0, none⟩ 1 [0] 1 rfl rfl (new_zeroF wr) (by have := HLL.out; omega) ?_
           intro v5 w5 hr5 hg5 ho5
           have HR5 := Lib.hid hr5
           have HO5 := Lib.hid (Off.ofGrown (g := q) hg5)
           have HV5 := Lib.hid ho5
           clear hr5 hg5 ho5))
      go_roundg (k - (j + 1))
      case measure => omega
      case rel =>
        have hsz := HO.out.size
        refine ⟨j + 1, by omega, by omega, Lib.hid ?_, Lib.hid ((HO.out.alloc _).then HO5.out (fun x hx => by simp at hx; right; omega)), Lib.hid ?_, Lib.hid ((HBk.out.alloc _).off HO5.out (ni1 (by omega)))⟩
        · have h1 := HR5.out
          rwa [List.append_assoc, ← List.replicate_succ'] at h1
        · intro x hx
          rcases HV5.out with h | h
          · rw [h] at hx
            simp [Value.ownBlock] at hx
            rw [← hx]; exact hq
          · rw [h] at hx
            have h8 := HBk.out.lt
            simp at hx
            omega
    · obtain rfl : j = k := by omega
      have hltz : ¬ 51 + (j : Int) < (d : Int) := by omega
      clear hd2
      go_wp2_with (first
        | (at_builtin
           refine wpList_append_MS rfl _ _ 45 9 rfl i0 Tryz.underlying45 Tryz.underlying9 hi0 hz0 hz1 hz2 (.slice (some ⟨q, 0, none⟩) (51 + j) cap) (base ++ List.replicate j 0) rfl HM.out data rfl (by have := HLL.out; omega) ?_
           intro v5 w5 hr5 hg5 ho5
           have hbk5 := HBk.out.off (Off.ofGrown (g := q) hg5) (ni1 (by omega))
           have c45 : w5.cell? ⟨w.heap.size, 4, none⟩ = some (.int .u64 0) := hbk5.cell 4
           have HR5 := Lib.hid hr5
           have HO5 := Lib.hid (Off.ofGrown (g := q) hg5)
           have HV5 := Lib.hid ho5
           clear hr5 hg5 ho5 hbk5))
      refine wp_loop_rounds 1 ?_
      rw [rounds_succ]
      go_wp2_with (first
        | (at_builtin
           refine wpList_append_MS rfl _ _ 45 9 rfl i0 Tryz.underlying45 Tryz.underlying9 hi0 hz0 hz1 hz2 v5 (base ++ List.replicate j 0 ++ data.data.toList) rfl HR5.out ⟨#[]⟩ rfl (by have h7 := HLL.out; have h8 : data.data.toList.length = data.size := (by simp); rw [List.length_append, h7, h8]; show 51 + j + data.size + 0 ≤ _; omega) ?_
           intro v6 w6 hr6 hg6 ho6
           have hcv6 := mrow_string w6 v6 _ hr6
           have HG6 := Lib.hid (show Off v5.ownBlock.toList w5 w6 from ⟨hg6.os, hg6.tape, hg6.output, hg6.size, fun k hk hn => hg6.block k hk (fun e => hn (by rw [← e]; simp))⟩)
           clear hr6 hg6 ho6))
      go_ret
      have hO5 : Off [] w w5 := HO.out.then HO5.out (fun x hx => by simp at hx; right; omega)
      refine ⟨?_, hO5.then HG6.out (fun x hx => ?_)⟩
      · rw [hbase'.out]; simp [List.append_assoc]
      · right
        rcases HV5.out with h | h
        · rw [h] at hx; simp [Value.ownBlock] at hx; omega
        · rw [h] at hx; simp at hx; have := HO.out.size; omega
end Go.Proofs.YthedhibdbgcgoaaGreatDoor
namespace Go.Proofs.YthedhibdbgcgoaaGreatDoor
open Go.RowKit

/-- What is kept: all blocks but m, but g0 and but rows of bytes from B on. -/
structure Mk (m g0 B : Nat) (w w' : World) : Prop where
  os : w'.os = w.os
  tape : w'.tape = w.tape
  output : w'.output = w.output
  size : w.heap.size ≤ w'.heap.size
  block : ∀ k, k < w.heap.size → k ≠ m → k ≠ g0 → (B ≤ k → ∀ cs fz, w.heap[k]? ≠ some (.cells cs 5 fz)) → w'.heap[k]? = w.heap[k]?
theorem Mk.refl (m g0 B : Nat) (w : World) : Mk m g0 B w w := ⟨rfl, rfl, rfl, Nat.le_refl _, fun _ _ _ _ _ => rfl⟩
theorem Mk.trans {m g0 B : Nat} {w w1 w2 : World} (h : Mk m g0 B w w1) (k : Mk m g0 B w1 w2) : Mk m g0 B w w2 :=
  ⟨k.os.trans h.os, k.tape.trans h.tape, k.output.trans h.output, Nat.le_trans h.size k.size, fun i hi h1 h2 h3 => by
    have e := h.block i hi h1 h2 h3
    exact (k.block i (Nat.lt_of_lt_of_le hi h.size) h1 h2 (fun hB cs fz => by rw [e]; exact h3 hB cs fz)).trans e⟩
theorem Mk.ofOff {m g0 B : Nat} {w w' : World} {S : List Nat} (h : Off S w w') (hS : ∀ x, x ∈ S → x = m ∨ x = g0 ∨ (B ≤ x ∧ ∃ cs fz, w.heap[x]? = some (.cells cs 5 fz))) : Mk m g0 B w w' :=
  ⟨h.os, h.tape, h.output, h.size, fun k hk h1 h2 h3 => h.block k hk (fun hx => by
    rcases hS k hx with h4 | h4 | ⟨h4, cs, fz, h5⟩
    · exact h1 h4
    · exact h2 h4
    · exact h3 h4 cs fz h5)⟩
theorem Mk.blk {m g0 B g : Nat} {w w' : World} {t : TypeId} {cs : Array Value} (h : Mk m g0 B w w') (hb : Blk w g t cs) (h1 : g ≠ m) (h2 : g ≠ g0) (ht : t ≠ 5) : Blk w' g t cs :=
  (h.block g hb.lt h1 h2 (fun _ cs' fz e => by
    unfold Blk at hb
    rw [hb] at e
    injection e with e
    injection e with _ e _
    exact ht e)).trans hb
theorem Mk.seg {m g0 B g o : Nat} {w w' : World} {l : List UInt8} (h : Mk m g0 B w w') (hs : Seg w g o l) (h1 : g ≠ m) (h2 : g ≠ g0) (h3 : g < B) : Seg w' g o l := by
  by_cases hl : 0 < l.length
  · exact hs.keep fun p hp => World.cell?_of_block (h.block p.block (by rw [hp]; exact hs.lt hl) (by rw [hp]; exact h1) (by rw [hp]; exact h2) (fun hB => by rw [hp] at hB; omega))
  · obtain rfl : l = [] := List.eq_nil_of_length_eq_zero (by omega)
    exact Seg.nil
/-- Block m is a file in memory that holds l and stands at a; its row lies in block g0, or from B on. -/
structure MemAt (m g0 B : Nat) (l : List UInt8) (a : Nat) (w : World) : Prop where
  ex : ∃ v, Blk w m 61 #[v, .int .i64 (a : Int)] ∧ MRow w v l ∧ ∀ x, v.ownBlock = some x → x = g0 ∨ B ≤ x
theorem MemAt.lt {m g0 B a : Nat} {l : List UInt8} {w : World} (h : MemAt m g0 B l a w) : m < w.heap.size := by obtain ⟨v, hb, _⟩ := h.ex; exact hb.lt
theorem MemAt.off {m g0 B a : Nat} {l : List UInt8} {w w' : World} {S : List Nat} (h : MemAt m g0 B l a w) (k : Off S w w') (hm : m ∉ S) (hS : ∀ x, x ∈ S → x ≠ g0 ∧ (B ≤ x → x < w.heap.size → ∃ t cs, t ≠ 5 ∧ Blk w x t cs)) : MemAt m g0 B l a w' := by
  obtain ⟨v, hb, hr, hx⟩ := h.ex
  refine ⟨v, k.blk hb hm, hr.off k (fun x hv hxS => ?_), hx⟩
  obtain ⟨h1, h2⟩ := hS x hxS
  rcases hx x hv with h3 | h3
  · exact h1 h3
  · obtain ⟨t, cs, ht, hb2⟩ := h2 h3 (hr.lt x hv)
    exact hr.type hb2 ht hv

theorem ne_of_types {w : World} {x g : Nat} {t : TypeId} {cs : Array Value} (hb : Blk w g t cs) (ht : t ≠ 5) (h : ∃ cs fz, w.heap[x]? = some (.cells cs 5 fz)) : x ≠ g := by
  rintro rfl
  obtain ⟨cs', fz, h⟩ := h
  unfold Blk at hb
  rw [h] at hb
  injection hb with hb
  injection hb with _ hb _
  exact ht hb.symm

theorem new_zero (w : World) : ∀ (j : Nat) (x : Value), (Lib.byteCells [0])[j]? = some x → (w.alloc (.cells #[.int .u8 0] 5)).cell? ((⟨w.heap.size, 0, none⟩ : Addr).add j) = some x := fun j x hj => by
  have h := Blk.new w 5 #[.int .u8 0]
  rw [add_plain, Nat.zero_add, h.cell]
  simpa [Lib.byteCells] using hj

set_option maxRecDepth 100000 in
set_option maxHeartbeats 4000000 in
theorem memWriteAt {m g0 B : Nat} {l : List UInt8} {w : World} (a : Nat) (ha : a = l.length) (h : MemAt m g0 B l a w) (hB : B ≤ w.heap.size) (g o n c : Nat) (p : List UInt8) (t : TypeId) (cs : Array Value) (hg : Blk w g t cs) (ht : t ≠ 5) (hgm : g ≠ m) (hgg : g ≠ g0) (hs : Seg w g o p) (hn : p.length = n) (hn1 : 1 ≤ n) (hn2 : n ≤ 1000) (hl : a ≤ 10000000) :
    Calls Tryz.prog 263 #[.pointer (some ⟨m, 0, none⟩), .slice (some ⟨g, o, none⟩) n c, .int .i64 (a : Int)] w fun e w' => e = .returned (.tuple #[.int .i64 (n : Int), .nilIface]) ∧ MemAt m g0 B (l ++ p) a w' ∧ Mk m g0 B w w' := by
  obtain ⟨i0, hi, hz0, hz1, hz2⟩ := info_parts Tryz.infoByte
  have HM := Lib.hid h
  have HG := Lib.hid hg
  have HS := Lib.hid hs
  have HN := Lib.hid hn
  have HA := Lib.hid ha
  have hml := h.lt
  have hbn : IntKind.i64.wrap ((a : Int) + (n : Int)) = (a : Int) + (n : Int) := by rw [IntKind.wrap_i64]; omega
  clear h hg hs hn ha
  go_enter Tryz.func263, Tryz.ntmps263
  go_wp2_with fail
  go_loopg [] (n + 1) (fun kx wr => ∃ j, j ≤ n ∧ n - j ≤ kx ∧ Hid (MemAt m g0 B (l ++ List.replicate j 0) a wr) ∧ Hid (Mk m g0 B w wr))
  case atStart => exact ⟨0, Nat.zero_le _, by omega, Lib.hid (by simpa using HM.out), Lib.hid (Mk.refl _ _ _ _)⟩
  case round =>
    rename World => wr
    obtain ⟨j, hjn, hkx, HW, HK⟩ := hrel
    obtain ⟨v, hb, hr, hx⟩ := HW.out.ex
    have hr' := hr
    obtain ⟨q, cap, cur, fz, hv, hq, hfz, hnc, hcm, hcs, htk⟩ := hr'
    have hll : (l ++ List.replicate j (0 : UInt8)).length = a + j := by rw [List.length_append, List.length_replicate, ← HA.out]
    rw [hll] at hv hnc htk
    have c0 : wr.cell? ⟨m, 0, none⟩ = some v := hb.cell 0
    rw [hv] at c0
    have f0 := hb.frozen 0
    have hqm : q ≠ m := ne_of_types hb (by decide) ⟨_, _, hq⟩ 
    have HB := Lib.hid hb
    have HR := Lib.hid hr
    have HV := Lib.hid hv
    have HX := Lib.hid hx
    have HQ := Lib.hid hq
    have HTK := Lib.hid htk
    clear hb hr hv hx hq htk hll
    by_cases hlt : j < n
    · have hltz : ((a + j : Nat) : Int) < (a : Int) + (n : Int) := by omega
      have hr1 : MRow (wr.alloc (.cells #[.int .u8 0] 5)) v (l ++ List.replicate j 0) := HR.out.off (S := []) ((Off.refl [] wr).alloc _) (fun x _ => by simp)
      rw [HV.out] at hr1
      have HR1 := Lib.hid hr1
      have hll : (l ++ List.replicate j (0 : UInt8)).length = a + j := by rw [List.length_append, List.length_replicate, ← HA.out]
      have HLL := Lib.hid hll
      clear hr1 hll
      go_wp2_with (first
        | (at_builtin
           refine wpList_append_M rfl _ _ 45 rfl i0 Tryz.underlying45 hi hz0 hz1 hz2 (.slice (some ⟨q, 0, none⟩) (a + j) cap) (l ++ List.replicate j 0) rfl HR1.out ⟨wr.heap.size, 0, none⟩ 1 [0] 1 rfl rfl (new_zero wr) (by have := HLL.out; omega) ?_
           intro v5 w5 hr5 hg5 ho5
           obtain ⟨q5, n5, cap5, rfl⟩ : ∃ q5 n5 cap5, v5 = .slice (some ⟨q5, 0, none⟩) n5 cap5 := (by obtain ⟨g, cap, cur, fz, h, _⟩ := hr5; exact ⟨_, _, _, h⟩)
           have hbm5 : Blk w5 m 61 #[v, .int .i64 (a : Int)] := (HB.out.alloc (.cells #[.int .u8 0] 5)).grown hg5 (fun e => hqm (by injection e with e; exact e.symm))
           have c5 : w5.cell? ⟨m, 0, none⟩ = some v := hbm5.cell 0
           have f5 := hbm5.frozen 0
           have HR5 := Lib.hid hr5
           have HO5 := Lib.hid (Off.ofGrown (g := q) hg5)
           have HV5 := Lib.hid ho5
           have HB5 := Lib.hid hbm5
           clear hr5 hg5 ho5 hbm5))
      go_roundg (n - (j + 1))
      case measure => omega
      case rel =>
        have hoff : Off [m, q] wr (w5.setCell ⟨m, 0, none⟩ (.slice (some ⟨q5, 0, none⟩) n5 cap5)) := ((((Off.refl [m, q] wr).alloc (.cells #[.int .u8 0] 5)).then HO5.out (fun x hx => by simp at hx; simp [hx])).setCell (p := ⟨m, 0, none⟩) (Or.inl (by simp)) _)
        have hxq := HX.out q (by rw [HV.out]; rfl)
        have hsz := HK.out.size
        refine ⟨j + 1, by omega, by omega, Lib.hid ⟨_, HB5.out.set_ 0 _, ?_, ?_⟩, Lib.hid (HK.out.trans (Mk.ofOff hoff (fun x hx => ?_)))⟩
        · have h1 := HR5.out.off ((Off.refl [m] w5).setCell (p := ⟨m, 0, none⟩) (Or.inl (by simp)) (.slice (some ⟨q5, 0, none⟩) n5 cap5)) (fun x hx => ni1 (fun e => HR5.out.type HB5.out (by decide) (by rw [hx, e])))
          rwa [List.append_assoc, ← List.replicate_succ'] at h1
        · intro x hx
          rcases HV5.out with h | h
          · rw [h] at hx
            simp [Value.ownBlock] at hx
            rw [← hx]; exact hxq
          · rw [h] at hx
            simp at hx
            right; omega
        · simp at hx
          rcases hx with rfl | rfl
          · exact Or.inl rfl
          · rcases hxq with h | h
            · exact Or.inr (Or.inl h)
            · exact Or.inr (Or.inr ⟨h, _, _, HQ.out⟩)
    · obtain rfl : j = n := by omega
      have hltz : ¬ ((a + j : Nat) : Int) < (a : Int) + (j : Int) := by omega
      have hS2 : Seg wr g o p := (HS.out).keep fun p' hp => by
        have := HK.out.blk HG.out hgm hgg ht
        exact World.cell?_of_block (by rw [hp]; exact this.trans HG.out.symm)
      have hcp := run_copy_M (P := Tryz.prog) wr 45 45 3 5 q a j (cap - a) ⟨g, o, none⟩ j c cur 5 fz hfz (Lib.byteCells p) Tryz.underlying45 Tryz.sizeByte HQ.out (by rw [Lib.byteCells_length, HN.out]; exact (Nat.min_self j).symm) hS2.cells (by rw [Lib.byteCells_length, HN.out]; omega) (byteCells_one p)
      rw [Lib.byteCells_length, HN.out] at hcp
      have hne : ¬ cap = a := by omega
      clear hS2
      go_wp2_with fail
      go_ret2
      have hoff := off_setRow HQ.out (cur.toList.take a ++ Lib.byteCells p ++ cur.toList.drop (a + j)).toArray
      have hta : cur.toList.take a = Lib.byteCells l := by
        have h3 := congrArg (List.take a) HTK.out
        rw [List.take_take, Nat.min_eq_left (Nat.le_add_right _ _), Lib.byteCells_append, HA.out] at h3
        rw [HA.out, h3]
        exact List.take_left' (Lib.byteCells_length l)
      have hfl := filledM (m := p) HQ.out hfz hcm hcs HA.out.symm hta (by rw [HN.out]; exact hnc)
      rw [HN.out] at hfl
      have hll2 : (l ++ p).length = a + j := by rw [List.length_append, HN.out, ← HA.out]
      rw [hll2, ← HV.out, List.append_assoc] at hfl
      rw [List.append_assoc] at hoff
      have hxq := HX.out q (by rw [HV.out]; rfl)
      refine ⟨rfl, ⟨v, hoff.blk HB.out (ni1 (Ne.symm hqm)), hfl, HX.out⟩, HK.out.trans (Mk.ofOff hoff (fun x hx => ?_))⟩
      simp at hx
      rw [hx]
      rcases hxq with h | h
      · exact Or.inr (Or.inl h)
      · exact Or.inr (Or.inr ⟨h, _, _, HQ.out⟩)

set_option maxRecDepth 100000 in
set_option maxHeartbeats 1000000 in
theorem memWrite {m g0 B : Nat} {l : List UInt8} {w : World} (h : MemAt m g0 B l l.length w) (hB : B ≤ w.heap.size) (g o n c : Nat) (p : List UInt8) (t : TypeId) (cs : Array Value) (hg : Blk w g t cs) (ht : t ≠ 5) (hgm : g ≠ m) (hgg : g ≠ g0) (hs : Seg w g o p) (hn : p.length = n) (hn1 : 1 ≤ n) (hn2 : n ≤ 1000) (hl : l.length ≤ 10000000) :
    Calls Tryz.prog 261 #[.pointer (some ⟨m, 0, none⟩), .slice (some ⟨g, o, none⟩) n c] w fun e w' => e = .returned (.tuple #[.int .i64 (n : Int), .nilIface]) ∧ MemAt m g0 B (l ++ p) (l ++ p).length w' ∧ Mk m g0 B w w' := by
  obtain ⟨a, ha⟩ : ∃ a, a = l.length := ⟨_, rfl⟩
  have hap : (l ++ p).length = a + n := by rw [List.length_append, hn, ha]
  rw [hap]
  rw [← ha] at h hl
  have HW := Lib.hid (memWriteAt a ha h hB g o n c p t cs hg ht hgm hgg hs hn hn1 hn2 hl)
  obtain ⟨v, hb, _, _⟩ := h.ex
  have c1 : w.cell? ⟨m, 1, none⟩ = some (.int .i64 (a : Int)) := hb.cell 1
  have hw : IntKind.i64.wrap ((a : Int) + (n : Int)) = (a : Int) + (n : Int) := by rw [IntKind.wrap_i64]; omega
  clear h hb hg hs hn ha hap
  go_enter Tryz.func261, Tryz.ntmps261
  go_wp2_with (go_at_call 263; refine HW.out.mono ?_; rintro e w1 ⟨rfl, hm1, hk1⟩; obtain ⟨v1, hb1, hr1, hx1⟩ := hm1.ex; have d1 : w1.cell? ⟨m, 1, none⟩ = some (.int .i64 (a : Int)) := hb1.cell 1; have f1 := hb1.frozen 1; have HB1 := Lib.hid hb1; have HR1 := Lib.hid hr1; have HX1 := Lib.hid hx1; have HK1 := Lib.hid hk1; clear hm1 hb1 hr1 hx1 hk1)
  go_ret2
  have hoff : Off [m] w1 (w1.setCell ⟨m, 1, none⟩ (.int .i64 ((a : Int) + (n : Int)))) := (Off.refl [m] w1).setCell (p := ⟨m, 1, none⟩) (Or.inl (by simp)) _
  exact ⟨rfl, ⟨v1, HB1.out.set_ 1 _, HR1.out.off hoff (fun x hx => ni1 (fun e => HR1.out.type HB1.out (by decide) (by rw [hx, e]))), HX1.out⟩, HK1.out.trans (Mk.ofOff hoff (fun x hx => by simp at hx; exact Or.inl hx))⟩
end Go.Proofs.YthedhibdbgcgoaaGreatDoor
namespace Go.Proofs.YthedhibdbgcgoaaGreatDoor
open Go.RowKit

def cellsIn : Value → Array Value
  | .agg c => c
  | _ => #[]
theorem zero512 : ∃ C : Array Value, C.size = 512 ∧ ∀ W : World, (zeroValue 157).run Tryz.prog W = .ok (.agg C) W := by
  refine ⟨cellsIn (((Tryz.prog.info? 157).get (by kernel_rfl)).zero.get (by kernel_rfl)), by kernel_rfl, fun W => by kernel_rfl⟩
theorem splice0 (cur : List Value) (l : List UInt8) : splice cur 0 (Lib.byteCells l) = Lib.byteCells l ++ cur.drop l.length := by
  simp [splice, Lib.byteCells_length]
theorem splice0_length (cur : List Value) (l : List UInt8) (h : l.length ≤ cur.length) : (splice cur 0 (Lib.byteCells l)).length = cur.length := by
  rw [splice0, List.length_append, Lib.byteCells_length, List.length_drop]; omega
theorem take_more (s : List UInt8) (i0 i k : Nat) : (s.drop i0).take i ++ (s.drop (i0 + i)).take k = (s.drop i0).take (i + k) := by
  rw [← List.drop_drop, List.take_add]
end Go.Proofs.YthedhibdbgcgoaaGreatDoor
namespace Go.Proofs.YthedhibdbgcgoaaGreatDoor
open Go.RowKit

theorem blk_parts {w : World} {g o : Nat} {t : TypeId} {pre mid post : List Value} (hb : Blk w g t (pre ++ (mid ++ post)).toArray) (hp : pre.length = o) (j : Nat) (hj : j < mid.length) :
    w.cell? ⟨g, o + j, none⟩ = some mid[j] ∧ w.frozen? ⟨g, o + j, none⟩ = false := by
  refine ⟨?_, hb.frozen _⟩
  rw [hb.cell, List.getElem?_toArray, List.getElem?_append_right (by omega), List.getElem?_append_left (by omega)]
  simp [← hp, hj]

theorem off_setCells (g : Nat) : ∀ (vs : List Value) (o : Nat) (w : World), Off [g] w (w.setCells g o vs)
  | [], _, w => Off.refl [g] w
  | v :: vs, o, w => by
    show Off [g] w ((w.setCell ⟨g, o, none⟩ v).setCells g (o + 1) vs)
    exact ((Off.refl [g] w).setCell (p := ⟨g, o, none⟩) (Or.inl (List.mem_singleton.2 rfl)) v).then (off_setCells g vs (o + 1) _) (fun x hx => Or.inl hx)

theorem putLE32_blk (g o n c v : Nat) (t : TypeId) (pre mid post : List Value) (hv : v < 4294967296) (w : World) (hn : 4 ≤ n) (hp : pre.length = o) (hm : mid.length = 4) (hb : Blk w g t (pre ++ (mid ++ post)).toArray) :
    Calls Tryz.prog 280 #[.agg #[], .slice (some ⟨g, o, none⟩) n c, .int .u32 v] w fun e w' => e = .returned (.tuple #[]) ∧ Blk w' g t (pre ++ (Lib.byteCells (Lib.leBytes 4 v) ++ post)).toArray ∧ Off [g] w w' := by
  have h := fun j hj => blk_parts hb hp j hj
  refine (Tryz.binary_LE_PutUint32 g o n c v hv _ _ _ _ w hn (h 0 (by omega)).1 (h 1 (by omega)).1 (h 2 (by omega)).1 (h 3 (by omega)).1 (h 0 (by omega)).2 (h 1 (by omega)).2 (h 2 (by omega)).2 (h 3 (by omega)).2).mono ?_
  rintro e w' ⟨he, rfl⟩
  exact ⟨he, Blk.setCells _ o _ pre mid post hp (by rw [hm]; rfl) (hb.alloc _), (Off.alloc (Off.refl [g] w) _).then (off_setCells g _ o _) (fun x hx => Or.inl hx)⟩

theorem putLE64_blk (g o n c v : Nat) (t : TypeId) (pre mid post : List Value) (hv : v < 18446744073709551616) (w : World) (hn : 8 ≤ n) (hp : pre.length = o) (hm : mid.length = 8) (hb : Blk w g t (pre ++ (mid ++ post)).toArray) :
    Calls Tryz.prog 66 #[.agg #[], .slice (some ⟨g, o, none⟩) n c, .int .u64 v] w fun e w' => e = .returned (.tuple #[]) ∧ Blk w' g t (pre ++ (Lib.byteCells (Lib.leBytes 8 v) ++ post)).toArray ∧ Off [g] w w' := by
  have h := fun j hj => blk_parts hb hp j hj
  refine (Tryz.binary_LE_PutUint64 g o n c v hv _ _ _ _ _ _ _ _ w hn (h 0 (by omega)).1 (h 1 (by omega)).1 (h 2 (by omega)).1 (h 3 (by omega)).1 (h 4 (by omega)).1 (h 5 (by omega)).1 (h 6 (by omega)).1 (h 7 (by omega)).1
    (h 0 (by omega)).2 (h 1 (by omega)).2 (h 2 (by omega)).2 (h 3 (by omega)).2 (h 4 (by omega)).2 (h 5 (by omega)).2 (h 6 (by omega)).2 (h 7 (by omega)).2).mono ?_
  rintro e w' ⟨he, rfl⟩
  exact ⟨he, Blk.setCells _ o _ pre mid post hp (by rw [hm]; rfl) (hb.alloc _), (Off.alloc (Off.refl [g] w) _).then (off_setCells g _ o _) (fun x hx => Or.inl hx)⟩

theorem uintLE64_seg (g o n c v : Nat) (hv : v < 18446744073709551616) (w : World) (hn : 8 ≤ n) (hs : Seg w g o (Lib.leBytes 8 v)) :
    Calls Tryz.prog 82 #[.agg #[], .slice (some ⟨g, o, none⟩) n c] w fun e w' => e = .returned (.int .u64 v) ∧ Below w.heap.size w w' := by
  obtain ⟨b0, b1, b2, b3, b4, b5, b6, b7, hl⟩ : ∃ b0 b1 b2 b3 b4 b5 b6 b7, Lib.leBytes 8 v = [b0, b1, b2, b3, b4, b5, b6, b7] := ⟨_, _, _, _, _, _, _, _, rfl⟩
  have hv' := Lib.leNat_leBytes 8 v (by omega)
  rw [hl] at hs hv'
  refine (Tryz.binary_LE_Uint64 g o n c b0 b1 b2 b3 b4 b5 b6 b7 w hn (hs 0 (by simp)) (hs 1 (by simp)) (hs 2 (by simp)) (hs 3 (by simp)) (hs 4 (by simp)) (hs 5 (by simp)) (hs 6 (by simp)) (hs 7 (by simp))).mono ?_
  rintro e w' ⟨he, hw⟩
  rw [hv'] at he
  exact ⟨he, hw⟩
end Go.Proofs.YthedhibdbgcgoaaGreatDoor
namespace Go.Proofs.YthedhibdbgcgoaaGreatDoor
open Go.RowKit

/-- Block T is a readerToScanner over the bytes.Reader R. -/
def TsC (w : World) (T R : Nat) (x y z : Int) : Prop := Blk w T 302 #[.iface 53 (.pointer (some ⟨R, 0, none⟩)), .int .u8 x, .int .u8 y, .int .u8 z]

/-- io.EOF is an error. -/
def Eof (w : World) : Prop := ∃ q, w.cell? ⟨1, 0, none⟩ = some (.iface 161 q)
theorem Eof.off {S : List Nat} {a b : World} (h : Eof a) (k : Off S a b) (hS : 1 ∉ S) : Eof b := by
  obtain ⟨q, hq⟩ := h
  exact ⟨q, (World.cell?_of_block (k.block _ (World.block_lt_of_cell? _ _ hq) hS)).trans hq⟩

theorem nil_eof (q : Value) (w : World) : (binOp .eql 51 .nilIface (.iface 161 q)).run Tryz.prog w = .ok (.bool false) w := by kernel_rfl
theorem nil_read (a : Addr) (w : World) : (nilAhead 559 53 (.pointer (some a)) "Read").run Tryz.prog w = .ok (some false) w := by kernel_rfl
theorem method_read (a : Addr) (w : World) : (method 559 53 (.pointer (some a)) "Read").run Tryz.prog w = .ok (242, .pointer (some a)) w := by kernel_rfl
theorem method_readByte (a : Addr) (w : World) : (method 559 53 (.pointer (some a)) "ReadByte").run Tryz.prog w = .ok (243, .pointer (some a)) w := by kernel_rfl

set_option maxRecDepth 100000 in
set_option maxHeartbeats 1000000 in
theorem tReadSelf (T R b n cap i : Nat) (p x y z : Int) (l : List UInt8) (w : World) (hn : n = l.length) (hT : TsC w T R x y z) (hy : (y == 1) = false) (hR : RdC w R b n cap i p) (hs : Seg w b 0 l) (hRb : R ≠ b) (hRT : R ≠ T) (hi : i < n) (hL : n ≤ 2147483700) (hcap : n ≤ cap) (c : Int) (hc : ((l[i]'(hn ▸ hi)).toNat : Int) = c)
    (hE : Eof w) (hET : 1 ≠ T) (hER : 1 ≠ R) :
    Calls Tryz.prog 364 #[.pointer (some ⟨T, 0, none⟩), .slice (some ⟨T, 3, none⟩) 1 1] w fun e w' => e = .returned (.tuple #[.int .i64 1, .nilIface]) ∧ TsC w' T R c 2 c ∧ RdC w' R b n cap (i + 1) (-1) ∧ Off [T, R] w w' := by
  have c0 := hT.cell 0
  have c1 := hT.cell 1
  have c2 := hT.cell 2
  have c3 := hT.cell 3
  simp at c0 c1 c2 c3
  have hk : (1 : Nat) = Nat.min (n - i) 1 := by show 1 = min (n - i) 1; omega
  have e1 : Lib.byteCells ((l.drop i).take 1) = [.int .u8 c] := by
    have : (l.drop i).take 1 = [l[i]'(hn ▸ hi)] := by rw [List.drop_eq_getElem_cons (hn ▸ hi)]; rfl
    rw [this, ← hc]; rfl
  have HC := Lib.hid (brRead R T 3 1 1 b n cap i 1 p l [.iface 53 (.pointer (some ⟨R, 0, none⟩)), .int .u8 x, .int .u8 y, .int .u8 z] 302 w hn hR hs hT hRb hRT hi hk (by omega) (by simp) hL hcap)
  rw [e1] at HC
  have hm1 := method_read
  have hm2 := nil_read
  have hq := nil_eof
  have HE := Lib.hid hE
  clear hT hR hs hn hk e1 hc hE
  go_enter Tryz.func364, Tryz.ntmps364
  go_wp2_with fail
  refine HC.out.mono ?_
  rintro e w1 ⟨rfl, hR1, hT1, hO1⟩
  have hE1 := HE.out.off hO1 (by simp; exact ⟨hER, hET⟩)
  obtain ⟨q, hq1⟩ := hE1
  have c0 := hT1.cell 0
  have c1 := hT1.cell 1
  have c2 := hT1.cell 2
  have c3 := hT1.cell 3
  have f1 := hT1.frozen 1
  have f2 := hT1.frozen 2
  simp [splice] at c0 c1 c2 c3
  have HR1 := Lib.hid hR1
  have HT1 := Lib.hid hT1
  have HO1 := Lib.hid hO1
  clear hR1 hT1 hO1
  go_wp2_with fail
  go_ret2
  exact ⟨rfl, (HT1.out.set_ 1 _).set_ 2 _, (HR1.out.far (p := ⟨T, 1, none⟩) hRT _).far (p := ⟨T, 2, none⟩) hRT _, ((HO1.out.mono (S' := [T, R]) (fun x h => by simp at h; rcases h with h | h <;> simp [h])).setCell (p := ⟨T, 1, none⟩) (by simp) _).setCell (p := ⟨T, 2, none⟩) (by simp) _⟩

set_option maxRecDepth 100000 in
set_option maxHeartbeats 1000000 in
theorem tRead (T R g o m dc b n cap i k : Nat) (p x y z : Int) (l : List UInt8) (cur : List Value) (t : TypeId) (w : World) (hn : n = l.length) (hT : TsC w T R x y z) (hy : (y == 1) = false) (hR : RdC w R b n cap i p) (hs : Seg w b 0 l) (hg : Blk w g t cur.toArray) (hRb : R ≠ b) (hRT : R ≠ T) (hRg : R ≠ g) (hTg : T ≠ g) (hi : i < n) (hk : k = Nat.min (n - i) m) (hk0 : 0 < k) (hfit : o + k ≤ cur.length) (hL : n ≤ 2147483700) (hcap : n ≤ cap)
    (hE : Eof w) (_hET : 1 ≠ T) (hER : 1 ≠ R) (hEg : 1 ≠ g) :
    Calls Tryz.prog 364 #[.pointer (some ⟨T, 0, none⟩), .slice (some ⟨g, o, none⟩) m dc] w fun e w' => e = .returned (.tuple #[.int .i64 k, .nilIface]) ∧ (∃ x', TsC w' T R x' 2 z) ∧ RdC w' R b n cap (i + k) (-1) ∧ Blk w' g t (splice cur o (Lib.byteCells ((l.drop i).take k))).toArray ∧ Off [T, R, g] w w' := by
  have c0 := hT.cell 0
  have c1 := hT.cell 1
  have c2 := hT.cell 2
  have c3 := hT.cell 3
  simp at c0 c1 c2 c3
  have hkm : k ≤ m := by rw [hk]; exact Nat.min_le_right _ _
  have hkn : k ≤ n - i := by rw [hk]; exact Nat.min_le_left _ _
  have hkl : ((l.drop i).take k).length = k := by simp; omega
  have HC := Lib.hid (brRead R g o m dc b n cap i k p l cur t w hn hR hs hg hRb hRg hi hk hk0 hfit hL hcap)
  have hm1 := method_read
  have hm2 := nil_read
  have hq := nil_eof
  have HE := Lib.hid hE
  have HKL := Lib.hid hkl
  have HF := Lib.hid hfit
  have HT := Lib.hid hT
  have hw1 : IntKind.i64.wrap ((k : Int) - 1) = ((k - 1 : Nat) : Int) := by rw [IntKind.wrap_i64]; omega
  have hb1 : k - 1 < m := by omega
  clear hT hR hs hg hn hk hE hkl hfit
  go_enter Tryz.func364, Tryz.ntmps364
  go_wp2_with fail
  refine HC.out.mono ?_
  rintro e w1 ⟨rfl, hR1, hg1, hO1⟩
  have hE1 := HE.out.off hO1 (by simp; exact ⟨hER, hEg⟩)
  obtain ⟨q, hq1⟩ := hE1
  have hT1 := hO1.blk HT.out (by simp; exact ⟨fun e => hRT e.symm, hTg⟩)
  have k1 := hT1.cell 1
  have k2 := hT1.cell 2
  simp at k1 k2
  have f1 := hT1.frozen 1
  have f2 := hT1.frozen 2
  obtain ⟨v, hv⟩ : ∃ v : Int, w1.cell? ⟨g, o + (k - 1), none⟩ = some (.int .u8 v) := by
    refine ⟨(((l.drop i).take k)[k - 1]'(by rw [HKL.out]; omega)).toNat, ?_⟩
    rw [hg1.cell]
    have e1 : (cur.take o).length = o := by rw [List.length_take]; have := HF.out; omega
    simp only [splice, List.getElem?_toArray]
    rw [List.getElem?_append_right (by rw [e1]; omega), e1, List.getElem?_append_left (by rw [Lib.byteCells_length, HKL.out]; omega)]
    rw [show o + (k - 1) - o = k - 1 from by omega]
    have e2 : k - 1 < ((l.drop i).take k).length := by rw [HKL.out]; omega
    simp only [Lib.byteCells, List.getElem?_map, List.getElem?_eq_getElem e2]
    rfl
  have HR1 := Lib.hid hR1
  have HT1 := Lib.hid hT1
  have Hg1 := Lib.hid hg1
  have HO1 := Lib.hid hO1
  clear hR1 hT1 hg1 hO1 HC
  go_wp2_with fail
  go_ret2
  exact ⟨rfl, ⟨_, (HT1.out.set_ 1 _).set_ 2 _⟩, (HR1.out.far (p := ⟨T, 1, none⟩) hRT _).far (p := ⟨T, 2, none⟩) hRT _, (Hg1.out.far (p := ⟨T, 1, none⟩) (fun e => hTg e.symm) _).far (p := ⟨T, 2, none⟩) (fun e => hTg e.symm) _, ((HO1.out.mono (S' := [T, R, g]) (fun x h => by simp at h; rcases h with h | h <;> simp [h])).setCell (p := ⟨T, 1, none⟩) (by simp) _).setCell (p := ⟨T, 2, none⟩) (by simp) _⟩

set_option maxRecDepth 100000 in
set_option maxHeartbeats 1000000 in
theorem tReadByte (T R b n cap i : Nat) (p x y z : Int) (l : List UInt8) (w : World) (hn : n = l.length) (hT : TsC w T R x y z) (hy : (y == 1) = false) (hR : RdC w R b n cap i p) (hs : Seg w b 0 l) (hRb : R ≠ b) (hRT : R ≠ T) (hi : i < n) (hL : n ≤ 2147483700) (hcap : n ≤ cap) (c : Int) (hc : ((l[i]'(hn ▸ hi)).toNat : Int) = c)
    (hE : Eof w) (hET : 1 ≠ T) (hER : 1 ≠ R) :
    Calls Tryz.prog 365 #[.pointer (some ⟨T, 0, none⟩)] w fun e w' => e = .returned (.tuple #[.int .u8 c, .nilIface]) ∧ TsC w' T R c 2 c ∧ RdC w' R b n cap (i + 1) (-1) ∧ Off [T, R] w w' := by
  have HC := Lib.hid (tReadSelf T R b n cap i p x y z l w hn hT hy hR hs hRb hRT hi hL hcap c hc hE hET hER)
  have hq := nil_eof
  have HE := Lib.hid hE
  clear hT hR hs hn hE hc
  go_enter Tryz.func365, Tryz.ntmps365
  go_wp2_with fail
  refine HC.out.mono ?_
  rintro e w1 ⟨rfl, hT1, hR1, hO1⟩
  have hE1 := HE.out.off hO1 (by simp; exact ⟨hET, hER⟩)
  obtain ⟨q, hq1⟩ := hE1
  have c3 := hT1.cell 3
  simp at c3
  have HR1 := Lib.hid hR1
  have HT1 := Lib.hid hT1
  have HO1 := Lib.hid hO1
  clear hR1 hT1 hO1
  go_wp2_with fail
  go_ret2
  exact ⟨rfl, HT1.out, HR1.out, HO1.out⟩
end Go.Proofs.YthedhibdbgcgoaaGreatDoor
