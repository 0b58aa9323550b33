/-
  multiWidthCodedIndex.Unmarshal, MultihashIndexSorted.Unmarshal out of a bytes.Reader.
  (No condition beyond those that each theorem states.)
-/
import Derived.Test.YtcgggcjmmphldaaGreatDoorHh2
import Derived.Test.YtcgggcjmmphldaaGreatDoorHg1
namespace Go.Proofs.YtcgggcjmmphldaaGreatDoor
open Go.RowKit

set_option maxRecDepth 100000 in
set_option maxHeartbeats 1000000 in
theorem cwUnmarshal_at {R b cap i : Nat} {l : List UInt8} {w : World} (h : RAt R b cap l i w) (q m c : Nat) (G : List (Nat × List Rw)) (rest : List UInt8) (hl : l.drop i = codedB (c, G) ++ rest) (hG : Bks G) (hGl : G.length ≤ 1000) (hGw : ∀ p, p ∈ G → p.1 ≤ 1000 ∧ p.2.length ≤ 1000)
    (hq : Blk w q 273 #[.map (some m), .int .u64 0]) (hm : Mp Tryz.prog 143 .u32 w m 0 [] (fun _ => undef)) (hc : c < 18446744073709551616) (hqm : q ≠ m) (hqR : q ≠ R) (hqb : q ≠ b) (hmR : m ≠ R) (hmb : m ≠ b) (hbw : b < w.heap.size) :
    Calls Tryz.prog 199 #[.pointer (some ⟨q, 0, none⟩), .iface 71 (.pointer (some ⟨R, 0, none⟩))] w fun e w' =>
      e = .returned .nilIface ∧ Blk w' q 273 #[.map (some m), .int .u64 (c : Int)] ∧ MwAt w.heap.size w' m (G.map (·.1)) (rowsOf G) ∧ RAt R b cap l (i + (codedB (c, G)).length) w' ∧ Off [R, q, m] w w' := by
  have hcl : (codedB (c, G)).length = 8 + (mwB G).length := by rw [codedB, List.length_append, Lib.leBytes_length]
  have hl2 : l.drop i = Lib.leBytes 8 c ++ (mwB G ++ rest) := by rw [hl, codedB, List.append_assoc]
  have hll : l.length - i = 8 + (mwB G).length + rest.length := by
    have := congrArg List.length hl2
    simp [Lib.leBytes_length] at this
    omega
  have ht8 : (l.drop i).take 8 = Lib.leBytes 8 c := by rw [hl2, List.take_left' (Lib.leBytes_length _ _)]
  have hd8 : l.drop (i + 8) = mwB G ++ rest := by rw [← List.drop_drop, hl2, List.drop_left' (Lib.leBytes_length _ _)]
  have hmlt : m < w.heap.size := hm.lt
  have hqlt := hq.lt
  have H1 := Lib.hid (zzRead64_at h q 1 c _ _ hq ht8 hc (by omega) hqR hqb (by simp))
  have H2 : Hid (∀ W, RAt R b cap l (i + 8) W → Blk W q 273 #[.map (some m), .int .u64 (c : Int)] → Mp Tryz.prog 143 .u32 W m 0 [] (fun _ => undef) → b < W.heap.size → _) := Lib.hid fun W a1 a2 a3 a4 =>
    mwUnmarshal_at a1 q m G rest hd8 hG hGl hGw (a2.cell 0) a3 hqm hqR hmR hmb a4
  have HM := Lib.hid hm
  have HCL := Lib.hid hcl
  clear hl hl2 hll ht8 hd8 h hq hm hG hGw hcl
  go_enter Tryz.func199, Tryz.ntmps199
  go_wp2_with (first
    | (go_at_call 213; refine H1.out.mono ?_; rintro e w1 ⟨rfl, hR1, hB1, hO1⟩
       have hB1' : Blk w1 q 273 #[.map (some m), .int .u64 (c : Int)] := hB1
       have HR1 := Lib.hid hR1; have HB1 := Lib.hid hB1'; have HO1 := Lib.hid hO1; clear hR1 hB1 hB1' hO1)
    | (go_at_call 214; refine (H2.out _ HR1.out HB1.out (HM.out.off HO1.out (ni2 hmR (fun e => hqm e.symm))) (by have := HO1.out.size; omega)).mono ?_; rintro e w2 ⟨rfl, hM2, hR2, hO2⟩))
  go_ret
  refine ⟨rfl, HB1.out.off hO2 (ni2 hqR hqm), hM2.mono HO1.out.size, ?_, (HO1.out.mono (S' := [R, q, m]) (fun x hx => by simp at hx; rcases hx with rfl | rfl <;> simp)).then hO2 (fun x hx => by simp at hx; rcases hx with rfl | rfl <;> simp)⟩
  rw [HCL.out, ← Nat.add_assoc]
  exact hR2

def gOf (H : List (Nat × List (Nat × List Rw))) (c : Nat) : List (Nat × List Rw) := (H.lookup c).getD []
theorem gOf_mem : ∀ (H : List (Nat × List (Nat × List Rw))), (H.map (·.1)).Nodup → ∀ p, p ∈ H → gOf H p.1 = p.2
  | [], _, _, h => by simp at h
  | (n, L) :: G, hn, p, h => by
    rw [List.map_cons, List.nodup_cons] at hn
    rcases List.mem_cons.1 h with rfl | h
    · simp [gOf]
    · have hne : p.1 ≠ n := fun e => hn.1 (e ▸ List.mem_map.2 ⟨p, h, rfl⟩)
      have := gOf_mem G hn.2 p h
      unfold gOf at this ⊢
      rw [List.lookup_cons]
      have hb : (p.1 == n) = false := by simp [hne]
      rw [hb]
      exact this

theorem MisAt.put {B : Nat} {w w' : World} {mm : Nat} {Cs : List Nat} {D : Nat → List Nat} {S : Nat → Nat → List Rw} (V : Nat → Value) (q m : Nat → Nat) (c q' m' : Nat) (hc : c ∉ Cs) (hmB : mm < B)
    (hrow : ∀ c, c ∈ Cs → V c = .pointer (some ⟨q c, 0, none⟩) ∧ Blk w (q c) 273 #[.map (some (m c)), .int .u64 (c : Int)] ∧ MwAt B w (m c) (D c) (S c) ∧ B ≤ q c ∧ B ≤ m c)
    (ho : Off [mm] w w') (hmp : MpN Tryz.prog 23 .u64 w' mm (Cs.length + 1) (Cs ++ [c]) (fun j => if j = c then .pointer (some ⟨q', 0, none⟩) else V j))
    (hq' : Blk w' q' 273 #[.map (some m'), .int .u64 (c : Int)]) (hmw : MwAt B w' m' (D c) (S c)) (hBq : B ≤ q') (hBm : B ≤ m') : MisAt B w' mm (Cs ++ [c]) D S := by
  refine ⟨fun j => if j = c then .pointer (some ⟨q', 0, none⟩) else V j, fun j => if j = c then q' else q j, fun j => if j = c then m' else m j, by rw [List.length_append]; exact hmp, fun x hx => ?_⟩
  by_cases e : x = c
  · subst e
    simp only [if_true]
    exact ⟨trivial, hq', hmw, hBq, hBm⟩
  · have hxC : x ∈ Cs := by
      rcases List.mem_append.1 hx with h | h
      · exact h
      · exact absurd (List.mem_singleton.1 h) e
    obtain ⟨h1, h2, h3, h4, h5⟩ := hrow x hxC
    simp only [if_neg e]
    exact ⟨h1, h2.off ho (ni1 (by omega)), h3.off ho (ni1 (by omega)) (fun y hy => by simp at hy; left; omega), h4, h5⟩

set_option maxRecDepth 100000 in
set_option maxHeartbeats 4000000 in
theorem misUnmarshal_at {R b cap i : Nat} {l : List UInt8} {w : World} (h : RAt R b cap l i w) (pb mm : Nat) (G : List (Nat × List (Nat × List Rw))) (rest : List UInt8) (hl : l.drop i = mhiB G ++ rest) (hG : (G.map (·.1)).Pairwise (· < ·)) (hGl : G.length ≤ 1000) (hGw : ∀ p, p ∈ G → p.1 < 18446744073709551616 ∧ Bks p.2 ∧ p.2.length ≤ 1000 ∧ ∀ x, x ∈ p.2 → x.1 ≤ 1000 ∧ x.2.length ≤ 1000)
    (hp : w.cell? ⟨pb, 0, none⟩ = some (.map (some mm))) (hm : Mp Tryz.prog 23 .u64 w mm 0 [] (fun _ => undef)) (hpm : pb ≠ mm) (hpR : pb ≠ R) (hmR : mm ≠ R) (hmb : mm ≠ b) (hbw : b < w.heap.size) :
    Calls Tryz.prog 185 #[.pointer (some ⟨pb, 0, none⟩), .iface 71 (.pointer (some ⟨R, 0, none⟩))] w fun e w' =>
      e = .returned .nilIface ∧ MisAt w.heap.size w' mm (G.map (·.1)) (fun c => (gOf G c).map (·.1)) (fun c => rowsOf (gOf G c)) ∧ RAt R b cap l (i + (mhiB G).length) w' ∧ Off [R, mm] w w' := by
  obtain ⟨N, hN⟩ : ∃ N, N = G.length := ⟨_, rfl⟩
  have hN1000 : N ≤ 1000 := by omega
  have hRlt := h.lt
  have hmlt : mm < w.heap.size := hm.lt
  have hplt : pb < w.heap.size := World.block_lt_of_cell? w _ hp
  have hlen := h.len
  have hmw : mhiB G = Lib.leBytes 4 N ++ G.flatMap codedB := by rw [hN]; rfl
  have hll : l.length - i = 4 + (G.flatMap codedB).length + rest.length := by
    have := congrArg List.length hl
    rw [hmw] at this
    simp [Lib.leBytes_length] at this
    simp
    omega
  have hd4 : l.drop (i + 4) = G.flatMap codedB ++ rest := by rw [← List.drop_drop, hl, hmw, List.append_assoc, List.drop_left' (Lib.leBytes_length _ _)]
  have ht4 : (l.drop i).take 4 = Lib.leBytes 4 N := by rw [hl, hmw, List.append_assoc, List.take_left' (Lib.leBytes_length _ _)]
  have hA1 : Off [] w (w.alloc (.cells #[.int .u32 0] 143)) := Off.alloc (Off.refl [] w) _
  have H1 := Lib.hid (zzRead32_at (h.off hA1 (by simp) (by simp)) w.heap.size 0 N 143 #[.int .u32 0] (Blk.new' _ _ _ rfl) ht4 (by omega) (by omega) (by omega) (by omega) (by decide))
  have hasc := hG
  have hnd := nodup_asc hasc
  have hw1 : IntKind.i32.wrap (N : Int) = (N : Int) := by rw [IntKind.wrap_i32]; omega
  have hw2 : IntKind.i64.wrap (N : Int) = (N : Int) := by rw [IntKind.wrap_i64]; omega
  have hm1 := method_brSeek
  have hN0 : ¬ (N : Int) < 0 := by omega
  have HG := Lib.hid hG
  have HGW := Lib.hid hGw
  have HND := Lib.hid hnd
  have HD4 := Lib.hid hd4
  have HLL := Lib.hid hll
  have HP := Lib.hid hp
  have HM := Lib.hid hm
  have HA1 := Lib.hid hA1
  have HN := Lib.hid hN
  have HMW := Lib.hid hmw
  clear hG hGw hnd hasc hd4 hll hp hm hA1 ht4 hl h hN hmw
  go_enter Tryz.func185, Tryz.ntmps185
  go_wp2_with (first
    | (go_at_call 197; refine (toBrs _ _).mono ?_; rintro e w' ⟨rfl, rfl⟩)
    | (go_at_call 198; refine H1.out.mono ?_; rintro e w1 ⟨rfl, hR1, hB1, hO1⟩
       have c6 : w1.cell? ⟨w.heap.size, 0, none⟩ = some (.int .u32 (N : Int)) := hB1.cell 0
       have HR1 := Lib.hid hR1; have HB1 := Lib.hid hB1
       have HO1 := Lib.hid ((HA1.out.mono (S' := [R]) (fun x hx => by simp at hx)).then hO1 (fun x hx => by simp at hx; rcases hx with rfl | rfl <;> simp))
       clear hR1 hB1 hO1)
    | (go_at_call 307; refine (seek_at HR1.out (by have := HLL.out; omega)).mono ?_; rintro e w2 ⟨rfl, hR2, hO2⟩
       have HR2 := Lib.hid hR2; have HO2 := Lib.hid (HO1.out.then hO2 (fun x hx => by simp at hx; simp [hx])); clear hR2 hO2))
  have hib : i + 4 ≤ l.length := by have := HLL.out; omega
  go_loopg [9, 11] N (fun kx s9 s11 wr => ∃ (j T : Nat), s11 = .int .i64 (j : Int) ∧ s9 = .int .i64 (T : Int) ∧ j ≤ N ∧ N - j ≤ kx ∧ Hid (T ≤ (j + 1) * 2147483700 ∧ MisAt w.heap.size wr mm ((G.take j).map (·.1)) (fun c => (gOf G c).map (·.1)) (fun c => rowsOf (gOf G c)) ∧ RAt R b cap l (i + 4 + ((G.take j).flatMap codedB).length) wr ∧ Off [R, mm] w wr))
  case atStart =>
    refine ⟨0, i + 4, by go_num, by go_num, Nat.zero_le _, Nat.le_refl _, Lib.hid ⟨by omega, ⟨fun _ => undef, fun _ => 0, fun _ => 0, HM.out.off HO2.out (ni1 hmR), fun n hn => by simp at hn⟩, by simpa using HR2.out, HO2.out.mono (fun x hx => by simp at hx; simp [hx])⟩⟩
  case round =>
    rename World => wr
    obtain ⟨j, T, rfl, rfl, hjN, hkx, hh⟩ := hrel
    by_cases hlt : j < N
    · have hltz : (j : Int) < (N : Int) := by omega
      obtain ⟨hT, hMw, hR, hO⟩ := hh.out
      have hjG : j < G.length := by rw [← HN.out]; exact hlt
      obtain ⟨p, hpe⟩ : ∃ p, p = G[j] := ⟨_, rfl⟩
      have hpG : p ∈ G := by rw [hpe]; exact List.getElem_mem _
      obtain ⟨hc64, hbks, hpl, hpw⟩ := HGW.out p hpG
      obtain ⟨c, hn⟩ : ∃ c, c = p.1 := ⟨_, rfl⟩
      have hcp : codedB p = codedB (c, p.2) := by rw [hn]
      obtain ⟨M, hM⟩ : ∃ M, M = (codedB p).length := ⟨_, rfl⟩
      have htk : (G.take (j + 1)).flatMap codedB = (G.take j).flatMap codedB ++ codedB p := by
        rw [List.take_succ_eq_append_getElem hjG, List.flatMap_append, ← hpe]; simp
      have hsp : G.flatMap codedB = (G.take j).flatMap codedB ++ (codedB p ++ (G.drop (j + 1)).flatMap codedB) := by
        rw [← List.append_assoc, ← htk, ← List.flatMap_append, List.take_append_drop]
      obtain ⟨pos, hpos⟩ : ∃ pos, pos = i + 4 + ((G.take j).flatMap codedB).length := ⟨_, rfl⟩
      obtain ⟨Q, hQ⟩ : ∃ Q, Q = pos + M := ⟨_, rfl⟩
      have hdr : l.drop pos = codedB (c, p.2) ++ ((G.drop (j + 1)).flatMap codedB ++ rest) := by
        rw [hpos, ← List.drop_drop, HD4.out, hsp, List.append_assoc, List.drop_left' rfl, ← hcp]
        simp [List.append_assoc]
      have hQl : Q ≤ l.length := by
        have h1 := HLL.out
        have h2 := congrArg List.length hsp
        simp only [List.length_append, ← hM] at h2
        omega
      rw [← hpos] at hR
      have hRwr := hR.lt
      have hbwr : b < wr.heap.size := Nat.lt_of_lt_of_le hbw hO.size
      have hmwr := hMw.lt
      have hpwr : pb < wr.heap.size := Nat.lt_of_lt_of_le hplt hO.size
      have hAq : Off [] wr ((wr.alloc (.map #[] 0)).alloc (.cells #[.map (some wr.heap.size), .int .u64 0] 273)) := (Off.alloc (Off.refl [] wr) _).alloc _
      have hqb := Blk.new' (wr.alloc (.map #[] 0)) 273 #[.map (some wr.heap.size), .int .u64 0] (g := wr.heap.size + 1) (by simp)
      have hqm : Mp Tryz.prog 143 .u32 ((wr.alloc (.map #[] 0)).alloc (.cells #[.map (some wr.heap.size), .int .u64 0] 273)) wr.heap.size 0 [] (fun _ => undef) := (Mp.made wr _ _ _ _).off (Off.alloc (Off.refl [] _) _) (by simp)
      have hU := cwUnmarshal_at (hR.off hAq (by simp) (by simp)) (wr.heap.size + 1) wr.heap.size c p.2 _ hdr hbks hpl hpw hqb hqm (by omega) (by omega) (by omega) (by omega) (by omega) (by omega) (by have := hAq.size; omega)
      rw [← hcp, ← hM, ← hQ] at hU
      have HU := Lib.hid hU
      have hQ2 : Q ≤ 2147483700 := by omega
      have hwT : IntKind.i64.wrap ((T : Int) + (Q : Int)) = (T : Int) + (Q : Int) := by
        have : (j + 1) * 2147483700 ≤ 1001 * 2147483700 := Nat.mul_le_mul_right _ (by omega)
        rw [IntKind.wrap_i64]; omega
      have hTQ : ¬ ((T : Int) + (Q : Int) < (T : Int)) := by omega
      have hpcr : wr.cell? ⟨pb, 0, none⟩ = some (.map (some mm)) := hO.cell HP.out (ni2 hpR hpm)
      have hww := hO.size
      have HPC := Lib.hid hpcr
      have HMW2 := Lib.hid hMw
      have HO := Lib.hid hO
      have HAQ := Lib.hid hAq
      have HPE := Lib.hid hpe
      have HNP := Lib.hid hn
      have HMM := Lib.hid hM
      have HQQ := Lib.hid hQ
      have HPOS := Lib.hid hpos
      have HTK := Lib.hid htk
      have HT := Lib.hid hT
      have hc64' : c < 18446744073709551616 := by omega
      clear hh hT hMw hR hO hAq hpe hn hM hQ hpos htk hsp hdr hU hpcr hcp hbks hpl hpw hqb hqm hc64
      go_wp2_with (first
        | (go_at_call 191; refine (newMwci_any _).mono ?_; rintro e wn ⟨rfl, rfl⟩)
        | (go_at_call 199; refine HU.out.mono ?_; rintro e w3 ⟨rfl, hQ3, hM3, hR3, hO3⟩
           have HQ3 := Lib.hid hQ3; have HM3 := Lib.hid hM3; have HR3 := Lib.hid hR3
           have HO3 := Lib.hid ((HAQ.out.mono (S' := [R]) (fun x hx => by simp at hx)).then hO3 (fun x hx => by simp at hx; rcases hx with rfl | rfl | rfl <;> simp))
           clear hQ3 hM3 hR3 hO3)
        | (go_at_call 307; refine (seek_at HR3.out hQl).mono ?_; rintro e w4 ⟨rfl, hR4, hO4⟩
           have hO34 := HO3.out.then hO4 (fun x hx => by simp at hx; simp [hx])
           have hq4 := HQ3.out.off hO4 (ni1 (by omega))
           have HY := Lib.hid hq4; have HR4 := Lib.hid hR4; have HO4 := Lib.hid hO4; have HO34 := Lib.hid hO34
           clear hq4 hR4 hO4 hO34)
        | (go_at_call 193
           obtain ⟨V2, q2, m2, hmp2, hrow2⟩ := (HMW2.out.off HO34.out (ni1 hmR) (fun x hx => by simp at hx; left; omega)).ex
           have hDl : ((G.take j).map (·.1)).length = j := by rw [List.length_map, List.length_take, Nat.min_eq_left (by omega)]
           refine (put_any pb 0 mm (wr.heap.size + 1) c _ _ V2 w4 (HO34.out.cell HPC.out (ni1 hpR)) (HY.out.cell 1) hmp2 (by rw [hDl]; omega) hc64' hpm (by omega)).mono ?_; rintro e w6 ⟨rfl, hmp6, ho6, hs6⟩
           have HMP6 := Lib.hid hmp6; have HO6 := Lib.hid ho6; have HROW := Lib.hid hrow2; have HDL := Lib.hid hDl; clear hmp6 ho6 hrow2 hmp2 hDl hs6))
      go_roundg (N - (j + 1))
      case measure => omega
      case rel =>
        have e1 : (G.take (j + 1)).map (·.1) = (G.take j).map (·.1) ++ [c] := by
          rw [List.take_succ_eq_append_getElem hjG, List.map_append, HNP.out, HPE.out]; rfl
        have hnD : c ∉ (G.take j).map (·.1) := by
          have h := HND.out.sublist ((List.take_sublist (j + 1) G).map (·.1))
          rw [e1] at h
          intro hmem
          exact (List.nodup_append.1 h).2.2 c hmem c (by simp) rfl
        have hg : gOf G c = p.2 := by rw [HNP.out]; exact gOf_mem G HND.out p hpG
        have hmp := HMP6.out
        rw [if_neg hnD] at hmp
        have hO6 : Off [R, mm] wr w6 := (HO34.out.mono (S' := [R, mm]) (fun x hx => by simp at hx; simp [hx])).then HO6.out (fun x hx => by simp at hx; simp [hx])
        have hsA := HAQ.out.size
        have hmw6 := ((HM3.out.off HO4.out (ni1 (by omega)) (fun x hx => by simp at hx; left; omega)).off HO6.out (ni1 (by omega)) (fun x hx => by simp at hx; left; omega)).mono (B' := w.heap.size) (by omega)
        have hput := MisAt.put (D := fun c => (gOf G c).map (·.1)) (S := fun c => rowsOf (gOf G c)) V2 q2 m2 c (wr.heap.size + 1) wr.heap.size hnD hmlt HROW.out HO6.out hmp (HY.out.off HO6.out (ni1 (by omega))) (by rw [hg]; exact hmw6) (by omega) (by omega)
        refine ⟨j + 1, T + Q, by go_num, by go_num, by omega, Nat.le_refl _, Lib.hid ⟨?_, by rw [e1]; exact hput, ?_, HO.out.then hO6 (fun x hx => Or.inl hx)⟩⟩
        · have := HT.out
          rw [Nat.succ_mul]
          omega
        · have hr := HR4.out.off HO6.out (ni1 (fun e => hmR e.symm)) (ni1 (fun e => hmb e.symm))
          have eQ : i + 4 + ((G.take (j + 1)).flatMap codedB).length = Q := by rw [HTK.out, List.length_append, HQQ.out, HPOS.out, HMM.out]; omega
          rw [eQ]
          exact hr
    · have hltz : ¬ (j : Int) < (N : Int) := by omega
      obtain rfl : j = N := by omega
      obtain ⟨hT, hMw, hR, hO⟩ := hh.out
      go_wp2_with fail
      go_ret
      rw [List.take_of_length_le (by rw [← HN.out]; exact Nat.le_refl _)] at hMw hR
      refine ⟨rfl, hMw, ?_, hO⟩
      rw [HMW.out, List.length_append, Lib.leBytes_length, ← Nat.add_assoc]
      exact hR
end Go.Proofs.YtcgggcjmmphldaaGreatDoor
