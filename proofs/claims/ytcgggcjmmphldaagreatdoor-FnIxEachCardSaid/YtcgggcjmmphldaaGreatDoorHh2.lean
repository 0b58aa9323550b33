/-
  multiWidthIndex.Unmarshal out of a bytes.Reader.
  (No condition beyond those that each theorem states.)
-/
import Derived.Test.YtcgggcjmmphldaaGreatDoorHh1
import Derived.Test.YtcgggcjmmphldaaGreatDoorHg2
namespace Go.Proofs.YtcgggcjmmphldaaGreatDoor
open Go.RowKit

theorem method_brSeek (a : Addr) (w : World) : (method 472 71 (.pointer (some a)) "Seek").run Tryz.prog w = .ok (307, .pointer (some a)) w := by kernel_rfl
def rowsOf (G : List (Nat × List Rw)) (n : Nat) : List Rw := (G.lookup n).getD []
theorem rowsOf_mem : ∀ (G : List (Nat × List Rw)), (G.map (·.1)).Nodup → ∀ p, p ∈ G → rowsOf G p.1 = p.2
  | [], _, _, h => by simp at h
  | (n, L) :: G, hn, p, h => by
    rw [List.map_cons, List.nodup_cons] at hn
    rcases List.mem_cons.1 h with rfl | h
    · simp [rowsOf]
    · have hne : p.1 ≠ n := fun e => hn.1 (e ▸ List.mem_map.2 ⟨p, h, rfl⟩)
      have := rowsOf_mem G hn.2 p h
      unfold rowsOf at this ⊢
      rw [List.lookup_cons]
      have hb : (p.1 == n) = false := by simp [hne]
      rw [hb]
      exact this
/-- An entry more in the map. -/
theorem MwAt.put {B : Nat} {w w' : World} {mm : Nat} {D : List Nat} {S : Nat → List Rw} (V : Nat → Value) (C : Nat → Nat) (n c : Nat) (hn : n ∉ D)
    (hrow : ∀ m, m ∈ D → V (m + 8) = swv m (S m).length (C m) ∧ Seg w (C m) 0 (rowsB (S m)) ∧ B ≤ C m ∧ C m < w.heap.size ∧ ∀ r, r ∈ S m → r.d.length = m)
    {T : List Nat} (ho : Off T w w') (hT : ∀ x, x ∈ T → x < B ∨ w.heap.size ≤ x)
    (hmp : MpN Tryz.prog 143 .u32 w' mm (D.length + 1) ((D ++ [n]).map (· + 8)) (fun j => if j = n + 8 then swv n (S n).length c else V j))
    (hseg : Seg w' c 0 (rowsB (S n))) (hB : B ≤ c) (hc : c < w'.heap.size) (hw : ∀ r, r ∈ S n → r.d.length = n) : MwAt B w' mm (D ++ [n]) S := by
  refine ⟨fun j => if j = n + 8 then swv n (S n).length c else V j, fun m => if m = n then c else C m, by rw [List.length_append]; exact hmp, fun m hm => ?_⟩
  by_cases e : m = n
  · subst e
    simp only [if_true]
    exact ⟨trivial, hseg, hB, hc, hw⟩
  · have hmD : m ∈ D := by
      rcases List.mem_append.1 hm with h | h
      · exact h
      · exact absurd (List.mem_singleton.1 h) e
    obtain ⟨h1, h2, h3, h4, h5⟩ := hrow m hmD
    simp only [if_neg e, if_neg (show ¬ m + 8 = n + 8 by omega)]
    exact ⟨h1, h2.off ho (fun hx => by have := hT _ hx; omega), h3, Nat.lt_of_lt_of_le h4 ho.size, h5⟩

set_option maxRecDepth 100000 in
set_option maxHeartbeats 4000000 in
theorem mwUnmarshal_at {R b cap i : Nat} {l : List UInt8} {w : World} (h : RAt R b cap l i w) (pb mm : Nat) (G : List (Nat × List Rw)) (rest : List UInt8) (hl : l.drop i = mwB G ++ rest) (hG : Bks G) (hGl : G.length ≤ 1000) (hGw : ∀ p, p ∈ G → p.1 ≤ 1000 ∧ p.2.length ≤ 1000)
    (hp : w.cell? ⟨pb, 0, none⟩ = some (.map (some mm))) (hm : Mp Tryz.prog 143 .u32 w mm 0 [] (fun _ => undef)) (hpm : pb ≠ mm) (hpR : pb ≠ R) (hmR : mm ≠ R) (hmb : mm ≠ b) (hbw : b < w.heap.size) :
    Calls Tryz.prog 214 #[.pointer (some ⟨pb, 0, none⟩), .iface 71 (.pointer (some ⟨R, 0, none⟩))] w fun e w' =>
      e = .returned .nilIface ∧ MwAt w.heap.size w' mm (G.map (·.1)) (rowsOf G) ∧ RAt R b cap l (i + (mwB G).length) w' ∧ Off [R, mm] w w' := by
  obtain ⟨N, hN⟩ : ∃ N, N = G.length := ⟨_, rfl⟩
  have hN1000 : N ≤ 1000 := by omega
  have hRlt := h.lt
  have hmlt : mm < w.heap.size := hm.lt
  have hplt : pb < w.heap.size := World.block_lt_of_cell? w _ hp
  have hlen := h.len
  have hmw : mwB G = Lib.leBytes 4 N ++ G.flatMap bucketB := by rw [hN]; rfl
  have hll : l.length - i = 4 + (G.flatMap bucketB).length + rest.length := by
    have := congrArg List.length hl
    rw [hmw] at this
    simp [Lib.leBytes_length] at this
    simp
    omega
  have hd4 : l.drop (i + 4) = G.flatMap bucketB ++ rest := by rw [← List.drop_drop, hl, hmw, List.append_assoc, List.drop_left' (Lib.leBytes_length _ _)]
  have ht4 : (l.drop i).take 4 = Lib.leBytes 4 N := by rw [hl, hmw, List.append_assoc, List.take_left' (Lib.leBytes_length _ _)]
  have hA1 : Off [] w (w.alloc (.cells #[.int .u32 0] 143)) := Off.alloc (Off.refl [] w) _
  have H1 := Lib.hid (zzRead32_at (h.off hA1 (by simp) (by simp)) w.heap.size 0 N 143 #[.int .u32 0] (Blk.new' _ _ _ rfl) ht4 (by omega) (by omega) (by omega) (by omega) (by decide))
  have hasc := hG.asc
  have hnd := nodup_asc hasc
  have hw1 : IntKind.i32.wrap (N : Int) = (N : Int) := by rw [IntKind.wrap_i32]; omega
  have hw2 : IntKind.i64.wrap (N : Int) = (N : Int) := by rw [IntKind.wrap_i64]; omega
  have hm1 := method_brSeek
  have hN0 : ¬ (N : Int) < 0 := by omega
  have HG := Lib.hid hG
  have HGW := Lib.hid hGw
  have HND := Lib.hid hnd
  have HD4 := Lib.hid hd4
  have HLL := Lib.hid hll
  have HP := Lib.hid hp
  have HM := Lib.hid hm
  have HA1 := Lib.hid hA1
  have HN := Lib.hid hN
  have HMW := Lib.hid hmw
  clear hG hGw hnd hasc hd4 hll hp hm hA1 ht4 hl h hN hmw
  go_enter Tryz.func214, Tryz.ntmps214
  go_wp2_with (first
    | (go_at_call 197; refine (toBrs _ _).mono ?_; rintro e w' ⟨rfl, rfl⟩)
    | (go_at_call 198; refine H1.out.mono ?_; rintro e w1 ⟨rfl, hR1, hB1, hO1⟩
       have c6 : w1.cell? ⟨w.heap.size, 0, none⟩ = some (.int .u32 (N : Int)) := hB1.cell 0
       have HR1 := Lib.hid hR1; have HB1 := Lib.hid hB1
       have HO1 := Lib.hid ((HA1.out.mono (S' := [R]) (fun x hx => by simp at hx)).then hO1 (fun x hx => by simp at hx; rcases hx with rfl | rfl <;> simp))
       clear hR1 hB1 hO1)
    | (go_at_call 307; refine (seek_at HR1.out (by have := HLL.out; omega)).mono ?_; rintro e w2 ⟨rfl, hR2, hO2⟩
       have HR2 := Lib.hid hR2; have HO2 := Lib.hid (HO1.out.then hO2 (fun x hx => by simp at hx; simp [hx])); clear hR2 hO2))
  have hib : i + 4 ≤ l.length := by have := HLL.out; omega
  go_loopg [9, 11] N (fun kx s9 s11 wr => ∃ (j T : Nat), s11 = .int .i64 (j : Int) ∧ s9 = .int .i64 (T : Int) ∧ j ≤ N ∧ N - j ≤ kx ∧ Hid (T ≤ (j + 1) * 2147483700 ∧ MwAt w.heap.size wr mm ((G.take j).map (·.1)) (rowsOf G) ∧ RAt R b cap l (i + 4 + ((G.take j).flatMap bucketB).length) wr ∧ Off [R, mm] w wr))
  case atStart =>
    refine ⟨0, i + 4, by go_num, by go_num, Nat.zero_le _, Nat.le_refl _, Lib.hid ⟨by omega, ⟨fun _ => undef, fun _ => 0, HM.out.off HO2.out (ni1 hmR), fun n hn => by simp at hn⟩, by simpa using HR2.out, HO2.out.mono (fun x hx => by simp at hx; simp [hx])⟩⟩
  case round =>
    rename World => wr
    obtain ⟨j, T, rfl, rfl, hjN, hkx, hh⟩ := hrel
    by_cases hlt : j < N
    · have hltz : (j : Int) < (N : Int) := by omega
      obtain ⟨hT, hMw, hR, hO⟩ := hh.out
      have hjG : j < G.length := by rw [← HN.out]; exact hlt
      obtain ⟨p, hpe⟩ : ∃ p, p = G[j] := ⟨_, rfl⟩
      have hpG : p ∈ G := by rw [hpe]; exact List.getElem_mem _
      obtain ⟨n, hn⟩ : ∃ n, n = p.1 := ⟨_, rfl⟩
      obtain ⟨W8, hW8⟩ : ∃ W8, W8 = n + 8 := ⟨_, rfl⟩
      obtain ⟨k, hk⟩ : ∃ k, k = p.2.length := ⟨_, rfl⟩
      obtain ⟨M, hM⟩ : ∃ M, M = W8 * k := ⟨_, rfl⟩
      have hwd := HG.out.wid p hpG
      have hne := HG.out.ne p hpG
      have hk0 : 0 < k := by rw [hk]; exact List.length_pos_iff.2 hne
      obtain ⟨hn1000, hk1000⟩ := HGW.out p hpG
      have hM0 : 0 < M := by rw [hM]; exact Nat.mul_pos (by omega) hk0
      have hrl : (rowsB p.2).length = M := by rw [rowsB_length p.2 p.1 hwd, ← hn, ← hW8, ← hk, hM]
      have hbk : bucketB p = Lib.leBytes 4 W8 ++ (Lib.leBytes 8 M ++ rowsB p.2) := by
        have hM' : M = (p.1 + 8) * p.2.length := by rw [hM, hW8, hn, hk]
        have hW' : W8 = p.1 + 8 := by rw [hW8, hn]
        rw [hM', hW']; rfl
      have hbl : (bucketB p).length = 12 + M := by rw [hbk]; simp [Lib.leBytes_length, hrl]; omega
      have htk : (G.take (j + 1)).flatMap bucketB = (G.take j).flatMap bucketB ++ bucketB p := by
        rw [List.take_succ_eq_append_getElem hjG, List.flatMap_append, ← hpe]; simp
      have hsp : G.flatMap bucketB = (G.take j).flatMap bucketB ++ (bucketB p ++ (G.drop (j + 1)).flatMap bucketB) := by
        rw [← List.append_assoc, ← htk, ← List.flatMap_append, List.take_append_drop]
      obtain ⟨pos, hpos⟩ : ∃ pos, pos = i + 4 + ((G.take j).flatMap bucketB).length := ⟨_, rfl⟩
      obtain ⟨Q, hQ⟩ : ∃ Q, Q = pos + (12 + M) := ⟨_, rfl⟩
      have hdr : l.drop pos = Lib.leBytes 4 W8 ++ (Lib.leBytes 8 M ++ (rowsB p.2 ++ ((G.drop (j + 1)).flatMap bucketB ++ rest))) := by
        rw [hpos, ← List.drop_drop, HD4.out, hsp, List.append_assoc, List.drop_left' rfl, hbk]
        simp [List.append_assoc]
      have hQl : Q ≤ l.length := by
        have h1 := HLL.out
        have h2 := congrArg List.length hsp
        simp only [List.length_append, hbl] at h2
        omega
      rw [← hpos] at hR
      have hRwr := hR.lt
      have hAq : Off [] wr (wr.alloc (.cells #[.int .u32 0, .int .u64 0, .slice none 0 0] 293)) := Off.alloc (Off.refl [] wr) _
      have hbwr : b < wr.heap.size := Nat.lt_of_lt_of_le hbw hO.size
      have hU := swUnmarshal_at (hR.off hAq (by simp) (by simp)) wr.heap.size W8 k M (rowsB p.2) _ (Blk.new' _ _ _ rfl) (by omega) (by omega) hdr hrl (by omega) (by omega) hM hM0
      rw [← hQ] at hU
      have HU := Lib.hid hU
      have hQ2 : Q ≤ 2147483700 := by omega
      have hwT : IntKind.i64.wrap ((T : Int) + (Q : Int)) = (T : Int) + (Q : Int) := by
        have : (j + 1) * 2147483700 ≤ 1001 * 2147483700 := Nat.mul_le_mul_right _ (by omega)
        rw [IntKind.wrap_i64]; omega
      have hTQ : ¬ ((T : Int) + (Q : Int) < (T : Int)) := by omega
      have hmwr := hMw.lt
      have hpwr : pb < wr.heap.size := Nat.lt_of_lt_of_le hplt hO.size
      have hpcr : wr.cell? ⟨pb, 0, none⟩ = some (.map (some mm)) := hO.cell HP.out (ni2 hpR hpm)
      have HPC := Lib.hid hpcr
      have HMW2 := Lib.hid hMw
      have HO := Lib.hid hO
      have HAQ := Lib.hid hAq
      have HPE := Lib.hid hpe
      have HNP := Lib.hid hn
      have HW8 := Lib.hid hW8
      have HKK := Lib.hid hk
      have HMM := Lib.hid hM
      have HQQ := Lib.hid hQ
      have HPOS := Lib.hid hpos
      have HTK := Lib.hid htk
      have HBL := Lib.hid hbl
      have HWD := Lib.hid hwd
      have HT := Lib.hid hT
      have hW8l : W8 ≤ 1008 := by omega
      clear hh hT hMw hR hO hAq hpe hn hW8 hk hM hQ hpos htk hbl hwd hsp hdr hU hpcr hrl hbk hne
      go_wp2_with (first
        | (go_at_call 236; refine HU.out.mono ?_; rintro e w3 ⟨rfl, C, hQ3, hS3, hC1, hC2, hR3, hO3⟩
           have HQ3 := Lib.hid hQ3; have HS3 := Lib.hid hS3; have HR3 := Lib.hid hR3
           have HO3 := Lib.hid ((HAQ.out.mono (S' := [R]) (fun x hx => by simp at hx)).then hO3 (fun x hx => by simp at hx; rcases hx with rfl | rfl <;> simp))
           have hC3 : wr.heap.size + 1 ≤ C := by simp at hC1; exact hC1
           clear hQ3 hS3 hR3 hO3 hC1)
        | (go_at_call 307; refine (seek_at HR3.out hQl).mono ?_; rintro e w4 ⟨rfl, hR4, hO4⟩
           have hq4 := HQ3.out.off hO4 (ni1 (by omega))
           have hY0 : w4.cell? ⟨wr.heap.size, 0, none⟩ = some (.int .u32 (W8 : Int)) := hq4.cell 0
           have hY1 : w4.cell? ⟨wr.heap.size, 1, none⟩ = some (.int .u64 (k : Int)) := hq4.cell 1
           have hY2 : w4.cell? ⟨wr.heap.size, 2, none⟩ = some (.slice (some ⟨C, 0, none⟩) M M) := hq4.cell 2
           have hO34 := HO3.out.then hO4 (fun x hx => by simp at hx; simp [hx])
           have hpc4 : w4.cell? ⟨pb, 0, none⟩ = some (.map (some mm)) := hO34.cell HPC.out (ni1 hpR)
           have HY := Lib.hid hq4; have HR4 := Lib.hid hR4; have HO4 := Lib.hid hO4; have HO34 := Lib.hid hO34
           clear hq4 hR4 hO4 hO34))
      obtain ⟨V2, C2, hmp2, hrow2⟩ := HMW2.out.ex
      have hDl : ((G.take j).map (·.1)).length = j := by rw [List.length_map, List.length_take, Nat.min_eq_left (by omega)]
      have hmpd := Mp.off (Mp.off hmp2 HO34.out (ni1 hmR)) (Off.drew (Off.refl [] _)) (by simp)
      obtain ⟨w6, hrun6, hmp6, ho6, hs6⟩ := Mp.store hmpd Tryz.underlying143 Tryz.underlying169 (by rw [hDl]; unfold maxLen; omega) (W8 : Int) (WalkArith.wf_u32 (by omega)) (.agg #[.int .u32 (W8 : Int), .int .u64 (k : Int), .slice (some ⟨C, 0, none⟩) M M])
      have hb6 := Blk.off (Blk.drew HY.out) ho6 (ni1 (by omega))
      have hz0 : w6.cell? ⟨wr.heap.size, 0, none⟩ = some (.int .u32 (W8 : Int)) := hb6.cell 0
      have hz1 : w6.cell? ⟨wr.heap.size, 1, none⟩ = some (.int .u64 (k : Int)) := hb6.cell 1
      have hz2 : w6.cell? ⟨wr.heap.size, 2, none⟩ = some (.slice (some ⟨C, 0, none⟩) M M) := hb6.cell 2
      have hpc6 : w6.cell? ⟨pb, 0, none⟩ = some (.map (some mm)) := ho6.cell hpc4 (ni1 hpm)
      have HMP6 := Lib.hid hmp6
      have HO6 := Lib.hid ho6
      have HROW := Lib.hid hrow2
      have HDL := Lib.hid hDl
      clear hmp6 ho6 hrow2 hb6 hmpd hmp2 hs6 hDl
      go_region_held3 (fun w' => w'.cell? ⟨pb, 0, none⟩ = some (.map (some mm)) ∧ w'.cell? ⟨wr.heap.size, 0, none⟩ = some (.int .u32 (W8 : Int)) ∧ w'.cell? ⟨wr.heap.size, 1, none⟩ = some (.int .u64 (k : Int)) ∧ w'.cell? ⟨wr.heap.size, 2, none⟩ = some (.slice (some ⟨C, 0, none⟩) M M))
        (first | (exact ⟨hpc4, hY0, hY1, hY2⟩) | (exact ⟨hpc6, hz0, hz1, hz2⟩)) (fail)
      all_goals go_wp2_with fail
      go_roundg (N - (j + 1))
      case measure => omega
      case rel =>
        have e1 : (G.take (j + 1)).map (·.1) = (G.take j).map (·.1) ++ [n] := by
          rw [List.take_succ_eq_append_getElem hjG, List.map_append, HNP.out, HPE.out]; rfl
        have hnD : n ∉ (G.take j).map (·.1) := by
          have h := HND.out.sublist ((List.take_sublist (j + 1) G).map (·.1))
          rw [e1] at h
          intro hmem
          exact (List.nodup_append.1 h).2.2 n hmem n (by simp) rfl
        have hS : rowsOf G n = p.2 := by rw [HNP.out]; exact rowsOf_mem G HND.out p hpG
        have e2 : swv n (rowsOf G n).length C = .agg #[.int .u32 (W8 : Int), .int .u64 (k : Int), .slice (some ⟨C, 0, none⟩) M M] := by
          unfold swv
          rw [hS, ← HKK.out, ← HW8.out, ← HMM.out]
        have hmp := MpN.stored (K := ((G.take j).map (·.1)).map (· + 8)) (V := V2) (m := W8) HMP6.out
        have hnK : W8 ∉ ((G.take j).map (·.1)).map (· + 8) := by
          rw [HW8.out]
          intro hx
          obtain ⟨y, hy, he⟩ := List.mem_map.1 hx
          exact hnD (by rw [show n = y by omega]; exact hy)
        rw [if_neg hnK] at hmp
        have hmp' : MpN Tryz.prog 143 .u32 w6 mm (((G.take j).map (·.1)).length + 1) ((((G.take j).map (·.1)) ++ [n]).map (· + 8)) (fun i => if i = n + 8 then swv n (rowsOf G n).length C else V2 i) := by
          rw [e2, List.map_append, ← HW8.out]
          simpa [HW8.out] using hmp
        have hDr : Off [] w4 w4.drew := Off.drew (Off.refl [] _)
        have hO6 : Off [R, mm] wr w6 := ((HO34.out.mono (S' := [R, mm]) (fun x hx => by simp at hx; simp [hx])).then hDr (fun x hx => by simp at hx)).then HO6.out (fun x hx => by simp at hx; simp [hx])
        have hww := HO.out.size
        have hs34 := HO4.out.size
        have hs46 := HO6.out.size
        have hs4d := hDr.size
        have hseg : Seg w6 C 0 (rowsB (rowsOf G n)) := by
          rw [hS]
          exact ((HS3.out.off HO4.out (ni1 (by omega))).off hDr (by simp)).off HO6.out (ni1 (by omega))
        have hput := MwAt.put (S := rowsOf G) V2 C2 n C hnD HROW.out hO6 (fun x hx => by simp at hx; left; rcases hx with rfl | rfl <;> assumption) hmp' hseg (by omega) (by omega) (by rw [hS, HNP.out]; exact HWD.out)
        refine ⟨j + 1, T + Q, by go_num, by go_num, by omega, Nat.le_refl _, Lib.hid ⟨?_, by rw [e1]; exact hput, ?_, HO.out.then hO6 (fun x hx => Or.inl hx)⟩⟩
        · have := HT.out
          rw [Nat.succ_mul]
          omega
        · have hr := ((HR4.out.off hDr (by simp) (by simp)).off HO6.out (ni1 (fun e => hmR e.symm)) (ni1 (fun e => hmb e.symm)))
          have eQ : i + 4 + ((G.take (j + 1)).flatMap bucketB).length = Q := by rw [HTK.out, List.length_append, HBL.out, HQQ.out, HPOS.out]; omega
          rw [eQ]
          exact hr
    · have hltz : ¬ (j : Int) < (N : Int) := by omega
      obtain rfl : j = N := by omega
      obtain ⟨hT, hMw, hR, hO⟩ := hh.out
      go_wp2_with fail
      go_ret
      rw [List.take_of_length_le (by rw [← HN.out]; exact Nat.le_refl _)] at hMw hR
      refine ⟨rfl, hMw, ?_, hO⟩
      rw [HMW.out, List.length_append, Lib.leBytes_length, ← Nat.add_assoc]
      exact hR
end Go.Proofs.YtcgggcjmmphldaaGreatDoor
