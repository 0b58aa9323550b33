/-
  carv1.zzDecodeRoots over a list of links.
  carv1.zzDecodeHeader over a header of version 1.
  carv1.ReadHeader over a file that begins with a header of version 1.
  (No condition beyond those that each theorem states.)
-/
import Derived.Test.YthmhnknkidkdlaaGreatDoorB33
import Derived.Test.YthmhnknkidkdlaaGreatDoorB11
import Derived.Test.YthmhnknkidkdlaaGreatDoorB35
import Derived.Test.YthmhnknkidkdlaaGreatDoorB07
namespace Go.Proofs.YthmhnknkidkdlaaGreatDoor
open Go.RowKit

theorem and31 : ∀ (m : Fin 7) (v : Fin 25), bits .and .u8 ((32 * m.val + v.val : Nat) : Int) 31 = (v.val : Int) := by decide +kernel
/-- A head at place i. -/
theorem hd_at {l t : List UInt8} {i maj v : Nat} (hm : maj < 7) (hv : v < 256) (h : l.drop i = hd maj v ++ t) : ∃ c, (l[i]?).map (·.toNat) = some c ∧ HdAt l (i + 1) c v (i + (hd maj v).length) ∧ 32 * maj ≤ c ∧ c ≤ 32 * maj + 24 := by
  have hg : ∀ j, j < (hd maj v).length → l[i + j]? = (hd maj v)[j]? := fun j hj => by rw [← List.getElem?_drop, h, List.getElem?_append_left hj]
  by_cases h24 : v < 24
  · have e : hd maj v = [(32 * maj + v).toUInt8] := by rw [hd, if_pos h24]
    have h0 := hg 0 (by rw [e]; simp)
    rw [e, Nat.add_zero] at h0
    refine ⟨32 * maj + v, by rw [h0]; simp; omega, Or.inl ⟨and31 ⟨maj, hm⟩ ⟨v, by omega⟩, by omega, by rw [e]; rfl⟩, by omega, by omega⟩
  · have e : hd maj v = [(32 * maj + 24).toUInt8, v.toUInt8] := by rw [hd, if_neg h24, if_pos hv]
    have h0 := hg 0 (by rw [e]; simp)
    have h1 := hg 1 (by rw [e]; simp)
    rw [e, Nat.add_zero] at h0
    rw [e] at h1
    refine ⟨32 * maj + 24, by rw [h0]; simp; omega, Or.inr ⟨and31 ⟨maj, hm⟩ ⟨24, by omega⟩, by rw [h1]; simp; omega, by rw [e]; rfl⟩, by omega, by omega⟩

theorem run_makeCids (W : World) : (Instr.makeSlice 127 (.int .i64 0) (.int .i64 0)).run Tryz.prog W = .ok (.slice (some ⟨W.heap.size, 0, none⟩) 0 0) (W.alloc (.cells #[] 133)) := by kernel_rfl

theorem Tryz.infoCidG : (Tryz.prog.info? 133).map (fun i => (i.zero, i.size, i.bytes)) = some (some (.agg #[.string ByteArray.empty]), 1, 16) := by kernel_rfl

section
variable {A : DA} {Ks : List Nat} {w0 w w' : World} {ph : Int} {sn : Nat} {sa sb : Int} {ln : Nat} {la lb : Int} {i : Nat}
theorem DSt.back2 (h : DSt A Ks w0 ph sn sa sb ln la lb i w) {Js : List Nat} {ph' : Int} {sn' : Nat} {sa' sb' : Int} {ln' : Nat} {la' lb' : Int} {j : Nat} (k : DSt A Js w ph' sn' sa' sb' ln' la' lb' j w') (hJ : ∀ x, x ∈ Js → x ∈ Ks ∨ w0.heap.size ≤ x) : DSt A Ks w0 ph' sn' sa' sb' ln' la' lb' j w' :=
  { k with off := h.off.then k.off (fun x hx => by
      rcases List.mem_append.1 hx with h1 | h1
      · exact Or.inl (List.mem_append.2 (Or.inl h1))
      · rcases hJ x h1 with h2 | h2
        · exact Or.inl (List.mem_append.2 (Or.inr h2))
        · exact Or.inr h2) }
/-- All of the decoder's blocks are old ones. -/
theorem DSt.olds (h : DSt A Ks w0 ph sn sa sb ln la lb i w) (hi : 0 < A.l.length) : A.D < w.heap.size ∧ A.sg < w.heap.size ∧ A.lg < w.heap.size ∧ A.S < w.heap.size ∧ A.T < w.heap.size ∧ A.R < w.heap.size ∧ A.b < w.heap.size ∧ 1 < w.heap.size := by
  obtain ⟨sc, _, hs⟩ := h.chain.ss
  obtain ⟨x, y, z, _, ht⟩ := h.chain.ts
  obtain ⟨p, hp⟩ := h.chain.rd
  obtain ⟨q, hq⟩ := h.chain.eof
  exact ⟨h.dec.lt, h.stk.lt, h.left.lt, Blk.lt hs, Blk.lt ht, Blk.lt hp, h.chain.seg.lt hi, World.block_lt_of_cell? _ _ hq⟩
/-- New blocks are far. -/
theorem DSt.far_new (h : DSt A Ks w0 ph sn sa sb ln la lb i w) (hi : 0 < A.l.length) {K : Nat} (hK : w.heap.size ≤ K) : A.Far K := by
  obtain ⟨h1, h2, h3, h4, h5, h6, h7, h8⟩ := h.olds hi
  exact ⟨by omega, by omega, by omega, by omega, by omega, by omega, by omega, by omega⟩
end

/-- What a header's link must be. -/
def LinkOk (c : List UInt8) : Prop := ∃ code d, IsCid c code d ∧ d.length ≤ 1000 ∧ c.length ≤ 250

set_option maxRecDepth 100000 in
set_option maxHeartbeats 2000000 in
theorem zzDecodeRoots_ok (A : DA) (w : World) (sa sb la lb : Int) (i H : Nat) (r : Value) (ver : Int) (cs : List (List UInt8)) (t : List UInt8) (h : DSt A [] w 6 1 sa sb 1 la lb i w) (hH : Blk w H 129 #[r, .int .u64 ver]) (hHf : A.Far H) (hn : cs.length ≤ 100) (hcs : ∀ c, c ∈ cs → LinkOk c) (hl : A.l.drop i = hd 4 cs.length ++ (cs.flatMap linkB ++ t)) :
    Calls Tryz.prog 86 #[.pointer (some ⟨A.D, 0, none⟩), .pointer (some ⟨H, 0, none⟩)] w fun e w' => e = .returned .nilIface ∧ ∃ r', DSt A [H] w 5 1 sa 5 1 la 0 (i + (hd 4 cs.length).length + (cs.flatMap linkB).length) w' ∧ Blk w' H 129 #[r', .int .u64 ver] := by
  obtain ⟨ic, hic, hz0, hz1, hz2⟩ := info_parts Tryz.infoCidG
  obtain ⟨c4, hb4, hh4, hc41, hc42⟩ := hd_at (by omega) (by omega) hl
  obtain ⟨n, hnn⟩ : ∃ n, n = cs.length := ⟨_, rfl⟩
  rw [← hnn] at hh4 hl hn ⊢
  have hl4 : A.l.drop (i + (hd 4 n).length) = cs.flatMap linkB ++ t := drop_more hl
  obtain ⟨p0, hp0⟩ : ∃ p0, p0 = i + (hd 4 n).length := ⟨_, rfl⟩
  rw [← hp0] at hh4 hl4 ⊢
  have hlen0 : 0 < A.l.length := by
    have h1 := congrArg List.length hl
    rw [List.length_drop, List.length_append] at h1
    have := (hd_len 4 n).1
    omega
  obtain ⟨b1, b2, b3, b4, b5, b6, b7, b8⟩ := h.olds hlen0
  have hHl := hH.lt
  have hfK := h.far_new hlen0 (Nat.le_refl w.heap.size)
  have hK0 := Blk.new w 203 zeroTok
  have hS1 := Lib.hid (D_sarr (h.alloc (.cells zeroTok 203)) hK0 hfK (Or.inr (Nat.le_refl _)) c4 n p0 hb4 hh4 hc41 (by omega))
  have HH0 := Lib.hid hH
  have HF := Lib.hid hHf
  have HFK := Lib.hid hfK
  have HCS := Lib.hid hcs
  have HL4 := Lib.hid hl4
  have HNN := Lib.hid hnn
  have HNL := Lib.hid h.chain.len
  have hmkc := run_makeCids
  clear h hH hHf hfK hcs hl hl4 hb4 hh4 hnn hp0 hK0
  go_enter Tryz.func86, Tryz.ntmps86
  go_wp2_with fail
  refine hS1.out.mono ?_
  rintro e w1 ⟨rfl, h1, hK1⟩
  obtain ⟨k0, -⟩ := tok_cells hK1
  have hO1 : Off (A.X ++ []) w w1 := h1.off
  have hH1 := hO1.blk HH0.out (by simp; exact HF.out.x)
  have hHa := fun ob => (hH1.alloc ob).cell 0
  have hHaf := fun ob => (hH1.alloc ob).frozen 0
  simp at hHa
  have hz1w := hO1.size
  have HROW : Hid ((w1.alloc (.cells #[] 133)).ownsRow w.heap.size 133 1 (.slice (some ⟨w1.heap.size, 0, none⟩) 0 0) 0 []) := Lib.hid ⟨rfl, Or.inr ⟨w1.heap.size, 0, _, rfl, hz1w, Blk.new w1 _ _, Nat.le_refl _, by unfold maxLen; omega, rfl, rfl⟩⟩
  have H1 := Lib.hid (DSt.back2 (Ks := [H]) (w0 := w) ((h1.here []).alloc (.cells #[] 133) |> fun k => DSt.back2 { h1 with off := h1.off.mono (S' := A.X ++ [H]) (fun x hx => by simp at hx; exact Or.inl (List.mem_append.2 (Or.inl hx))) } k (fun x hx => by simp at hx)) (((h1.here []).alloc (.cells #[] 133)).here []) (fun x hx => by simp at hx))
  have HH1 := Lib.hid (hH1.alloc (.cells #[] 133))
  have HK1 := Lib.hid (hK1.alloc (.cells #[] 133))
  have hHK : H ≠ w.heap.size := by omega
  clear h1 hK1 hO1 hH1
  go_wp2_with fail
  go_loopg [] (n + 1) (fun kx wr => ∃ (j : Nat) (v : Value) (xs : List Value), j ≤ n ∧ n - j ≤ kx ∧ Hid (DSt A [H] w 4 2 sa 5 2 la ((n - j : Nat) : Int) (p0 + ((cs.take j).flatMap linkB).length) wr) ∧ Hid (∃ ts, Blk wr w.heap.size 203 ts ∧ ts.size = 10) ∧ Hid (Blk wr H 129 #[v, .int .u64 ver]) ∧ Hid (wr.ownsRow w.heap.size 133 1 v j xs) ∧ Hid (w.heap.size < wr.heap.size))
  case atStart => exact ⟨0, _, [], Nat.zero_le _, by omega, Lib.hid (by simpa using H1.out.tset HF.out (Or.inl (by simp)) 0 _), Lib.hid ⟨_, HK1.out.far (p := ⟨H, 0, none⟩) (fun e => hHK e.symm) _, rfl⟩, Lib.hid (HH1.out.set_ 0 _), Lib.hid (own_off HROW.out ((Off.refl [H] _).setCell (p := ⟨H, 0, none⟩) (Or.inl (by simp)) _) (fun x hx => by simp [ob, Value.ownBlock] at hx; simp; omega)), Lib.hid (by simp [World.setCell]; omega)⟩
  case round =>
    rename World => wr
    obtain ⟨j, v, xs, hjn, hkx, HD, HTK, HHD, HR, HSZ⟩ := hrel
    obtain ⟨ts, hts, htz⟩ := HTK.out
    have HTZ := Lib.hid htz
    clear htz
    have HTS := Lib.hid hts
    have HZD := Lib.hid (HD.out.tok HFK.out (Or.inr (Nat.le_refl _)) (off_zero hts))
    have HZK := Lib.hid (blk_zero hts)
    have HZO := Lib.hid (off_zero hts)
    clear hts
    by_cases hlt : j < n
    · obtain ⟨c, hc⟩ : ∃ c, c = cs[j]'(by rw [← HNN.out]; exact hlt) := ⟨_, rfl⟩
      obtain ⟨code, d, hcid, hd1000, hc250⟩ := HCS.out c (by rw [hc]; exact List.getElem_mem _)
      obtain ⟨pos, hpos⟩ : ∃ pos, pos = p0 + ((cs.take j).flatMap linkB).length := ⟨_, rfl⟩
      obtain ⟨v1, hv1⟩ : ∃ v1, v1 = c.length + 1 := ⟨_, rfl⟩
      obtain ⟨q, hq⟩ : ∃ q, n - j = q + 1 := ⟨n - j - 1, by omega⟩
      have hjc : j < cs.length := by rw [← HNN.out]; exact hlt
      have hsplit : cs.flatMap linkB = (cs.take j).flatMap linkB ++ (linkB c ++ (cs.drop (j + 1)).flatMap linkB) := by
        have h1 : cs = cs.take j ++ (c :: cs.drop (j + 1)) := by
          rw [hc, ← List.drop_eq_getElem_cons hjc, List.take_append_drop]
        have h2 : cs.flatMap linkB = (cs.take j ++ (c :: cs.drop (j + 1))).flatMap linkB := congrArg (fun x => x.flatMap linkB) h1
        rw [h2, List.flatMap_append, List.flatMap_cons]
      have hdrop : A.l.drop pos = [216, 42] ++ (hd 2 v1 ++ ((0 :: c) ++ ((cs.drop (j + 1)).flatMap linkB ++ t))) := by
        have h1 := HL4.out
        rw [hsplit, List.append_assoc] at h1
        have h2 := drop_more h1
        rw [← hpos] at h2
        rw [h2, linkB, ← hv1]
        show _ = hd 6 42 ++ _
        simp only [List.append_assoc]
      have hb0 : (A.l[pos]?).map (·.toNat) = some 216 := by
        have h1 := drop_at hdrop 0 (by simp)
        rw [Nat.add_zero] at h1
        rw [h1]; rfl
      have ht42 : HdAt A.l (pos + 1) 216 42 (pos + 1 + 1) := Or.inr ⟨by decide +kernel, by rw [drop_at hdrop 1 (by simp)]; rfl, rfl⟩
      have hdrop2 : A.l.drop (pos + 1 + 1) = hd 2 v1 ++ ((0 :: c) ++ ((cs.drop (j + 1)).flatMap linkB ++ t)) := drop_more hdrop
      obtain ⟨c2, hb2, hh2, hc21, hc22⟩ := hd_at (by omega) (by omega) hdrop2
      obtain ⟨jj, hjj⟩ : ∃ jj, jj = pos + 1 + 1 + (hd 2 v1).length := ⟨_, rfl⟩
      rw [← hjj] at hh2
      have hdrop3 : A.l.drop jj = (0 :: c) ++ ((cs.drop (j + 1)).flatMap linkB ++ t) := by rw [hjj]; exact drop_more hdrop2
      have hjv : jj + v1 ≤ A.n := by
        have h1 := congrArg List.length hdrop3
        rw [List.length_drop, List.length_append, List.length_cons] at h1
        have h2 := HNL.out
        have h3 : 0 < A.l.length - jj := by omega
        omega
      have htake : (A.l.drop jj).take v1 = 0 :: c := by
        rw [hdrop3, hv1]
        exact List.take_left' rfl
      have hposn : p0 + ((cs.take (j + 1)).flatMap linkB).length = jj + v1 := by
        rw [List.take_succ_eq_append_getElem hjc, List.flatMap_append, List.length_append, ← hc]
        have e6 : (hd 6 42).length = 2 := rfl
        have e1 : ([c].flatMap linkB).length = 2 + ((hd 2 v1).length + v1) := by
          rw [List.flatMap_cons, List.flatMap_nil, List.append_nil, linkB, ← hv1, List.length_append, List.length_append, List.length_cons, e6, ← hv1]
        rw [e1]
        omega
      have hsl := D_slink (by have h1 := HZD.out.here [w.heap.size]; rw [hq, ← hpos] at h1; exact h1) HZK.out HFK.out (Or.inl (by simp)) (by omega) hb0 ht42 c2 v1 jj hb2 hh2 (by omega) hjv (by omega) (by omega)
      rw [htake] at hsl
      have HSL := Lib.hid hsl
      have hc4' := (isCid_len hcid).1
      have hv0 : ((v1 : Int) == 0) = false := beq_eq_false_iff_ne.2 (by omega)
      obtain ⟨m, hm⟩ : ∃ m, m = c.length := ⟨_, rfl⟩
      have hvm : v1 - 1 = m := by omega
      have hv1le : (1 : Int) ≤ (v1 : Int) := by omega
      have hv1le2 : 1 ≤ v1 := by omega
      have hv1pos : 0 < v1 := by omega
      have HM := Lib.hid hm
      have HPOSN := Lib.hid hposn
      have HCID := Lib.hid hcid
      have HQ := Lib.hid hq
      clear hsl hc hpos hsplit hdrop hb0 ht42 hdrop2 hb2 hh2 hjj hdrop3 htake hposn hcid hq hm hv1
      go_wp2_with (first | ((with_reducible show wpList _ _ _ _ _ _); refine wpList_build0 rfl 203 rfl zeroTok built_tok ?_) | ((with_reducible show wpList _ _ _ _ _ _); refine wpList_store_row rfl 203 (.tmp 5) (.tmp 34) rfl w.heap.size zeroTok rfl rfl 203 _ HTS.out tok_info (by first | (rw [HTZ.out]; rfl) | (exact HTZ.out) | exact HTZ.out.symm) zero_all ?_))
      refine HSL.out.mono ?_
      rintro e w2 ⟨g, cp, rfl, ⟨r1, r2, r3, r4⟩, h2, hK2⟩
      obtain ⟨k0', -, -, k3', -⟩ := tok_cells hK2
      have hlen4 : (0 :: c : List UInt8).length = v1 := by
        rw [List.length_cons, ← HM.out]; omega
      rw [hlen4] at r3
      have g0 : w2.cell? ⟨g, 0, none⟩ = some (.int .u8 0) := r4 0 (by simp)
      have hseg1 : Seg w2 g 1 c := by
        have h3 := r4.drop 1 (by simp)
        simpa using h3
      have hcp1 : ¬ cp = 1 := by have := HM.out; omega
      have HCAST := Lib.hid (cidCast_any g 1 (cp - 1) m c code d w2 HCID.out (by omega) HM.out (by omega) hseg1 r2)
      have hH2 := (h2.off).blk (HZO.out.blk HHD.out (ni1 hHK)) (by
        simp only [List.mem_append, List.mem_singleton, not_or]
        exact ⟨HF.out.x, hHK⟩)
      have hwz : (wr.setRow w.heap.size zeroTok).heap.size = wr.heap.size := by simp [World.setRow]
      have hR2 := own_off (own_off HR.out HZO.out (fun x hx => by
        have h3 := own_ne_blk HR.out HTS.out (by decide +kernel)
        simp
        rintro rfl
        exact h3 hx)) h2.off (fun x hx => by
          have h3 := own_base HR.out x hx
          have h4 := own_ne_blk HR.out HTS.out (by decide +kernel)
          unfold DA.X
          simp
          refine ⟨by omega, by omega, by omega, by omega, by omega, by omega, ?_⟩
          rintro rfl
          exact h4 hx)
      have HD2 := Lib.hid (DSt.back2 HZD.out h2 (fun x hx => by simp at hx; right; omega))
      have HH2 := Lib.hid hH2
      have HR2 := Lib.hid hR2
      have HK2 := Lib.hid hK2
      have hO2s := h2.off.size
      have HZ2 := Lib.hid (show w.heap.size < w2.heap.size by have := HSZ.out; omega)
      clear h2 hK2 hH2 hR2 r4 hseg1
      go_wp2_with fail
      refine HCAST.out.mono ?_
      rintro e w3 ⟨rfl, ho3⟩
      have hH3 := ho3.blk HH2.out (by simp)
      have hHa3 := fun ob => (hH3.alloc ob).cell 0
      have hHaf3 := fun ob => (hH3.alloc ob).frozen 0
      have hHb3 := fun ob ob2 => ((hH3.alloc ob).alloc ob2).cell 0
      simp at hHa3 hHb3
      have hR3 := own_off HR2.out ho3 (fun x _ => by simp)
      have HOWN : Hid (∀ W, Off [] w3 W → W.ownsRow w.heap.size 133 1 v j xs) := Lib.hid (fun W hW => own_off hR3 hW (fun x _ => by simp))
      have HHW : Hid (∀ W, Off [] w3 W → Blk W H 129 #[v, .int .u64 ver]) := Lib.hid (fun W hW => hW.blk hH3 (by simp))
      have HB2 : Hid (∀ W, Off [] w3 W → w.heap.size ≤ W.heap.size) := Lib.hid (fun W hW => by
        have h3 := HZ2.out
        have h4 := ho3.size
        have h5 := hW.size
        omega)
      have HNEW : Hid (∀ j u, ([.string (str c)] : List Value)[j]? = some u → ((w3.alloc (.cells #[.string (str c)] 133)).alloc (.cells #[.string (str c)] 133)).cell? ((⟨w3.heap.size + 1, 0, none⟩ : Addr).add j) = some u) := Lib.hid (by
        have h3 := new_one (w3.alloc (.cells #[.string (str c)] 133)) (.string (str c)) 133
        rw [size_alloc] at h3
        exact h3)
      have hHv : H ∉ ob v := fun hx => by have := own_base hR3 H hx; omega
      have h63 : j + 1 ≤ maxLen := by unfold maxLen; omega
      have h48 : (j + 1) * 16 ≤ 140737488355328 := by omega
      have HO3 := Lib.hid ho3
      clear hH3 hR3 ho3
      go_wp2_with fail
      go_region_law (refine step_append_own2 _ rfl (.tmp 77) (.tmp 79) 127 rfl w.heap.size 133 ic _ 1 16 Tryz.underlying127 hic hz0 hz1 hz2 rfl (by decide) v j xs (by simp [Act.eval]) (HOWN.out _ (by repeat' (first | exact Off.refl _ _ | refine Off.alloc ?_ _ | refine Off.drew ?_))) ⟨w3.heap.size + 1, 0, none⟩ 1 1 [.string (str c)] (by simp [Act.eval]) rfl (fun j u hj => HNEW.out j u hj) (fun u hu => by simp at hu; subst hu; rfl) h63 h48 (HB2.out _ (by repeat' (first | exact Off.refl _ _ | refine Off.alloc ?_ _ | refine Off.drew ?_))) ?_; intro v5 w5 HO5 HG5 HV5; have hg5 := off_grown_own (S := ob v) HG5.out (fun g hg => by simp [ob, hg]); have HG6 : Hid (Off (ob v) w3 w5) := Lib.hid (Off.then (S := ob v) (by repeat' (first | exact Off.refl _ _ | refine Off.alloc ?_ _ | refine Off.drew ?_)) hg5 (fun x hx => Or.inl hx)); have HH5 := Lib.hid (hg5.blk (HHW.out _ (by repeat' (first | exact Off.refl _ _ | refine Off.alloc ?_ _ | refine Off.drew ?_))) hHv); have q5 : w5.cell? ⟨H, 0, none⟩ = some v := HH5.out.cell 0; have qf5 : w5.frozen? ⟨H, 0, none⟩ = false := HH5.out.frozen 0; clear hg5; obtain ⟨A5, b5, c5, rfl, -, -⟩ := own_shape HO5.out)
      all_goals
        go_wp2_with fail
        go_roundg (n - (j + 1))
        case measure => omega
        case rel =>
          have hO5 : Off (ob v) w2 w5 := HO3.out.mono (S' := ob v) (fun x hx => by simp at hx) |>.then HG6.out (fun x hx => Or.inl hx)
          have hbase : ∀ x, x ∈ ob v → w.heap.size ≤ x := own_base HR2.out
          have hKv : w.heap.size ∉ ob v := own_ne_blk HR2.out HK2.out (by decide +kernel)
          have hD5 := HD2.out.to hO5 (fun x hx => by
            have h3 := hbase x hx
            refine ⟨by omega, by omega, by omega, by omega, by omega, by omega, by omega, by omega⟩) (fun x hx => Or.inr (hbase x hx))
          have hD6 := hD5.tset HF.out (Or.inl (by simp)) 0 (.slice A5 (j + 1) c5)
          have hK5 := (hO5.blk HK2.out hKv).far (p := ⟨H, 0, none⟩) (fun e => hHK e.symm) (.slice A5 (j + 1) c5)
          have hH6 := HH5.out.set_ 0 (.slice A5 (j + 1) c5)
          have hHv5 := own_ne_blk HO5.out HH5.out (by decide +kernel)
          have hR6 := own_off HO5.out ((Off.refl [H] w5).setCell (p := ⟨H, 0, none⟩) (Or.inl (by simp)) (.slice A5 (j + 1) c5)) (fun x hx => by
            simp
            rintro rfl
            exact hHv5 hx)
          refine ⟨j + 1, .slice A5 (j + 1) c5, xs ++ [.string (str c)], by omega, Nat.le_refl _, Lib.hid ?_, Lib.hid ⟨_, hK5, rfl⟩, Lib.hid hH6, Lib.hid hR6, Lib.hid ?_⟩
          · rw [HPOSN.out, show n - (j + 1) = q by have := HQ.out; omega]
            exact hD6
          · have h3 := HZ2.out
            have h4 := hO5.size
            simp [World.setCell]
            omega
    · obtain rfl : j = n := by omega
      have hcl := D_sclose (by have h1 := HZD.out.here [w.heap.size]; rw [Nat.sub_self] at h1; exact h1) HZK.out HFK.out (Or.inl (by simp))
      have HCL := Lib.hid hcl
      clear hcl
      go_wp2_with (first | ((with_reducible show wpList _ _ _ _ _ _); refine wpList_build0 rfl 203 rfl zeroTok built_tok ?_) | ((with_reducible show wpList _ _ _ _ _ _); refine wpList_store_row rfl 203 (.tmp 5) (.tmp 34) rfl w.heap.size zeroTok rfl rfl 203 _ HTS.out tok_info (by first | (rw [HTZ.out]; rfl) | (exact HTZ.out) | exact HTZ.out.symm) zero_all ?_))
      refine HCL.out.mono ?_
      rintro e w2 ⟨rfl, h2, hK2⟩
      obtain ⟨k0', -⟩ := tok_cells hK2
      have hH2 := (h2.off).blk (HZO.out.blk HHD.out (ni1 hHK)) (by
        simp only [List.mem_append, List.mem_singleton, not_or]
        exact ⟨HF.out.x, hHK⟩)
      have H2 := Lib.hid (DSt.back2 HZD.out h2 (fun x hx => by simp at hx; right; omega))
      have HH2 := Lib.hid hH2
      clear h2 hK2 hH2
      go_wp2_with fail
      go_ret
      refine ⟨rfl, v, ?_, HH2.out⟩
      have e1 : (cs.take j).flatMap linkB = cs.flatMap linkB := by rw [List.take_of_length_le (by rw [← HNN.out]; exact Nat.le_refl _)]
      have h3 := H2.out
      rw [e1] at h3
      exact h3
end Go.Proofs.YthmhnknkidkdlaaGreatDoor
namespace Go.Proofs.YthmhnknkidkdlaaGreatDoor
open Go.RowKit

theorem roots_ver (w : World) : (binOp .eql 9 (.string ⟨#[114, 111, 111, 116, 115]⟩) (.string ⟨#[118, 101, 114, 115, 105, 111, 110]⟩)).run Tryz.prog w = .ok (.bool false) w := by kernel_rfl
theorem roots_roots (w : World) : (binOp .eql 9 (.string ⟨#[114, 111, 111, 116, 115]⟩) (.string ⟨#[114, 111, 111, 116, 115]⟩)).run Tryz.prog w = .ok (.bool true) w := by kernel_rfl

theorem drop_get {l t : List UInt8} {i : Nat} {x : UInt8} (h : l.drop i = x :: t) : (l[i]?).map (·.toNat) = some x.toNat ∧ l.drop (i + 1) = t := by
  have h1 : l.drop i = [x] ++ t := h
  refine ⟨?_, drop_more h1⟩
  have h2 := drop_at h1 0 (by simp)
  rw [Nat.add_zero] at h2
  rw [h2]; rfl

set_option maxRecDepth 100000 in
set_option maxHeartbeats 2000000 in
theorem zzDecode_header (b H cap n : Nat) (r : Value) (cs : List (List UInt8)) (w : World) (hs : Seg w b 0 (hdrBody cs 1)) (hn : n = (hdrBody cs 1).length) (hnl : cs.length ≤ 100) (hcs : ∀ c, c ∈ cs → LinkOk c) (hH : Blk w H 129 #[r, .int .u64 0]) (hE : Eof w) (hcap : n ≤ cap) (hbig : n ≤ 1000000) (hHE : 1 < H) (hbH : b ≠ H) (_hbE : 1 < b) :
    Calls Tryz.prog 75 #[.slice (some ⟨b, 0, none⟩) n cap, .pointer (some ⟨H, 0, none⟩)] w fun e w' => e = .returned .nilIface ∧ ∃ r', Blk w' H 129 #[r', .int .u64 1] ∧ Off [H] w w' := by
  obtain ⟨l, hl⟩ : ∃ l, l = hdrBody cs 1 := ⟨_, rfl⟩
  rw [← hl] at hs hn
  have hl0 : l.drop 0 = 162 :: 101 :: (rootsS ++ (hd 4 cs.length ++ (cs.flatMap linkB ++ (103 :: (verS ++ [1]))))) := by
    rw [hl, List.drop_zero]
    unfold hdrBody
    rfl
  obtain ⟨g0, hl1⟩ := drop_get hl0
  obtain ⟨g1, hl2⟩ := drop_get hl1
  have hl7 : l.drop (0 + 1 + 1 + 5) = hd 4 cs.length ++ (cs.flatMap linkB ++ (103 :: (verS ++ [1]))) := drop_more (p := rootsS) hl2
  obtain ⟨p2, hp2⟩ : ∃ p2, p2 = 0 + 1 + 1 + 5 + (hd 4 cs.length).length + (cs.flatMap linkB).length := ⟨_, rfl⟩
  have hlp : l.drop p2 = 103 :: (verS ++ [1]) := by rw [hp2]; exact drop_more (drop_more hl7)
  obtain ⟨g2, hlq⟩ := drop_get hlp
  have hlr : l.drop (p2 + 1 + 7) = [1] := drop_more (p := verS) hlq
  obtain ⟨g3, hls⟩ := drop_get hlr
  have hlen : n = p2 + 9 := by
    have h1 := congrArg List.length hlp
    rw [List.length_drop] at h1
    have e : (103 :: (verS ++ [1]) : List UInt8).length = 9 := rfl
    rw [e] at h1
    omega
  have hr5 : str ((l.drop (0 + 1 + 1)).take 5) = ⟨#[114, 111, 111, 116, 115]⟩ := by
    rw [hl2]
    rfl
  have hv7 : str ((l.drop (p2 + 1)).take 7) = ⟨#[118, 101, 114, 115, 105, 111, 110]⟩ := by
    rw [hlq]
    rfl
  have hp27 : 7 ≤ p2 := by omega
  have hp2n : p2 + 9 ≤ n := by omega
  have hbl : b < w.heap.size := hs.lt (by omega)
  have hHl := hH.lt
  have hEl : 1 < w.heap.size := by obtain ⟨q, hq⟩ := hE; exact World.block_lt_of_cell? _ _ hq
  have HS := Lib.hid hs
  have HH := Lib.hid hH
  have HE := Lib.hid hE
  have HG := Lib.hid (And.intro g0 (And.intro g1 (And.intro g2 (And.intro g3 (And.intro hl7 (And.intro hr5 (And.intro hv7 (And.intro hn hcs))))))))
  have HP2 := Lib.hid hp2
  clear hlen
  clear hs hH hE hl hl0 hl1 hl2 hl7 hlp hlq hlr hls g0 g1 g2 g3 hr5 hv7 hn hp2 hcs
  go_enter Tryz.func75, Tryz.ntmps75
  go_wp2_with fail
  refine (newBr_ok b n cap w).mono ?_
  rintro e w1 ⟨rfl, hR1, hO1, hz1⟩
  have HR1 := Lib.hid hR1
  have HO1 := Lib.hid hO1
  clear hR1 hO1
  go_wp2_with fail
  refine (newDecoder_ok _ w1).mono ?_
  rintro e w2 ⟨D, S, T, sg, lg, rfl, hD2, hS2, hT2, hsg2, hlg2, hO2, ⟨l1, l2, l3, l4, l5⟩, ⟨n1, n2, n3, n4, n5, n6, n7, n8, n9, n10⟩⟩
  have hz2 := hO2.size
  have hR2 := hO2.blk HR1.out (by simp)
  have hs2 := hO2.seg (HO1.out.seg HS.out (by simp)) (by simp)
  have hE2 := (HE.out.off HO1.out (by simp)).off hO2 (by simp)
  have hH2 := hO2.blk (HO1.out.blk HH.out (by simp)) (by simp)
  obtain ⟨A, hA⟩ : ∃ A : DA, A = ⟨D, sg, lg, S, T, w.heap.size, b, n, cap, l⟩ := ⟨_, rfl⟩
  have hDec : DSt A [] w2 0 0 0 0 0 0 0 0 w2 := by
    rw [hA]
    exact { chain := { ss := ⟨_, zeroBytes_length 32, hS2⟩, ts := ⟨0, 0, 0, by decide, hT2⟩, rd := ⟨-1, hR2⟩, seg := hs2, len := HG.out.2.2.2.2.2.2.2.1, big := by show n ≤ 2147483700; omega, cap := hcap, rb := by show w.heap.size ≠ b; omega, rt := by show w.heap.size ≠ T; omega, rs := by show w.heap.size ≠ S; omega, ts' := n10, tb := by show T ≠ b; omega, sb := by show S ≠ b; omega, eof := hE2, er := by show 1 < w.heap.size; omega, et := by show 1 < T; omega, es := by show 1 < S; omega }
            dec := hD2
            stk := hsg2
            left := hlg2
            nd := ⟨n1, n2, n3, n4, n6, n8, n5, n7, n9, by show D ≠ w.heap.size; omega, by show sg ≠ w.heap.size; omega, by show lg ≠ w.heap.size; omega, by show D ≠ b; omega, by show sg ≠ b; omega, by show lg ≠ b; omega, by show 1 < D; omega, by show 1 < sg; omega, by show 1 < lg; omega⟩
            off := Off.refl _ _ }
  have hAl : A.l = l := by rw [hA]
  have hAn : A.n = n := by rw [hA]
  have hAD : A.D = D := by rw [hA]
  have hHf : A.Far H := by
    rw [hA]
    exact ⟨by show H ≠ D; omega, by show H ≠ sg; omega, by show H ≠ lg; omega, by show H ≠ S; omega, by show H ≠ T; omega, by show H ≠ w.heap.size; omega, fun e => hbH e.symm, hHE⟩
  have hnew : ∀ x, x ∈ A.X → w.heap.size ≤ x := fun x hx => by
    rw [hA] at hx
    simp [DA.X] at hx
    omega
  have hl0 : 0 < A.l.length := by rw [hAl, ← HG.out.2.2.2.2.2.2.2.1]; omega
  have hKf := hDec.far_new hl0 (Nat.le_refl w2.heap.size)
  have HNEW := Lib.hid hnew
  have HHF := Lib.hid hHf
  have HKF := Lib.hid hKf
  have hw12 : w.heap.size ≤ w2.heap.size := by omega
  have hHK : H ≠ w2.heap.size := by omega
  have HHX : Hid (H ∉ A.X ++ [w2.heap.size]) := Lib.hid (by
    simp only [List.mem_append, List.mem_singleton, not_or]
    exact ⟨hHf.x, hHK⟩)
  have HOK : Hid (∀ (a c : World), Off [H] w a → Off (A.X ++ [w2.heap.size]) a c → Off [H] w c) := Lib.hid (fun a c h1 h2 => h1.then h2 (fun x hx => by
    rcases List.mem_append.1 hx with h3 | h3
    · exact Or.inr (hnew x h3)
    · simp at h3; right; omega))
  have HS1 := Lib.hid (D_sval ((hDec.alloc (.cells zeroTok 203)).here [w2.heap.size]) (Blk.new w2 203 zeroTok) hKf (Or.inl (by simp)) (by rw [hAl]; exact HG.out.1))
  rw [hAD] at HS1
  have HH2 := Lib.hid (hH2.alloc (.cells zeroTok 203))
  have HO2 := Lib.hid ((((HO1.out.then hO2 (by simp)).alloc (.cells zeroTok 203)).mono (S' := [H]) (fun x hx => by simp at hx)))
  have hqv := ver_eq
  have hqr := roots_ver
  have hqq := roots_roots
  clear hD2 hS2 hT2 hsg2 hlg2 hO2 hR2 hs2 hE2 hH2 hDec hHf hKf hnew hA
  go_wp2_with fail
  refine HS1.out.mono ?_
  rintro e w3 ⟨rfl, hD3, hK3⟩
  obtain ⟨k0, k1, k2, k3, k4, k5, k6, k7, k8, k9⟩ := tok_cells hK3
  have HD3 := Lib.hid hD3
  have HK3 := Lib.hid hK3
  have HH3 := Lib.hid (hD3.off.blk HH2.out HHX.out)
  have HO3 := Lib.hid (HOK.out _ _ HO2.out hD3.off)
  clear hD3 hK3
  go_wp2_with fail
  refine wp_loop_rounds 3 ?_
  rw [rounds_succ]
  go_wp2_with (first | ((with_reducible show wpList _ _ _ _ _ _); refine wpList_build0 rfl 203 rfl zeroTok built_tok ?_) | ((with_reducible show wpList _ _ _ _ _ _); refine wpList_store_row rfl 203 (.tmp 6) (.tmp 34) rfl w2.heap.size zeroTok rfl rfl 203 _ HK3.out tok_info rfl zero_all ?_))
  have hz3 := off_zero HK3.out
  have HS2 := Lib.hid (D_skey5 ((HD3.out.tok HKF.out (Or.inl (by simp)) hz3).here [w2.heap.size]) (blk_zero HK3.out) HKF.out (Or.inl (by simp)) (by rw [hAl]; exact HG.out.2.1) (by rw [hAn]; omega))
  rw [hAD, hAl, HG.out.2.2.2.2.2.1] at HS2
  have HH3' := Lib.hid (hz3.blk HH3.out (ni1 hHK))
  have HO3' := Lib.hid (HOK.out _ _ HO3.out (hz3.mono (S' := A.X ++ [w2.heap.size]) (fun x hx => by simp at hx; simp [hx])))
  clear k0 k1 k2 k3 k4 k5 k6 k7 k8 k9 hz3
  refine HS2.out.mono ?_
  rintro e w4 ⟨rfl, hD4, hK4⟩
  obtain ⟨k0, -, k2, -⟩ := tok_cells hK4
  have HH4 := Lib.hid (hD4.off.blk HH3'.out HHX.out)
  have HO4 := Lib.hid (HOK.out _ _ HO3'.out hD4.off)
  have HR := Lib.hid (zzDecodeRoots_ok A w4 _ _ _ _ _ H r 0 cs _ (hD4.here []) HH4.out HHF.out hnl HG.out.2.2.2.2.2.2.2.2 (by rw [hAl]; exact HG.out.2.2.2.2.1))
  rw [hAD] at HR
  have HK4 := Lib.hid hK4
  clear hD4 hK4
  go_wp2_with fail
  refine HR.out.mono ?_
  rintro e w5 ⟨rfl, r', hD5, hH5⟩
  rw [← HP2.out] at hD5
  clear k0 k2
  have hKo : w2.heap.size ∉ A.X ++ [H] := by
    simp only [List.mem_append, List.mem_singleton, not_or]
    exact ⟨HKF.out.x, fun e => hHK e.symm⟩
  have hK5 := hD5.off.blk HK4.out hKo
  have HO5 := Lib.hid (HO4.out.then hD5.off (fun x hx => by
    rcases List.mem_append.1 hx with h3 | h3
    · exact Or.inr (HNEW.out x h3)
    · exact Or.inl h3))
  have HD5 := Lib.hid (hD5.here [w2.heap.size])
  have HK5 := Lib.hid hK5
  have HH5 := Lib.hid hH5
  clear hD5 hH5 hK5
  go_wp2_with fail
  rw [rounds_succ]
  go_wp2_with (first | ((with_reducible show wpList _ _ _ _ _ _); refine wpList_build0 rfl 203 rfl zeroTok built_tok ?_) | ((with_reducible show wpList _ _ _ _ _ _); refine wpList_store_row rfl 203 (.tmp 6) (.tmp 34) rfl w2.heap.size zeroTok rfl rfl 203 _ HK5.out tok_info rfl zero_all ?_))
  have hz5 := off_zero HK5.out
  have HS3 := Lib.hid (D_skey7 ((HD5.out.tok HKF.out (Or.inl (by simp)) hz5).here [w2.heap.size]) (blk_zero HK5.out) HKF.out (Or.inl (by simp)) (by rw [hAl]; exact HG.out.2.2.1) (by rw [hAn]; omega))
  rw [hAD, hAl, HG.out.2.2.2.2.2.2.1] at HS3
  have HH5' := Lib.hid (hz5.blk HH5.out (ni1 hHK))
  have HO5' := Lib.hid (HOK.out _ _ HO5.out (hz5.mono (S' := A.X ++ [w2.heap.size]) (fun x hx => by simp at hx; simp [hx])))
  clear hz5
  refine HS3.out.mono ?_
  rintro e w6 ⟨rfl, hD6, hK6⟩
  obtain ⟨k0, -, k2, -⟩ := tok_cells hK6
  have HH6 := Lib.hid (hD6.off.blk HH5'.out HHX.out)
  have HO6 := Lib.hid (HOK.out _ _ HO5'.out hD6.off)
  have HD6 := Lib.hid hD6
  have HK6 := Lib.hid hK6
  clear hD6 hK6
  go_wp2_with (first | ((with_reducible show wpList _ _ _ _ _ _); refine wpList_build0 rfl 203 rfl zeroTok built_tok ?_) | ((with_reducible show wpList _ _ _ _ _ _); refine wpList_store_row rfl 203 (.tmp 6) (.tmp 57) rfl w2.heap.size zeroTok rfl rfl 203 _ HK6.out tok_info rfl zero_all ?_))
  have hz6 := off_zero HK6.out
  have HS4 := Lib.hid (D_sone ((HD6.out.tok HKF.out (Or.inl (by simp)) hz6).here [w2.heap.size]) (blk_zero HK6.out) HKF.out (Or.inl (by simp)) (by rw [hAl]; exact HG.out.2.2.2.1))
  rw [hAD] at HS4
  have HH6' := Lib.hid (hz6.blk HH6.out (ni1 hHK))
  have HO6' := Lib.hid (HOK.out _ _ HO6.out (hz6.mono (S' := A.X ++ [w2.heap.size]) (fun x hx => by simp at hx; simp [hx])))
  clear hz6 k0 k2
  refine HS4.out.mono ?_
  rintro e w7 ⟨rfl, hD7, hK7⟩
  obtain ⟨k0, -, -, -, -, -, k6, -⟩ := tok_cells hK7
  have hH7 := hD7.off.blk HH6'.out HHX.out
  have q1 := hH7.cell 1
  have qf1 := hH7.frozen 1
  simp at q1
  have HD7 := Lib.hid (hD7.here [w2.heap.size, H] |>.tset HHF.out (Or.inl (by simp)) 1 (.int .u64 1))
  have HK7 := Lib.hid (hK7.far (p := ⟨H, 1, none⟩) (fun e => hHK e.symm) (.int .u64 1))
  have HH7 := Lib.hid (hH7.set_ 1 (.int .u64 1))
  have HO7 := Lib.hid ((HOK.out _ _ HO6'.out hD7.off).setCell (p := ⟨H, 1, none⟩) (Or.inl (by simp)) (.int .u64 1))
  clear hD7 hK7 hH7
  go_wp2_with fail
  rw [rounds_succ]
  go_wp2_with (first | ((with_reducible show wpList _ _ _ _ _ _); refine wpList_build0 rfl 203 rfl zeroTok built_tok ?_) | ((with_reducible show wpList _ _ _ _ _ _); refine wpList_store_row rfl 203 (.tmp 6) (.tmp 34) rfl w2.heap.size zeroTok rfl rfl 203 _ HK7.out tok_info rfl zero_all ?_))
  have hz7 := off_zero HK7.out
  have HS5 := Lib.hid (D_send ((HD7.out.tok HKF.out (Or.inl (by simp)) hz7).here [w2.heap.size]) (blk_zero HK7.out) HKF.out (Or.inl (by simp)))
  rw [hAD] at HS5
  have HH7' := Lib.hid (hz7.blk HH7.out (ni1 hHK))
  have HO7' := Lib.hid (HOK.out _ _ HO7.out (hz7.mono (S' := A.X ++ [w2.heap.size]) (fun x hx => by simp at hx; simp [hx])))
  clear hz7 k0 k6
  refine HS5.out.mono ?_
  rintro e w8 ⟨rfl, hD8, hK8⟩
  obtain ⟨k0, -⟩ := tok_cells hK8
  have HH8 := Lib.hid (hD8.off.blk HH7'.out HHX.out)
  have HO8 := Lib.hid (HOK.out _ _ HO7'.out hD8.off)
  clear hD8 hK8
  go_wp2_with fail
  go_ret
  exact ⟨rfl, r', HH8.out, HO8.out⟩
end Go.Proofs.YthmhnknkidkdlaaGreatDoor
namespace Go.Proofs.YthmhnknkidkdlaaGreatDoor
open Go.RowKit

set_option maxRecDepth 100000 in
set_option maxHeartbeats 1000000 in
theorem readHeader_at {R b cap : Nat} {l t : List UInt8} {w : World} (h : RAt R b cap l 0 w) (cs : List (List UInt8)) (hl : l = hdrB cs 1 ++ t) (hnl : cs.length ≤ 100) (hcs : ∀ c, c ∈ cs → LinkOk c) (hE : Eof w) (hER : 1 < R) (most : Nat) (hmost : 1000000 ≤ most) (hbig : (hdrBody cs 1).length ≤ 1000000) :
    Calls Tryz.prog 52 #[.iface 55 (.pointer (some ⟨R, 0, none⟩)), .int .u64 most] w fun e w' => ∃ H r', e = .returned (.tuple #[.pointer (some ⟨H, 0, none⟩), .nilIface]) ∧ Blk w' H 129 #[r', .int .u64 1] ∧ RAt R b cap l (hdrB cs 1).length w' ∧ Off [R] w w' := by
  have hRl := h.lt
  have hEl : 1 < w.heap.size := by obtain ⟨q, hq⟩ := hE; exact World.block_lt_of_cell? _ _ hq
  obtain ⟨B, hB⟩ : ∃ B, B = hdrBody cs 1 := ⟨_, rfl⟩
  have hl0 : l.drop 0 = Lib.uvarint B.length ++ (B ++ t) := by rw [List.drop_zero, hl, hdrB, ← hB, List.append_assoc]
  have hpos : 0 < B.length := by rw [hB]; unfold hdrBody; rw [List.length_append]; have := (hd_len 5 2).1; omega
  rw [← hB] at hbig
  obtain ⟨n, hn⟩ : ∃ n, n = B.length := ⟨_, rfl⟩
  have HC := Lib.hid (ldRead_at h B.length (by omega) hpos hl0 (by rw [List.length_append]; omega) most (by omega))
  rw [List.take_left' rfl] at HC
  have hhl : 0 + (Lib.uvarint B.length).length + B.length = (hdrB cs 1).length := by rw [hdrB, ← hB, List.length_append]; omega
  rw [hhl, ← hn] at HC
  have HE := Lib.hid hE
  have HB := Lib.hid hB
  have HN := Lib.hid hn
  have HCS := Lib.hid hcs
  have hbl : b < w.heap.size := h.seg.lt (by rw [hl, hdrB, ← hB]; simp; omega)
  have hn6 : n ≤ 1000000 := by omega
  clear h hE hB hl hl0 hcs hbig hhl hn hpos
  go_enter Tryz.func52, Tryz.ntmps52
  go_wp2_with fail
  refine HC.out.mono ?_
  rintro e w1 ⟨g, hg, rfl, hB1, hR1, hO1⟩
  have hgl := hB1.lt
  have HO1 := Lib.hid hO1
  have hz1 := hO1.size
  have hal : Off [] w1 (w1.alloc (.cells #[.slice none 0 0, .int .u64 0] 129)) := (Off.refl [] w1).alloc _
  have HZ := Lib.hid (zzDecode_header g w1.heap.size n n (.slice none 0 0) cs (w1.alloc (.cells #[.slice none 0 0, .int .u64 0] 129)) (by rw [← HB.out]; exact (Blk.seg' hB1).alloc hgl _) (by rw [← HB.out]; exact HN.out) hnl HCS.out (Blk.new w1 _ _) ((HE.out.off hO1 (ni1 (by omega))).off (S := []) hal (by simp)) (Nat.le_refl _) hn6 (by omega) (by omega) (by omega))
  have HR1 := Lib.hid (hR1.off hal (by simp) (by simp))
  have hRl1 := hR1.lt
  clear hB1 hR1 hO1 hal
  go_wp2_with fail
  refine HZ.out.mono ?_
  rintro e w2 ⟨rfl, r', hH2, hO2⟩
  have HH2 := Lib.hid hH2
  have HO2 := Lib.hid hO2
  clear hH2 hO2
  go_wp2_with fail
  go_ret2
  exact ⟨_, r', rfl, HH2.out, HR1.out.off HO2.out (ni1 (by omega)) (ni1 (by omega)), (HO1.out.alloc _).then HO2.out (fun x h => by simp at h; right; omega)⟩
end Go.Proofs.YthmhnknkidkdlaaGreatDoor
