/-
  car.LoadIndex over a file of version 1 that ends behind its sections, whatever the index's kind.
  (No condition beyond those that each theorem states.)
-/
import Derived.Test.YthmhnknkidkdlaaGreatDoorB39
import Derived.Test.YthmhnknkidkdlaaGreatDoorB48
import Derived.Test.YthmhnknkidkdlaaGreatDoorB49
namespace Go.Proofs.YthmhnknkidkdlaaGreatDoor
open Go.RowKit

theorem opt_infoK (kd : Nat) : (Tryz.prog.info? 75).map (·.size) = some (optCellsZ false (kd : Int) 2048).size := by kernel_rfl
theorem opt_allK (kd : Nat) : (optCellsZ false (kd : Int) 2048).all (·.oneCell') = true := by kernel_rfl

set_option maxRecDepth 100000 in
set_option maxHeartbeats 3000000 in
theorem loadIndex_k {kd ty fL : Nat} {Emp : Nat → Nat → World → Prop} {Full : Nat → Nat → Nat → List Ent → World → Prop} (KN : Knd kd ty fL Emp Full) (rs : List Ent) (bs : List Bk) (l : List UInt8) (g n8 c8 R b cap pb mm : Nat) (w : World) (hrs : ∀ e, e ∈ rs → e.ok ∧ e.dg.size ≤ 200) (hbs : ∀ b, b ∈ bs → b.ok) (hn2 : rs.length ≤ 50) (hm2 : bs.length ≤ 50)
    (ho : OptV kd (.slice (some ⟨g, 0, none⟩) n8 c8) w) (h : RAt R b cap l 0 w) (hl : l = hdrB (rs.map cidB) 1 ++ secs bs) (qe : Addr) (hE : EofA qe w) (hER : 1 < R) (hemp : Emp pb mm w) (_hpl : pb < w.heap.size) (_hmlt : mm < w.heap.size) (hpm : pb ≠ mm) (hpR : pb ≠ R) (hmR : mm ≠ R) (hmb : mm ≠ b) :
    Calls Tryz.prog 27 #[.iface ty (.pointer (some ⟨pb, 0, none⟩)), .iface 55 (.pointer (some ⟨R, 0, none⟩)), .slice (some ⟨g, 0, none⟩) n8 c8] w fun e w' => e = .returned .nilIface ∧ (Off [R, mm] w w' ∧ ∃ B0, w.heap.size ≤ B0 ∧ Full B0 pb mm (genE (hdrB (rs.map cidB) 1).length bs) w') ∧ ∃ i, RAt R b cap l i w' := by
  obtain ⟨i0, hi, hz0, hz1, hz2⟩ := info_parts Tryz.infoRec
  have hmkr := run_makeRec
  obtain ⟨cs, hcs⟩ : ∃ cs, cs = rs.map cidB := ⟨_, rfl⟩
  have hlink : ∀ c, c ∈ cs → LinkOk c := fun c hc => by
    rw [hcs] at hc
    obtain ⟨e, he, rfl⟩ := List.mem_map.1 hc
    obtain ⟨h1, h2⟩ := hrs e he
    have h3 := (cidB_len h1).2
    have h4 := h1.small
    exact ⟨e.code, e.dg.data.toList, cidB_is h1, h4, by omega⟩
  have hcl : cs.length ≤ 100 := by rw [hcs, List.length_map]; omega
  obtain ⟨a, ha⟩ : ∃ a, a = (hdrB (rs.map cidB) 1).length := ⟨_, rfl⟩
  have ha2 : a ≤ 13000 := by rw [ha]; exact hdrB_len rs hrs hn2
  have hbody : (hdrBody cs 1).length ≤ 1000000 := by
    have h1 := ha2
    rw [ha, ← hcs, hdrB, List.length_append] at h1
    omega
  obtain ⟨m, hm⟩ : ∃ m, m = bs.length := ⟨_, rfl⟩
  rw [← hm] at hm2
  have hl' : l = hdrB cs 1 ++ secs bs := by rw [hl, hcs]
  have hla : l.drop a = secs bs := by rw [hl, ha, List.drop_left' rfl]
  have hRl := h.lt
  have hbl : b < w.heap.size := h.seg.lt (by rw [hl, hdrB, List.length_append, List.length_append]; have := Lib.uvarint_pos (hdrBody (rs.map cidB) 1).length; omega)
  have hal : a ≤ l.length := by rw [hl, List.length_append, ← ha]; omega
  have hEl : 1 < w.heap.size := by exact World.block_lt_of_cell? _ _ hE
  have hsec : ∀ i, i ≤ m → (secs (bs.take i)).length ≤ 33100 * i := fun i => by
    induction i with
    | zero => intro _; simp [secs]
    | succ i ih =>
      intro hi
      have hib : i < bs.length := by rw [← hm]; omega
      have h1 := secB_len (hbs bs[i] (List.getElem_mem _))
      have h2 := ih (by omega)
      rw [List.take_succ_eq_append_getElem hib, secs_snoc, List.length_append]
      omega
  have HA0 := Lib.hid (ho.at)
  have HH0 := Lib.hid (fun W (h1 : RAt R b cap l 0 W) (h2 : Eof W) => readHeader_at h1 cs hl' hcl hlink h2 hER 33554432 (by omega) hbody)
  have hhl : (hdrB cs 1).length = a := by rw [ha, hcs]
  rw [hhl] at HH0
  have HRA := Lib.hid h
  have HE := Lib.hid hE
  have HEM := Lib.hid hemp
  have HKN := Lib.hid KN
  have heL := KN.ent
  have HBS := Lib.hid hbs
  have HLA := Lib.hid hla
  have HM := Lib.hid hm
  have HAA := Lib.hid ha
  have HSEC := Lib.hid hsec
  have hm1 := method_seek
  have hm2' := fun W => KN.meth ⟨pb, 0, none⟩ W
  clear KN hrs hbs ho h hl hE hemp hlink hbody hl' hla hm hsec ha hcs hhl
  go_enter Tryz.func27, Tryz.ntmps27
  go_wp2_with fail
  refine HA0.out.mono ?_
  rintro e w1 ⟨rfl, hO1⟩
  have hz1' := hO1.size
  have hrow : Blk ((w1.alloc (.cells zeroOptsZ 75)).setRow w1.heap.size (optCellsZ false (kd : Int) 2048)) w1.heap.size 75 (optCellsZ false (kd : Int) 2048) := setRow_heap _ _ _ _ _ _ (Blk.new w1 _ zeroOptsZ)
  have hoff : Off [] w ((w1.alloc (.cells zeroOptsZ 75)).setRow w1.heap.size (optCellsZ false (kd : Int) 2048)) := (hO1.alloc (.cells zeroOptsZ 75)).then (off_setRow (Blk.new w1 _ zeroOptsZ) _) (fun x h => by simp at h; right; omega)
  obtain ⟨w2, hw2⟩ : ∃ w2, w2 = (w1.alloc (.cells zeroOptsZ 75)).setRow w1.heap.size (optCellsZ false (kd : Int) 2048) := ⟨_, rfl⟩
  rw [← hw2] at hrow hoff
  have c11 : w2.cell? ⟨w1.heap.size, 11, none⟩ = some (.int .u64 33554432) := hrow.cell 11
  have HH1 := Lib.hid (HH0.out w2 (HRA.out.off hoff (by simp) (by simp)) (HE.out.eof.off hoff (by simp)))
  have HROW := Lib.hid hrow
  have HOFF := Lib.hid hoff
  have HW2 := Lib.hid hw2
  clear hrow hoff hw2 hO1
  unfold zeroOptsZ at HW2
  go_wp2_with (first
    | ((with_reducible show wpList _ _ _ _ _ _); refine wpList_store_row rfl 75 (.tmp 7) (.tmp 26) rfl w1.heap.size (optCellsZ false (kd : Int) 2048) rfl rfl 75 _ (Blk.new w1 _ _) (opt_infoK kd) rfl (opt_allK kd) ?_; rw [← HW2.out])
    | (go_at_call 51; refine (toBrs _ _).mono ?_; rintro e w' ⟨rfl, rfl⟩))
  refine HH1.out.mono ?_
  rintro e w3 ⟨H, r', rfl, hH3, hR3, hO3⟩
  have x1 := hH3.cell 1
  simp at x1
  have hO3' : Off [R] w w3 := (HOFF.out.mono (S' := [R]) (fun x hx => by simp at hx)).then hO3 (fun x hx => Or.inl hx)
  have hO1R : w1.heap.size ≠ R := by omega
  have hrow3 := hO3.blk HROW.out (ni1 hO1R)
  have hSK := Lib.hid (seek_on hR3 0 (by omega))
  rw [show ((0 : Nat) : Int) = 0 from rfl, Nat.add_zero] at hSK
  have HROW3 := Lib.hid hrow3
  have HO3 := Lib.hid hO3'
  clear hH3 hR3 hO3 hO3' hrow3
  go_wp2_with fail
  refine hSK.out.mono ?_
  rintro e w4 ⟨rfl, hR4, hO4⟩
  have hrow4 := hO4.blk HROW3.out (ni1 hO1R)
  have HROW4 := Lib.hid hrow4
  have HO4 := Lib.hid (HO3.out.then hO4 (fun x hx => Or.inl hx))
  have hRW4 : RecsAt w4 (w4.alloc (.cells #[] 143)) (some ⟨w4.heap.size, 0, none⟩) 0 [] := Or.inr ⟨w4.heap.size, [], rfl, Nat.le_refl _, Blk.new w4 _ _, rfl, Nat.le_refl _, by unfold maxLen; omega⟩
  have HRW4 := Lib.hid hRW4
  have HR4 := Lib.hid (hR4.off ((Off.refl [] w4).alloc (.cells #[] 143)) (by simp) (by simp))
  have hRl4 := hR4.lt
  have hsz4 := HO4.out.size
  clear hR4 hO4 hrow4 hRW4
  go_wp2_with fail
  go_loopg [17, 18] (m + 1) (fun kx x17 x18 wr => ∃ (j k off : Nat) (A' : Option Addr) (cap' : Nat), x17 = .int .i64 (off : Int) ∧ x18 = .slice A' k cap' ∧ j ≤ m ∧ m - j ≤ kx ∧ k ≤ 50 ∧ off ≤ 13000 + 33100 * j ∧ Hid (off = a + (secs (bs.take j)).length) ∧ Hid (k = (genE a (bs.take j)).length) ∧ Hid (RAt R b cap l off wr) ∧ Hid (RecsAt w4 wr A' cap' ((genE a (bs.take j)).map Ent.it)) ∧ Hid (Off [R] w4 wr))
  case atStart => exact ⟨0, 0, a, _, _, rfl, rfl, Nat.zero_le _, by omega, by omega, by omega, Lib.hid (by simp [secs]), Lib.hid (by simp [genE]), HR4, HRW4, Lib.hid ((Off.refl [R] w4).alloc _)⟩
  case round =>
    rename World => wr
    obtain ⟨j, k, off, A', cap', rfl, rfl, hjm, hkx, hk50, hoffb, HOF, HK, HR, HRC, HO⟩ := hrel
    have hrow := HO.out.blk HROW4.out (ni1 hO1R)
    have HRW := Lib.hid hrow
    by_cases hlt : j < m
    · have hie : j < bs.length := by rw [← HM.out]; exact hlt
      obtain ⟨bk, hbk⟩ : ∃ bk, bk = bs[j] := ⟨_, rfl⟩
      have hok := HBS.out bk (by rw [hbk]; exact List.getElem_mem _)
      obtain ⟨ent, data⟩ := bk
      obtain ⟨c, hc⟩ : ∃ c, c = cidB ent := ⟨_, rfl⟩
      have hcl4 : 4 ≤ c.length := by rw [hc]; exact (cidB_len hok.e).1
      have hcl5 : c.length ≤ ent.dg.size + 31 := by rw [hc]; exact (cidB_len hok.e).2
      have hdg : ent.dg.size ≤ 200 := hok.dg
      have hdt : data.size ≤ 32768 := hok.data
      obtain ⟨n, hn⟩ : ∃ n, n = c.length + data.size := ⟨_, rfl⟩
      have hdl : data.data.toList.length = data.size := by simp
      have hsplit : secs bs = secs (bs.take j) ++ (secB c data.data.toList ++ secs (bs.drop (j + 1))) := by
        have h1 : bs = bs.take j ++ ((ent, data) :: bs.drop (j + 1)) := by rw [hbk, ← List.drop_eq_getElem_cons hie, List.take_append_drop]
        have h2 : secs bs = secs (bs.take j ++ ((ent, data) :: bs.drop (j + 1))) := congrArg secs h1
        rw [h2]
        unfold secs
        rw [List.map_append, List.flatMap_append, List.map_cons, List.flatMap_cons]
        rw [hc]
        rfl
      have hdrop : l.drop off = Lib.uvarint n ++ (c ++ (data.data.toList ++ secs (bs.drop (j + 1)))) := by
        have h1 : l.drop (a + (secs (bs.take j)).length) = secB c data.data.toList ++ secs (bs.drop (j + 1)) := by
          have h2 : l.drop a = secs (bs.take j) ++ (secB c data.data.toList ++ secs (bs.drop (j + 1))) := by rw [HLA.out, hsplit]
          exact drop_more h2
        rw [HOF.out, h1, secB, hdl, ← hn]
        simp only [List.append_assoc]
      obtain ⟨o1, ho1⟩ : ∃ o1, o1 = off + (Lib.uvarint n).length := ⟨_, rfl⟩
      have hdrop1 : l.drop o1 = c ++ (data.data.toList ++ secs (bs.drop (j + 1))) := by rw [ho1]; exact drop_more hdrop
      have hdrop2 : l.drop (o1 + c.length) = data.data.toList ++ secs (bs.drop (j + 1)) := drop_more hdrop1
      have hlen2 : o1 + c.length + data.size ≤ l.length := by
        rcases drop_lt hdrop1 with h1 | ⟨h1, _, _⟩
        · rw [List.length_append, hdl] at h1; omega
        · rw [h1] at hcl4; simp at hcl4
      obtain ⟨o2, ho2⟩ : ∃ o2, o2 = o1 + c.length + data.size := ⟨_, rfl⟩
      have hulen := Lib.uvarint_length64 (x := n) (by omega)
      have hsl : (secB c data.data.toList).length = (Lib.uvarint n).length + (c.length + data.size) := by rw [secB, List.length_append, List.length_append, hdl, ← hn]
      have ho2' : o2 = a + (secs (bs.take (j + 1))).length := by
        rw [List.take_succ_eq_append_getElem hie, secs_snoc, ← hbk, List.length_append, ← hc, hsl, ho2, ho1, HOF.out]
        omega
      have htk : genE a (bs.take (j + 1)) = genE a (bs.take j) ++ (if ent.code = 0 then [] else [⟨ent.ver, ent.codec, ent.code, ent.dg, off⟩]) := by
        rw [List.take_succ_eq_append_getElem hie, genE_snoc, ← hbk, ← HOF.out]
      have hkl : (genE a (bs.take (j + 1))).length ≤ 50 := by
        have h1 := genE_len a (bs.take (j + 1))
        rw [List.length_take] at h1
        omega
      have hcid : IsCid c ent.code ent.dg.data.toList := by rw [hc]; exact cidB_is hok.e
      have hdgl : ent.dg.data.toList.length ≤ 1000 := hok.e.small
      obtain ⟨q, hq⟩ : ∃ q, q = c.length := ⟨_, rfl⟩
      have HV := Lib.hid (readUvarint_at HR.out n (by omega) hdrop)
      rw [← ho1] at HV
      have HCF := Lib.hid (fun W (hW : RAt R b cap l o1 W) => cidFromReader_any hW ent.code ent.dg.data.toList hcid hdgl hdrop1)
      rw [← hq] at HCF
      have HSK := Lib.hid (fun W (hW : RAt R b cap l (o1 + q) W) => seek_on hW data.size (by rw [hq]; exact hlen2))
      rw [show o1 + q + data.size = o2 by rw [hq, ho2]] at HSK
      obtain ⟨sc, hsc⟩ : ∃ sc, sc = str c := ⟨_, rfl⟩
      rw [← hsc] at HCF
      have HPF := Lib.hid (fun W => prefix_any sc ent.code ent.dg.data.toList (by rw [hsc]; exact hcid) (by omega) W)
      have hn0 : ((n : Int) == 0) = false := beq_eq_false_iff_ne.2 (by omega)
      have hq2048 : ¬ ((2048 : Int) < (q : Int)) := by omega
      have hqw : IntKind.u64.wrap (q : Int) = (q : Int) := by rw [IntKind.wrap_u64]; omega
      have hnw : IntKind.i64.wrap (n : Int) = (n : Int) := by rw [IntKind.wrap_i64]; omega
      have hoffw : IntKind.u64.wrap (off : Int) = (off : Int) := by rw [IntKind.wrap_u64]; omega
      have hsub : (n : Int) - (q : Int) = (data.size : Int) := by omega
      have hdw : IntKind.i64.wrap (data.size : Int) = (data.size : Int) := by rw [IntKind.wrap_i64]; omega
      have ho2b : o2 ≤ 13000 + 33100 * (j + 1) := by omega
      have hent : ent.ok := hok.e
      have HENT := Lib.hid hent
      have HSC := Lib.hid (And.intro hsc hc)
      have HO2 := Lib.hid ho2'
      have HTK := Lib.hid htk
      have HKL := Lib.hid hkl
      have z3 : wr.cell? ⟨w1.heap.size, 3, none⟩ = some (.bool false) := hrow.cell 3
      clear hbk hok hc hcl4 hcl5 hdg hdt hn hdl hsplit hdrop ho1 hdrop1 hdrop2 hlen2 ho2 hulen hsl ho2' htk hkl hcid hdgl hq hsc hent hrow
      go_wp2_with fail
      refine HV.out.mono ?_
      rintro e wa ⟨rfl, hRa, hOa⟩
      have HCF1 := Lib.hid (HCF.out wa hRa)
      have HOa := Lib.hid hOa
      clear hRa hOa
      go_wp2_with fail
      refine HCF1.out.mono ?_
      rintro e wb ⟨rfl, hRb, hOb⟩
      have hOab : Off [R] wr wb := HOa.out.then hOb (fun x hx => Or.inl hx)
      have hrowb := hOab.blk HRW.out (ni1 hO1R)
      have z5 : ∀ ob, (wb.alloc ob).cell? ⟨w1.heap.size, 5, none⟩ = some (.bool false) := fun ob => (hrowb.alloc ob).cell 5
      have HPF1 := Lib.hid (HPF.out (wb.alloc (.cells #[.string sc] 133)))
      have HCC := Lib.hid (Blk.new wb 133 #[.string sc])
      have HRb := Lib.hid hRb
      have HOAB := Lib.hid hOab
      have HRWB := Lib.hid hrowb
      clear hRb hOb hOab hrowb
      go_wp2_with fail
      refine HPF1.out.mono ?_
      rintro e wc ⟨pv, pc, pn, rfl, hOc⟩
      have hOac : Off [R] wr wc := (HOAB.out.alloc _).then hOc (fun x hx => by simp at hx)
      have hrowc := hOc.blk (HRWB.out.alloc (.cells #[.string sc] 133)) (by simp)
      have z4 : wc.cell? ⟨w1.heap.size, 4, none⟩ = some (.int .u64 2048) := hrowc.cell 4
      have hCCc := hOc.blk HCC.out (by simp)
      have y0 := hCCc.cell 0
      simp at y0
      have hRc := (HRb.out.off ((Off.refl [] wb).alloc (.cells #[.string sc] 133)) (by simp) (by simp)).off hOc (by simp) (by simp)
      have hRCc : RecsAt w4 wc A' cap' ((genE a (bs.take j)).map Ent.it) := by
        rcases HRC.out with ⟨h1, h2, h3⟩ | ⟨g0, sp, h1, h2, h3, h4⟩
        · exact Or.inl ⟨h1, h2, h3⟩
        · exact Or.inr ⟨g0, sp, h1, h2, hOac.blk h3 (ni1 (by omega)), h4⟩
      have HRc := Lib.hid hRc
      have HRCc := Lib.hid hRCc
      have HOAC := Lib.hid hOac
      clear hOc hOac hrowc hCCc hRc hRCc
      by_cases hc0' : ent.code = 0
      · have hcz : ((ent.code : Int) == 0) = true := by simp [hc0']
        have HC0 := Lib.hid hc0'
        have hfd := field_pfx pv pc pn (ent.code : Int)
        have HSK1 := Lib.hid (HSK.out wc HRc.out)
        clear hc0'
        go_wp2_with fail
        refine HSK1.out.mono ?_
        rintro e wd ⟨rfl, hRd, hOd⟩
        have HRd := Lib.hid hRd
        have HOd := Lib.hid hOd
        clear hRd hOd
        go_wp2_with fail
        go_roundg (m - (j + 1))
        case measure => omega
        case rel =>
          have e1 : genE a (bs.take (j + 1)) = genE a (bs.take j) := by rw [HTK.out, if_pos HC0.out, List.append_nil]
          refine ⟨j + 1, k, o2, A', cap', rfl, rfl, by omega, Nat.le_refl _, hk50, ho2b, HO2, Lib.hid (by rw [e1]; exact HK.out), HRd, Lib.hid ?_, Lib.hid ((HO.out.then HOAC.out (fun x hx => Or.inl hx)).then HOd.out (fun x hx => Or.inl hx))⟩
          rw [e1]
          rcases HRCc.out with ⟨h1, h2, h3⟩ | ⟨g0, sp, h1, h2, h3, h4⟩
          · exact Or.inl ⟨h1, h2, h3⟩
          · exact Or.inr ⟨g0, sp, h1, h2, HOd.out.blk h3 (ni1 (by omega)), h4⟩
      · have hcz : ((ent.code : Int) == 0) = false := beq_eq_false_iff_ne.2 (by omega)
        have HC0 := Lib.hid hc0'
        have hfd := field_pfx pv pc pn (ent.code : Int)
        have hown : ∀ wX, Off [] wc wX → wX.ownsRow 0 143 2 (.slice A' k cap') k (flatI ((genE a (bs.take j)).map Ent.it)) := fun wX ho => by
          have htl : ((genE a (bs.take j)).map Ent.it).length = k := by rw [List.length_map]; exact HK.out.symm
          have := HRCc.out.owns ho
          rwa [htl] at this
        have HOWN := Lib.hid hown
        have hfl : (flatI ((genE a (bs.take j)).map Ent.it)).length = k * 2 := by rw [flatI_length, List.length_map, ← HK.out]
        have HFL := Lib.hid hfl
        have HNEW := Lib.hid (news_alloc wc [.string sc, .int .u64 (off : Int)] 143)
        have hkl : k < 50 := by
          have h1 := HKL.out
          rw [HTK.out, if_neg HC0.out, List.length_append, ← HK.out] at h1
          simp at h1
          omega
        clear hc0' hown hfl
        go_wp2_with (first
          | (at_builtin; refine wpList_append_blk rfl _ _ 130 rfl 143 i0 _ 2 24 Tryz.underlying130 hi hz0 hz1 hz2 rfl (by decide) (.slice A' k cap') k (flatI ((genE a (bs.take j)).map Ent.it)) HFL.out rfl
               (HOWN.out _ ((Off.refl [] wc).alloc _)) ⟨wc.heap.size, 0, none⟩ 1 [.string sc, .int .u64 (off : Int)] rfl rfl HNEW.out (oneR _ _ _) (by unfold maxLen; omega) (by omega) ?_
             intro g' cap2 sp' w5 hb5 q1 q2 q3 hg5 ho5 hown5
             have HQ1 := Lib.hid (And.intro q1 q2)
             have HQ3 := Lib.hid q3; have HG5 := Lib.hid hg5
             have HO5 := Lib.hid (ho5.out (Value.slice A' k cap').ownBlock.toList (fun g hg => by simp [hg]))
             have hge : ∀ x, x ∈ (Value.slice A' k cap').ownBlock.toList → w4.heap.size ≤ x := fun x hx => HRCc.out.own (n := k) x (by simpa using hx)
             have hR5 : RAt R b cap l (o1 + q) w5 := (HRc.out.off ((Off.refl [] wc).alloc (.cells #[.string sc, .int .u64 (off : Int)] 143)) (by simp) (by simp)).off HO5.out (fun hx => by have := hge R hx; omega) (fun hx => by have := hge b hx; omega)
             have HGE := Lib.hid hge
             have HSK1 := Lib.hid (HSK.out w5 hR5)
             clear q1 q2 q3 hg5 hown5 hR5 hge ho5))
        refine HSK1.out.mono ?_
        rintro e wd ⟨rfl, hRd, hOd⟩
        have HRd := Lib.hid hRd
        have HOd := Lib.hid hOd
        clear hRd hOd
        go_wp2_with fail
        go_roundg (m - (j + 1))
        case measure => omega
        case rel =>
          have e1 : (genE a (bs.take (j + 1))).map Ent.it = (genE a (bs.take j)).map Ent.it ++ [(⟨ent.ver, ent.codec, ent.code, ent.dg, off⟩ : Ent).it] := by
            rw [HTK.out, if_neg HC0.out, List.map_append]
            rfl
          have e4 : flatI [(⟨ent.ver, ent.codec, ent.code, ent.dg, off⟩ : Ent).it] = [.string sc, .int .u64 (off : Int)] := by
            have h3 : (⟨ent.ver, ent.codec, ent.code, ent.dg, off⟩ : Ent).it.s = sc := (it_s HENT.out).trans (by rw [← HSC.out.2, ← HSC.out.1])
            show [Value.string (⟨ent.ver, ent.codec, ent.code, ent.dg, off⟩ : Ent).it.s, .int .u64 (off : Int)] = _
            rw [h3]
          have e2 : (genE a (bs.take (j + 1))).length = k + 1 := by
            rw [HTK.out, if_neg HC0.out, List.length_append, ← HK.out]; rfl
          have e3 : ((genE a (bs.take (j + 1))).map Ent.it).length = k + 1 := by rw [List.length_map, e2]
          have hO45 : Off [R] w4 w5 := ((HO.out.then HOAC.out (fun x hx => Or.inl hx)).alloc (.cells #[.string sc, .int .u64 (off : Int)] 143)).then HO5.out (fun x hx => Or.inr (HGE.out x hx))
          have hg'4 : w4.heap.size ≤ g' := by
            rcases HG5.out with h | h
            · exact HGE.out g' (by simp [h])
            · have h9 := ((HO.out.then HOAC.out (fun x hx => Or.inl hx)).alloc (.cells #[.string sc, .int .u64 (off : Int)] 143)).size
              omega
          refine ⟨j + 1, k + 1, o2, some ⟨g', 0, none⟩, cap2, rfl, rfl, by omega, Nat.le_refl _, by omega, ho2b, HO2, Lib.hid e2.symm, HRd, Lib.hid (Or.inr ⟨g', sp', rfl, hg'4, ?_, ?_, ?_, ?_⟩), Lib.hid (hO45.then HOd.out (fun x hx => Or.inl hx))⟩
          · have h1 := HOd.out.blk hb5.out (ni1 (by omega))
            rw [e1, flatI_append, e4]
            exact h1
          · rw [e3]; exact HQ3.out
          · rw [e3]; exact HQ1.out.1
          · exact HQ1.out.2
    · obtain rfl : j = m := by omega
      have htm : bs.take j = bs := List.take_of_length_le (by rw [← HM.out]; exact Nat.le_refl _)
      have hdr : l.length ≤ off := by
        have h1 : l.drop (a + (secs bs).length) = [] := drop_more (t := []) (by rw [List.append_nil]; exact HLA.out)
        have h2 := congrArg List.length h1
        rw [List.length_drop, ← htm, ← HOF.out] at h2
        simp at h2
        omega
      have hl6 : a + (secs bs).length < 18446744073709551616 := by
        have h1 := HSEC.out j (Nat.le_refl _)
        rw [htm] at h1
        omega
      have HEO := Lib.hid (genE_ok bs a HBS.out hl6)
      have hEr : EofA qe wr := HE.out.off (HO4.out.then HO.out (fun x hx => Or.inl hx)) (ni1 (by omega))
      have HER := Lib.hid hEr
      have HV := Lib.hid (readUvarint_eof HR.out hdr (by omega) qe hEr hER)
      have heq := eql_eof qe
      have hks : k = (genE a bs).length := by rw [HK.out, htm]
      have HKS := Lib.hid hks
      rw [htm] at HRC
      clear htm hdr hl6 hks hrow hEr
      go_wp2_with fail
      refine HV.out.mono ?_
      rintro e wa ⟨rfl, hRa, hOa⟩
      have hEa : wa.cell? ⟨1, 0, none⟩ = some (.iface 152 (.pointer (some qe))) := HER.out.off hOa (ni1 (by omega))
      have hO5 : Off [R] w wa := (HO4.out.then HO.out (fun x hx => Or.inl hx)).then hOa (fun x hx => Or.inl hx)
      have hRC5 : RecsAt w4 wa A' cap' ((genE a bs).map Ent.it) := by
        rcases HRC.out with ⟨h1, h2, h3⟩ | ⟨g0, sp, h1, h2, h3, h4⟩
        · exact Or.inl ⟨h1, h2, h3⟩
        · exact Or.inr ⟨g0, sp, h1, h2, hOa.blk h3 (ni1 (by omega)), h4⟩
      obtain ⟨gi, hit⟩ := hRC5.items
      have hL := HKN.out.load (genE a bs) A' cap' gi pb mm wa ⟨HEO.out, by rw [← HKS.out]; omega, genE_dg bs a HBS.out⟩ hit (HKN.out.empOff pb mm w wa [R] HEM.out hO5 (ni1 hpR) (ni1 hmR)) hpm
      rw [← HKS.out] at hL
      have HL := Lib.hid hL
      have HO5 := Lib.hid hO5
      have HRA5 := Lib.hid hRa
      clear hRa hOa hO5 hRC5 hit hL
      go_wp2_with (go_at_fn fL; refine HL.out.mono ?_; rintro e w5 ⟨rfl, ho5, hwr⟩; have HWR := Lib.hid hwr; have HO6 := Lib.hid ho5; clear hwr ho5)
      go_ret
      refine ⟨rfl, ⟨(HO5.out.mono (S' := [R, mm]) (fun x hx => by simp at hx; simp [hx])).then HO6.out (fun x hx => Or.inl (by simp at hx; simp [hx])), wa.heap.size, HO5.out.size, ?_⟩, _, HRA5.out.off HO6.out (ni1 (Ne.symm hmR)) (ni1 (Ne.symm hmb))⟩
      rw [← HAA.out]
      exact HWR.out
end Go.Proofs.YthmhnknkidkdlaaGreatDoor
