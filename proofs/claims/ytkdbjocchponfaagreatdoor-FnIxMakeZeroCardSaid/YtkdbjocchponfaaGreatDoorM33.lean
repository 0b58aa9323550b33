/-
  spec.sortedBytes: entries' rows by width, each width's rows sorted by digests, behind what is there.
  An index by hash functions out of each function's groups, in plain words.
  (No condition beyond those that each theorem states.)
-/
import Derived.Test.YtkdbjocchponfaaGreatDoorM30
import Derived.Test.YtkdbjocchponfaaGreatDoorM32
import Derived.Lib.AppendStr
import Derived.Deep.DeepCutAuto
import Derived.Test.YtkdbjocchponfaaGreatDoorM28
namespace Go.Proofs.YtkdbjocchponfaaGreatDoor
open Go.RowKit Go.Sort

section
variable {P : Program} {ops : Array Oper} {o : Oper} {a : Act} {Q : Exit → Act → World → Prop}
/-- append of a string's bytes onto a row of one's own, in a region that draws. -/
theorem step_append_str {K : Act → World → Prop} {E : Prop} (w : World) (hgd : o.guard = none) (sl x : Operand) (t u : TypeId) (ho : o.op = .call { callee := .builtin .append, args := #[sl, x], argTypes := #[t, u] })
    (base : Nat) (e : TypeId) (i : TypeInfo) (ht : P.underlying t = some (.slice e)) (hu : P.underlying u = some .string) (hi : P.info? e = some i) (hz : i.zero = some (.int .u8 0)) (hsize : i.size = 1) (hby : i.bytes = 1)
    (v : Value) (n : Nat) (xs : List Value) (hs : a.eval sl = v) (hown : w.ownsRow base e 1 v n xs) (s : ByteArray) (hx : a.eval x = .string s)
    (h63 : n + s.size ≤ maxLen) (hbytes : n + s.size ≤ 140737488355328) (hbase : base ≤ w.heap.size)
    (h : ∀ v' w', w'.ownsRow base e 1 v' (n + s.size) (xs ++ Lib.strCells s) → w.grownBy w' v.ownBlock → K (a.put o.dst v') w') :
    if Region.wanted o (yielded ops a.tmps) = true then Oper.wp P o a w K Q else E := by
  have hw : Region.wanted o (yielded ops a.tmps) = true := by simp [Region.wanted, hgd]
  rw [if_pos hw]
  obtain ⟨v', w', hr, h2, h3, _⟩ := Lib.run_append_own_string (P := P) w base t u o.type e i ht hu hi hz hsize hby v n xs hown s h63 hbytes hbase
  unfold Oper.wp execOp
  simp only [ho, resolve, invoke, builtin, Sem.run_bind, Sem.run_pure, Result.andThen_ok, List.map_toArray, List.map_cons, List.map_nil, hs, hx, hr]
  exact h v' w' h2 h3
end

/-- What the outer loop has of memory. -/
structure SobK (w : World) (v : Value) (Ws : List Nat) (es' : List Ent) (g bW : Nat) (AW : Option Addr) (sp : List Value) (s0 : Value) (wr : World) : Prop where
  off : Off (ob v) w wr
  grew : Grew w v s0
  far : ∀ x, x ∈ ob s0 → (0 < Ws.length → x ≠ bW) ∧ x ≠ g
  blk : Blk wr g 49 (entsC es' ++ sp).toArray
  ints : IntsAt wr (fun n => .int .i64 (n : Int)) AW bW Ws
theorem SobK.step {w : World} {v : Value} {Ws : List Nat} {es' : List Ent} {g bW : Nat} {AW : Option Addr} {sp : List Value} {s0 s1 : Value} {wr wr' : World} (h : SobK w v Ws es' g bW AW sp s0 wr) (ho : Off (ob s0) wr wr') (hg : Grew wr s0 s1) : SobK w v Ws es' g bW AW sp s1 wr' := by
  refine ⟨h.grew.off h.off ho, h.grew.trans hg h.off.size, fun x hx => ?_, h.blk.off ho (fun hx => (h.far _ hx).2 rfl), h.ints.off ho (fun h0 hx => (h.far _ hx).1 h0 rfl)⟩
  rcases hg with hg | ⟨k, hk, hks⟩
  · exact h.far x (by unfold ob at hx ⊢; rw [← hg]; exact hx)
  · have hxk : x = k := by unfold ob at hx; rw [hk] at hx; simpa using hx
    subst hxk
    exact ⟨fun h0 => by have := (h.ints.1 h0).2; omega, by have := h.blk.lt; omega⟩
theorem SobK.drew {w : World} {v : Value} {Ws : List Nat} {es' : List Ent} {g bW : Nat} {AW : Option Addr} {sp : List Value} {s0 : Value} {wr wr' : World} (h : SobK w v Ws es' g bW AW sp s0 wr) (ho : Off [] wr wr') : SobK w v Ws es' g bW AW sp s0 wr' :=
  h.step (ho.mono (fun x hx => by simp at hx)) (Or.inl rfl)
theorem Grew.mono {w w' : World} {v v' : Value} (h : Grew w' v v') (hs : w.heap.size ≤ w'.heap.size) : Grew w v v' := by
  rcases h with h | ⟨g, h1, h2⟩
  · exact Or.inl h
  · exact Or.inr ⟨g, h1, Nat.le_trans hs h2⟩
/-- What is written by then. -/
def sobL (l0 : List UInt8) (Ws : List Nat) (es' : List Ent) (kw i : Nat) : List UInt8 := l0 ++ (Lib.leBytes 4 kw ++ ((Ws.take i).map (grpG es')).flatMap bucketB)

theorem row8_lt {w : World} {B : Nat} {v : Value} {l : List UInt8} (h : Row8 w B v l) : ∀ x, x ∈ ob v → x < w.heap.size := fun x hx => by
  rcases id h.2 with ⟨rfl, _⟩ | ⟨g, cap, cur, rfl, hg, hgg, rest⟩
  · simp [ob, Value.ownBlock] at hx
  · simp [ob, Value.ownBlock] at hx
    subst hx
    exact (Array.getElem?_eq_some_iff.1 hgg).1
theorem bucket_take (es' : List Ent) (Ws : List Nat) (i : Nat) (h : i < Ws.length) : ((Ws.take (i + 1)).map (grpG es')).flatMap bucketB = ((Ws.take i).map (grpG es')).flatMap bucketB ++ bucketB (grpG es' Ws[i]) := by
  rw [List.take_succ_eq_append_getElem h, List.map_append, List.flatMap_append]
  simp only [List.map_cons, List.map_nil, List.flatMap_cons, List.flatMap_nil, List.append_nil]
theorem buckets_le (es : List Ent) (hn : es.length ≤ 100) : ∀ (Ws : List Nat), (∀ n, n ∈ Ws → n ≤ 1000) → ((Ws.map (grpG es)).flatMap bucketB).length ≤ 100812 * Ws.length
  | [], _ => by simp
  | n :: Ws, h => by
    have ih := buckets_le es hn Ws (fun m hm => h m (List.mem_cons_of_mem _ hm))
    have h1 := (widS_len es n 100 (h n (List.mem_cons_self ..)) (Nat.le_refl _)).2
    rw [widS_all es n 100 hn] at h1
    simp only [List.map_cons, List.flatMap_cons, List.length_append, List.length_cons, bucketB, grpG, Lib.leBytes_length]
    omega

theorem row8_ne {w : World} {B : Nat} {v : Value} {l : List UInt8} {g : Nat} {t : TypeId} {cs : Array Value} (h : Row8 w B v l) (hb : Blk w g t cs) (ht : t ≠ 5) : g ∉ ob v := fun hx => by
  rcases id h.2 with ⟨rfl, _⟩ | ⟨k, cap, cur, rfl, hg, hgg, rest⟩
  · simp [ob, Value.ownBlock] at hx
  · simp [ob, Value.ownBlock] at hx
    subst hx
    have e := Option.some.inj (hgg.symm.trans hb)
    injection e with _ e2 _
    exact ht e2.symm
theorem row8_str {w : World} {B : Nat} {v : Value} {l : List UInt8} {m : Nat} {s : ByteArray} (hm : m = l.length) (h : w.ownsRow B 5 1 v (m + s.size) (Lib.byteCells l ++ Lib.strCells s)) : Row8 w B v (l ++ s.data.toList) := by
  have e : (l ++ s.data.toList).length = m + s.size := by rw [List.length_append, Array.length_toList, hm]; rfl
  show w.ownsRow B _ 1 v (l ++ s.data.toList).length (Lib.byteCells (l ++ s.data.toList))
  rw [e, Lib.byteCells_append]
  exact h

set_option maxRecDepth 100000 in
set_option maxHeartbeats 4000000 in
theorem sortedBytes_any (es : List Ent) (A : Option Addr) (ib io c n : Nat) (v : Value) (l0 : List UInt8) (B : Nat) (w : World) (hn : es.length = n) (hn2 : n ≤ 100) (hdg : ∀ e, e ∈ es → e.dg.size ≤ 1000) (hoff : ∀ e, e ∈ es → e.off < 18446744073709551616)
    (hA0 : A = none → n = 0 ∧ c = 0) (hat : EntsAt w A ib io es) (hib : 0 < es.length → ib ∉ ob v) (hv : Row8 w B v l0) (hB : B ≤ w.heap.size) (hl0 : l0.length ≤ 50000000) :
    Calls Tryz.prog 45 #[v, .slice A n c] w fun r w' => ∃ v' G, r = .returned v' ∧ Grp (es.map Ent.rw) G ∧ Row8 w' B v' (l0 ++ mwB G) ∧ Off (ob v) w w' ∧ Grew w v v' := by
  obtain ⟨i0, hi, hz0, hz1, hz2⟩ := info_parts Tryz.infoByte
  have HV := Lib.hid hv
  have HN := Lib.hid hn
  have HAT := Lib.hid hat
  have HIB := Lib.hid hib
  have HDG := Lib.hid hdg
  have HOFF := Lib.hid hoff
  have HA0 := Lib.hid hA0
  have HW := Lib.hid (widths_any es A ib io c n w hn (by omega) hdg hat)
  clear hv hn hat hib hdg hoff hA0
  go_enter Tryz.func45, Tryz.ntmps45
  go_wp2_with (first
    | (go_at_call 73
       have hat2 := (HAT.out.off HO1.out (by simp)).off HO2.out HIB.out
       refine (byDigest_any es A ib io c n w2 HN.out (by omega) HA0.out hat2).mono ?_
       rintro r w3 ⟨g, cap, es', sp, rfl, hp3, hs3, hb3, hg3, ho3⟩
       have HP3 := Lib.hid hp3
       have HS3 := Lib.hid hs3
       have HB3 := Lib.hid hb3
       have HG3 := Lib.hid hg3
       have HO3 := Lib.hid ho3
       clear hat2 hp3 hs3 hb3 hg3 ho3)
    | (go_at_call 47
       refine (low_any w1 B kw 4 v l0 (HV.out.off HO1.out (fun x _ => by simp)) (by omega) (by omega) (by omega) (Nat.le_trans hB HO1.out.size)).mono ?_
       rintro r w2 ⟨v2, rfl, hr2, ho2, hg2⟩
       have HR2 := Lib.hid hr2
       have HO2 := Lib.hid ho2
       have HG2 := Lib.hid hg2
       clear hr2 ho2 hg2)
    | (go_at_call 72
       refine HW.out.mono ?_
       rintro r w1 ⟨vW, outs, rfl, hnd, hmem, hrow, ho1⟩
       obtain ⟨Ws, hasc, hmem2, hsrt, hlen⟩ := asc_of_outs outs hnd
       obtain ⟨AW, bW, cW, rfl, hBb, hints⟩ := intsAt_of_srtI hrow hsrt hlen
       have HO1 := Lib.hid ho1
       have hkle : Ws.length ≤ 100 := by
         have h1 := nodup_lenN Ws (es.map fun e => e.dg.size) (nodup_asc hasc) (fun k hk => by
           obtain ⟨e, he, rfl⟩ := (hmem k).1 ((hmem2 k).1 hk)
           exact List.mem_map.2 ⟨e, he, rfl⟩)
         rw [List.length_map, HN.out] at h1
         omega
       have HWS := Lib.hid (And.intro hasc (show ∀ k, k ∈ Ws ↔ ∃ e, e ∈ es ∧ e.dg.size = k from fun k => (hmem2 k).trans (hmem k)))
       have HBB := Lib.hid hBb
       have HIN := Lib.hid hints
       obtain ⟨kw, hkw⟩ : ∃ k, k = Ws.length := ⟨_, rfl⟩
       have HKW := Lib.hid hkw
       rw [← hkw] at hkle ⊢
       clear hnd hmem hrow ho1 hasc hmem2 hsrt hlen hBb hints hkw))
  have HK0 : Hid (SobK w v Ws es' g bW AW sp v2 w3) := Lib.hid (by
    have h1 := HO1.out
    have h2 := HO2.out
    have h3 := HO3.out
    refine ⟨((h1.mono (S' := ob v) (fun x hx => by simp at hx)).then h2 (fun x hx => Or.inl hx)).then h3 (fun x hx => by simp at hx), (HG2.out).mono h1.size, fun x hx => ⟨fun h0 => ?_, ?_⟩, HB3.out, (HIN.out.off h2 (fun h0 hx => ?_)).off h3 (by simp)⟩
    · have hb1 := HBB.out h0
      have hb2 := (HIN.out.1 h0).2
      rcases HG2.out with h | ⟨k, hk, hks⟩
      · have := row8_lt HV.out x (by unfold ob at hx ⊢; rw [← h]; exact hx)
        omega
      · have hxk : x = k := by unfold ob at hx; rw [hk] at hx; simpa using hx
        omega
    · have := row8_lt HR2.out x hx
      have := HG3.out
      omega
    · have := row8_lt HV.out _ hx
      have := HBB.out h0
      omega)
  have HR0 : Hid (Row8 w3 B v2 (sobL l0 Ws es' kw 0)) := Lib.hid (by
    have h := HR2.out.off HO3.out (fun x _ => by simp)
    have e : sobL l0 Ws es' kw 0 = l0 ++ Lib.leBytes 4 kw := by simp [sobL]
    rw [e]
    exact h)
  have HLEN : Hid (∀ k, (sobL l0 Ws es' kw k).length ≤ 60081304) := Lib.hid (fun k => by
    have hl : es'.length ≤ 100 := by rw [HP3.out.length_eq, HN.out]; exact hn2
    have h1 := buckets_le es' hl (Ws.take k) (fun m hm => by
      obtain ⟨e, he, rfl⟩ := (HWS.out.2 m).1 (List.mem_of_mem_take hm)
      exact HDG.out e he)
    have h2 : (Ws.take k).length ≤ 100 := by rw [List.length_take, ← HKW.out]; omega
    unfold sobL
    rw [List.length_append, List.length_append, Lib.leBytes_length]
    omega)
  have HDG' : Hid (∀ e, e ∈ es' → e.dg.size ≤ 1000 ∧ e.off < 18446744073709551616) := Lib.hid (fun e he => ⟨HDG.out e (HP3.out.mem_iff.1 he), HOFF.out e (HP3.out.mem_iff.1 he)⟩)
  have HN' : Hid (es'.length = n) := Lib.hid (by rw [HP3.out.length_eq, HN.out])
  clear HB3 HG3 HO3 HO2 HG2 HR2 HBB HIN HO1 HW HAT HIB HA0 HOFF HDG
  go_loopg [0, 23] kw (fun kx s0 s23 wr => ∃ i : Nat, s23 = .int .i64 (i : Int) ∧ i ≤ kw ∧ kw - i ≤ kx ∧ Hid (SobK w v Ws es' g bW AW sp s0 wr) ∧ Hid (Row8 wr B s0 (sobL l0 Ws es' kw i)))
  case atStart => exact ⟨0, rfl, Nat.zero_le _, by omega, HK0, HR0⟩
  case round =>
    rename World => wr
    clear HK0 HR0
    obtain ⟨i, rfl, hik, hkx, HK, HR⟩ := hrel
    by_cases hlt : i < kw
    · have hiw : i < Ws.length := by have := HKW.out; omega
      obtain ⟨hA, hbl⟩ := HK.out.ints.1 (by omega)
      have hcW := HK.out.ints.2 i hiw
      obtain ⟨N1, hN1⟩ : ∃ m, m = Ws[i] := ⟨_, rfl⟩
      rw [← hN1] at hcW
      have HN1 := Lib.hid (show ∃ h : i < Ws.length, N1 = Ws[i] from ⟨hiw, hN1⟩)
      have hn1 : N1 ≤ 1000 := by
        obtain ⟨e, he, hs⟩ := (HWS.out.2 N1).1 (by rw [hN1]; exact List.getElem_mem _)
        have := (HDG'.out e (HP3.out.mem_iff.2 he)).1
        omega
      clear hN1 hiw
      subst hA
      go_wp2_with fail
      go_loopg [9, 29] n (fun kx s9 s29 wq => ∃ j : Nat, s29 = .int .i64 (j : Int) ∧ j ≤ n ∧ n - j ≤ kx ∧ Hid (Off [] wr wq) ∧ Hid (Row8 wq wr.heap.size s9 (rowsB (widS (es'.take j) N1))))
      case atStart => exact ⟨0, rfl, Nat.zero_le _, by omega, Lib.hid (Off.refl _ _), Lib.hid (World.ownsRow_nil _ _ _ _)⟩
      case round =>
        rename World => wq
        obtain ⟨j, rfl, hjn, hkx2, HO, HR9⟩ := hrel
        by_cases hlt2 : j < n
        · have hje : j < es'.length := by have := HN'.out; omega
          have hblk := HK.out.blk.off HO.out (by simp)
          obtain ⟨c0, c1, c2, c3, c4⟩ := (EntsAt.of_blk hblk).cells j hje
          obtain ⟨ent, hent⟩ : ∃ ent, ent = es'[j] := ⟨_, rfl⟩
          rw [← hent, Nat.zero_add] at c0 c1 c2 c3 c4
          have hsz : ent.dg.size ≤ 1000 ∧ ent.off < 18446744073709551616 := HDG'.out ent (by rw [hent]; exact List.getElem_mem _)
          have HTK := Lib.hid (show widS (es'.take (j + 1)) N1 = widS (es'.take j) N1 ++ if ent.dg.size = N1 then [ent.rw] else [] by rw [widS_take es' N1 j hje, hent])
          have HRL := Lib.hid (widS_len es' N1 j hn1 (by omega)).2
          clear hblk hent hje
          by_cases hsn : ent.dg.size = N1
          · have hq : ((ent.dg.size : Int) == (N1 : Int)) = true := beq_iff_eq.2 (by omega)
            have HSN := Lib.hid hsn
            clear hsn
            go_wp2_with fail
            obtain ⟨wx, hwx⟩ : ∃ wx, wx = wq.alloc (.cells #[.int .u64 (ent.ver : Int), .int .u64 (ent.codec : Int), .int .u64 (ent.code : Int), .string ent.dg, .int .u64 (ent.off : Int)] 49) := ⟨_, rfl⟩
            have hox : Off [] wq wx := by rw [hwx]; exact (Off.refl [] wq).alloc _
            have hbx : Blk wx wq.heap.size 49 #[.int .u64 (ent.ver : Int), .int .u64 (ent.codec : Int), .int .u64 (ent.code : Int), .string ent.dg, .int .u64 (ent.off : Int)] := by rw [hwx]; exact Blk.new _ _ _
            have d3 : wx.cell? ⟨wq.heap.size, 3, none⟩ = some (.string ent.dg) := hbx.cell 3
            have d4 : wx.cell? ⟨wq.heap.size, 4, none⟩ = some (.int .u64 (ent.off : Int)) := hbx.cell 4
            rw [← hwx]
            have HOX := Lib.hid hox
            have HBX := Lib.hid hbx
            clear c0 c1 c2 c3 c4 hwx hox hbx
            obtain ⟨m9, hm9⟩ : ∃ m, m = (rowsB (widS (es'.take j) N1)).length := ⟨_, rfl⟩
            have HM9 := Lib.hid hm9
            have hm9le : m9 ≤ 100800 := by rw [hm9]; exact HRL.out
            have HOWN : Hid (wx.drew.ownsRow wr.heap.size 5 1 u9 m9 (Lib.byteCells (rowsB (widS (es'.take j) N1)))) := Lib.hid (by rw [hm9]; exact HR9.out.off (HOX.out.drew) (fun x _ => by simp))
            have HBS : Hid (wr.heap.size ≤ wx.drew.heap.size) := Lib.hid (Nat.le_trans HO.out.size HOX.out.size)
            have dgl : ent.dg.data.toList.length = ent.dg.size := by rw [Array.length_toList]; rfl
            clear hm9
            go_region_held3 (fun w' => w'.cell? ⟨wq.heap.size, 3, none⟩ = some (.string ent.dg) ∧ w'.cell? ⟨wq.heap.size, 4, none⟩ = some (.int .u64 (ent.off : Int))) (first | exact ⟨d3, d4⟩ | exact ⟨e3, e4⟩ | exact ⟨f3, f4⟩) (first
              | (refine step_append_str wx.drew rfl (.tmp 39) (.tmp 42) 32 9 rfl wr.heap.size 5 i0 Tryz.underlying32 Tryz.underlying9 hi hz0 hz1 hz2 u9 m9 _ rfl HOWN.out ent.dg rfl (by unfold maxLen; omega) (by omega) HBS.out ?_
                 intro v5 w5 hown5 hgr5
                 have ho5 : Off (ob u9) wx w5 := ((Off.refl (ob u9) wx).drew).then (off_grown_own (S := ob u9) hgr5 (fun g hg => by simp [ob, hg])) (fun x hx => Or.inl hx)
                 have hfar : ∀ x, x ∈ ob u9 → x ≠ wq.heap.size := fun x hx => by have := row8_lt HR9.out x hx; omega
                 have hb5 := ho5.blk HBX.out (fun hx => hfar _ hx rfl)
                 have e3 : w5.cell? ⟨wq.heap.size, 3, none⟩ = some (.string ent.dg) := hb5.cell 3
                 have e4 : w5.cell? ⟨wq.heap.size, 4, none⟩ = some (.int .u64 (ent.off : Int)) := hb5.cell 4
                 have HO5 := Lib.hid ho5
                 have HOWN5 := Lib.hid hown5
                 have HB5 := Lib.hid hb5
                 clear hown5 hgr5 ho5 hfar hb5)
              | (go_at_call 47
                 refine (low_any w5 wr.heap.size ent.off 8 v5 _ (row8_str HM9.out HOWN5.out) hsz.2 (by omega) (by rw [List.length_append, ← HM9.out, dgl]; omega) (Nat.le_trans HBS.out HO5.out.size)).mono ?_
                 rintro r w6 ⟨v6, rfl, hr6, ho6, hg6⟩
                 have HR6 := Lib.hid hr6
                 have HO6 := Lib.hid ho6
                 have HBA5 := Lib.hid (row8_str HM9.out HOWN5.out).base
                 have hb6 := ho6.blk HB5.out (row8_ne (row8_str HM9.out HOWN5.out) HB5.out (by decide))
                 have f3 : w6.cell? ⟨wq.heap.size, 3, none⟩ = some (.string ent.dg) := hb6.cell 3
                 have f4 : w6.cell? ⟨wq.heap.size, 4, none⟩ = some (.int .u64 (ent.off : Int)) := hb6.cell 4
                 clear hb6
                 clear hr6 ho6 hg6))
            all_goals go_wp2_with fail
            go_roundg (n - (j + 1))
            case measure => omega
            case rel =>
              have hO6 : Off [] wr w6 := ((HO.out.then HOX.out (fun x hx => by simp at hx)).then HO5.out (fun x hx => Or.inr (HR9.out.base x hx))).then HO6.out (fun x hx => Or.inr (HBA5.out x hx))
              refine ⟨j + 1, rfl, by omega, by omega, Lib.hid hO6, Lib.hid ?_⟩
              rw [HTK.out, if_pos HSN.out, rowsB_snoc, ← List.append_assoc]
              exact HR6.out
          · have hq : ((ent.dg.size : Int) == (N1 : Int)) = false := beq_eq_false_iff_ne.2 (by omega)
            have HSN := Lib.hid hsn
            clear hsn
            go_wp2_with fail
            go_roundg (n - (j + 1))
            case measure => omega
            case rel => exact ⟨j + 1, rfl, by omega, by omega, Lib.hid (HO.out.alloc _), Lib.hid (by rw [HTK.out, if_neg HSN.out, List.append_nil]; exact HR9.out.off (S := []) (Off.alloc (Off.refl [] wq) _) (fun x _ => by simp))⟩
        · obtain rfl : n = j := by omega
          have hrows := HR9.out
          rw [widS_all es' N1 n (by have := HN'.out; omega)] at hrows
          obtain ⟨rl, hrl⟩ : ∃ rl, rl = rowsB (widS es' N1) := ⟨_, rfl⟩
          rw [← hrl] at hrows
          have HLB : Hid (rl.length = (N1 + 8) * (widS es' N1).length ∧ rl.length ≤ 100800) := Lib.hid (by
            have h := widS_len es' N1 100 hn1 (Nat.le_refl _)
            rw [widS_all es' N1 100 (by have := HN'.out; omega)] at h
            rw [hrl]
            exact h)
          have HRL := Lib.hid hrl
          have HNE : Hid (0 < rl.length) := Lib.hid (by
            obtain ⟨h1, h2⟩ := HN1.out
            obtain ⟨e, he, hs⟩ := (HWS.out.2 N1).1 (by rw [h2]; exact List.getElem_mem _)
            have hm : e.rw ∈ widS es' N1 := List.mem_map.2 ⟨e, List.mem_filter.2 ⟨HP3.out.mem_iff.2 he, by simp [hs]⟩, rfl⟩
            have hp := List.length_pos_of_mem hm
            rw [HLB.out.1]
            exact Nat.mul_pos (by omega) hp)
          rcases id hrows.2 with ⟨h1, h0⟩ | ⟨g9, cap9, cur9, h1, hg9, hgg9, q1, q2, q3, q4⟩
          · have h0' : rl.length = 0 := h0
            have := HNE.out
            omega
          · have HCE : Hid (∀ W, Off (ob u0) wq W → ∀ k u, (Lib.byteCells rl)[k]? = some u → W.cell? ((⟨g9, 0, none⟩ : Addr).add k) = some u) := Lib.hid (fun W hW k u hu => by
              have hfar : g9 ∉ ob u0 := fun hx => by
                have h2 := row8_lt HR.out _ hx
                omega
              have h2 := World.ownsRow.cells hrows (g := g9) (by rw [h1]; rfl) k u hu
              rw [add_plain] at h2 ⊢
              exact (World.cell?_of_block (hW.block g9 (Array.getElem?_eq_some_iff.1 hgg9).1 hfar)).trans h2)
            obtain ⟨m9, hm9⟩ : ∃ m, m = rl.length := ⟨_, rfl⟩
            rw [← hm9] at h1
            have HM9 := Lib.hid hm9
            have hm9le : m9 ≤ 100800 := by rw [hm9]; exact HLB.out.2
            have hl1 := low_any wq B (N1 + 8) 4 u0 _ (HR.out.off HO.out (fun x _ => by simp)) (by omega) (by omega) (by have := HLEN.out i; omega) (Nat.le_trans hB (Nat.le_trans HK.out.off.size HO.out.size))
            rw [show ((N1 + 8 : Nat) : Int) = (N1 : Int) + 8 by omega] at hl1
            have HL1 := Lib.hid hl1
            have HLI := Lib.hid (HLEN.out i)
            have HBQ := Lib.hid (Nat.le_trans hB (Nat.le_trans HK.out.off.size HO.out.size))
            clear hl1 hm9 hrows hrl hgg9 hg9 q1 q2 q3 q4 hlt2 hkx2 hcW
            subst h1
            go_wp2_with (first
              | (at_builtin
                 refine wpList_append_own_at _ rfl _ _ 32 rfl B 5 i0 _ 1 1 Tryz.underlying32 hi hz0 hz1 hz2 rfl (by decide) v15 _ _ rfl HR15.out ⟨g9, 0, none⟩ m9 cap9 (Lib.byteCells rl) rfl (by rw [Lib.byteCells_length, HM9.out, Nat.mul_one]) HNEW.out (Lib.byteCells_one rl) (by rw [HLE15.out]; unfold maxLen; have := HLI.out; omega) (by rw [HLE15.out]; have := HLI.out; omega) HB15.out ?_
                 intro v16 w16 hown16 hgr16 hnil16 hat16
                 have HR16 := Lib.hid hown16
                 have HO16 := Lib.hid (off_grown_own (S := ob v15) hgr16 (fun g hg => by simp [ob, hg]))
                 have HG16 := Lib.hid (show Grew w15 v15 v16 from hat16.elim Or.inl (fun h => Or.inr ⟨_, h, Nat.le_refl _⟩))
                 clear hown16 hgr16 hnil16 hat16)
              | (go_at_call 47
                 refine (low_any w14 B m9 8 v14 _ HR14.out (by omega) (by omega) (by rw [List.length_append, Lib.leBytes_length]; have := HLI.out; omega) (Nat.le_trans HBQ.out HO14.out.size)).mono ?_
                 rintro r w15 ⟨v15, rfl, hr15, ho15, hg15⟩
                 have HR15 := Lib.hid hr15
                 have HO15 := Lib.hid ho15
                 have HG15 := Lib.hid hg15
                 have HB15 := Lib.hid (Nat.le_trans HBQ.out (Nat.le_trans HO14.out.size ho15.size))
                 have HLE15 : Hid (((sobL l0 Ws es' kw i ++ Lib.leBytes 4 (N1 + 8)) ++ Lib.leBytes 8 m9).length = (sobL l0 Ws es' kw i).length + 12) := Lib.hid (by rw [List.length_append, List.length_append, Lib.leBytes_length, Lib.leBytes_length])
                 have HNEW : Hid (∀ k u, (Lib.byteCells rl)[k]? = some u → w15.cell? ((⟨g9, 0, none⟩ : Addr).add k) = some u) := Lib.hid (HCE.out w15 (HG14.out.off HO14.out ho15))
                 clear hr15 ho15 hg15)
              | (go_at_call 47
                 refine HL1.out.mono ?_
                 rintro r w14 ⟨v14, rfl, hr14, ho14, hg14⟩
                 have HR14 := Lib.hid hr14
                 have HO14 := Lib.hid ho14
                 have HG14 := Lib.hid hg14
                 clear hr14 ho14 hg14))
            go_roundg (kw - (i + 1))
            case measure => omega
            case rel =>
              refine ⟨i + 1, rfl, by omega, by omega, Lib.hid (((HK.out.drew HO.out).step HO14.out HG14.out |>.step HO15.out HG15.out).step HO16.out HG16.out), Lib.hid ?_⟩
              obtain ⟨h1, h2⟩ := HN1.out
              have e : sobL l0 Ws es' kw (i + 1) = (sobL l0 Ws es' kw i ++ Lib.leBytes 4 (N1 + 8)) ++ Lib.leBytes 8 m9 ++ rl := by
                unfold sobL
                rw [bucket_take es' Ws i h1, ← h2]
                simp only [bucketB, grpG]
                rw [← HRL.out, ← HLB.out.1, ← HM9.out]
                simp only [List.append_assoc]
              rw [e]
              have h3 := HR16.out
              show w16.ownsRow B _ 1 v16 (((sobL l0 Ws es' kw i ++ Lib.leBytes 4 (N1 + 8)) ++ Lib.leBytes 8 m9) ++ rl).length (Lib.byteCells (((sobL l0 Ws es' kw i ++ Lib.leBytes 4 (N1 + 8)) ++ Lib.leBytes 8 m9) ++ rl))
              rw [Lib.byteCells_append, show (((sobL l0 Ws es' kw i ++ Lib.leBytes 4 (N1 + 8)) ++ Lib.leBytes 8 m9) ++ rl).length = ((sobL l0 Ws es' kw i ++ Lib.leBytes 4 (N1 + 8)) ++ Lib.leBytes 8 m9).length + m9 from by rw [HM9.out]; exact List.length_append]
              exact h3
    · obtain rfl : kw = i := by omega
      go_wp2_with fail
      go_ret
      refine ⟨_, Ws.map (grpG es'), rfl, grp_sorted es es' Ws HP3.out HS3.out HWS.out.1 HWS.out.2, ?_, HK.out.off, HK.out.grew⟩
      have h := HR.out
      have e : sobL l0 Ws es' kw kw = l0 ++ mwB (Ws.map (grpG es')) := by
        rw [sobL, mwB, List.take_of_length_le (by have := HKW.out; omega), List.length_map, ← HKW.out]
      rw [e] at h
      exact h
end Go.Proofs.YtkdbjocchponfaaGreatDoor
namespace Go.Proofs.YtkdbjocchponfaaGreatDoor
open Go.RowKit

theorem cgrp_codes (es : List Ent) (H : List (Nat × List (Nat × List Rw))) (hasc : (H.map (·.1)).Pairwise (· < ·)) (hC : ∀ c, c ∈ H.map (·.1) ↔ ∃ e, e ∈ es ∧ e.code = c) (hG : ∀ p, p ∈ H → Grp ((es.filter fun e => e.code == p.1).map Ent.rw) p.2) :
    CGrp (es.map fun e => (e.code, e.rw)) H := by
  refine ⟨hasc, fun p hp => (hG p hp).bks, fun p hp => ?_, ?_⟩
  · obtain ⟨e, he, hc⟩ := (hC p.1).1 (List.mem_map.2 ⟨p, hp, rfl⟩)
    intro h0
    have h1 := (hG p hp).perm
    rw [h0] at h1
    have h2 : e.rw ∈ (es.filter fun e => e.code == p.1).map Ent.rw := List.mem_map.2 ⟨e, List.mem_filter.2 ⟨he, by simp [hc]⟩, rfl⟩
    have := h1.mem_iff.2 h2
    simp [flat] at this
  · have h1 : (cflat H).Perm (H.flatMap fun p => ((es.map fun e => (e.code, e.rw)).filter fun r => r.1 == p.1)) := by
      refine perm_flatMap H fun p hp => ?_
      have h2 := (hG p hp).perm.map fun r => (p.1, r)
      refine h2.trans (List.Perm.of_eq ?_)
      rw [List.filter_map, List.map_map]
      refine List.map_congr_left fun e he => ?_
      have := (List.mem_filter.1 he).2
      simp at this
      show (p.1, e.rw) = (e.code, e.rw)
      rw [this]
    refine h1.trans ?_
    have h3 := perm_byKey (fun r : Nat × Rw => r.1) (H.map (·.1)) (es.map fun e => (e.code, e.rw)) (nodup_asc hasc) (fun r hr => by
      obtain ⟨e, he, rfl⟩ := List.mem_map.1 hr
      exact (hC e.code).2 ⟨e, he, rfl⟩)
    rw [List.flatMap_map] at h3
    exact h3
end Go.Proofs.YtkdbjocchponfaaGreatDoor
