/-
  impl.each, impl.IxEach: what ForEach tells of an index's bytes.
  spec.Rows, the plain part: rows of spec.Row, groups of entries.
  (No condition beyond those that each theorem states.)
-/
import Derived.Test.YtcgggcjmmphldaaGreatDoorHp1
import Derived.Test.YtcgggcjmmphldaaGreatDoorHi4
import Derived.Test.YtcgggcjmmphldaaGreatDoorHl2
import Derived.Test.YtcgggcjmmphldaaGreatDoorHl1
namespace Go.Proofs.YtcgggcjmmphldaaGreatDoor
open Go.RowKit

theorem least_some {l : List String} (h : l ≠ []) : ∃ m, Instr.least l = some m := by
  cases l with
  | nil => exact absurd rfl h
  | cons s l => exact ⟨_, rfl⟩
theorem part_some (k : List String) (hk : k ≠ []) (p : String → Bool) (f : String → String) : ∃ m, (Instr.least (k.partition p).2 <|> Instr.least ((k.partition p).1.map f)) = some m := by
  simp only [List.partition_eq_filter_filter]
  by_cases he : k.filter (not ∘ p) = []
  · rw [he]
    have h2 : k.filter p ≠ [] := fun e => hk (by
      cases k with
      | nil => rfl
      | cons x k =>
        have a1 := List.filter_eq_nil_iff.1 he x (List.mem_cons_self ..)
        have a2 := List.filter_eq_nil_iff.1 e x (List.mem_cons_self ..)
        cases hx : p x <;> simp_all)
    obtain ⟨m, hm2⟩ := least_some (l := (k.filter p).map f) (fun e => h2 (List.map_eq_nil_iff.1 e))
    exact ⟨m, by rw [hm2]; rfl⟩
  · obtain ⟨m, hm2⟩ := least_some he
    exact ⟨m, by rw [hm2]; rfl⟩
theorem missing_some {want : Array (String × TypeId)} {got : Array Method} (h : (want.toList.filter fun (name, sig) => !got.any fun m => m.name == name && m.sig == sig) ≠ []) : ∃ m, Instr.missingMethod want got = some m := by
  unfold Instr.missingMethod
  generalize hl : (want.toList.filter fun (name, sig) => !got.any fun m => m.name == name && m.sig == sig) = l at h ⊢
  exact part_some (l.map (·.1)) (fun e => h (List.map_eq_nil_iff.1 e)) _ _
/-- An assertion to an interface of which a method lacks. -/
theorem typeAssert_no {P : Program} {t xType asserted : TypeId} {z : Value} (h : ((P.underlying asserted).bind fun d => match d with | .interface want => (P.info? t).map fun i => (want.toList.filter fun (name, sig) => !i.methods.any fun m => m.name == name && m.sig == sig).isEmpty | _ => none) = some false)
    (hz : ((P.info? asserted).bind (·.zero)) = some z) (v : Value) (W : World) : (Instr.typeAssert (.iface t v) xType asserted true).run P W = .ok (.tuple #[z, .bool false]) W := by
  obtain ⟨d, hd, h1⟩ := Option.bind_eq_some_iff.1 h
  obtain ⟨j, hj, hjz⟩ := Option.bind_eq_some_iff.1 hz
  cases d with
  | interface want =>
    obtain ⟨i, hi, h2⟩ := Option.map_eq_some_iff.1 h1
    obtain ⟨m, hm⟩ := missing_some (want := want) (got := i.methods) (fun e => by rw [e] at h2; simp at h2)
    simp [Instr.typeAssert, underlying, typeInfo, zeroValue, hd, hi, hm, hj, hjz]
  | _ => simp at h1
theorem RowE.low {w : World} {B B' : Nat} {v : Value} {es : List Ent} (h : RowE w B v es) (hB : B' ≤ B) : RowE w B' v es := by
  refine ⟨h.1, ?_⟩
  rcases id h.2 with hn | ⟨g, cap, cur, rfl, hg, hgg, rest⟩
  · exact .inl hn
  · exact .inr ⟨g, cap, cur, rfl, Nat.le_trans hB hg, hgg, rest⟩
theorem method_misForEach (a : Addr) (w : World) : (method 472 124 (.pointer (some a)) "ForEach").run Tryz.prog w = .ok (181, .pointer (some a)) w := by kernel_rfl

set_option maxRecDepth 100000 in
set_option maxHeartbeats 4000000 in
theorem each_mw (a : Addr) (w : World) : Calls Tryz.prog 37 #[.iface 170 (.pointer (some a))] w fun e w' => e = .returned (.tuple #[.slice none 0 0, .bool false]) ∧ w' = w := by
  have hta : ∀ W, (Instr.typeAssert (.iface 170 (.pointer (some a))) 66 113 true).run Tryz.prog W = .ok (.tuple #[.nilIface, .bool false]) W := typeAssert_no (by kernel_rfl) (by kernel_rfl) _
  go_enter Tryz.func37, Tryz.ntmps37
  go_wp2_with fail
  go_ret2
  exact ⟨rfl, rfl⟩

set_option maxRecDepth 100000 in
set_option maxHeartbeats 4000000 in
theorem each_mis (w : World) (pb mm B0 : Nat) (Cs : List Nat) (D : Nat → List Nat) (S : Nat → Nat → List Rw) (hp : w.cell? ⟨pb, 0, none⟩ = some (.map (some mm))) (hmi : MisAt B0 w mm Cs D S)
    (hC : Cs.length ≤ 1000) (hc63 : ∀ c, c ∈ Cs → c < 9223372036854775808) (hD : ∀ c, c ∈ Cs → (D c).length ≤ 1000 ∧ ∀ n, n ∈ D c → n ≤ 1000 ∧ (S c n).length ≤ 1000 ∧ ∀ r, r ∈ S c n → r.off < 18446744073709551616) (htot : (Cs.map (rowsN D S)).sum ≤ 100000) :
    Calls Tryz.prog 37 #[.iface 124 (.pointer (some ⟨pb, 0, none⟩))] w fun e w' => ∃ H v, Wrt Cs D S H ∧ e = .returned (.tuple #[v, .bool true]) ∧ RowE w' w.heap.size v ((cflat H).map eacE) ∧ Off [] w w' := by
  have hta : ∀ W, (Instr.typeAssert (.iface 124 (.pointer (some ⟨pb, 0, none⟩))) 66 113 true).run Tryz.prog W = .ok (.tuple #[.iface 124 (.pointer (some ⟨pb, 0, none⟩)), .bool true]) W := fun W => by kernel_rfl
  have hmf : ∀ (fn : Fn) (first cap : Array Value) (w : World), (Instr.makeFunc fn first cap).run Tryz.prog w = .ok (.func fn first cap) w := fun _ _ _ _ => rfl
  have hmt := method_misForEach
  have hoA : Off [] w (w.alloc (.cells #[.slice none 0 0] 22)) := (Off.refl [] w).alloc _
  have hJ : EacAt w.heap.size [w.heap.size] [] (w.alloc (.cells #[.slice none 0 0] 22)) := ⟨.slice none 0 0, Blk.new w _ _, ⟨rfl, Or.inl ⟨rfl, rfl⟩⟩, rfl⟩
  have HC := Lib.hid (misEach_any (mcb_each w.heap.size) [w.heap.size] w _ hJ hoA (fun x hx => by simp at hx; omega) pb mm B0 Cs D S hp hmi hC hc63 hD htot)
  clear hp hmi hC hc63 hD htot hJ
  have HOA := Lib.hid hoA
  clear hoA
  go_enter Tryz.func37, Tryz.ntmps37
  go_wp2_with (first
    | (go_at_call 181
       refine HC.out.mono ?_
       rintro e w1 ⟨rfl, H, hH, T', hJ, ho, hT⟩
       obtain ⟨v, hb, hr, hTe⟩ := hJ.ex
       have v1 : w1.cell? ⟨w.heap.size, 0, none⟩ = some v := hb.cell 0
       have HH := Lib.hid hH; have HR := Lib.hid hr; have HO := Lib.hid ho
       clear hH hJ hb hr hTe hT ho))
  go_quiet (fail)
  go_wp2_with fail
  go_ret2
  have ho := (HOA.out.then HO.out (fun x hx => by simp at hx; subst hx; exact Or.inr (Nat.le_refl _))).drewN nq
  exact ⟨H, v, HH.out, rfl, (HR.out.low (Nat.le_succ _)).off ((Off.refl [] w1).drewN nq) (fun x _ => by simp), ho⟩

theorem map_rows : ∀ (G L : List (Nat × List Rw)), (∀ p, p ∈ L → rowsOf G p.1 = p.2) → ((L.map (·.1)).map fun n => (n, rowsOf G n)) = L
  | _, [], _ => rfl
  | G, p :: L, h => by
    rw [List.map_cons, List.map_cons, map_rows G L (fun q hq => h q (List.mem_cons_of_mem _ hq)), h p (List.mem_cons_self ..)]
theorem wrt_self {H H' : List (Nat × List (Nat × List Rw))} (hH : (H.map (·.1)).Pairwise (· < ·)) (hB : ∀ p, p ∈ H → Bks p.2) (hw : Wrt (H.map (·.1)) (fun c => (gOf H c).map (·.1)) (fun c => rowsOf (gOf H c)) H') : H' = H := by
  refine map_unique (asc_unique hw.asc hH fun x => hw.perm.mem_iff) (nodup_asc hw.asc) fun p q hp hq e => ?_
  obtain ⟨Ds, d1, d2, d3⟩ := hw.ex p hp
  have hg := gOf_mem H (nodup_asc hH) q hq
  rw [e] at d1 d3
  simp only [hg] at d1 d3
  obtain rfl := asc_unique d2 (hB q hq).asc (fun x => d1.mem_iff)
  rw [d3]
  exact map_rows q.2 q.2 (rowsOf_mem q.2 (nodup_asc (hB q hq).asc))

/-- What each_mis asks, of an index's entries. -/
structure EachOk (H : List (Nat × List (Nat × List Rw))) : Prop where
  len : (H.map (·.1)).length ≤ 1000
  c63 : ∀ c, c ∈ H.map (·.1) → c < 9223372036854775808
  rows : ∀ c, c ∈ H.map (·.1) → ((gOf H c).map (·.1)).length ≤ 1000 ∧ ∀ n, n ∈ (gOf H c).map (·.1) → n ≤ 1000 ∧ (rowsOf (gOf H c) n).length ≤ 1000 ∧ ∀ r, r ∈ rowsOf (gOf H c) n → r.off < 18446744073709551616
  tot : ((H.map (·.1)).map (rowsN (fun c => (gOf H c).map (·.1)) (fun c => rowsOf (gOf H c)))).sum ≤ 100000
theorem each_ok {rs : List (Nat × Rw)} {H : List (Nat × List (Nat × List Rw))} (h : CGrp rs H) (h1 : rs.length ≤ 1000) (h2 : ∀ r, r ∈ rs → r.1 < 9223372036854775808 ∧ r.2.d.length ≤ 1000 ∧ r.2.off < 18446744073709551616) : EachOk H := by
  have hs := h.small h1 (fun r hr => ⟨Nat.lt_of_lt_of_le (h2 r hr).1 (by decide), (h2 r hr).2.1⟩)
  have hin : ∀ p, p ∈ H → ∀ x, x ∈ p.2 → ∀ r, r ∈ x.2 → (p.1, r) ∈ rs := fun p hp x hx r hr => h.perm.mem_iff.1 (mem_cflat.2 ⟨p, hp, rfl, mem_flat.2 ⟨x, hx, hr⟩⟩)
  refine ⟨by rw [List.length_map]; exact hs.1, fun c hc => ?_, fun c hc => ?_, ?_⟩
  · obtain ⟨p, hp, rfl⟩ := List.mem_map.1 hc
    obtain ⟨x, hx⟩ := List.exists_mem_of_ne_nil _ (h.ne p hp)
    obtain ⟨r, hr⟩ := List.exists_mem_of_ne_nil _ ((h.bks p hp).ne x hx)
    exact (h2 _ (hin p hp x hx r hr)).1
  · obtain ⟨p, hp, rfl⟩ := List.mem_map.1 hc
    rw [gOf_mem H (nodup_asc h.asc) p hp]
    obtain ⟨_, a2, a3, a4⟩ := hs.2 p hp
    refine ⟨by rw [List.length_map]; exact a3, fun n hn => ?_⟩
    obtain ⟨x, hx, rfl⟩ := List.mem_map.1 hn
    rw [rowsOf_mem p.2 (nodup_asc a2.asc) x hx]
    exact ⟨(a4 x hx).1, (a4 x hx).2, fun r hr => (h2 _ (hin p hp x hx r hr)).2.2⟩
  · rw [← cflat_len (D := fun c => (gOf H c).map (·.1)) (S := fun c => rowsOf (gOf H c)) H (fun p hp => ⟨p.2.map (·.1), by simp only [gOf_mem H (nodup_asc h.asc) p hp]; exact List.Perm.refl _, (h.bks p hp).asc, by simp only [gOf_mem H (nodup_asc h.asc) p hp]; exact (map_rows p.2 p.2 (rowsOf_mem p.2 (nodup_asc (h.bks p hp).asc))).symm⟩), h.perm.length_eq]
    omega

set_option maxRecDepth 100000 in
set_option maxHeartbeats 4000000 in
theorem ixEach_mis (rs : List (Nat × Rw)) (H : List (Nat × List (Nat × List Rw))) (hH : CGrp rs H) (l : List UInt8) (hl : l = Lib.uvarint 1025 ++ mhiB H) (h1 : rs.length ≤ 1000) (h2 : ∀ r, r ∈ rs → r.1 < 9223372036854775808 ∧ r.2.d.length ≤ 1000 ∧ r.2.off < 18446744073709551616) (hsl : l.length ≤ 2000000) (sb : ByteArray) (hsb : sb.data.toList = l) (w : World) :
    Calls Tryz.prog 22 #[.string sb] w fun e w' => ∃ v, e = .returned (.tuple #[v, .bool true]) ∧ RowE w' w.heap.size v ((cflat H).map eacE) ∧ Off [] w w' := by
  have hz : sb.size = l.length := by rw [← hsb, Array.length_toList]; rfl
  have hcv := fun W => run_bytes_of_string (P := Tryz.prog) W 9 46 5 sb Tryz.underlying9 Tryz.underlying46 Tryz.underlying5
  have hsm := hH.small h1 (fun r hr => ⟨Nat.lt_of_lt_of_le (h2 r hr).1 (by decide), (h2 r hr).2.1⟩)
  have hok := each_ok hH h1 h2
  have HRF : Hid (∀ (W : World) (R b cap : Nat), RAt R b cap l 0 W → b < W.heap.size → _) := Lib.hid fun W R b cap h hb => readFrom_mis h H hl hH.asc hsm.1 hsm.2 hb
  have HEA : Hid (∀ (W : World) (pb mm B0 : Nat), W.cell? ⟨pb, 0, none⟩ = some (.map (some mm)) → MisAt B0 W mm (H.map (·.1)) (fun c => (gOf H c).map (·.1)) (fun c => rowsOf (gOf H c)) →
      Calls Tryz.prog 37 #[.iface 124 (.pointer (some ⟨pb, 0, none⟩))] W fun e w' => ∃ v, e = .returned (.tuple #[v, .bool true]) ∧ RowE w' W.heap.size v ((cflat H).map eacE) ∧ Off [] W w') := Lib.hid fun W pb mm B0 a1 a2 => by
    refine (each_mis W pb mm B0 _ _ _ a1 a2 hok.len hok.c63 hok.rows hok.tot).mono ?_
    rintro e w' ⟨H', v, hw, rfl, b1, b2⟩
    obtain rfl := wrt_self hH.asc hH.bks hw
    exact ⟨v, rfl, b1, b2⟩
  have HSB := Lib.hid hsb
  have HZ := Lib.hid hz
  clear hsb hz hsm hok h1 h2 hl hH
  go_enter Tryz.func22, Tryz.ntmps22
  go_wp2_with (first
    | (go_at_call 36
       generalize hC : grownCap w sb.size 0 5 = C
       have hCs : sb.size ≤ C := by rw [← hC]; exact grownCap_ge _ _ _ _
       clear hC
       refine (newBrd_ok _ _ _ _).mono ?_
       rintro r w1 ⟨R, rfl, hR, hr1, ho1⟩
       have hs1 : Seg w1 w.heap.size 0 l := by
         rw [← HSB.out]
         exact (Seg.off (seg_bytes w sb C _ _) (Off.drew (Off.refl [] _)) (by simp)).off ho1 (by simp)
       have hO1 : Off [] w w1 := Off.then (by repeat' (first | exact Off.refl [] w | refine Off.alloc ?_ _ | refine Off.drew ?_)) ho1 (fun x hx => by simp at hx)
       have hR2 : w.heap.size < R := by rw [hR]; simp
       have hRw := Blk.lt hr1
       have HRA : Hid (RAt R w.heap.size C l 0 w1) := Lib.hid { rd := ⟨_, by rw [← HZ.out]; exact hr1⟩, seg := hs1, ne := by omega, len := by omega, cap_ := by rw [← HZ.out]; exact hCs }
       have HO1 := Lib.hid hO1
       clear hs1 hO1 hr1 ho1 hR hCs)
    | (go_at_call 35
       refine (HRF.out _ _ _ _ HRA.out (by omega)).mono ?_
       rintro r w2 ⟨pb, mm, rfl, hpb, hmw, ho2, hpl, hml, hpm⟩
       have HO2 := Lib.hid (HO1.out.then ho2 (fun x hx => by simp at hx; right; omega))
       have HMW := Lib.hid hmw
       clear hmw ho2 hpl hml hpm)
    | (go_at_call 37
       refine (HEA.out w2 pb mm _ hpb HMW.out).mono ?_
       rintro r w3 ⟨v, rfl, hr3, ho3⟩
       have HR3 := Lib.hid (hr3.low HO2.out.size)
       have HO3 := Lib.hid (HO2.out.then ho3 (fun x hx => by simp at hx))
       clear hr3 ho3))
  go_ret2
  exact ⟨v, rfl, HR3.out, HO3.out⟩

set_option maxRecDepth 100000 in
set_option maxHeartbeats 4000000 in
theorem ixEach_mw (rs : List Rw) (G : List (Nat × List Rw)) (hG : Grp rs G) (l : List UInt8) (hl : l = Lib.uvarint 1024 ++ mwB G) (h1 : rs.length ≤ 1000) (h2 : ∀ r, r ∈ rs → r.d.length ≤ 1000) (hsl : l.length ≤ 2000000) (sb : ByteArray) (hsb : sb.data.toList = l) (w : World) :
    Calls Tryz.prog 22 #[.string sb] w fun e w' => e = .returned (.tuple #[.slice none 0 0, .bool false]) ∧ Off [] w w' := by
  have hz : sb.size = l.length := by rw [← hsb, Array.length_toList]; rfl
  have hcv := fun W => run_bytes_of_string (P := Tryz.prog) W 9 46 5 sb Tryz.underlying9 Tryz.underlying46 Tryz.underlying5
  have hsm := hG.small h1 h2
  have HRF : Hid (∀ (W : World) (R b cap : Nat), RAt R b cap l 0 W → b < W.heap.size → _) := Lib.hid fun W R b cap h hb => readFrom_mw h G hl hG.bks hsm.1 hsm.2 hb
  have HSB := Lib.hid hsb
  have HZ := Lib.hid hz
  clear hsb hz hsm h1 h2 hl hG
  go_enter Tryz.func22, Tryz.ntmps22
  go_wp2_with (first
    | (go_at_call 36
       generalize hC : grownCap w sb.size 0 5 = C
       have hCs : sb.size ≤ C := by rw [← hC]; exact grownCap_ge _ _ _ _
       clear hC
       refine (newBrd_ok _ _ _ _).mono ?_
       rintro r w1 ⟨R, rfl, hR, hr1, ho1⟩
       have hs1 : Seg w1 w.heap.size 0 l := by
         rw [← HSB.out]
         exact (Seg.off (seg_bytes w sb C _ _) (Off.drew (Off.refl [] _)) (by simp)).off ho1 (by simp)
       have hO1 : Off [] w w1 := Off.then (by repeat' (first | exact Off.refl [] w | refine Off.alloc ?_ _ | refine Off.drew ?_)) ho1 (fun x hx => by simp at hx)
       have hR2 : w.heap.size < R := by rw [hR]; simp
       have hRw := Blk.lt hr1
       have HRA : Hid (RAt R w.heap.size C l 0 w1) := Lib.hid { rd := ⟨_, by rw [← HZ.out]; exact hr1⟩, seg := hs1, ne := by omega, len := by omega, cap_ := by rw [← HZ.out]; exact hCs }
       have HO1 := Lib.hid hO1
       clear hs1 hO1 hr1 ho1 hR hCs)
    | (go_at_call 35
       refine (HRF.out _ _ _ _ HRA.out (by omega)).mono ?_
       rintro r w2 ⟨pb, mm, rfl, hpb, hmw, ho2, hpl, hml, hpm⟩
       have HO2 := Lib.hid (HO1.out.then ho2 (fun x hx => by simp at hx; right; omega))
       clear hmw ho2 hpl hml hpm)
    | (go_at_call 37
       refine (each_mw _ _).mono ?_
       rintro r w3 ⟨rfl, rfl⟩))
  go_ret2
  exact ⟨rfl, HO2.out⟩
end Go.Proofs.YtcgggcjmmphldaaGreatDoor
namespace Go.Proofs.YtcgggcjmmphldaaGreatDoor
open Go.RowKit Go.Sort

theorem own_off {w w' : World} {B e s n : Nat} {v : Value} {xs : List Value} {S : List Nat} (h : w.ownsRow B e s v n xs) (ho : Off S w w') (hS : ∀ x, x ∈ ob v → x ∉ S) : w'.ownsRow B e s v n xs := by
  refine ⟨h.1, ?_⟩
  rcases id h.2 with hn | ⟨g, cap, cur, rfl, hg, hgg, rest⟩
  · exact .inl hn
  · exact .inr ⟨g, cap, cur, rfl, hg, by rw [ho.block g (Array.getElem?_eq_some_iff.1 hgg).1 (hS g (by simp [ob, Value.ownBlock]))]; exact hgg, rest⟩
theorem own_base {w : World} {B e s n : Nat} {v : Value} {xs : List Value} (h : w.ownsRow B e s v n xs) : ∀ x, x ∈ ob v → B ≤ x := fun x hx => by
  rcases id h.2 with ⟨rfl, _⟩ | ⟨g, cap, cur, rfl, hg, hgg, rest⟩
  · simp [ob, Value.ownBlock] at hx
  · simp [ob, Value.ownBlock] at hx
    omega
theorem own_lt {w : World} {B e s n : Nat} {v : Value} {xs : List Value} (h : w.ownsRow B e s v n xs) : ∀ x, x ∈ ob v → x < w.heap.size := fun x hx => by
  rcases id h.2 with ⟨rfl, _⟩ | ⟨g, cap, cur, rfl, hg, hgg, rest⟩
  · simp [ob, Value.ownBlock] at hx
  · simp [ob, Value.ownBlock] at hx
    subst hx
    exact (Array.getElem?_eq_some_iff.1 hgg).1
/-- Blocks of different types are two. -/
theorem own_ne_blk {w : World} {B e s n : Nat} {v : Value} {xs : List Value} {g : Nat} {t : TypeId} {cs : Array Value} (h : w.ownsRow B e s v n xs) (hb : Blk w g t cs) (ht : t ≠ e) : g ∉ ob v := fun hx => by
  rcases id h.2 with ⟨rfl, _⟩ | ⟨k, cap, cur, rfl, hg, hgg, rest⟩
  · simp [ob, Value.ownBlock] at hx
  · simp [ob, Value.ownBlock] at hx
    subst hx
    have e := Option.some.inj (hgg.symm.trans hb)
    injection e with _ e2 _
    exact ht e2.symm
theorem own_ne {w : World} {B e s n B' e' s' n' : Nat} {v v' : Value} {xs xs' : List Value} (h : w.ownsRow B e s v n xs) (h' : w.ownsRow B' e' s' v' n' xs') (ht : e ≠ e') : ∀ x, x ∈ ob v → x ∉ ob v' := fun x hx hx' => by
  rcases id h.2 with ⟨rfl, _⟩ | ⟨k, cap, cur, rfl, hg, hgg, rest⟩
  · simp [ob, Value.ownBlock] at hx
  · rcases id h'.2 with ⟨rfl, _⟩ | ⟨k', cap', cur', rfl, hg', hgg', rest'⟩
    · simp [ob, Value.ownBlock] at hx'
    · simp [ob, Value.ownBlock] at hx hx'
      subst hx
      subst hx'
      have e := Option.some.inj (hgg.symm.trans hgg')
      injection e with _ e2 _
      exact ht e2
theorem own_shape {w : World} {B e size n : Nat} {v : Value} {xs : List Value} (h : w.ownsRow B e size v n xs) : ∃ A b c, v = .slice A n c ∧ (A = none → n = 0 ∧ c = 0) ∧ (0 < n → A = some ⟨b, 0, none⟩ ∧ b ∈ ob v ∧ b < w.heap.size ∧ ∀ j u, xs[j]? = some u → w.cell? ⟨b, j, none⟩ = some u) := by
  rcases id h.2 with ⟨rfl, h0⟩ | ⟨g, cap, cur, rfl, hg, hgg, rest⟩
  · exact ⟨none, 0, 0, by rw [h0], fun _ => ⟨h0, rfl⟩, fun hn => by omega⟩
  · refine ⟨some ⟨g, 0, none⟩, g, cap, rfl, (fun h => by cases h), fun _ => ⟨rfl, by simp [ob, Value.ownBlock], (Array.getElem?_eq_some_iff.1 hgg).1, fun j u hu => ?_⟩⟩
    have h2 := World.ownsRow.cells h (g := g) rfl j u hu
    rw [add_plain, Nat.zero_add] at h2
    exact h2

def rowC (e : Ent) : List Value := [.int .u64 (e.code : Int), .string e.dg, .int .u64 (e.off : Int)]
def rowsC (es : List Ent) : List Value := es.flatMap rowC
/-- Rows of spec.Row, of these entries, over a block of their own (or none). -/
def RowR (w : World) (B : Nat) (v : Value) (es : List Ent) : Prop := w.ownsRow B 54 3 v es.length (rowsC es)
theorem Tryz.infoRow : (Tryz.prog.info? 54).map (fun i => (i.zero, i.size, i.bytes)) = some (some (.agg #[.int .u64 0, .string ByteArray.empty, .int .u64 0]), 3, 32) := by kernel_rfl
theorem Tryz.infoSlE : (Tryz.prog.info? 22).map (fun i => (i.zero, i.size, i.bytes)) = some (some (.slice none 0 0), 1, 24) := by kernel_rfl
theorem rowC_one (e : Ent) : ∀ u ∈ rowC e, u.oneCell' = true := fun u he => by
  simp only [rowC, List.mem_cons, List.not_mem_nil, or_false] at he
  rcases he with rfl | rfl | rfl <;> rfl
theorem rowsC_snoc (es : List Ent) (e : Ent) : rowsC (es ++ [e]) = rowsC es ++ rowC e := by simp [rowsC]
theorem rowsC_len : ∀ (es : List Ent), (rowsC es).length = es.length * 3
  | [] => rfl
  | e :: es => by
    have h : rowsC (e :: es) = rowC e ++ rowsC es := rfl
    rw [h, List.length_append, rowsC_len es, List.length_cons]
    simp only [rowC, List.length_cons, List.length_nil]
    omega
/-- Out's row in a loop that began in w with v. -/
structure Ot (w : World) (v : Value) (B : Nat) (s : Value) (wr : World) (l : List Ent) (b : Nat) : Prop where
  off : Off (ob v) w wr
  grew : Grew w v s
  row : RowR wr B s l
  len : l.length ≤ b
theorem Ot.still {w : World} {v : Value} {B : Nat} {s : Value} {wr wr' : World} {l : List Ent} {b : Nat} (h : Ot w v B s wr l b) (ho : Off [] wr wr') : Ot w v B s wr' l b :=
  ⟨h.off.then ho (fun x hx => by simp at hx), h.grew, own_off h.row ho (fun x _ => by simp), h.len⟩
theorem Ot.more {w : World} {v : Value} {B : Nat} {s : Value} {wr : World} {l : List Ent} {b b' : Nat} (h : Ot w v B s wr l b) (hb : b ≤ b') : Ot w v B s wr l b' := ⟨h.off, h.grew, h.row, Nat.le_trans h.len hb⟩
theorem Ot.list {w : World} {v : Value} {B : Nat} {s : Value} {wr : World} {l l' : List Ent} {b : Nat} (h : Ot w v B s wr l b) (e : l = l') : Ot w v B s wr l' b := e ▸ h
theorem Ot.snoc {w : World} {v : Value} {B : Nat} {s s' : Value} {wr w1 w2 : World} {l : List Ent} {b m : Nat} {e : Ent} (h : Ot w v B s wr l b) (ho : Off [] wr w1) (hg : w1.grownBy w2 s.ownBlock) (hat : s'.ownBlock = s.ownBlock ∨ s'.ownBlock = some w1.heap.size) (hm : m = l.length) (hr : w2.ownsRow B 54 3 s' (m + 1) (rowsC l ++ rowC e)) : Ot w v B s' w2 (l ++ [e]) (b + 1) := by
  have h1 := h.still ho
  have h2 : Grew w1 s s' := hat.elim Or.inl (fun h => Or.inr ⟨_, h, Nat.le_refl _⟩)
  refine ⟨h1.grew.off h1.off (off_grown_own (S := ob s) hg (fun g hg => by simp [ob, hg])), h1.grew.trans h2 h1.off.size, ?_, ?_⟩
  · unfold RowR
    rw [rowsC_snoc, List.length_append, ← hm]
    exact hr
  · rw [List.length_append]
    have := h.len
    simp only [List.length_cons, List.length_nil]
    omega
/-- A group's entries of a width. -/
def selW (es : List Ent) (n : Nat) : List Ent := es.filter fun e => e.dg.size == n
theorem selW_take (es : List Ent) (n j : Nat) (hj : j < es.length) : selW (es.take (j + 1)) n = selW (es.take j) n ++ if es[j].dg.size = n then [es[j]] else [] := by
  unfold selW
  rw [List.take_succ_eq_append_getElem hj, List.filter_append]
  by_cases h : es[j].dg.size = n
  · rw [if_pos h, List.filter_cons_of_pos (by simpa using h), List.filter_nil]
  · rw [if_neg h, List.filter_cons_of_neg (by simpa using h), List.filter_nil]
def rwE (e : Ent) : Nat × Rw := (e.code, e.rw)
theorem sel_flat (es' : List Ent) (c : Nat) (hc : ∀ e, e ∈ es' → e.code = c) (Ws : List Nat) : (Ws.flatMap (selW es')).map rwE = (flat (Ws.map (grpG es'))).map fun r => (c, r) := by
  induction Ws with
  | nil => rfl
  | cons n Ws ih =>
    have h1 : flat ((n :: Ws).map (grpG es')) = widS es' n ++ flat (Ws.map (grpG es')) := rfl
    rw [List.flatMap_cons, List.map_append, ih, h1, List.map_append]
    congr 1
    unfold widS selW
    rw [List.map_map]
    refine List.map_congr_left fun e he => ?_
    have := hc e (List.mem_filter.1 he).1
    simp [rwE, this]
theorem str_dg (e : Ent) : str e.rw.d = e.dg := by
  cases e with
  | mk a b c d f => apply ByteArray.ext; simp [Ent.rw]

/-- The groups that have been gathered. -/
structure GrI (w1 wr : World) (es : List Ent) (Cs : List Nat) (i : Nat) (s : Value) (Vs : List Value) : Prop where
  off : Off [] w1 wr
  len : Vs.length = i
  own : wr.ownsRow w1.heap.size 22 1 s i Vs
  each : ∀ k (hk : k < Vs.length), ∃ c, Cs[k]? = some c ∧ RowE wr w1.heap.size Vs[k] (es.filter fun e => e.code == c)
theorem GrI.next {w1 wr w31 w32 w5 : World} {es : List Ent} {Cs : List Nat} {i c1 : Nat} {s s' v31 : Value} {Vs : List Value} (h : GrI w1 wr es Cs i s Vs) (hc : Cs[i]? = some c1) (hv : RowE w31 wr.heap.size v31 (es.filter fun e => e.code == c1)) (h1 : Off [] wr w31) (h2 : Off [] w31 w32) (hg : w32.grownBy w5 s.ownBlock) (ho : w5.ownsRow w1.heap.size 22 1 s' (i + 1) (Vs ++ [v31])) : GrI w1 w5 es Cs (i + 1) s' (Vs ++ [v31]) := by
  have h12 := h1.then h2 (fun x hx => by simp at hx)
  have h5 : Off (ob s) w32 w5 := off_grown_own (S := ob s) hg (fun g hg => by simp [ob, hg])
  have hown := own_off h.own h12 (fun x _ => by simp)
  have hmv : ∀ {v : Value} {l : List Ent} {B : Nat}, RowE w32 B v l → RowE w5 B v l := fun {v l B} hr => hr.off h5 (own_ne hr hown (by decide))
  refine ⟨(h.off.then h12 (fun x hx => by simp at hx)).then h5 (fun x hx => Or.inr (own_base h.own x hx)), by rw [List.length_append, h.len]; rfl, ho, fun k hk => ?_⟩
  rw [List.length_append, List.length_singleton] at hk
  by_cases hk2 : k < Vs.length
  · obtain ⟨c, hc1, hc2⟩ := h.each k hk2
    refine ⟨c, hc1, ?_⟩
    rw [List.getElem_append_left hk2]
    exact hmv (hc2.off h12 (fun x _ => by simp))
  · have hk3 : k = Vs.length := by omega
    subst hk3
    refine ⟨c1, by rw [h.len]; exact hc, ?_⟩
    rw [List.getElem_append_right (Nat.le_refl _)]
    simp only [Nat.sub_self, List.getElem_singleton]
    have hr := hmv (hv.off h2 (fun x _ => by simp))
    refine ⟨hr.1, ?_⟩
    rcases id hr.2 with hn | ⟨g, cap, cur, e, hgg, rest⟩
    · exact .inl hn
    · exact .inr ⟨g, cap, cur, e, Nat.le_trans h.off.size hgg, rest⟩
theorem GrI.still {w1 wr wr' : World} {es : List Ent} {Cs : List Nat} {i : Nat} {s : Value} {Vs : List Value} (h : GrI w1 wr es Cs i s Vs) (ho : Off [] wr wr') : GrI w1 wr' es Cs i s Vs :=
  ⟨h.off.then ho (fun x hx => by simp at hx), h.len, own_off h.own ho (fun x _ => by simp), fun k hk => by
    obtain ⟨c, h1, h2⟩ := h.each k hk
    exact ⟨c, h1, h2.off ho (fun x _ => by simp)⟩⟩
end Go.Proofs.YtcgggcjmmphldaaGreatDoor
