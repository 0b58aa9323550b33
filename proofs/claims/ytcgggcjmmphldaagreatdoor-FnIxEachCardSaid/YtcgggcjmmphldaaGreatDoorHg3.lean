/-
  The callback of impl.offsets: it appends an offset to the caller's row.
  singleWidthIndex.getAll, with impl.offsets' callback (NOT YET CLEAN).
  singleWidthIndex.getAll, with impl.offsets' callback .
  (No condition beyond those that each theorem states.)
-/
import Derived.Test.YtcgggcjmmphldaaGreatDoorHg2
import Derived.Test.YtcgggcjmmphldaaGreatDoorHb3
import Derived.Test.YtcgggcjmmphldaaGreatDoorHb5
namespace Go.Proofs.YtcgggcjmmphldaaGreatDoor
open Go.RowKit

/-- The offsets told so far: in the box ob; its row is none, or a block from wB on. -/
def OutRow (wB W : World) (v : Value) (outs : List Nat) : Prop :=
  (outs = [] ∧ v = .slice none 0 0) ∨ ∃ g cap sp, v = .slice (some ⟨g, 0, none⟩) outs.length cap ∧ wB.heap.size ≤ g ∧ Blk W g 23 ((ints outs).map (Value.int .u64) ++ sp).toArray ∧ sp.length + outs.length * 1 = cap * 1 ∧ outs.length ≤ cap ∧ cap ≤ maxLen
structure OutAt (wB : World) (ob mb most : Nat) (outs : List Nat) (W : World) : Prop where
  off : Off [ob] wB W
  row : ∃ v, Blk W ob 33 #[v] ∧ OutRow wB W v outs
  mst : Blk wB mb 3 #[.int .i64 (most : Int)]
  ne : mb ≠ ob
  lt : ob < wB.heap.size
theorem OutRow.off {wB W W' : World} {v : Value} {outs : List Nat} {S : List Nat} (h : OutRow wB W v outs) (ho : Off S W W') (hS : ∀ x, x ∈ S → x < wB.heap.size) : OutRow wB W' v outs := by
  rcases h with h | ⟨g, cap, sp, h1, h2, h3, h4⟩
  · exact Or.inl h
  · exact Or.inr ⟨g, cap, sp, h1, h2, h3.off ho (fun hx => by have := hS _ hx; omega), h4⟩
theorem OutRow.owns {wB W : World} {v : Value} {outs : List Nat} (h : OutRow wB W v outs) : W.ownsRow 0 23 1 v outs.length ((ints outs).map (Value.int .u64)) := by
  rcases h with ⟨rfl, rfl⟩ | ⟨g, cap, sp, rfl, h2, h3, h4, h5, h6⟩
  · exact World.ownsRow_nil _ _ _ _
  · exact owns_blk h3 (by simp [ints]) h4 h5 h6
theorem OutRow.own {wB W : World} {v : Value} {outs : List Nat} (h : OutRow wB W v outs) : ∀ g, v.ownBlock = some g → wB.heap.size ≤ g := by
  rcases h with ⟨rfl, rfl⟩ | ⟨g, cap, sp, rfl, h2, _⟩
  · intro g hg; simp [Value.ownBlock] at hg
  · intro g' hg
    simp [Value.ownBlock] at hg
    omega
theorem OutAt.keep {wB W W' : World} {ob mb most : Nat} {outs : List Nat} (h : OutAt wB ob mb most outs W) (ho : Off [] W W') : OutAt wB ob mb most outs W' := by
  obtain ⟨v, h1, h2⟩ := h.row
  exact { h with off := h.off.then ho (fun x hx => by simp at hx), row := ⟨v, h1.off ho (by simp), h2.off ho (fun x hx => by simp at hx)⟩ }

set_option maxRecDepth 100000 in
set_option maxHeartbeats 2000000 in
theorem outCall (wB W : World) (ob mb most x : Nat) (outs : List Nat) (h : OutAt wB ob mb most outs W) (hn : outs.length ≤ 100000) :
    Calls Tryz.prog 41 #[.int .u64 (x : Int), .pointer (some ⟨ob, 0, none⟩), .pointer (some ⟨mb, 0, none⟩)] W fun e w' => e = .returned (.bool (decide (outs.length + 1 < most))) ∧ OutAt wB ob mb most (outs ++ [x]) w' := by
  obtain ⟨v, hb, hr⟩ := h.row
  obtain ⟨i0, hi, hz0, hz1, hz2⟩ := info_parts Tryz.infoU64
  obtain ⟨n, hnn⟩ : ∃ n, n = outs.length := ⟨_, rfl⟩
  obtain ⟨A, cap, hvA⟩ : ∃ A cap, v = .slice A n cap := by
    rcases hr with ⟨h1, h2⟩ | ⟨g, cap, sp, h2, _⟩
    · exact ⟨none, 0, by rw [hnn, h1, h2]; rfl⟩
    · exact ⟨_, cap, by rw [hnn]; exact h2⟩
  subst hvA
  have hlt := h.lt
  have hne := h.ne
  have hmlt := h.mst.lt
  have hoW := h.off.size
  have c0 : W.cell? ⟨ob, 0, none⟩ = some (.slice A n cap) := hb.cell 0
  have hAl : Off [] W (W.alloc (.cells #[.int .u64 (x : Int)] 23)) := Off.alloc (Off.refl [] W) _
  have hown := (hr.off hAl (fun x hx => by simp at hx)).owns
  have hxl : ((ints outs).map (Value.int .u64)).length = n * 1 := by simp [ints, hnn]
  rw [← hnn] at hown hn
  have hmst : W.cell? ⟨mb, 0, none⟩ = some (.int .i64 (most : Int)) := (h.mst.off h.off (ni1 hne)).cell 0
  have HOWN := Lib.hid hown
  have HXL := Lib.hid hxl
  have HH := Lib.hid h
  have HB := Lib.hid hb
  have HR := Lib.hid hr
  have HN := Lib.hid hnn
  have HM := Lib.hid hmst
  have HAL := Lib.hid hAl
  rw [← hnn]
  clear hown hxl h hb hr hnn hmst hAl
  go_enter Tryz.func41, Tryz.ntmps41
  go_wp2_with (at_builtin
               refine wpList_append_blk rfl _ _ 33 rfl 23 i0 _ 1 8 Tryz.underlying33 hi hz0 hz1 hz2 rfl (by decide) (.slice A n cap) n ((ints outs).map (Value.int .u64)) HXL.out rfl HOWN.out ⟨W.heap.size, 0, none⟩ 1 [.int .u64 (x : Int)] rfl rfl (news_alloc _ _ _) (oneInt _ _) (by unfold maxLen; omega) (by omega) ?_
               intro g' cap' sp' w5 hb5 q1 q2 q3 hg5 ho5 hown5
               have ho5' := ho5.out (Value.slice A n cap).ownBlock.toList (fun g hg => by simp [hg])
               have hvs : ∀ y, y ∈ (Value.slice A n cap).ownBlock.toList → wB.heap.size ≤ y := fun y hy => HR.out.own y (by simpa using hy)
               have hob5 := (HB.out.alloc (.cells #[.int .u64 (x : Int)] 23)).off ho5' (fun hx => by have := hvs ob hx; omega)
               have f5 := hob5.frozen 0
               have d5 : w5.cell? ⟨ob, 0, none⟩ = some (.slice A n cap) := hob5.cell 0
               have hO5 := (HAL.out.mono (S' := (Value.slice A n cap).ownBlock.toList) (fun x hx => by simp at hx)).then ho5' (fun x hx => Or.inl hx)
               have m5 : w5.cell? ⟨mb, 0, none⟩ = some (.int .i64 (most : Int)) := hO5.cell HM.out (fun hx => by have := hvs mb hx; omega)
               have HOB := Lib.hid hob5; have HO5 := Lib.hid hO5; have HQ3 := Lib.hid q3; have HG5 := Lib.hid hg5
               have HVS := Lib.hid hvs
               clear hob5 hO5 q3 hg5 hown5 ho5' hvs c0)
  go_ret
  have hg : wB.heap.size ≤ g' := by
    rcases HG5.out with h | h
    · exact HR.out.own g' h
    · rw [h, size_alloc]; omega
  have hO6 : Off [ob] w5 (w5.setCell ⟨ob, 0, none⟩ (.slice (some ⟨g', 0, none⟩) (n + 1) cap')) := (Off.refl [ob] w5).setCell (p := ⟨ob, 0, none⟩) (Or.inl (by simp)) _
  have hlen : (outs ++ [x]).length = n + 1 := by rw [List.length_append, ← HN.out]; rfl
  refine ⟨?_, { off := (HH.out.off.then HO5.out (fun y hy => Or.inr (HVS.out y hy))).then hO6 (fun y hy => Or.inl hy), row := ⟨.slice (some ⟨g', 0, none⟩) (n + 1) cap', HOB.out.set_ 0 _, Or.inr ⟨g', cap', sp', by rw [hlen], hg, ?_, by rw [hlen]; exact HQ3.out, by rw [hlen]; exact q1, q2⟩⟩, mst := HH.out.mst, ne := hne, lt := hlt }⟩
  · rw [show decide (n + 1 < most) = decide ((n : Int) + 1 < (most : Int)) from decide_eq_decide.2 (by omega)]
    rfl
  · have h1 := hb5.out.off hO6 (ni1 (by omega))
    simpa [ints] using h1
end Go.Proofs.YtcgggcjmmphldaaGreatDoor
namespace Go.Proofs.YtcgggcjmmphldaaGreatDoor
open Go.RowKit

/-- The first places of a row of digests that are less than d: 'p i': place i's digest is not less. -/
def notLess (d : List UInt8) (rows : List Rw) (i : Nat) : Bool := match rows[i]? with | some r => decide (Lib.compareBytes d r.d ≤ 0) | none => true
theorem notLess_at (d : List UInt8) (rows : List Rw) (i : Nat) (h : i < rows.length) : notLess d rows i = decide (Lib.compareBytes d rows[i].d ≤ 0) := by
  unfold notLess
  rw [List.getElem?_eq_getElem h]
theorem cmp_le : ∀ (a b : List UInt8), (Lib.compareBytes a b ≤ 0) ↔ ¬ b < a
  | [], [] => by simp [Lib.compareBytes]
  | [], _ :: _ => by simp [Lib.compareBytes]
  | _ :: _, [] => by simp [Lib.compareBytes]
  | x :: a, y :: b => by
    simp only [Lib.compareBytes, List.cons_lt_cons_iff]
    split
    · rename_i h
      have h2 : ¬ y < x := fun h3 => absurd (UInt8.lt_trans h h3) (UInt8.lt_irrefl x)
      have h4 : y ≠ x := fun e => by subst e; exact UInt8.lt_irrefl y h
      simp [h2, h4]
    · rename_i h
      split
      · rename_i h2
        simp [h2]
      · rename_i h2
        have e : x = y := UInt8.le_antisymm (UInt8.not_lt.1 h2) (UInt8.not_lt.1 h)
        subst e
        have := cmp_le a b
        simp [UInt8.lt_irrefl]
        simpa using this
end Go.Proofs.YtcgggcjmmphldaaGreatDoor
namespace Go.Proofs.YtcgggcjmmphldaaGreatDoor
open Go.RowKit

theorem tw_take {α : Type} (p : α → Bool) : ∀ (L : List α) (j : Nat), (∀ r, r ∈ L.take j → p r = true) → (∀ h : j < L.length, p L[j] = false) → L.takeWhile p = L.take j
  | [], j, _, _ => by simp
  | a :: L, 0, _, h2 => by
    have := h2 (by simp)
    simp at this
    simp [this]
  | a :: L, j + 1, h1, h2 => by
    have ha := h1 a (by simp)
    rw [List.takeWhile_cons, if_pos ha, List.take_succ_cons, tw_take p L j (fun r hr => h1 r (by simp [hr])) (fun h => by have := h2 (by rw [List.length_cons]; omega); rwa [List.getElem_cons_succ] at this)]

set_option maxRecDepth 100000 in
set_option maxHeartbeats 4000000 in
theorem getAll_any (w : World) (q n W8 k M C Cd ob mb most : Nat) (A : Option Addr) (rows : List Rw) (d : List UInt8) (hq : Blk w q 293 #[.int .u32 (W8 : Int), .int .u64 (k : Int), .slice (some ⟨C, 0, none⟩) M M])
    (hW : W8 = n + 8) (hn : n ≤ 1000) (hk : rows.length = k) (hk2 : k ≤ 1000) (hM : M = W8 * k) (hw : ∀ r, r ∈ rows → r.d.length = n) (hs : Seg w C 0 (rowsB rows)) (hd : DgIn w (.slice A d.length Cd) d) (hdl : d.length ≤ Cd)
    (hsrt : Srtd rows) (ev : Value) (hob : Blk w ob 33 #[.slice none 0 0]) (hmb : Blk w mb 3 #[.int .i64 (most : Int)]) (hom : mb ≠ ob) (hqo : q ≠ ob) (hCo : C ≠ ob) (hdo : ∀ W, Off [ob] w W → DgIn W (.slice A d.length Cd) d) (hmost : k < most) (hoff : ∀ r, r ∈ rows → r.off < 18446744073709551616)
    (hE : w.cell? ⟨0, 0, none⟩ = some ev) (hEo : 0 ≠ ob) :
    Calls Tryz.prog 205 #[.pointer (some ⟨q, 0, none⟩), .slice A d.length Cd, .func (.func 41) #[] #[.pointer (some ⟨ob, 0, none⟩), .pointer (some ⟨mb, 0, none⟩)]] w fun e w' =>
      e = .returned (if (rows.filter fun r => r.d == d) = [] then ev else .nilIface) ∧ ∃ w1, Off [] w w1 ∧ OutAt w1 ob mb most ((rows.filter fun r => r.d == d).map (·.off)) w' := by
  have hk1 : IntKind.i64.wrap (k : Int) = (k : Int) := by rw [IntKind.wrap_i64]; omega
  have hmf : ∀ (fn : Fn) (first cap : Array Value) (w : World), (Instr.makeFunc fn first cap).run Tryz.prog w = .ok (.func fn first cap) w := fun _ _ _ _ => rfl
  obtain ⟨wB, hwB⟩ : ∃ wB, wB = (w.alloc (.cells #[.pointer (some ⟨q, 0, none⟩)] 331)).alloc (.cells #[.slice A d.length Cd] 46) := ⟨_, rfl⟩
  have hoB : Off [] w wB := by rw [hwB]; exact (Off.alloc (Off.refl [] w) _).alloc _
  have hqB := hq.off hoB (by simp)
  have hdB := hd.off0 hoB
  have hsB := hs.off hoB (by simp)
  have hpB : Blk wB w.heap.size 331 #[.pointer (some ⟨q, 0, none⟩)] := by rw [hwB]; exact (Blk.new' w _ _ rfl).alloc _
  have hvB : Blk wB (w.heap.size + 1) 46 #[.slice A d.length Cd] := by rw [hwB]; exact Blk.new' _ _ _ (by simp)
  have hp0 : wB.cell? ⟨w.heap.size, 0, none⟩ = some (.pointer (some ⟨q, 0, none⟩)) := hpB.cell 0
  have hq1 : wB.cell? ⟨q, 1, none⟩ = some (.int .u64 (k : Int)) := hqB.cell 1
  have HSE := Lib.hid (search_off 228 #[.pointer (some ⟨w.heap.size, 0, none⟩), .pointer (some ⟨w.heap.size + 1, 0, none⟩)] k (notLess d rows) wB (enters_of Tryz.func228 (by kernel_rfl) rfl) (by omega)
    (fun W i ho hi => by
      rw [notLess_at d rows i (by omega)]
      exact getAllP_any W w.heap.size (w.heap.size + 1) q i (.slice A d.length Cd) _ ((hpB.off ho (by simp)).cell 0) ((hvB.off ho (by simp)).cell 0) (swLess_any W q n W8 k M C i Cd A rows d (hqB.off ho (by simp)) hW hn hk hk2 hM hw (hsB.off ho (by simp)) hi (hdB.off0 ho) hdl))
    (fun a b hab hb hpa => by
      rw [notLess_at d rows a (by omega), decide_eq_true_eq, cmp_le] at hpa
      rw [notLess_at d rows b (by omega), decide_eq_true_eq, cmp_le]
      rcases Nat.eq_or_lt_of_le hab with h | h
      · subst h; exact hpa
      · have h1 := List.pairwise_iff_getElem.1 hsrt a b (by omega) (by omega) h
        exact fun h2 => hpa (by
          by_cases hc : rows[a].d < rows[b].d
          · exact lt_tr hc h2
          · rw [lt_or hc h1]; exact h2)))
  obtain ⟨rv, hrv⟩ : ∃ rv, rv = (if (rows.filter fun r => r.d == d) = [] then ev else .nilIface) := ⟨_, rfl⟩
  rw [← hrv]
  have HRV := Lib.hid hrv
  clear hrv
  have HPB := Lib.hid hpB
  have HVB := Lib.hid hvB
  have HQB := Lib.hid hqB
  have HDB := Lib.hid hdB
  have HSB := Lib.hid hsB
  have HOB := Lib.hid hoB
  clear hpB hvB hqB hdB hsB hoB hd hs hq
  subst hwB
  go_enter Tryz.func205, Tryz.ntmps205
  go_wp2_with (go_at_call 227; refine HSE.out.mono ?_; rintro e w1 ⟨i0, rfl, hi0, hlo, hhi, hO1⟩; have HO1 := Lib.hid hO1; clear hO1)
  have hlow : ∀ j (hj : j < rows.length), j < i0 → rows[j].d < d := fun j hj hji => by
    have := hlo j hji
    rw [notLess_at d rows j hj, decide_eq_false_iff_not, cmp_le] at this
    exact Decidable.byContradiction fun h => this h
  have hup : ∀ h : i0 < rows.length, ¬ rows[i0].d < d := fun h => by
    have := hhi i0 (Nat.le_refl _) (by omega)
    rw [notLess_at d rows i0 h, decide_eq_true_eq, cmp_le] at this
    exact this
  have hseek := seek_eq d rows hsrt i0 (by omega) hlow hup
  have hobl := hob.lt
  have hmbl := hmb.lt
  have hOw : Off [] w w1 := HOB.out.then HO1.out (fun x hx => by simp at hx)
  have hO0 : OutAt w1 ob mb most [] w1 := { off := Off.refl _ _, row := ⟨_, hob.off hOw (by simp), Or.inl ⟨rfl, rfl⟩⟩, mst := hmb.off hOw (by simp), ne := hom, lt := Nat.lt_of_lt_of_le hobl hOw.size }
  have HO0 := Lib.hid hO0
  have HOW := Lib.hid hOw
  have HSEEK := Lib.hid hseek
  have HDO := Lib.hid hdo
  have HWD := Lib.hid hw
  have HKK := Lib.hid hk
  have HMM := Lib.hid hM
  have HW8 := Lib.hid hW
  have HOFF := Lib.hid hoff
  clear hlow hup hseek hlo hhi hsrt hOw hO0 hdo hw hob hmb HSE hp0 hq1 hoff hW hk hM
  go_loopg [7, 8] k (fun kx s7 s8 wr => ∃ j : Nat, s7 = .int .i64 ((i0 + j : Nat) : Int) ∧ s8 = .bool (decide (0 < j)) ∧ i0 + j ≤ k ∧ k - (i0 + j) ≤ kx ∧ Hid (OutAt w1 ob mb most (((rows.drop i0).take j).map (·.off)) wr ∧ ∀ r, r ∈ (rows.drop i0).take j → r.d = d))
  case atStart => exact ⟨0, rfl, rfl, by omega, by omega, Lib.hid ⟨by simpa using HO0.out, fun r hr => by simp at hr⟩⟩
  case round =>
    rename World => wr
    obtain ⟨j, rfl, rfl, hjk, hkx, hh⟩ := hrel
    obtain ⟨hO, hall⟩ := hh.out
    have hOr : Off [ob] w wr := (HOW.out.mono (S' := [ob]) (fun x hx => by simp at hx)).then hO.off (fun x hx => Or.inl hx)
    have hq' := (HQB.out.off HO1.out (by simp)).off hO.off (ni1 hqo)
    have hobl1 := hO.lt
    have hp' := (HPB.out.off HO1.out (by simp)).off hO.off (ni1 (by omega))
    have hv' := (HVB.out.off HO1.out (by simp)).off hO.off (ni1 (by omega))
    have hE' : wr.cell? ⟨0, 0, none⟩ = some ev := hOr.cell hE (ni1 hEo)
    have b0 : wr.cell? ⟨w.heap.size, 0, none⟩ = some (.pointer (some ⟨q, 0, none⟩)) := hp'.cell 0
    have b1 : wr.cell? ⟨w.heap.size + 1, 0, none⟩ = some (.slice A d.length Cd) := hv'.cell 0
    have q0 : wr.cell? ⟨q, 0, none⟩ = some (.int .u32 (W8 : Int)) := hq'.cell 0
    have q1 : wr.cell? ⟨q, 1, none⟩ = some (.int .u64 (k : Int)) := hq'.cell 1
    have q2 : wr.cell? ⟨q, 2, none⟩ = some (.slice (some ⟨C, 0, none⟩) M M) := hq'.cell 2
    obtain ⟨x, hx⟩ : ∃ x, x = i0 + j := ⟨_, rfl⟩
    have hxu : IntKind.u64.wrap (x : Int) = (x : Int) := by rw [IntKind.wrap_u64]; omega
    rw [← hx]
    have htake : ∀ h : x < rows.length, (rows.drop i0).take (j + 1) = (rows.drop i0).take j ++ [rows[x]] := fun h => by
      rw [List.take_add_one, List.getElem?_drop, ← hx, List.getElem?_eq_getElem h]; rfl
    have HTAKE := Lib.hid htake
    have HALL := Lib.hid hall
    have HX := Lib.hid hx
    clear htake hall hh hx
    by_cases hlt : x < k
    · have hltz : (x : Int) < (k : Int) := by omega
      have hxr : x < rows.length := by have := HKK.out; omega
      obtain ⟨y, hy⟩ : ∃ y, y = (rows[x]'hxr) := ⟨_, rfl⟩
      have hym : y ∈ rows := by rw [hy]; exact List.getElem_mem _
      have hyn : y.d.length = n := HWD.out y hym
      have hyo : y.off < 18446744073709551616 := HOFF.out y hym
      obtain ⟨o1, ho1⟩ : ∃ o1, o1 = x * W8 := ⟨_, rfl⟩
      obtain ⟨o2, ho2⟩ : ∃ o2, o2 = o1 + n := ⟨_, rfl⟩
      obtain ⟨o3, ho3⟩ : ∃ o3, o3 = (x + 1) * W8 := ⟨_, rfl⟩
      have hW := HW8.out
      have hM := HMM.out
      have h13 : o3 = o1 + W8 := by rw [ho3, ho1, Nat.succ_mul]
      have h3M : o3 ≤ M := by rw [ho3, hM, Nat.mul_comm W8 k]; exact Nat.mul_le_mul_right _ hlt
      have hMle : M ≤ 1008000 := by rw [hM]; exact Nat.le_trans (Nat.mul_le_mul (show W8 ≤ 1008 by omega) hk2) (by omega)
      have hsr := (HSB.out.off HO1.out (by simp)).off hO.off (ni1 hCo)
      have hsx : Seg wr C o1 y.d ∧ Seg wr C o2 (Lib.leBytes 8 y.off) := by
        obtain ⟨rest, hr⟩ := rowsB_at n rows x hxr HWD.out
        rw [← hW, ← ho1] at hr
        have hle : o1 ≤ (rowsB rows).length := by rw [rowsB_length rows n HWD.out, ← hW, HKK.out, ← hM]; omega
        have h1 := hsr.drop o1 hle
        rw [hr, Nat.zero_add, rowB, ← hy] at h1
        refine ⟨h1.left.left, ?_⟩
        have := h1.left.right
        rwa [hyn, ← ho2] at this
      have hc1 : IntKind.i64.wrap ((x : Int) * (W8 : Int)) = (o1 : Int) := by
        have : ((x : Int) * (W8 : Int)) = (o1 : Int) := by rw [ho1, Int.natCast_mul]
        rw [IntKind.wrap_i64, this]; omega
      have hc2 : IntKind.i64.wrap (((x : Int) + 1) * (W8 : Int)) = (o3 : Int) := by
        have : (((x : Int) + 1) * (W8 : Int)) = (o3 : Int) := by rw [ho3, Int.natCast_mul]; rfl
        rw [IntKind.wrap_i64, this]; omega
      have hc3 : IntKind.i64.wrap ((x : Int) + 1) = (x : Int) + 1 := by rw [IntKind.wrap_i64]; omega
      have hc4 : IntKind.i64.wrap (W8 : Int) = (W8 : Int) := by rw [IntKind.wrap_i64]; omega
      have hc5 : IntKind.i64.wrap ((o3 : Int) - 8) = (o2 : Int) := by rw [IntKind.wrap_i64]; omega
      have hz1 : (0 : Int) ≤ (o1 : Int) := by omega
      have hz2 : (o1 : Int) ≤ (o2 : Int) := by omega
      have hz3 : (o2 : Int) ≤ (M : Int) := by omega
      have hz4 : (0 : Int) ≤ (o2 : Int) := by omega
      have hz5 : (o2 : Int) ≤ (o3 : Int) := by omega
      have hz6 : (o3 : Int) ≤ (M : Int) := by omega
      have hz7 : (0 : Int) ≤ (o3 : Int) := by omega
      have hMo : ¬ M = o1 := by omega
      have hMo2 : ¬ M = o2 := by omega
      have e21 : o2 - o1 = n := by omega
      have e32 : o3 - o2 = 8 := by omega
      have hdr := HDO.out wr hOr
      have HBE : Hid (∀ W, Drew wr W → Calls Tryz.prog 230 #[.slice A d.length Cd, .slice (some ⟨C, o1, none⟩) (o2 - o1) (M - o1)] W fun e w' => e = .returned (.bool (decide (d = y.d))) ∧ w' = W) := Lib.hid fun W hW =>
        bytesEqual_any _ _ d y.d W (hdr.off0 (Off.ofDrew hW)) ⟨some ⟨C, o1, none⟩, M - o1, C, o1, by rw [e21, hyn], fun _ => rfl, hsx.1.off (Off.ofDrew (S := []) hW) (by simp)⟩
      have HLE : Hid (∀ W, Off [] wr W → Calls Tryz.prog 231 #[.agg #[], .slice (some ⟨C, o2, none⟩) (o3 - o2) (M - o2)] W fun e w' => e = .returned (.int .u64 (y.off : Int)) ∧ Below W.heap.size W w') := Lib.hid fun W hW =>
        uintLE64_seg C o2 (o3 - o2) (M - o2) y.off hyo W (by omega) (hsx.2.off hW (by simp))
      have HOC : Hid (∀ W, Off [] wr W → Calls Tryz.prog 41 #[.int .u64 (y.off : Int), .pointer (some ⟨ob, 0, none⟩), .pointer (some ⟨mb, 0, none⟩)] W fun e w' => e = .returned (.bool true) ∧ OutAt w1 ob mb most ((((rows.drop i0).take (j + 1))).map (·.off)) w') := Lib.hid fun W hW => by
        have hlen : (((rows.drop i0).take j).map (·.off)).length = j := by
          rw [List.length_map, List.length_take, List.length_drop]; have := HX.out; omega
        refine (outCall w1 W ob mb most y.off _ (hO.keep hW) (by rw [hlen]; omega)).mono ?_
        rintro e w' ⟨rfl, h⟩
        refine ⟨?_, ?_⟩
        · rw [hlen, decide_eq_true (show j + 1 < most by have := HX.out; omega)]
        · rw [HTAKE.out hxr, List.map_append]
          rw [hy] at h
          exact h
      have HO := Lib.hid hO
      have HY := Lib.hid hy
      clear hsr hsx hdr ho1 ho2 ho3 h13 h3M hMle e21 e32 hq' hp' hv' hOr hO hym hyn hyo hy hW hM hE
      by_cases hdy : d = y.d
      · have hdd : decide (d = y.d) = true := decide_eq_true hdy
        rw [hdd] at HBE
        have HDY := Lib.hid hdy
        clear hdd hdy
        go_wp2_with fail
        go_region_held3 (fun w' => w'.cell? ⟨w.heap.size, 0, none⟩ = some (.pointer (some ⟨q, 0, none⟩)) ∧ w'.cell? ⟨w.heap.size + 1, 0, none⟩ = some (.slice A d.length Cd) ∧ w'.cell? ⟨q, 2, none⟩ = some (.slice (some ⟨C, 0, none⟩) M M)) (first | exact ⟨b0, b1, q2⟩) (first | (go_at_call 230; refine (HBE.out _ (by repeat' (first | exact Drew.refl _ | exact Drew.one _ | refine Drew.more ?_ 1))).mono ?_; rintro e w5 ⟨rfl, rfl⟩))
        all_goals go_wp2_with fail
        all_goals (go_region_held3 (fun w' => w'.cell? ⟨w.heap.size, 0, none⟩ = some (.pointer (some ⟨q, 0, none⟩)) ∧ w'.cell? ⟨q, 2, none⟩ = some (.slice (some ⟨C, 0, none⟩) M M)) (first | exact ⟨b0, q2⟩ | exact ⟨f0, f2⟩) (first | (go_at_call 231; refine (HLE.out _ (Off.ofDrew (by repeat' (first | exact Drew.refl _ | exact Drew.one _ | refine Drew.more ?_ 1)))).mono ?_; rintro e w6 ⟨rfl, hb6⟩; have ho6 : Off [] wr w6 := Off.then (Off.ofDrew (S := []) (by repeat' (first | exact Drew.refl _ | exact Drew.one _ | refine Drew.more ?_ 1))) (Off.ofBelow (S := []) hb6) (fun z hz => by simp at hz); have f0 := ho6.cell b0 (by simp); have f2 := ho6.cell q2 (by simp); have HO6 := Lib.hid ho6; clear hb6 ho6)))
        all_goals go_wp2_with (go_at_call 41; refine (HOC.out _ HO6.out).mono ?_; rintro e w7 ⟨rfl, hO7⟩; have HO7 := Lib.hid hO7; clear hO7)
        all_goals
          go_roundg (k - (x + 1))
          case measure => have := HX.out; omega
          case rel =>
            have hx := HX.out
            refine ⟨j + 1, by rw [hx]; rfl, ?_, by omega, by omega, Lib.hid ⟨HO7.out, ?_⟩⟩
            · rw [decide_eq_true (Nat.succ_pos j)]
            · rw [HTAKE.out hxr]
              intro r hr
              rcases List.mem_append.1 hr with hr | hr
              · exact HALL.out r hr
              · rw [List.mem_singleton.1 hr, ← HY.out]; exact HDY.out.symm
      · have hdd : decide (d = y.d) = false := decide_eq_false hdy
        rw [hdd] at HBE
        have htw : (rows.drop i0).takeWhile (fun r => r.d == d) = (rows.drop i0).take j :=
          tw_take _ _ j (fun r hr => by simp [HALL.out r hr]) (fun h => by
            rw [List.getElem_drop]
            have hx := HX.out
            subst hx
            rw [← HY.out]
            simpa using fun hc : y.d = d => hdy hc.symm)
        have HRES := Lib.hid (HSEEK.out.symm.trans htw)
        clear hdd hdy htw
        have HDL := Lib.hid (show ((rows.drop i0).take j).length = j by rw [List.length_take, List.length_drop]; have := HX.out; omega)
        go_wp2_with fail
        go_region_held3 (fun w' => w'.cell? ⟨w.heap.size, 0, none⟩ = some (.pointer (some ⟨q, 0, none⟩)) ∧ w'.cell? ⟨w.heap.size + 1, 0, none⟩ = some (.slice A d.length Cd) ∧ w'.cell? ⟨q, 2, none⟩ = some (.slice (some ⟨C, 0, none⟩) M M)) (first | exact ⟨b0, b1, q2⟩) (first | (go_at_call 230; refine (HBE.out _ (by repeat' (first | exact Drew.refl _ | exact Drew.one _ | refine Drew.more ?_ 1))).mono ?_; rintro e w5 ⟨rfl, rfl⟩))
        all_goals
          rcases Nat.eq_zero_or_pos j with h0 | h0
          · have hj0 : decide (0 < j) = false := decide_eq_false (by omega)
            have HJ := Lib.hid h0
            rw [hj0]
            clear h0 hj0 hc1 hc2 hc3 hc4 hc5 hz1 hz2 hz3 hz4 hz5 hz6 hz7 b0 b1 q0 q1 q2 hMo hMo2 hkx hjk hxu hltz
            go_wp2_with fail
            go_ret
            refine ⟨by rw [HRV.out, HRES.out, HJ.out]; rfl, w1, HOW.out, ?_⟩
            rw [HRES.out]
            exact HO.out.keep (Off.ofDrew (by repeat' (first | exact Drew.refl _ | exact Drew.one _ | refine Drew.more ?_ 1)))
          · have hj0 : decide (0 < j) = true := decide_eq_true h0
            have HJ := Lib.hid h0
            rw [hj0]
            clear h0 hj0 hc1 hc2 hc3 hc4 hc5 hz1 hz2 hz3 hz4 hz5 hz6 hz7 b0 b1 q0 q1 q2 hMo hMo2 hkx hjk hxu hltz
            go_wp2_with fail
            go_ret
            refine ⟨by rw [HRV.out, HRES.out, if_neg (fun h => by have h1 := HDL.out; rw [h] at h1; have h2 := HJ.out; rw [← h1] at h2; exact absurd h2 (by decide))]; rfl, w1, HOW.out, ?_⟩
            rw [HRES.out]
            exact HO.out.keep (Off.ofDrew (by repeat' (first | exact Drew.refl _ | exact Drew.one _ | refine Drew.more ?_ 1)))
    · have hltz : ¬ (x : Int) < (k : Int) := by omega
      have htw : (rows.drop i0).takeWhile (fun r => r.d == d) = (rows.drop i0).take j :=
        tw_take _ _ j (fun r hr => by simp [HALL.out r hr]) (fun h => by rw [List.length_drop] at h; have := HKK.out; have := HX.out; omega)
      have HRES := Lib.hid (HSEEK.out.symm.trans htw)
      have HDL := Lib.hid (show ((rows.drop i0).take j).length = j by rw [List.length_take, List.length_drop]; have := HX.out; have := HKK.out; omega)
      have HO := Lib.hid hO
      clear htw hO hq' hp' hv' hOr hE
      rcases Nat.eq_zero_or_pos j with h0 | h0
      · have hj0 : decide (0 < j) = false := decide_eq_false (by omega)
        have HJ := Lib.hid h0
        rw [hj0]
        clear h0 hj0 hkx hjk hlt b1 q0 q2 hqo hCo hom hEo hn hk2 hdl hmost hobl1
        go_wp2_with fail
        go_ret
        refine ⟨by rw [HRV.out, HRES.out, HJ.out]; rfl, w1, HOW.out, ?_⟩
        rw [HRES.out]
        exact HO.out.keep (Off.ofDrew (by repeat' (first | exact Drew.refl _ | exact Drew.one _ | refine Drew.more ?_ 1)))
      · have hj0 : decide (0 < j) = true := decide_eq_true h0
        have HJ := Lib.hid h0
        rw [hj0]
        clear h0 hj0 hkx hjk hlt b1 q0 q2 hqo hCo hom hEo hn hk2 hdl hmost hobl1
        go_wp2_with fail
        go_ret
        refine ⟨by rw [HRV.out, HRES.out, if_neg (fun h => by have h1 := HDL.out; rw [h] at h1; have h2 := HJ.out; rw [← h1] at h2; exact absurd h2 (by decide))]; rfl, w1, HOW.out, ?_⟩
        rw [HRES.out]
        exact HO.out.keep (Off.ofDrew (by repeat' (first | exact Drew.refl _ | exact Drew.one _ | refine Drew.more ?_ 1)))
end Go.Proofs.YtcgggcjmmphldaaGreatDoor
