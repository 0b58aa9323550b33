/-
  A row of entries under spec.ByDigest's closure and the library's swap: what the sort over a pair of functions asks.
  sort.SliceStable over a row of entries with spec.ByDigest's closure: a sorted permutation, at every length.
  spec.ByDigest: the entries, sorted by digests, then by offsets; a row of its own.
  (No condition beyond those that each theorem states.)
-/
import Derived.Test.YtcgggcjmmphldaaGreatDoorHk1
import Derived.Test.YtcgggcjmmphldaaGreatDoorHk2
import Derived.Test.YtcgggcjmmphldaaGreatDoorHa7
import Derived.Lib.ReflectliteSwap
import Derived.Test.YtcgggcjmmphldaaGreatDoorHk4
namespace Go.Proofs.YtcgggcjmmphldaaGreatDoor
open Go.RowKit Go.Sort Go.Lib

instance : Inhabited Ent := ⟨⟨0, 0, 0, ByteArray.empty, 0⟩⟩

theorem lessE_eq (a b : Ent) : lessE a b = decide (a.dg.data.toList < b.dg.data.toList ∨ (a.dg.data.toList = b.dg.data.toList ∧ a.off < b.off)) := by
  unfold lessE
  rw [bytesLess_eq, Lib.toList_data, Lib.toList_data]
  generalize a.dg.data.toList = x
  generalize b.dg.data.toList = y
  by_cases h : x = y
  · subst h
    have hx := lt_irr x
    simp
    exact fun k => absurd k hx
  · have hb : (x == y) = false := beq_eq_false_iff_ne.2 h
    simp [hb, h]
theorem lessE_t {a b : Ent} : lessE a b = true ↔ (a.dg.data.toList < b.dg.data.toList ∨ (a.dg.data.toList = b.dg.data.toList ∧ a.off < b.off)) := by rw [lessE_eq, decide_eq_true_iff]
theorem lessE_f {a b : Ent} : lessE a b = false ↔ ¬ (a.dg.data.toList < b.dg.data.toList ∨ (a.dg.data.toList = b.dg.data.toList ∧ a.off < b.off)) := by rw [lessE_eq, decide_eq_false_iff_not]
theorem swo_lessE : SWO lessE where
  irrefl x := by rw [lessE_f]; simp
  trans x y z h1 h2 := by
    rw [lessE_t] at h1 h2 ⊢
    rcases h1 with h1 | ⟨e1, h1⟩
    · rcases h2 with h2 | ⟨e2, h2⟩
      · exact Or.inl (lt_tr h1 h2)
      · exact Or.inl (e2 ▸ h1)
    · rcases h2 with h2 | ⟨e2, h2⟩
      · exact Or.inl (e1 ▸ h2)
      · exact Or.inr ⟨e1.trans e2, Nat.lt_trans h1 h2⟩
  ntrans x y z h1 h2 := by
    rw [lessE_f] at h1 h2 ⊢
    rintro (h | ⟨e, h⟩)
    · by_cases hyx : y.dg.data.toList < x.dg.data.toList
      · exact h2 (Or.inl (lt_tr hyx h))
      · have e := lt_or (fun k => h1 (Or.inl k)) hyx
        exact h2 (Or.inl (e ▸ h))
    · by_cases hyx : y.dg.data.toList < x.dg.data.toList
      · exact h2 (Or.inl (e ▸ hyx))
      · have e1 := lt_or (fun k => h1 (Or.inl k)) hyx
        have a1 : ¬ x.off < y.off := fun k => h1 (Or.inr ⟨e1, k⟩)
        have a2 : ¬ y.off < z.off := fun k => h2 (Or.inr ⟨e1.symm.trans e, k⟩)
        omega

theorem heap_setCells_ne {g k : Nat} (hk : k ≠ g) : ∀ (vs : List Value) (o : Nat) (w : World), (w.setCells g o vs).heap[k]? = w.heap[k]?
  | [], _, _ => rfl
  | v :: vs, o, w => (heap_setCells_ne hk vs (o + 1) _).trans (Below.heap_setCell w ⟨g, o, none⟩ v k hk)

theorem blk_setE {w : World} {g : Nat} {t : TypeId} (l : List Ent) (sp : List Value) (i : Nat) (hi : i < l.length) (e : Ent) (h : Blk w g t (entsC l ++ sp).toArray) :
    Blk (w.setCells g (i * 5) (entC e)) g t (entsC (l.set i e) ++ sp).toArray := by
  have hs : l = l.take i ++ (l[i] :: l.drop (i + 1)) := by rw [← List.drop_eq_getElem_cons hi, List.take_append_drop]
  have hp : (entsC (l.take i)).length = i * 5 := by rw [entsC_len, List.length_take]; omega
  have ha : ∀ a b : List Ent, entsC (a ++ b) = entsC a ++ entsC b := fun a b => by simp [entsC]
  have hc : ∀ (x : Ent) (b : List Ent), entsC (x :: b) = entC x ++ entsC b := fun x b => rfl
  have e1 : entsC l ++ sp = entsC (l.take i) ++ (entC l[i] ++ (entsC (l.drop (i + 1)) ++ sp)) := by
    conv => lhs; rw [hs, ha, hc]
    simp only [List.append_assoc]
  have e2 : entsC (l.set i e) ++ sp = entsC (l.take i) ++ (entC e ++ (entsC (l.drop (i + 1)) ++ sp)) := by
    rw [List.set_eq_take_append_cons_drop, if_pos hi, ha, hc]
    simp only [List.append_assoc]
  rw [e1] at h
  rw [e2]
  exact Blk.setCells (entC e) (i * 5) w _ (entC l[i]) _ hp rfl h

/-- The entries d in block g, the closure's box in block Bs; all else of w0 as it was. -/
structure RowES (w0 : World) (g Bs c : Nat) (sp : List Value) (N : Nat) (d : Array Ent) (w : World) : Prop where
  off : Off [g] w0 w
  size : d.size = N
  blk : Blk w g 27 (entsC d.toList ++ sp).toArray
  box : Blk w Bs 22 #[.slice (some ⟨g, 0, none⟩) N c]
theorem getE (d : Array Ent) (i : Nat) (hi : i < d.size) : d[i]! = d.toList[i]'(by simpa using hi) := by
  rw [getElem!_pos d i hi]; simp
theorem RowES.at {w0 : World} {g Bs c N : Nat} {sp : List Value} {d : Array Ent} {w : World} (h : RowES w0 g Bs c sp N d w) (i : Nat) (hi : i < N) : ∀ k v, (entC d[i]!)[k]? = some v → w.cell? ⟨g, i * 5 + k, none⟩ = some v := fun k v hk => by
  have hs := h.size
  have hl : i < d.toList.length := by simp; omega
  have hk5 : k < 5 := (List.getElem?_eq_some_iff.1 hk).1
  have hlen := entsC_len d.toList
  rw [h.blk.cell, List.getElem?_toArray, List.getElem?_append_left (by omega), entsC_at d.toList i hl k hk5, ← getE d i (by omega)]
  exact hk
theorem swp_toListE (d : Array Ent) (i j : Nat) (_hi : i < d.size) (_hj : j < d.size) : (Sort.swp d i j).toList = (d.toList.set i d[j]!).set j d[i]! := by simp [Sort.swp]
theorem off_setCellsE (vs : List Value) (g o : Nat) (w : World) : Off [g] w (w.setCells g o vs) := Off.ofGrown (grown_setCells vs g o w)

theorem srtF_row (w0 : World) (g Bs c N : Nat) (sp : List Value) (hg : g < w0.heap.size) (hb : Bs < w0.heap.size) (hne : Bs ≠ g) :
    SrtF (lt := lessE) 53 #[.pointer (some ⟨Bs, 0, none⟩)] 75 #[.slice (some ⟨g, 0, none⟩) N c, typeHandle Tryz.prog 27] N w0.heap.size (RowES w0 g Bs c sp N) where
  size h := h.size
  room h := h.off.size
  fresh h ho hS := ⟨h.off.then ho (fun x hx => Or.inr (hS x hx)), h.size, h.blk.off ho (fun hx => by have := hS _ hx; omega), h.box.off ho (fun hx => by have := hS _ hx; omega)⟩
  eLess args w := enters_of Tryz.func53 (by kernel_rfl) rfl args w
  less {d w} i j h hi hj := by
    have a := h.at i hi
    have b := h.at j hj
    exact lessBD w Bs g c N i j d[i]! d[j]! (h.box.cell 0) hi hj (a 0 _ rfl) (a 1 _ rfl) (a 2 _ rfl) (a 3 _ rfl) (a 4 _ rfl) (b 0 _ rfl) (b 1 _ rfl) (b 2 _ rfl) (b 3 _ rfl) (b 4 _ rfl)
  swap {d w} i j h hi hj := by
    have hs := h.size
    obtain ⟨i0, hi0, hz0, hz1, hz2⟩ := info_parts Tryz.infoEnt2
    have a := h.at i hi
    have b := h.at j hj
    have hsw := run_swap_cells (P := Tryz.prog) false 27 i0 hi0 (fun w => by kernel_rfl) g 0 N c i j hi hj (entC d[i]!) (entC d[j]!) (by rw [hz1]; rfl) (by rw [hz1]; rfl) (entC_one _) (entC_one _) w
      (fun k v hk => by rw [hz1, Nat.zero_add]; exact a k v hk) (fun k v hk => by rw [hz1, Nat.zero_add]; exact b k v hk) (fun k _ => h.blk.frozen _) (fun k _ => h.blk.frozen _)
    rw [hz1, Nat.zero_add, Nat.zero_add] at hsw
    have hl1 : i < d.toList.length := by simp; omega
    have hl2 : j < (d.toList.set i d[j]!).length := by simp; omega
    have hb2 := blk_setE (d.toList.set i d[j]!) sp j hl2 d[i]! (blk_setE d.toList sp i hl1 d[j]! h.blk)
    refine ⟨(w.setCells g (i * 5) (entC d[j]!)).setCells g (j * 5) (entC d[i]!), ?_, ⟨?_, by rw [Sort.size_swp]; exact hs, ?_, ?_⟩, ?_, ?_⟩
    · rw [run_callFunc_extern Tryz.func75 (by kernel_rfl) (by kernel_rfl) (by kernel_rfl) (e := Extern.ReflectliteSwapper.swap false) (by kernel_rfl)]
      have e : (#[Value.int .i64 (i : Int), .int .i64 (j : Int)] ++ #[.slice (some ⟨g, 0, none⟩) N c, typeHandle Tryz.prog 27] : Array Value) = #[.int .i64 (i : Int), .int .i64 (j : Int), .slice (some ⟨g, 0, none⟩) N c, typeHandle Tryz.prog 27] := rfl
      rw [e, hsw]
      rfl
    · exact (h.off.then (off_setCellsE _ _ _ _) (fun x hx => Or.inl hx)).then (off_setCellsE _ _ _ _) (fun x hx => Or.inl hx)
    · rw [swp_toListE d i j (by omega) (by omega)]
      exact hb2
    · exact Blk.setCells_far _ _ _ _ hne (Blk.setCells_far _ _ _ _ hne h.box)
    · rw [setCells_size, setCells_size]
    · intro k hk
      rw [heap_setCells_ne (by omega), heap_setCells_ne (by omega)]
end Go.Proofs.YtcgggcjmmphldaaGreatDoor
namespace Go.Proofs.YtcgggcjmmphldaaGreatDoor
open Go.RowKit Go.Sort Go.Lib

noncomputable def eT : TypeInfo := (Tryz.prog.info? 22).get (by kernel_rfl)
noncomputable def eE : TypeInfo := (Tryz.prog.info? 27).get (by kernel_rfl)
theorem eK (n : Nat) (h2 : 2 ≤ n) : Lib.swapperK n eE 25 = 9 := by
  have a : eE.hasPointers = true := by kernel_rfl
  have b : eE.bytes = 48 := by kernel_rfl
  unfold Lib.swapperK
  rw [a, b]
  have h0 : (n == 0) = false := beq_eq_false_iff_ne.2 (by omega)
  have h1 : (n == 1) = false := beq_eq_false_iff_ne.2 (by omega)
  simp [h0, h1]

/-- The world in which stable_func is called: two new blocks. -/
noncomputable def stabW (p : Option Addr) (n c : Nat) (w : World) : World :=
  (w.alloc (.cells #[.slice p n c] 22)).alloc (.cells #[.pointer (some ⟨Tryz.prog.globals.size, 22, none⟩), .pointer (some ⟨w.heap.size, 0, none⟩), .int .u64 151] 90)

set_option maxHeartbeats 2000000 in
set_option maxRecDepth 100000 in
theorem sliceStable_of (p : Option Addr) (n c f : Nat) (hf : Tryz.prog.funcs.findIdx? (·.name == "internal/reflectlite" ++ ".Swapper$" ++ toString (swapperK n eE 25)) = some f) (lf : Fn) (la lb : Array Value) (w : World) (R : World → Prop)
    (hp : Calls Tryz.prog 95 #[.agg #[.func lf la lb, .func (.func f) #[] (if swapperK n eE 25 ≤ 2 then #[] else #[.slice p n c, typeHandle Tryz.prog 27])], .int .i64 n] (stabW p n c w) fun e w' => e = .returned (.tuple #[]) ∧ R w') :
    Calls Tryz.prog 52 #[.iface 22 (.slice p n c), .func lf la lb] w fun e w' => e = .returned (.tuple #[]) ∧ R w' := by
  have hi : Tryz.prog.info? 22 = some eT := by kernel_rfl
  have hd : eT.desc = .slice 27 := by kernel_rfl
  have hpk : Tryz.prog.packed 22 = false := by kernel_rfl
  have hie : Tryz.prog.info? 27 = some eE := by kernel_rfl
  have hv := run_valueOf_slice (P := Tryz.prog) 22 27 eT hi hd p n c w
  have hs := fun w => run_swapper_slice (P := Tryz.prog) 22 27 eT eE hi hd hie 25 (fun _ => by kernel_rfl) p n c f hf w
  have hl := fun a w ha => run_valueLen_slice (P := Tryz.prog) 22 27 eT hi hd hpk a p n c w ha
  unfold stabW at hp
  generalize (if swapperK n eE 25 ≤ 2 then (#[] : Array Value) else #[.slice p n c, typeHandle Tryz.prog 27]) = B at hs hp
  simp only [typeHandle] at hv hl
  obtain ⟨gz, hgz⟩ : ∃ gz, Tryz.prog.globals.size = gz := ⟨_, rfl⟩
  rw [hgz] at hv hl hp
  clear hi hd hpk hie hf hgz
  go_enter Tryz.func52, Tryz.ntmps52
  go_wp2
  rw [run_callFunc_extern Tryz.func43 (by kernel_rfl) (by kernel_rfl) (by kernel_rfl) (e := fun args => Extern.ReflectliteValue.unpack (args.getD 0 (.tuple #[]))) (by kernel_rfl),
    show Sem.run Tryz.prog ((fun args : Array Value => Extern.ReflectliteValue.unpack (args.getD 0 (.tuple #[]))) #[.iface 22 (.slice p n c)]) w = _ from hv]
  simp only [Result.andThen]
  rw [Oper.upon_value]
  go_wp2
  rw [run_callFunc_extern Tryz.func44 (by kernel_rfl) (by kernel_rfl) (by kernel_rfl) (e := Extern.ReflectliteSwapper.swapper "internal/reflectlite" (Extern.ReflectliteValue.valueError "Swapper")) (by kernel_rfl), hs]
  simp only [Result.andThen]
  rw [Oper.upon_value]
  go_wp2
  rw [run_callFunc_extern Tryz.func45 (by kernel_rfl) (by kernel_rfl) (by kernel_rfl) (e := Extern.ReflectliteValue.method (Extern.ReflectliteValue.valueError "reflectlite.Value.Len" 0) Extern.ReflectliteValue.len) (by kernel_rfl),
    hl _ _ (by simp)]
  simp only [Result.andThen]
  rw [Oper.upon_value]
  go_wp2_with (go_at_call 95; refine hp.mono ?_; rintro e w' ⟨rfl, hR⟩)
  go_end0
  exact ⟨rfl, hR⟩

theorem off_stabW (p : Option Addr) (n c : Nat) (w : World) : Off [] w (stabW p n c w) := ((Off.refl [] w).alloc _).alloc _

theorem perm_of_permIn {α : Type} [Inhabited α] {d d' : Array α} (h : PermIn 0 d.size d d') : d'.toList.Perm d.toList := by
  have h3 := h.2.2
  have e1 : d'.extract 0 d.size = d' := by rw [← h.1]; simp
  have e2 : d.extract 0 d.size = d := by simp
  rw [e1, e2] at h3
  exact h3

theorem sliceStable_ents (es : List Ent) (g c n Bs : Nat) (sp : List Value) (w : World) (hn : es.length = n) (h12 : n ≤ 1000) (hB : Blk w g 27 (entsC es ++ sp).toArray) (hb : Blk w Bs 22 #[.slice (some ⟨g, 0, none⟩) n c]) (hne : Bs ≠ g) :
    Calls Tryz.prog 52 #[.iface 22 (.slice (some ⟨g, 0, none⟩) n c), .func (.func 53) #[] #[.pointer (some ⟨Bs, 0, none⟩)]] w fun e w' =>
      e = .returned (.tuple #[]) ∧ ∃ es', es'.Perm es ∧ es'.Pairwise (fun a b => lessE b a = false) ∧ Blk w' g 27 (entsC es' ++ sp).toArray ∧ Off [g] w w' := by
  by_cases h2 : 2 ≤ n
  · have hK := eK n h2
    refine sliceStable_of _ n c 75 (by rw [hK]; kernel_rfl) _ _ _ w _ ?_
    rw [hK, if_neg (by omega)]
    have S := srtF_row w g Bs c n sp hB.lt hb.lt hne
    have hA : RowES w g Bs c sp n es.toArray (stabW (some ⟨g, 0, none⟩) n c w) := ⟨(off_stabW _ _ _ _).mono (fun x hx => by simp at hx), by simp [hn], hB.off (off_stabW _ _ _ _) (by simp), hb.off (off_stabW _ _ _ _) (by simp)⟩
    refine (stableF S swo_lessE (by omega) es.toArray _ hA).mono ?_
    rintro e w' ⟨rfl, d', hA', hp, hs, _⟩
    have hz : es.toArray.size = n := by simp [hn]
    have hz' : d'.size = n := hA'.size
    refine ⟨rfl, d'.toList, by have := perm_of_permIn (d := es.toArray) (d' := d') (by rw [hz]; exact hp); simpa using this, ?_, hA'.blk, hA'.off⟩
    rw [List.pairwise_iff_getElem]
    intro i j hi hj hij
    have hi' : i < d'.size := by simpa using hi
    have hj' : j < d'.size := by simpa using hj
    have := hs i j (Nat.zero_le _) hij (by omega)
    rw [getE d' i hi', getE d' j hj'] at this
    exact this
  · have h01 : n = 0 ∨ n = 1 := by omega
    have hpw : es.Pairwise (fun a b => lessE b a = false) := by
      match es, hn with
      | [], _ => exact List.Pairwise.nil
      | [x], _ => exact List.pairwise_singleton _ _
      | x :: y :: r, hn => simp at hn; omega
    rcases h01 with rfl | rfl
    · refine sliceStable_of _ 0 c 67 (by rw [show Lib.swapperK 0 eE 25 = 1 by simp [Lib.swapperK]]; kernel_rfl) _ _ _ w _ ?_
      refine (stableTiny _ _ _ _ _ 0 (by omega) _).mono ?_
      rintro e w' ⟨rfl, ho⟩
      have ho2 : Off [g] w w' := ((off_stabW _ _ _ _).then ho (fun x hx => Or.inl hx)).mono (fun x hx => by simp at hx)
      exact ⟨rfl, es, List.Perm.refl _, hpw, (hB.off (off_stabW _ _ _ _) (by simp)).off ho (by simp), ho2⟩
    · refine sliceStable_of _ 1 c 68 (by rw [show Lib.swapperK 1 eE 25 = 2 by simp [Lib.swapperK]]; kernel_rfl) _ _ _ w _ ?_
      refine (stableTiny _ _ _ _ _ 1 (by omega) _).mono ?_
      rintro e w' ⟨rfl, ho⟩
      have ho2 : Off [g] w w' := ((off_stabW _ _ _ _).then ho (fun x hx => Or.inl hx)).mono (fun x hx => by simp at hx)
      exact ⟨rfl, es, List.Perm.refl _, hpw, (hB.off (off_stabW _ _ _ _) (by simp)).off ho (by simp), ho2⟩
end Go.Proofs.YtcgggcjmmphldaaGreatDoor
namespace Go.Proofs.YtcgggcjmmphldaaGreatDoor
open Go.RowKit Go.Sort Go.Lib

section
variable {P : Program} {ops : Array Oper} {rest : List Oper} {o : Oper} {a : Act} {Q : Exit → Act → World → Prop}
/-- append of a row (nil or not) onto a slice over a block that is known whole. -/
theorem wpList_append_blks (w : World) (hgd : o.guard = none) (s x : Operand) (t : TypeId) (ho : o.op = .call { callee := .builtin .append, args := #[s, x], argTypes := #[t, t] })
    (e : TypeId) (i : TypeInfo) (z : Value) (size bytes : Nat) (ht : P.underlying t = some (.slice e)) (hi : P.info? e = some i) (hz : i.zero = some z) (hsize : i.size = size) (hby : i.bytes = bytes) (hzs : z.cells.size = size) (hsz : 0 < size)
    (g0 n cap0 : Nat) (hs : a.eval s = .slice (some ⟨g0, 0, none⟩) n cap0) (xs sp0 : List Value) (hb : Blk w g0 e (xs ++ sp0).toArray) (hl : xs.length = n * size) (hsp : sp0.length + n * size = cap0 * size) (hc : n ≤ cap0) (hm : cap0 ≤ maxLen)
    (A : Option Addr) (m c : Nat) (hx : a.eval x = .slice A m c) (news : List Value) (hA : A = none → m = 0 ∧ c = 0) (hln : news.length = m * size) (hnews : ∀ ad, A = some ad → ∀ j u, news[j]? = some u → w.cell? (ad.add j) = some u) (h1 : ∀ u ∈ news, u.oneCell' = true)
    (h63 : n + m ≤ maxLen) (hbytes : (n + m) * bytes ≤ 140737488355328)
    (h : ∀ (g cap : Nat) (sp : List Value) w', Blk w' g e (xs ++ news ++ sp).toArray → sp.length + (n + m) * size = cap * size → n + m ≤ cap → cap ≤ maxLen → Off [g0] w w' → (g = g0 ∨ g = w.heap.size) → wpList P ops Q rest (a.put o.dst (.slice (some ⟨g, 0, none⟩) (n + m) cap)) w') :
    wpList P ops Q (o :: rest) a w := by
  refine wpList_plain hgd fun K hK => ?_
  obtain ⟨g, cap, sp, w', hr, h2, h3, h4, h5, h6, h7⟩ := run_append_blks (P := P) w t o.type e i z size bytes ht hi hz hsize hby hzs hsz g0 n cap0 xs sp0 hb hl hsp hc hm A m c news hA hln hnews h1 h63 hbytes
  unfold Oper.wp execOp
  simp only [ho, resolve, invoke, builtin, Sem.run_bind, Sem.run_pure, Result.andThen_ok, List.map_toArray, List.map_cons, List.map_nil, hs, hx, hr]
  exact hK _ _ (h g cap sp w' h2 h3 h4 h5 h6 h7)
end

set_option maxRecDepth 100000 in
set_option maxHeartbeats 2000000 in
theorem byDigest_any (es : List Ent) (A : Option Addr) (ib io c n : Nat) (w : World) (hn : es.length = n) (hn2 : n ≤ 1000) (hA0 : A = none → n = 0 ∧ c = 0) (hat : EntsAt w A ib io es) :
    Calls Tryz.prog 33 #[.slice A n c] w fun r w' => ∃ g cap es' sp, r = .returned (.slice (some ⟨g, 0, none⟩) n cap) ∧ es'.Perm es ∧ es'.Pairwise (fun a b => lessE b a = false) ∧ Blk w' g 27 (entsC es' ++ sp).toArray ∧ w.heap.size ≤ g ∧ Off [] w w' := by
  obtain ⟨i0, hi, hz0, hz1, hz2⟩ := info_parts Tryz.infoEnt2
  have ho0 : Off [] w (w.alloc (.cells #[] 27)) := (Off.refl [] w).alloc _
  have hb0 : Blk (w.alloc (.cells #[] 27)) w.heap.size 27 (([] : List Value) ++ []).toArray := Blk.new w _ _
  have HNW := Lib.hid (EntsAt.news (hat.off ho0 (by simp)))
  have HN := Lib.hid (show (entsC es).length = n * 5 by rw [entsC_len, hn])
  have HE := Lib.hid hn
  have HB0 := Lib.hid hb0
  have HO0 := Lib.hid ho0
  clear hat hb0 ho0 hn
  go_enter Tryz.func33, Tryz.ntmps33
  go_wp2_with (first
    | (at_builtin
       refine wpList_append_blks _ rfl _ _ 22 rfl 27 i0 _ 5 48 Tryz.underlying22 hi hz0 hz1 hz2 rfl (by decide) w.heap.size 0 0 rfl [] [] HB0.out rfl rfl (Nat.le_refl _) (Nat.zero_le _) A n c rfl (entsC es) hA0 HN.out HNW.out (entsC_one es) (by unfold maxLen; omega) (by omega) ?_
       intro g cap sp w1 hb1 hsp1 hc1 hm1 ho1 hg1
       have HB1 := Lib.hid hb1
       have HO1 := Lib.hid ho1
       have HG1 := Lib.hid hg1
       clear hb1 hsp1 hc1 hm1 ho1 hg1)
    | (go_at_call 52
       have hb2 := (HB1.out.eq (show ([] ++ entsC es ++ sp : List Value).toArray = (entsC es ++ sp).toArray by rw [List.nil_append])).alloc (.cells #[.slice (some ⟨g, 0, none⟩) n cap] 22)
       have hbx := Blk.new w1 22 #[.slice (some ⟨g, 0, none⟩) n cap]
       have hgl := HB1.out.lt
       refine (sliceStable_ents es g cap n w1.heap.size sp _ HE.out hn2 hb2 hbx (by omega)).mono ?_
       rintro e w3 ⟨rfl, es', hp3, hs3, hb3, ho3⟩
       have c3 : w3.cell? ⟨w1.heap.size, 0, none⟩ = some (.slice (some ⟨g, 0, none⟩) n cap) := (ho3.blk hbx (ni1 (by omega))).cell 0
       have HR := Lib.hid (And.intro hp3 (And.intro hs3 (And.intro hb3 ho3)))
       clear hp3 hs3 hb3 ho3 hb2 hbx hgl))
  go_ret
  obtain ⟨hp3, hs3, hb3, ho3⟩ := HR.out
  have h1 := HO0.out
  have h2 := HO1.out
  have hg : w.heap.size ≤ g := by
    rcases HG1.out with rfl | rfl
    · exact Nat.le_refl _
    · simp
  refine ⟨g, cap, es', sp, rfl, hp3, hs3, hb3, hg, ?_⟩
  have h3 : Off [] w w1 := h1.then h2 (fun x hx => by simp at hx; subst hx; exact Or.inr (Nat.le_refl _))
  exact (h3.alloc _).then ho3 (fun x hx => by simp at hx; subst hx; exact Or.inr hg)
end Go.Proofs.YtcgggcjmmphldaaGreatDoor
