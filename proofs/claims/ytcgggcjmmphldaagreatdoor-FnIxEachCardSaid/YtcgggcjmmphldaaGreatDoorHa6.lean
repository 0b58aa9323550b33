/-
  Maps with keys of an integer kind, their elements whatever values: the keys as a list, each key's element. No program is named here.
  A map's store and an append, at the operation. No program is named here.
  'append' of a row onto a slice over a block of its own, in a region that draws; rows of entries.
  Entries as a statement's arguments: opened to memory.
  (No condition beyond those that each theorem states.)
-/
import Derived.Test.YtcgggcjmmphldaaGreatDoorHa4
import Derived.Maps.RangeWalk
import Derived.Maps.OwnOps
import Derived.Maps.OwnSet
import Derived.Maps.Ext
import Derived.Maps.AppendAt
import Derived.OwnWalk
import Derived.Laws.OwnMore
import Derived.Deep.Slices
import Derived.ChangeSame
import Derived.Shelf.Bytes.SlIndexWhole
namespace Go.Proofs.YtcgggcjmmphldaaGreatDoor
open Go.RowKit Go.Maps

/-- An element stands for itself. -/
def hv (v : Value) : Option (DataW Value × List MemPlace) := some (.held v, [])

/-- Block b is a map (of at most n entries) whose keys are just those of K; at each of them the element V. -/
structure Mp (P : Program) (k : TypeId) (q : IntKind) (w : World) (b n : Nat) (K : List Int) (V : Int → Value) : Prop where
  nodup : K.Nodup
  wf : ∀ x, x ∈ K → (Lit.int q x).wf = true
  le : K.length ≤ n
  own : ∃ D : DataW Value, w.ownsMap P k hv b n D ∧ Maps.size D = K.length ∧ (∀ x, has D (.int q x) = decide (x ∈ K)) ∧ (∀ x, x ∈ K → ∀ z, D.atKey (.int q x) z = .held (V x))

/-- .. under a range: the keys still to come are those of L. -/
structure Rg (P : Program) (k : TypeId) (q : IntKind) (w : World) (b r n : Nat) (K : List Int) (V : Int → Value) (L : List Int) : Prop where
  nodup : L.Nodup
  sub : ∀ x, x ∈ L → x ∈ K
  map : Mp P k q w b n K V
  own : ∃ (D : DataW Value) (left : Lit → Bool) (cnt : Nat), w.ranges P k hv b r n D left cnt ∧ Maps.size D = K.length ∧ (∀ x, has D (.int q x) = decide (x ∈ K)) ∧ (∀ x, x ∈ K → ∀ z, D.atKey (.int q x) z = .held (V x)) ∧ (∀ x, left (.int q x) = decide (x ∈ L))

section
variable {P : Program} {k : TypeId} {q : IntKind} {w w' : World} {b r n : Nat} {K L : List Int} {V : Int → Value}

theorem isKeyInt (q : IntKind) (x : Int) : WideAt.IsKeyLit (.int q x) := by simp [WideAt.IsKeyLit]
theorem sameKey_int (q : IntKind) (x y : Int) : (Lit.int q x).sameKey (.int q y) = decide (x = y) := by
  by_cases h : x = y
  · subst h; rw [WideAt.sameKey_self (isKeyInt q x)]; simp
  · rw [sameKey_ne (fun e => h (by injection e))]; simp [h]

theorem Mp.made (w : World) (P : Program) (k : TypeId) (q : IntKind) (V : Int → Value) : Mp P k q (w.alloc (.map #[] 0)) w.heap.size 0 [] V :=
  ⟨List.nodup_nil, fun _ h => by simp at h, Nat.le_refl _, .map [], World.ownsMap_made w P k hv, rfl, fun x => by simp [has], fun x h => by simp at h⟩
theorem Mp.lt (h : Mp P k q w b n K V) : b < w.heap.size := by obtain ⟨D, ho, _⟩ := h.own; exact ho.lt
theorem Mp.off {S : List Nat} (h : Mp P k q w b n K V) (ho : Off S w w') (hb : b ∉ S) : Mp P k q w' b n K V := by
  obtain ⟨D, hown, h1, h2, h3⟩ := h.own
  have hlt := hown.lt
  obtain ⟨es, clock, hbk, F, hs, hD⟩ := hown
  exact ⟨h.nodup, h.wf, h.le, D, ⟨es, clock, (ho.block b hlt hb).trans hbk, F, hs, hD⟩, h1, h2, h3⟩
theorem Mp.mono {n' : Nat} (h : Mp P k q w b n K V) (hn : n ≤ n') : Mp P k q w b n' K V := by
  obtain ⟨D, hown, h1⟩ := h.own
  exact ⟨h.nodup, h.wf, Nat.le_trans h.le hn, D, hown.mono hn, h1⟩
theorem Mp.congr {V' : Int → Value} (h : Mp P k q w b n K V) (he : ∀ x, x ∈ K → V' x = V x) : Mp P k q w b n K V' := by
  obtain ⟨D, hown, h1, h2, h3⟩ := h.own
  exact ⟨h.nodup, h.wf, h.le, D, hown, h1, h2, fun x hx z => by rw [he x hx]; exact h3 x hx z⟩

/-- 'v, ok := m[x]'. -/
theorem Mp.look {t e : TypeId} (h : Mp P k q w b n K V) (hk : P.underlying k = some (.int q)) (ht : P.underlying t = some (.map k e)) {z : Value} (hz : (zeroValue e).run P w = .ok z w) (x : Int) (hx : (Lit.int q x).wf = true) :
    (Instr.lookup t (.map (some b)) (.int q x) true).run P w = .ok (.tuple #[if x ∈ K then V x else z, .bool (decide (x ∈ K))]) w ∧
    (Instr.lookup t (.map (some b)) (.int q x) false).run P w = .ok (if x ∈ K then V x else z) w := by
  obtain ⟨D, hown, h1, h2, h3⟩ := h.own
  obtain ⟨v, ps, hrun, hv1⟩ := hown.look_ok (int_keyed hk) ht hz (zd := .held z) (zp := []) rfl (keyOf_int_mk hk hx)
  obtain ⟨v', ps', hrun', hv2⟩ := hown.lookup (int_keyed hk) ht hz (zd := .held z) (zp := []) rfl (keyOf_int_mk hk hx)
  have key : ∀ u us, hv u = some (D.atKey (.int q x) (.held z), us) → u = if x ∈ K then V x else z := fun u us hu => by
    simp only [hv, Option.some.injEq, Prod.mk.injEq] at hu
    by_cases hm : x ∈ K
    · rw [h3 x hm] at hu
      rw [if_pos hm]
      have := hu.1
      injection this
    · rw [atKey_of_not_has (by rw [h2]; simpa using hm)] at hu
      rw [if_neg hm]
      have := hu.1
      injection this
  rw [h2, key v ps hv1] at hrun
  rw [key v' ps' hv2] at hrun'
  exact ⟨hrun, hrun'⟩

theorem off_mapTurned (h : w.mapTurned w' b) : Off [b] w w' ∧ w'.heap.size = w.heap.size := by
  have hg := h.grown
  obtain ⟨es, clock, es', clock', hb, rfl⟩ := h
  exact ⟨Off.ofGrown hg, by simp [Go.ChangeMaps.setBlock]⟩

/-- 'm[x] = v'. -/
theorem Mp.store {t e : TypeId} (h : Mp P k q w b n K V) (hk : P.underlying k = some (.int q)) (ht : P.underlying t = some (.map k e)) (hn : n < maxLen) (x : Int) (hx : (Lit.int q x).wf = true) (v : Value) :
    ∃ w', (Instr.mapUpdate t (.map (some b)) (.int q x) v).run P w = .ok () w' ∧ Mp P k q w' b (n + 1) (if x ∈ K then K else K ++ [x]) (fun y => if y = x then v else V y) ∧ Off [b] w w' ∧ w'.heap.size = w.heap.size := by
  obtain ⟨D, hown, h1, h2, h3⟩ := h.own
  obtain ⟨w', hrun, hown', hturn⟩ := hown.store (int_keyed hk) ht hn (keyOf_int_mk hk hx) (d := .held v) (ps := []) rfl
  have htd := hown.tidy (int_keyed hk)
  obtain ⟨ho, hs⟩ := off_mapTurned hturn
  refine ⟨w', hrun, ⟨?_, ?_, ?_, _, hown', ?_, ?_, ?_⟩, ho, hs⟩
  · by_cases hm : x ∈ K
    · rw [if_pos hm]; exact h.nodup
    · rw [if_neg hm]; exact List.nodup_append.2 ⟨h.nodup, by simp, fun a ha c hc e => hm (by simp at hc; rw [← hc, ← e]; exact ha)⟩
  · intro y hy
    by_cases hm : x ∈ K
    · rw [if_pos hm] at hy; exact h.wf y hy
    · rw [if_neg hm] at hy
      rcases List.mem_append.1 hy with h' | h'
      · exact h.wf y h'
      · simp at h'; rw [h']; exact hx
  · have := h.le
    split
    · omega
    · simp; omega
  · rw [size_put htd, h2]
    by_cases hm : x ∈ K
    · simp [hm, h1]
    · simp [hm, h1]
  · intro y
    by_cases he : y = x
    · subst he
      rw [has_put_same htd.isMap (isKeyInt q y)]
      by_cases hm : y ∈ K <;> simp [hm]
    · rw [has_put_other (fun e => he (by injection e)), h2]
      by_cases hm : x ∈ K <;> simp [hm, he]
  · intro y hy z
    by_cases he : y = x
    · subst he
      rw [atKey_put_same htd.isMap (isKeyInt q y), if_pos rfl]
    · rw [atKey_put_other (fun e => he (by injection e)), if_neg he]
      refine h3 y ?_ z
      by_cases hm : x ∈ K
      · rwa [if_pos hm] at hy
      · rw [if_neg hm] at hy
        rcases List.mem_append.1 hy with h' | h'
        · exact h'
        · simp at h'; exact absurd h' he

/-- 'len(m)'. -/
theorem Mp.len {t e : TypeId} (h : Mp P k q w b n K V) (ht : P.underlying t = some (.map k e)) (ty : TypeId) : (Builtin.len_ #[t] ty #[.map (some b)]).run P w = .ok (.int .i64 K.length) w := by
  obtain ⟨D, hown, h1, _⟩ := h.own
  rw [← h1]
  exact hown.len ht ty

/-- 'range m'. -/
theorem Mp.range {t e : TypeId} (h : Mp P k q w b n K V) (hk : P.underlying k = some (.int q)) (ht : P.underlying t = some (.map k e)) :
    ∃ w', (Instr.range t (.map (some b))).run P w = .ok (.pointer (some ⟨w.heap.size, 0, none⟩)) w' ∧ Rg P k q w' b w.heap.size n K V K ∧ Off [] w w' ∧ w'.heap.size = w.heap.size + 1 := by
  obtain ⟨D, hown, h1, h2, h3⟩ := h.own
  obtain ⟨w', hrun, hr, hg, hs⟩ := hown.range (int_keyed hk) ht
  have ho : Off [] w w' := ⟨hg.os, hg.tape, hg.output, hg.size, fun i hi _ => hg.block i hi (by simp)⟩
  exact ⟨w', hrun, ⟨h.nodup, fun _ hx => hx, h.off ho (by simp), D, has D, _, hr, h1, h2, h3, h2⟩, ho, hs⟩

theorem Rg.off {S : List Nat} (h : Rg P k q w b r n K V L) (ho : Off S w w') (hb : b ∉ S) (hr : r ∉ S) : Rg P k q w' b r n K V L := by
  obtain ⟨D, left, cnt, hown, h1, h2⟩ := h.own
  have hlt := hown.owns.lt
  have hrl := hown.lt
  obtain ⟨es, clock, since, seen, c0, hbk, F, hs, hD, hrk, rest⟩ := hown
  exact ⟨h.nodup, h.sub, h.map.off ho hb, D, left, cnt, ⟨es, clock, since, seen, c0, (ho.block b hlt hb).trans hbk, F, hs, hD, (ho.block r hrl hr).trans hrk, rest⟩, h1, h2⟩
theorem Rg.lt (h : Rg P k q w b r n K V L) : r < w.heap.size := by obtain ⟨D, left, cnt, hown, _⟩ := h.own; exact hown.lt
theorem Rg.ne (h : Rg P k q w b r n K V L) : r ≠ b := by obtain ⟨D, left, cnt, hown, _⟩ := h.own; exact hown.ne

/-- A range's step, at the operation. -/
theorem wpList_next_mp {ops : Array Oper} {rest : List Oper} {o : Oper} {a : Act} {Q : Exit → Act → World → Prop} (hg : o.guard = none) (it : Operand) (hop : o.op = Op.next it false) (hk : P.underlying k = some (.int q))
    (hit : a.eval it = .pointer (some ⟨r, 0, none⟩)) (h : Rg P k q w b r n K V L)
    (hDone : L = [] → wpList P ops Q rest (a.put o.dst (.tuple #[.bool false])) w)
    (hMore : ∀ (x : Int) (w' : World), x ∈ L → (Lit.int q x).wf = true → Rg P k q w' b r n K V (L.erase x) → Off [r] w w' → w'.heap.size = w.heap.size →
      (Instr.entry (.pointer (some ⟨r, 0, none⟩))).run P w' = .ok (.tuple #[.int q x, V x]) w' → wpList P ops Q rest (a.put o.dst (.tuple #[.bool true, .int q x, V x])) w') :
    wpList P ops Q (o :: rest) a w := by
  obtain ⟨D, left, cnt, hr, h1, h2, h3, h4⟩ := h.own
  refine wpList_next_ranges w hg it hop k (int_keyed hk) hv (Value.int q) id (fun key kl hkey => by obtain ⟨x, rfl, _⟩ := Maps.keyOf_int_inv hk hkey; exact ⟨x, rfl⟩) (fun v y _ => ⟨v, rfl⟩) b r n D left cnt hit hr
    (fun _ h0 => hDone (List.eq_nil_iff_forall_not_mem.2 fun x hx => by have := h4 x; rw [h0] at this; simp [hx] at this)) (fun x c kl y w' cnt' hkey hlk hvy hat hrg hlt hgr hsz hen => ?_)
  obtain ⟨x', ex, rfl, hwx⟩ := Maps.keyOf_int_inv hk hkey
  cases ex
  have hxL : x ∈ L := by have := h4 x; rw [hlk] at this; simpa using this.symm
  have hxK := h.sub x hxL
  have hc : c = V x := by
    have e1 := hat (.held c)
    rw [h3 x hxK] at e1
    simp only [hv, id_eq, Option.some.injEq] at hvy
    rw [← hvy] at e1
    injection e1 with e1
    exact e1.symm
  have ho : Off [r] w w' := Off.ofGrown hgr
  have hrl := hr.lt
  have hmap : Mp P k q w' b n K V := h.map.off ho (by simp; exact fun e => h.ne e.symm)
  refine hc ▸ hMore x w' hxL hwx ⟨h.nodup.erase x, fun y hy => h.sub y (List.mem_of_mem_erase hy), hmap, D, _, cnt', hrg, h1, h2, h3, fun y => ?_⟩ ho hsz ?_
  · rw [h4, sameKey_int]
    by_cases he : y = x
    · subst he; simp [h.nodup.not_mem_erase]
    · simp [List.mem_erase_of_ne he, he]
  · rw [← hc]; exact hen
end
end Go.Proofs.YtcgggcjmmphldaaGreatDoor
namespace Go.Proofs.YtcgggcjmmphldaaGreatDoor
open Go.RowKit Go.Maps
section
variable {P : Program} {w : World} {ops : Array Oper} {rest : List Oper} {o : Oper} {a : Act} {Q : Exit → Act → World → Prop}

theorem wpList_mapUpdate_mp (hg : o.guard = none) (m x v : Operand) (t : TypeId) (hop : o.op = Op.mapUpdate t m x v) {k e : TypeId} {q : IntKind} (hk : P.underlying k = some (.int q)) (ht : P.underlying t = some (.map k e))
    {b n : Nat} {K : List Int} {V : Int → Value} (h : Mp P k q w b n K V) (hm : a.eval m = .map (some b)) (hn : n < maxLen) (i : Int) (hx : a.eval x = .int q i) (hi : (Lit.int q i).wf = true) (u : Value) (hv : a.eval v = u)
    (hK : ∀ w', Hid (Mp P k q w' b (n + 1) (if i ∈ K then K else K ++ [i]) (fun y => if y = i then u else V y)) → Hid (Off [b] w w') → w'.heap.size = w.heap.size → wpList P ops Q rest (a.put o.dst undef) w') :
    wpList P ops Q (o :: rest) a w := by
  refine wpList_plain hg fun K' hK' => ?_
  obtain ⟨w', hrun, r1, r2, r3⟩ := h.store hk ht hn i hi u
  unfold Oper.wp
  simp [execOp, hop, hm, hx, hv, hrun, Result.andThen]
  exact hK' _ _ (hK w' (Lib.hid r1) (Lib.hid r2) r3)

theorem wpList_lookup_mp (hg : o.guard = none) (m x : Operand) (t : TypeId) (hop : o.op = Op.lookup t m x true) {k e : TypeId} {q : IntKind} (hk : P.underlying k = some (.int q)) (ht : P.underlying t = some (.map k e))
    {b n : Nat} {K : List Int} {V : Int → Value} (h : Mp P k q w b n K V) (hm : a.eval m = .map (some b)) (i : Int) (hx : a.eval x = .int q i) (hi : (Lit.int q i).wf = true) {z : Value} (hz : (zeroValue e).run P w = .ok z w) (r : Value) (ok : Bool) (hr : (if i ∈ K then V i else z) = r) (hok : decide (i ∈ K) = ok)
    (hK : wpList P ops Q rest (a.put o.dst (.tuple #[r, .bool ok])) w) : wpList P ops Q (o :: rest) a w := by
  refine wpList_plain hg fun K' hK' => ?_
  obtain ⟨hrun, _⟩ := h.look hk ht hz i hi
  rw [hr, hok] at hrun
  unfold Oper.wp
  simp [execOp, hop, hm, hx, hrun, Result.andThen]
  exact hK' _ _ hK
theorem wpList_lookup_mp1 (hg : o.guard = none) (m x : Operand) (t : TypeId) (hop : o.op = Op.lookup t m x false) {k e : TypeId} {q : IntKind} (hk : P.underlying k = some (.int q)) (ht : P.underlying t = some (.map k e))
    {b n : Nat} {K : List Int} {V : Int → Value} (h : Mp P k q w b n K V) (hm : a.eval m = .map (some b)) (i : Int) (hx : a.eval x = .int q i) (hi : (Lit.int q i).wf = true) {z : Value} (hz : (zeroValue e).run P w = .ok z w) (r : Value) (hr : (if i ∈ K then V i else z) = r)
    (hK : wpList P ops Q rest (a.put o.dst r) w) : wpList P ops Q (o :: rest) a w := by
  refine wpList_plain hg fun K' hK' => ?_
  obtain ⟨_, hrun⟩ := h.look hk ht hz i hi
  rw [hr] at hrun
  unfold Oper.wp
  simp [execOp, hop, hm, hx, hrun, Result.andThen]
  exact hK' _ _ hK

/-- .. as a step of a region that draws. -/
theorem step_mapUpdate_mp {K : Act → World → Prop} {E : Prop} (hg : o.guard = none) (m x v : Operand) (t : TypeId) (hop : o.op = Op.mapUpdate t m x v) {k e : TypeId} {q : IntKind} (hk : P.underlying k = some (.int q)) (ht : P.underlying t = some (.map k e))
    {b n : Nat} {Ks : List Int} {V : Int → Value} (h : Mp P k q w b n Ks V) (hm : a.eval m = .map (some b)) (hn : n < maxLen) (i : Int) (hx : a.eval x = .int q i) (hi : (Lit.int q i).wf = true) (u : Value) (hv : a.eval v = u)
    (hK : ∀ w', Hid (Mp P k q w' b (n + 1) (if i ∈ Ks then Ks else Ks ++ [i]) (fun y => if y = i then u else V y)) → Hid (Off [b] w w') → w'.heap.size = w.heap.size → K (a.put o.dst undef) w') :
    if Region.wanted o (yielded ops a.tmps) = true then Oper.wp P o a w K Q else E := by
  have hw : Region.wanted o (yielded ops a.tmps) = true := by simp [Region.wanted, hg]
  rw [if_pos hw]
  obtain ⟨w', hrun, r1, r2, r3⟩ := h.store hk ht hn i hi u
  unfold Oper.wp
  simp [execOp, hop, hm, hx, hv, hrun, Result.andThen]
  exact hK w' (Lib.hid r1) (Lib.hid r2) r3

theorem wpList_range_mp (hg : o.guard = none) (m : Operand) (t : TypeId) (hop : o.op = Op.range t m) {k e : TypeId} {q : IntKind} (hk : P.underlying k = some (.int q)) (ht : P.underlying t = some (.map k e))
    {b n : Nat} {K : List Int} {V : Int → Value} (h : Mp P k q w b n K V) (hm : a.eval m = .map (some b))
    (hK : ∀ w', Hid (Rg P k q w' b w.heap.size n K V K) → Hid (Off [] w w') → w'.heap.size = w.heap.size + 1 → wpList P ops Q rest (a.put o.dst (.pointer (some ⟨w.heap.size, 0, none⟩))) w') :
    wpList P ops Q (o :: rest) a w := by
  refine wpList_plain hg fun K' hK' => ?_
  obtain ⟨w', hrun, r1, r2, r3⟩ := h.range hk ht
  unfold Oper.wp
  simp [execOp, hop, hm, hrun, Result.andThen]
  exact hK' _ _ (hK w' (Lib.hid r1) (Lib.hid r2) r3)

theorem off_grown_own {w' : World} {row : Option Nat} {S : List Nat} (h : w.grownBy w' row) (hr : ∀ g, row = some g → g ∈ S) : Off S w w' :=
  ⟨h.os, h.tape, h.output, h.size, fun i hi hn => h.block i hi (fun e => hn (hr i e.symm))⟩

/-- 'append' of one element onto a slice over a block of its own: the block is the elder one or a new one. -/
theorem wpList_append_blk (hgd : o.guard = none) (s x : Operand) (t : TypeId) (ho : o.op = .call { callee := .builtin .append, args := #[s, x], argTypes := #[t, t] })
    (e : TypeId) (i : TypeInfo) (z : Value) (size bytes : Nat) (ht : P.underlying t = some (.slice e)) (hi : P.info? e = some i) (hz : i.zero = some z) (hsize : i.size = size) (hby : i.bytes = bytes) (hzs : z.cells.size = size) (hsz : 0 < size)
    (v : Value) (n : Nat) (xs : List Value) (_hl : xs.length = n * size) (hs : a.eval s = v) (hv : w.ownsRow 0 e size v n xs)
    (ad : Addr) (c : Nat) (news : List Value) (hx : a.eval x = .slice (some ad) 1 c) (hln : news.length = size) (hnews : ∀ j u, news[j]? = some u → w.cell? (ad.add j) = some u) (h1 : ∀ u ∈ news, u.oneCell' = true)
    (h63 : n + 1 ≤ maxLen) (hbytes : (n + 1) * bytes ≤ 140737488355328)
    (h : ∀ (g' cap' : Nat) (sp' : List Value) w', Hid (Blk w' g' e (xs ++ news ++ sp').toArray) → n + 1 ≤ cap' → cap' ≤ maxLen → sp'.length + (n + 1) * size = cap' * size → (v.ownBlock = some g' ∨ g' = w.heap.size) →
      Hid (∀ S, (∀ g, v.ownBlock = some g → g ∈ S) → Off S w w') → Hid (w'.ownsRow 0 e size (.slice (some ⟨g', 0, none⟩) (n + 1) cap') (n + 1) (xs ++ news)) → wpList P ops Q rest (a.put o.dst (.slice (some ⟨g', 0, none⟩) (n + 1) cap')) w') :
    wpList P ops Q (o :: rest) a w := by
  refine wpList_append_own_at w hgd s x t ho 0 e i z size bytes ht hi hz hsize hby hzs hsz v n xs hs hv ad 1 c news hx (by omega) hnews h1 h63 hbytes (Nat.zero_le _) ?_
  intro v' w' hown hgrow hnil hat
  rcases id hown.2 with ⟨rfl, h0⟩ | ⟨g, cap, cur, rfl, hbg, hg, hnc, hcm, hcs, htake⟩
  · omega
  · have hcur : cur = (xs ++ news ++ cur.toList.drop ((n + 1) * size)).toArray := by
      have := List.take_append_drop ((n + 1) * size) cur.toList
      rw [htake] at this
      rw [this]
    refine h g cap (cur.toList.drop ((n + 1) * size)) w' (Lib.hid (show _ = _ from by rw [← hcur]; exact hg)) hnc hcm (by simp; rw [hcs]; exact Nat.sub_add_cancel (Nat.mul_le_mul_right _ hnc)) ?_ (Lib.hid fun S hS => off_grown_own hgrow hS) (Lib.hid hown)
    rcases hat with hat | hat
    · exact Or.inl (by rw [← hat]; rfl)
    · right
      simpa [Value.ownBlock] using hat
end

/-- A block known whole, as 'owns' says it. -/
theorem owns_blk {w : World} {g n cap size : Nat} {e : TypeId} {xs sp : List Value} (hb : Blk w g e (xs ++ sp).toArray) (hl : xs.length = n * size) (hsp : sp.length + n * size = cap * size) (hc : n ≤ cap) (hm : cap ≤ maxLen) : w.ownsRow 0 e size (.slice (some ⟨g, 0, none⟩) n cap) n xs :=
  ⟨hl, Or.inr ⟨g, cap, _, rfl, Nat.zero_le _, hb, hc, hm, by simp; omega, by simp [← hl]⟩⟩
end Go.Proofs.YtcgggcjmmphldaaGreatDoor
namespace Go.Proofs.YtcgggcjmmphldaaGreatDoor
open Go.RowKit

section
variable {P : Program}
theorem run_append_blks (w : World) (t ty e : TypeId) (i : TypeInfo) (z : Value) (size bytes : Nat) (ht : P.underlying t = some (.slice e)) (hi : P.info? e = some i) (hz : i.zero = some z) (hsize : i.size = size) (hby : i.bytes = bytes) (hzs : z.cells.size = size) (hsz : 0 < size)
    (g0 n cap0 : Nat) (xs sp0 : List Value) (hb : Blk w g0 e (xs ++ sp0).toArray) (hl : xs.length = n * size) (hsp : sp0.length + n * size = cap0 * size) (hc : n ≤ cap0) (hm : cap0 ≤ maxLen)
    (A : Option Addr) (m c : Nat) (news : List Value) (hA : A = none → m = 0 ∧ c = 0) (hln : news.length = m * size) (hnews : ∀ ad, A = some ad → ∀ j u, news[j]? = some u → w.cell? (ad.add j) = some u) (h1 : ∀ u ∈ news, u.oneCell' = true)
    (h63 : n + m ≤ maxLen) (hbytes : (n + m) * bytes ≤ 140737488355328) :
    ∃ g cap sp w', (Builtin.append_ #[t, t] ty #[.slice (some ⟨g0, 0, none⟩) n cap0, .slice A m c]).run P w = .ok (.slice (some ⟨g, 0, none⟩) (n + m) cap) w' ∧ Blk w' g e (xs ++ news ++ sp).toArray ∧ sp.length + (n + m) * size = cap * size ∧ n + m ≤ cap ∧ cap ≤ maxLen ∧ Off [g0] w w' ∧ (g = g0 ∨ g = w.heap.size) := by
  have hown := owns_blk hb hl hsp hc hm
  cases A with
  | none =>
    obtain ⟨rfl, rfl⟩ := hA rfl
    obtain rfl : news = [] := List.eq_nil_of_length_eq_zero (by omega)
    refine ⟨g0, cap0, sp0, w, run_append_owned_none (P := P) (w := w) 0 t ty e i size ht hi _ n xs hown, by rw [List.append_nil]; exact hb, hsp, hc, hm, Off.refl _ _, Or.inl rfl⟩
  | some ad =>
    obtain ⟨v', w', hr, h2, h3, h4, h5⟩ := run_append_own_at (P := P) w 0 t ty e i z size bytes ht hi hz hsize hby hzs hsz _ n xs hown ad m c news hln (hnews ad rfl) h1 h63 hbytes (Nat.zero_le _)
    rcases id h2.2 with ⟨rfl, h0⟩ | ⟨g, cap, cur, rfl, hbg, hg, hnc, hcm, hcs, htake⟩
    · have := (h4.1 rfl).1
      cases this
    · have hcur : cur = (xs ++ news ++ cur.toList.drop ((n + m) * size)).toArray := by
        have := List.take_append_drop ((n + m) * size) cur.toList
        rw [htake] at this
        rw [this]
      refine ⟨g, cap, cur.toList.drop ((n + m) * size), w', hr, show _ = _ from by rw [← hcur]; exact hg, by simp; rw [hcs]; exact Nat.sub_add_cancel (Nat.mul_le_mul_right _ hnc), hnc, hcm, off_grown_own h3 (fun g hg => by simpa [Value.ownBlock] using hg.symm), ?_⟩
      rcases h5 with h5 | h5
      · left; simpa [Value.ownBlock] using h5
      · right; simpa [Value.ownBlock] using h5

variable {ops : Array Oper} {o : Oper} {a : Act} {Q : Exit → Act → World → Prop}
theorem step_append_blks {K : Act → World → Prop} {E : Prop} (w : World) (hgd : o.guard = none) (s x : Operand) (t : TypeId) (ho : o.op = .call { callee := .builtin .append, args := #[s, x], argTypes := #[t, t] })
    (e : TypeId) (i : TypeInfo) (z : Value) (size bytes : Nat) (ht : P.underlying t = some (.slice e)) (hi : P.info? e = some i) (hz : i.zero = some z) (hsize : i.size = size) (hby : i.bytes = bytes) (hzs : z.cells.size = size) (hsz : 0 < size)
    (g0 n cap0 : Nat) (hs : a.eval s = .slice (some ⟨g0, 0, none⟩) n cap0) (xs sp0 : List Value) (hb : Blk w g0 e (xs ++ sp0).toArray) (hl : xs.length = n * size) (hsp : sp0.length + n * size = cap0 * size) (hc : n ≤ cap0) (hm : cap0 ≤ maxLen)
    (A : Option Addr) (m c : Nat) (hx : a.eval x = .slice A m c) (news : List Value) (hA : A = none → m = 0 ∧ c = 0) (hln : news.length = m * size) (hnews : ∀ ad, A = some ad → ∀ j u, news[j]? = some u → w.cell? (ad.add j) = some u) (h1 : ∀ u ∈ news, u.oneCell' = true)
    (h63 : n + m ≤ maxLen) (hbytes : (n + m) * bytes ≤ 140737488355328)
    (h : ∀ (g cap : Nat) (sp : List Value) w', Blk w' g e (xs ++ news ++ sp).toArray → sp.length + (n + m) * size = cap * size → n + m ≤ cap → cap ≤ maxLen → Off [g0] w w' → (g = g0 ∨ g = w.heap.size) → K (a.put o.dst (.slice (some ⟨g, 0, none⟩) (n + m) cap)) w') :
    if Region.wanted o (yielded ops a.tmps) = true then Oper.wp P o a w K Q else E := by
  have hw : Region.wanted o (yielded ops a.tmps) = true := by simp [Region.wanted, hgd]
  rw [if_pos hw]
  obtain ⟨g, cap, sp, w', hr, h2, h3, h4, h5, h6, h7⟩ := run_append_blks (P := P) w t o.type e i z size bytes ht hi hz hsize hby hzs hsz g0 n cap0 xs sp0 hb hl hsp hc hm A m c news hA hln hnews h1 h63 hbytes
  unfold Oper.wp execOp
  simp only [ho, resolve, invoke, builtin, Sem.run_bind, Sem.run_pure, Result.andThen_ok, List.map_toArray, List.map_cons, List.map_nil, hs, hx, hr]
  exact h g cap sp w' h2 h3 h4 h5 h6 h7
end

/-- The cells of a row of entries. -/
def entC (e : Ent) : List Value := [.int .u64 (e.ver : Int), .int .u64 (e.codec : Int), .int .u64 (e.code : Int), .string e.dg, .int .u64 (e.off : Int)]
def entsC (es : List Ent) : List Value := es.flatMap entC
theorem entsC_len : ∀ es : List Ent, (entsC es).length = es.length * 5
  | [] => rfl
  | a :: es => by
    have e : entsC (a :: es) = entC a ++ entsC es := rfl
    rw [e, List.length_append, entsC_len es, List.length_cons]
    simp [entC]; omega
theorem entsC_at : ∀ (es : List Ent) (i : Nat) (h : i < es.length) (j : Nat), j < 5 → (entsC es)[i * 5 + j]? = (entC es[i])[j]?
  | [], i, h, _, _ => by simp at h
  | a :: es, 0, _, j, hj => by
    have e : entsC (a :: es) = entC a ++ entsC es := rfl
    rw [e, List.getElem?_append_left (by simp [entC]; omega)]
    simp
  | a :: es, i + 1, h, j, hj => by
    have e : entsC (a :: es) = entC a ++ entsC es := rfl
    have hl : (entC a).length = 5 := rfl
    rw [e, List.getElem?_append_right (by omega), hl, show (i + 1) * 5 + j - 5 = i * 5 + j by omega, entsC_at es i (by simpa using h) j hj]
    simp
theorem entsC_one (es : List Ent) : ∀ u ∈ entsC es, u.oneCell' = true := fun u hu => by
  obtain ⟨e, _, he⟩ := List.mem_flatMap.1 hu
  simp only [entC, List.mem_cons, List.not_mem_nil, or_false] at he
  rcases he with rfl | rfl | rfl | rfl | rfl <;> rfl
theorem EntsAt.of_blk {w : World} {g : Nat} {t : TypeId} {es : List Ent} {sp : List Value} (h : Blk w g t (entsC es ++ sp).toArray) : EntsAt w (some ⟨g, 0, none⟩) g 0 es := by
  have key : ∀ (i : Nat) (hi : i < es.length) (j : Nat), j < 5 → w.cell? ⟨g, i * 5 + j, none⟩ = (entC es[i])[j]? := fun i hi j hj => by
    rw [h.cell, List.getElem?_toArray, List.getElem?_append_left (by rw [entsC_len]; omega), entsC_at es i hi j hj]
  refine ⟨fun _ => ⟨rfl, h.lt⟩, fun i hi => ?_⟩
  rw [Nat.zero_add]
  exact ⟨key i hi 0 (by omega), key i hi 1 (by omega), key i hi 2 (by omega), key i hi 3 (by omega), key i hi 4 (by omega)⟩
theorem EntsAt.news {w : World} {A : Option Addr} {ib io : Nat} {es : List Ent} (h : EntsAt w A ib io es) (ad : Addr) (hA : A = some ad) : ∀ j u, (entsC es)[j]? = some u → w.cell? (ad.add j) = some u := fun j u hj => by
  obtain ⟨hjl, _⟩ := List.getElem?_eq_some_iff.1 hj
  rw [entsC_len] at hjl
  have hi : j / 5 < es.length := by omega
  obtain ⟨h1, _⟩ := h.at_ (by omega)
  rw [hA] at h1
  injection h1 with h1
  subst h1
  have hadd : (⟨ib, io, none⟩ : Addr).add j = ⟨ib, io + j, none⟩ := by unfold Addr.add; split <;> simp_all
  rw [hadd]
  obtain ⟨c0, c1, c2, c3, c4⟩ := h.cells (j / 5) hi
  have hj5 : j = j / 5 * 5 + j % 5 := by omega
  have e := entsC_at es (j / 5) hi (j % 5) (by omega)
  rw [← hj5, hj] at e
  have h5 : j % 5 = 0 ∨ j % 5 = 1 ∨ j % 5 = 2 ∨ j % 5 = 3 ∨ j % 5 = 4 := by omega
  rcases h5 with h5 | h5 | h5 | h5 | h5 <;> rw [h5] at e hj5
  · rw [e, show io + j = io + j / 5 * 5 by omega]; exact c0
  · rw [e, show io + j = io + j / 5 * 5 + 1 by omega]; exact c1
  · rw [e, show io + j = io + j / 5 * 5 + 2 by omega]; exact c2
  · rw [e, show io + j = io + j / 5 * 5 + 3 by omega]; exact c3
  · rw [e, show io + j = io + j / 5 * 5 + 4 by omega]; exact c4
end Go.Proofs.YtcgggcjmmphldaaGreatDoor
namespace Go.Proofs.YtcgggcjmmphldaaGreatDoor
open Go.ChangeShapes Go.WideShapes Go.Deep Go.RowKit

section
variable {H : Type} {enc : TypeId × Value → H} {w : World} {base : Nat} {spare : Nat → Bool} {held : Bool}
theorem u64_of_wf {n : Int} (h : (Lit.int .u64 n).wf = true) : ∃ m : Nat, n = (m : Int) ∧ m < 18446744073709551616 := by
  simp [Lit.wf, IntKind.min, IntKind.max, IntKind.bits, IntKind.signed] at h
  exact ⟨n.toNat, by omega, by omega⟩
theorem add_of_plain {a : Addr} (h : a = ⟨a.block, a.off, none⟩) (k : Nat) : a.add k = ⟨a.block, a.off + k, none⟩ := by
  obtain ⟨b, o, s⟩ := a
  injection h with _ _ h
  subst h
  unfold Addr.add
  split
  · rename_i h0; subst h0; rfl
  · rfl
theorem cid_cells : Tryz.prog.cellsOf 25 = 4 := by kernel_rfl
theorem ent_cells : Tryz.prog.cellsOf 27 = 5 := by kernel_rfl
theorem u64_cells : Tryz.prog.cellsOf 23 = 1 := by kernel_rfl
theorem str_cells : Tryz.prog.cellsOf 9 = 1 := by kernel_rfl
set_option maxRecDepth 100000 in
theorem open_entry {fuel : Nat} {cs : List Value} {x : DataW H × List MemPlace} (h : DataW.trod enc Tryz.prog w base spare held fuel 27 cs = some x) : ∃ e : Ent, cs = entC e ∧ e.off < 18446744073709551616 := by
  obtain ⟨y0, y1, n, hx, hl, h0, h1⟩ := trod_struct2 Tryz.underlying27 h
  rw [ent_cells] at hl
  match cs, hl with
  | [c0, c1, c2, c3, c4], _ =>
    have h0' : DataW.trod enc Tryz.prog w base spare held n 25 [c0, c1, c2, c3] = some y0 := by
      have e : (([c0, c1, c2, c3, c4] : List Value).drop 0).take (Tryz.prog.cellsOf 25) = [c0, c1, c2, c3] := by rw [cid_cells]; rfl
      rw [← e]; exact h0
    have h1' : DataW.trod enc Tryz.prog w base spare held n 23 [c4] = some y1 := by
      have e : (([c0, c1, c2, c3, c4] : List Value).drop 4).take (Tryz.prog.cellsOf 23) = [c4] := by rw [u64_cells]; rfl
      rw [← e]; exact h1
    obtain ⟨ys, m, hm, hy, hyl, hylen, hf⟩ := DataW.trod_struct Tryz.underlying25 h0'
    have g0 := hf 0 _ rfl
    have g1 := hf 1 _ rfl
    have g2 := hf 2 _ rfl
    have g3 := hf 3 _ rfl
    match ys, hylen with
    | [z0, z1, z2, z3], _ =>
      have k0 : DataW.trod enc Tryz.prog w base spare held m 23 [c0] = some z0 := by
        have e : (([c0, c1, c2, c3] : List Value).drop 0).take (Tryz.prog.cellsOf 23) = [c0] := by rw [u64_cells]; rfl
        rw [← e]; exact g0
      have k1 : DataW.trod enc Tryz.prog w base spare held m 23 [c1] = some z1 := by
        have e : (([c0, c1, c2, c3] : List Value).drop 1).take (Tryz.prog.cellsOf 23) = [c1] := by rw [u64_cells]; rfl
        rw [← e]; exact g1
      have k2 : DataW.trod enc Tryz.prog w base spare held m 23 [c2] = some z2 := by
        have e : (([c0, c1, c2, c3] : List Value).drop 2).take (Tryz.prog.cellsOf 23) = [c2] := by rw [u64_cells]; rfl
        rw [← e]; exact g2
      have k3 : DataW.trod enc Tryz.prog w base spare held m 9 [c3] = some z3 := by
        have e : (([c0, c1, c2, c3] : List Value).drop 3).take (Tryz.prog.cellsOf 9) = [c3] := by rw [str_cells]; rfl
        rw [← e]; exact g3
      obtain ⟨n0, q0, _, w0⟩ := DataW.trod_int Tryz.underlying23 k0
      obtain ⟨n1, q1, _, w1⟩ := DataW.trod_int Tryz.underlying23 k1
      obtain ⟨n2, q2, _, w2⟩ := DataW.trod_int Tryz.underlying23 k2
      obtain ⟨s3, q3, _, w3⟩ := DataW.trod_string Tryz.underlying9 k3
      obtain ⟨n4, q4, _, w4⟩ := DataW.trod_int Tryz.underlying23 h1'
      obtain ⟨m0, rfl, _⟩ := u64_of_wf w0
      obtain ⟨m1, rfl, _⟩ := u64_of_wf w1
      obtain ⟨m2, rfl, _⟩ := u64_of_wf w2
      obtain ⟨m4, rfl, h4⟩ := u64_of_wf w4
      injection q0 with q0 _
      injection q1 with q1 _
      injection q2 with q2 _
      injection q3 with q3 _
      injection q4 with q4 _
      subst q0 q1 q2 q3 q4
      exact ⟨⟨m0, m1, m2, s3, m4⟩, rfl, h4⟩

set_option maxRecDepth 100000 in
theorem open_ents {fuel : Nat} {cs : List Value} {x : DataW H × List MemPlace} (h : DataW.trod enc Tryz.prog w base spare held fuel 22 cs = some x) :
    ∃ (es : List Ent) (A : Option Addr) (ib io n c : Nat), cs = [.slice A n c] ∧ es.length = n ∧ (A = none → n = 0 ∧ c = 0) ∧ n ≤ c ∧ EntsAt w A ib io es ∧ ∀ e, e ∈ es → e.off < 18446744073709551616 := by
  rcases open_slice Tryz.underlying22 h with ⟨h0, _⟩ | ⟨a, len, cap, m, n, D, Pl, hcs, hb, hl, hm, hmm, hx, hi⟩
  · exact ⟨[], none, 0, 0, 0, 0, h0, rfl, fun _ => ⟨rfl, rfl⟩, Nat.le_refl _, ⟨fun h => absurd h (by simp), fun i hi => absurd hi (by simp)⟩, fun e he => absurd he (by simp)⟩
  · have hex : ∀ i, ∃ e : Ent, i < len → w.cells? base (a.add (i * 5)) 5 = some (entC e) ∧ e.off < 18446744073709551616 := fun i => by
      by_cases hil : i < len
      · have him : i < m := by rw [hmm]; split <;> omega
        obtain ⟨cs', h1, h2⟩ := hi i him
        rw [ent_cells] at h1
        obtain ⟨e, rfl, he⟩ := open_entry h2
        exact ⟨e, fun _ => ⟨h1, he⟩⟩
      · exact ⟨⟨0, 0, 0, ByteArray.empty, 0⟩, fun h => absurd h hil⟩
    obtain ⟨f, hf⟩ := Classical.skolem.1 hex
    have hpl : 0 < len → a = ⟨a.block, a.off, none⟩ := fun h0 => by
      obtain ⟨_, _, hc⟩ := World.cells?_some (hf 0 h0).1
      have := hc 0 (by omega)
      exact Lib.plain_of_cell (v := .int .u64 ((f 0).ver : Int)) (by simpa [Addr.add, entC] using this)
    refine ⟨(List.range len).map f, some a, a.block, a.off, len, cap, hcs, by simp, (fun h => by cases h), hl, ⟨fun h0 => ?_, fun i hi => ?_⟩, fun e he => ?_⟩
    · have h0' : 0 < len := by simpa using h0
      refine ⟨by rw [← hpl h0'], ?_⟩
      obtain ⟨_, _, hc⟩ := World.cells?_some (hf 0 h0').1
      have := hc 0 (by omega)
      have h2 := World.block_lt_of_cell? (a := (a.add (0 * 5)).add 0) (u := .int .u64 ((f 0).ver : Int)) w (by simpa [entC] using this)
      simpa [Addr.add] using h2
    · have hil : i < len := by simpa using hi
      have hp := hpl (by omega)
      obtain ⟨_, _, hc⟩ := World.cells?_some (hf i hil).1
      have hadd : ∀ j, (a.add (i * 5)).add j = ⟨a.block, a.off + i * 5 + j, none⟩ := fun j => by
        rw [Go.Deep.add_add, Nat.add_assoc]
        exact add_of_plain hp _
      have hg : ((List.range len).map f)[i] = f i := by simp
      rw [hg]
      have c0 := hc 0 (by omega)
      have c1 := hc 1 (by omega)
      have c2 := hc 2 (by omega)
      have c3 := hc 3 (by omega)
      have c4 := hc 4 (by omega)
      rw [hadd] at c0 c1 c2 c3 c4
      exact ⟨c0, c1, c2, c3, c4⟩
    · obtain ⟨i, hi, rfl⟩ := List.mem_map.1 he
      exact (hf i (by simpa using hi)).2
end
end Go.Proofs.YtcgggcjmmphldaaGreatDoor
