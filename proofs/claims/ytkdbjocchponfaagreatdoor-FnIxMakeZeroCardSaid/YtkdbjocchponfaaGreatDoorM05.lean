/-
  Maps with keys of an integer kind, their elements whatever values: the keys as a list, each key's element. No program is named here.
  A map's store and an append, at the operation. No program is named here.
  Entries of the thin package: what they are, where they lie.
  'append' of a row onto a slice over a block of its own, in a region that draws; rows of entries.
  Varints: what the number functions of the varint package compute. No condition but those in each statement.
  DERIVED: THE SHELF's CONTRACTS AT THIS DUMP, IN PLAIN WORDS (tools/lay-plain.mjs out of 'TryzShelf.lean', which tools/lay-shelf.mjs wrote): THE SAME DECLARATIONS UNDER THE SAME NAMES: 'import', 'namespace', 'open', 'def', 'theorem' AND NOTHING ELSE: no command of the shelf's: FOR A HAND-IN. Each laying: the table of numbers ('.._ren') and one theorem, a field a fact of the dump's own or the kernel's comparison; each contract: ONE APPLICATION.
  (No condition beyond those that each theorem states.)
-/
import Derived.Test.YtkdbjocchponfaaGreatDoorM01
import Derived.Maps.RangeWalk
import Derived.Maps.OwnOps
import Derived.Maps.OwnSet
import Derived.Maps.Ext
import Derived.Maps.AppendAt
import Derived.OwnWalk
import Derived.Test.YtkdbjocchponfaaGreatDoorProg
import Derived.Laws.OwnMore
import Derived.WalkKit
import Derived.WalkSpells
import Derived.WalkLawsBesides
import Derived.Lib.Hide
import Derived.Lib.Varint
import Derived.Lib.VarintMem
import Derived.Lib.VarintBits
import Derived.Lib.BitFns
import Derived.Shelf.Small.Bits
import Derived.Shelf.Strconv.Itoa0
import Derived.Ground.MnProg
import Derived.Shelf.Bin.PutUvarint
namespace Go.Proofs.YtkdbjocchponfaaGreatDoor
open Go.RowKit Go.Maps

/-- An element stands for itself. -/
def hv (v : Value) : Option (DataW Value × List MemPlace) := some (.held v, [])

/-- Block b is a map (of at most n entries) whose keys are just those of K; at each of them the element V. -/
structure Mp (P : Program) (k : TypeId) (q : IntKind) (w : World) (b n : Nat) (K : List Int) (V : Int → Value) : Prop where
  nodup : K.Nodup
  wf : ∀ x, x ∈ K → (Lit.int q x).wf = true
  le : K.length ≤ n
  own : ∃ D : DataW Value, w.ownsMap P k hv b n D ∧ Maps.size D = K.length ∧ (∀ x, has D (.int q x) = decide (x ∈ K)) ∧ (∀ x, x ∈ K → ∀ z, D.atKey (.int q x) z = .held (V x))

/-- .. under a range: the keys still to come are those of L. -/
structure Rg (P : Program) (k : TypeId) (q : IntKind) (w : World) (b r n : Nat) (K : List Int) (V : Int → Value) (L : List Int) : Prop where
  nodup : L.Nodup
  sub : ∀ x, x ∈ L → x ∈ K
  map : Mp P k q w b n K V
  own : ∃ (D : DataW Value) (left : Lit → Bool) (cnt : Nat), w.ranges P k hv b r n D left cnt ∧ Maps.size D = K.length ∧ (∀ x, has D (.int q x) = decide (x ∈ K)) ∧ (∀ x, x ∈ K → ∀ z, D.atKey (.int q x) z = .held (V x)) ∧ (∀ x, left (.int q x) = decide (x ∈ L))

section
variable {P : Program} {k : TypeId} {q : IntKind} {w w' : World} {b r n : Nat} {K L : List Int} {V : Int → Value}

theorem isKeyInt (q : IntKind) (x : Int) : WideAt.IsKeyLit (.int q x) := by simp [WideAt.IsKeyLit]
theorem sameKey_int (q : IntKind) (x y : Int) : (Lit.int q x).sameKey (.int q y) = decide (x = y) := by
  by_cases h : x = y
  · subst h; rw [WideAt.sameKey_self (isKeyInt q x)]; simp
  · rw [sameKey_ne (fun e => h (by injection e))]; simp [h]

theorem Mp.made (w : World) (P : Program) (k : TypeId) (q : IntKind) (V : Int → Value) : Mp P k q (w.alloc (.map #[] 0)) w.heap.size 0 [] V :=
  ⟨List.nodup_nil, fun _ h => by simp at h, Nat.le_refl _, .map [], World.ownsMap_made w P k hv, rfl, fun x => by simp [has], fun x h => by simp at h⟩
theorem Mp.lt (h : Mp P k q w b n K V) : b < w.heap.size := by obtain ⟨D, ho, _⟩ := h.own; exact ho.lt
theorem Mp.off {S : List Nat} (h : Mp P k q w b n K V) (ho : Off S w w') (hb : b ∉ S) : Mp P k q w' b n K V := by
  obtain ⟨D, hown, h1, h2, h3⟩ := h.own
  have hlt := hown.lt
  obtain ⟨es, clock, hbk, F, hs, hD⟩ := hown
  exact ⟨h.nodup, h.wf, h.le, D, ⟨es, clock, (ho.block b hlt hb).trans hbk, F, hs, hD⟩, h1, h2, h3⟩
theorem Mp.mono {n' : Nat} (h : Mp P k q w b n K V) (hn : n ≤ n') : Mp P k q w b n' K V := by
  obtain ⟨D, hown, h1⟩ := h.own
  exact ⟨h.nodup, h.wf, Nat.le_trans h.le hn, D, hown.mono hn, h1⟩
theorem Mp.congr {V' : Int → Value} (h : Mp P k q w b n K V) (he : ∀ x, x ∈ K → V' x = V x) : Mp P k q w b n K V' := by
  obtain ⟨D, hown, h1, h2, h3⟩ := h.own
  exact ⟨h.nodup, h.wf, h.le, D, hown, h1, h2, fun x hx z => by rw [he x hx]; exact h3 x hx z⟩

/-- 'v, ok := m[x]'. -/
theorem Mp.look {t e : TypeId} (h : Mp P k q w b n K V) (hk : P.underlying k = some (.int q)) (ht : P.underlying t = some (.map k e)) {z : Value} (hz : (zeroValue e).run P w = .ok z w) (x : Int) (hx : (Lit.int q x).wf = true) :
    (Instr.lookup t (.map (some b)) (.int q x) true).run P w = .ok (.tuple #[if x ∈ K then V x else z, .bool (decide (x ∈ K))]) w ∧
    (Instr.lookup t (.map (some b)) (.int q x) false).run P w = .ok (if x ∈ K then V x else z) w := by
  obtain ⟨D, hown, h1, h2, h3⟩ := h.own
  obtain ⟨v, ps, hrun, hv1⟩ := hown.look_ok (int_keyed hk) ht hz (zd := .held z) (zp := []) rfl (keyOf_int_mk hk hx)
  obtain ⟨v', ps', hrun', hv2⟩ := hown.lookup (int_keyed hk) ht hz (zd := .held z) (zp := []) rfl (keyOf_int_mk hk hx)
  have key : ∀ u us, hv u = some (D.atKey (.int q x) (.held z), us) → u = if x ∈ K then V x else z := fun u us hu => by
    simp only [hv, Option.some.injEq, Prod.mk.injEq] at hu
    by_cases hm : x ∈ K
    · rw [h3 x hm] at hu
      rw [if_pos hm]
      have := hu.1
      injection this
    · rw [atKey_of_not_has (by rw [h2]; simpa using hm)] at hu
      rw [if_neg hm]
      have := hu.1
      injection this
  rw [h2, key v ps hv1] at hrun
  rw [key v' ps' hv2] at hrun'
  exact ⟨hrun, hrun'⟩

theorem off_mapTurned (h : w.mapTurned w' b) : Off [b] w w' ∧ w'.heap.size = w.heap.size := by
  have hg := h.grown
  obtain ⟨es, clock, es', clock', hb, rfl⟩ := h
  exact ⟨Off.ofGrown hg, by simp [Go.ChangeMaps.setBlock]⟩

/-- 'm[x] = v'. -/
theorem Mp.store {t e : TypeId} (h : Mp P k q w b n K V) (hk : P.underlying k = some (.int q)) (ht : P.underlying t = some (.map k e)) (hn : n < maxLen) (x : Int) (hx : (Lit.int q x).wf = true) (v : Value) :
    ∃ w', (Instr.mapUpdate t (.map (some b)) (.int q x) v).run P w = .ok () w' ∧ Mp P k q w' b (n + 1) (if x ∈ K then K else K ++ [x]) (fun y => if y = x then v else V y) ∧ Off [b] w w' ∧ w'.heap.size = w.heap.size := by
  obtain ⟨D, hown, h1, h2, h3⟩ := h.own
  obtain ⟨w', hrun, hown', hturn⟩ := hown.store (int_keyed hk) ht hn (keyOf_int_mk hk hx) (d := .held v) (ps := []) rfl
  have htd := hown.tidy (int_keyed hk)
  obtain ⟨ho, hs⟩ := off_mapTurned hturn
  refine ⟨w', hrun, ⟨?_, ?_, ?_, _, hown', ?_, ?_, ?_⟩, ho, hs⟩
  · by_cases hm : x ∈ K
    · rw [if_pos hm]; exact h.nodup
    · rw [if_neg hm]; exact List.nodup_append.2 ⟨h.nodup, by simp, fun a ha c hc e => hm (by simp at hc; rw [← hc, ← e]; exact ha)⟩
  · intro y hy
    by_cases hm : x ∈ K
    · rw [if_pos hm] at hy; exact h.wf y hy
    · rw [if_neg hm] at hy
      rcases List.mem_append.1 hy with h' | h'
      · exact h.wf y h'
      · simp at h'; rw [h']; exact hx
  · have := h.le
    split
    · omega
    · simp; omega
  · rw [size_put htd, h2]
    by_cases hm : x ∈ K
    · simp [hm, h1]
    · simp [hm, h1]
  · intro y
    by_cases he : y = x
    · subst he
      rw [has_put_same htd.isMap (isKeyInt q y)]
      by_cases hm : y ∈ K <;> simp [hm]
    · rw [has_put_other (fun e => he (by injection e)), h2]
      by_cases hm : x ∈ K <;> simp [hm, he]
  · intro y hy z
    by_cases he : y = x
    · subst he
      rw [atKey_put_same htd.isMap (isKeyInt q y), if_pos rfl]
    · rw [atKey_put_other (fun e => he (by injection e)), if_neg he]
      refine h3 y ?_ z
      by_cases hm : x ∈ K
      · rwa [if_pos hm] at hy
      · rw [if_neg hm] at hy
        rcases List.mem_append.1 hy with h' | h'
        · exact h'
        · simp at h'; exact absurd h' he

/-- 'len(m)'. -/
theorem Mp.len {t e : TypeId} (h : Mp P k q w b n K V) (ht : P.underlying t = some (.map k e)) (ty : TypeId) : (Builtin.len_ #[t] ty #[.map (some b)]).run P w = .ok (.int .i64 K.length) w := by
  obtain ⟨D, hown, h1, _⟩ := h.own
  rw [← h1]
  exact hown.len ht ty

/-- 'range m'. -/
theorem Mp.range {t e : TypeId} (h : Mp P k q w b n K V) (hk : P.underlying k = some (.int q)) (ht : P.underlying t = some (.map k e)) :
    ∃ w', (Instr.range t (.map (some b))).run P w = .ok (.pointer (some ⟨w.heap.size, 0, none⟩)) w' ∧ Rg P k q w' b w.heap.size n K V K ∧ Off [] w w' ∧ w'.heap.size = w.heap.size + 1 := by
  obtain ⟨D, hown, h1, h2, h3⟩ := h.own
  obtain ⟨w', hrun, hr, hg, hs⟩ := hown.range (int_keyed hk) ht
  have ho : Off [] w w' := ⟨hg.os, hg.tape, hg.output, hg.size, fun i hi _ => hg.block i hi (by simp)⟩
  exact ⟨w', hrun, ⟨h.nodup, fun _ hx => hx, h.off ho (by simp), D, has D, _, hr, h1, h2, h3, h2⟩, ho, hs⟩

theorem Rg.off {S : List Nat} (h : Rg P k q w b r n K V L) (ho : Off S w w') (hb : b ∉ S) (hr : r ∉ S) : Rg P k q w' b r n K V L := by
  obtain ⟨D, left, cnt, hown, h1, h2⟩ := h.own
  have hlt := hown.owns.lt
  have hrl := hown.lt
  obtain ⟨es, clock, since, seen, c0, hbk, F, hs, hD, hrk, rest⟩ := hown
  exact ⟨h.nodup, h.sub, h.map.off ho hb, D, left, cnt, ⟨es, clock, since, seen, c0, (ho.block b hlt hb).trans hbk, F, hs, hD, (ho.block r hrl hr).trans hrk, rest⟩, h1, h2⟩
theorem Rg.ne (h : Rg P k q w b r n K V L) : r ≠ b := by obtain ⟨D, left, cnt, hown, _⟩ := h.own; exact hown.ne

/-- A range's step, at the operation. -/
theorem wpList_next_mp {ops : Array Oper} {rest : List Oper} {o : Oper} {a : Act} {Q : Exit → Act → World → Prop} (hg : o.guard = none) (it : Operand) (hop : o.op = Op.next it false) (hk : P.underlying k = some (.int q))
    (hit : a.eval it = .pointer (some ⟨r, 0, none⟩)) (h : Rg P k q w b r n K V L)
    (hDone : L = [] → wpList P ops Q rest (a.put o.dst (.tuple #[.bool false])) w)
    (hMore : ∀ (x : Int) (w' : World), x ∈ L → (Lit.int q x).wf = true → Rg P k q w' b r n K V (L.erase x) → Off [r] w w' → w'.heap.size = w.heap.size →
      (Instr.entry (.pointer (some ⟨r, 0, none⟩))).run P w' = .ok (.tuple #[.int q x, V x]) w' → wpList P ops Q rest (a.put o.dst (.tuple #[.bool true, .int q x, V x])) w') :
    wpList P ops Q (o :: rest) a w := by
  obtain ⟨D, left, cnt, hr, h1, h2, h3, h4⟩ := h.own
  refine wpList_next_ranges w hg it hop k (int_keyed hk) hv (Value.int q) id (fun key kl hkey => by obtain ⟨x, rfl, _⟩ := Maps.keyOf_int_inv hk hkey; exact ⟨x, rfl⟩) (fun v y _ => ⟨v, rfl⟩) b r n D left cnt hit hr
    (fun _ h0 => hDone (List.eq_nil_iff_forall_not_mem.2 fun x hx => by have := h4 x; rw [h0] at this; simp [hx] at this)) (fun x c kl y w' cnt' hkey hlk hvy hat hrg hlt hgr hsz hen => ?_)
  obtain ⟨x', ex, rfl, hwx⟩ := Maps.keyOf_int_inv hk hkey
  cases ex
  have hxL : x ∈ L := by have := h4 x; rw [hlk] at this; simpa using this.symm
  have hxK := h.sub x hxL
  have hc : c = V x := by
    have e1 := hat (.held c)
    rw [h3 x hxK] at e1
    simp only [hv, id_eq, Option.some.injEq] at hvy
    rw [← hvy] at e1
    injection e1 with e1
    exact e1.symm
  have ho : Off [r] w w' := Off.ofGrown hgr
  have hrl := hr.lt
  have hmap : Mp P k q w' b n K V := h.map.off ho (by simp; exact fun e => h.ne e.symm)
  refine hc ▸ hMore x w' hxL hwx ⟨h.nodup.erase x, fun y hy => h.sub y (List.mem_of_mem_erase hy), hmap, D, _, cnt', hrg, h1, h2, h3, fun y => ?_⟩ ho hsz ?_
  · rw [h4, sameKey_int]
    by_cases he : y = x
    · subst he; simp [h.nodup.not_mem_erase]
    · simp [List.mem_erase_of_ne he, he]
  · rw [← hc]; exact hen
end
end Go.Proofs.YtkdbjocchponfaaGreatDoor
namespace Go.Proofs.YtkdbjocchponfaaGreatDoor
open Go.RowKit Go.Maps
section
variable {P : Program} {w : World} {ops : Array Oper} {rest : List Oper} {o : Oper} {a : Act} {Q : Exit → Act → World → Prop}

theorem wpList_mapUpdate_mp (hg : o.guard = none) (m x v : Operand) (t : TypeId) (hop : o.op = Op.mapUpdate t m x v) {k e : TypeId} {q : IntKind} (hk : P.underlying k = some (.int q)) (ht : P.underlying t = some (.map k e))
    {b n : Nat} {K : List Int} {V : Int → Value} (h : Mp P k q w b n K V) (hm : a.eval m = .map (some b)) (hn : n < maxLen) (i : Int) (hx : a.eval x = .int q i) (hi : (Lit.int q i).wf = true) (u : Value) (hv : a.eval v = u)
    (hK : ∀ w', Hid (Mp P k q w' b (n + 1) (if i ∈ K then K else K ++ [i]) (fun y => if y = i then u else V y)) → Hid (Off [b] w w') → w'.heap.size = w.heap.size → wpList P ops Q rest (a.put o.dst undef) w') :
    wpList P ops Q (o :: rest) a w := by
  refine wpList_plain hg fun K' hK' => ?_
  obtain ⟨w', hrun, r1, r2, r3⟩ := h.store hk ht hn i hi u
  unfold Oper.wp
  simp [execOp, hop, hm, hx, hv, hrun, Result.andThen]
  exact hK' _ _ (hK w' (Lib.hid r1) (Lib.hid r2) r3)

theorem wpList_range_mp (hg : o.guard = none) (m : Operand) (t : TypeId) (hop : o.op = Op.range t m) {k e : TypeId} {q : IntKind} (hk : P.underlying k = some (.int q)) (ht : P.underlying t = some (.map k e))
    {b n : Nat} {K : List Int} {V : Int → Value} (h : Mp P k q w b n K V) (hm : a.eval m = .map (some b))
    (hK : ∀ w', Hid (Rg P k q w' b w.heap.size n K V K) → Hid (Off [] w w') → w'.heap.size = w.heap.size + 1 → wpList P ops Q rest (a.put o.dst (.pointer (some ⟨w.heap.size, 0, none⟩))) w') :
    wpList P ops Q (o :: rest) a w := by
  refine wpList_plain hg fun K' hK' => ?_
  obtain ⟨w', hrun, r1, r2, r3⟩ := h.range hk ht
  unfold Oper.wp
  simp [execOp, hop, hm, hrun, Result.andThen]
  exact hK' _ _ (hK w' (Lib.hid r1) (Lib.hid r2) r3)

theorem off_grown_own {w' : World} {row : Option Nat} {S : List Nat} (h : w.grownBy w' row) (hr : ∀ g, row = some g → g ∈ S) : Off S w w' :=
  ⟨h.os, h.tape, h.output, h.size, fun i hi hn => h.block i hi (fun e => hn (hr i e.symm))⟩

/-- 'append' of one element onto a slice over a block of its own: the block is the elder one or a new one. -/
theorem wpList_append_blk (hgd : o.guard = none) (s x : Operand) (t : TypeId) (ho : o.op = .call { callee := .builtin .append, args := #[s, x], argTypes := #[t, t] })
    (e : TypeId) (i : TypeInfo) (z : Value) (size bytes : Nat) (ht : P.underlying t = some (.slice e)) (hi : P.info? e = some i) (hz : i.zero = some z) (hsize : i.size = size) (hby : i.bytes = bytes) (hzs : z.cells.size = size) (hsz : 0 < size)
    (v : Value) (n : Nat) (xs : List Value) (_hl : xs.length = n * size) (hs : a.eval s = v) (hv : w.ownsRow 0 e size v n xs)
    (ad : Addr) (c : Nat) (news : List Value) (hx : a.eval x = .slice (some ad) 1 c) (hln : news.length = size) (hnews : ∀ j u, news[j]? = some u → w.cell? (ad.add j) = some u) (h1 : ∀ u ∈ news, u.oneCell' = true)
    (h63 : n + 1 ≤ maxLen) (hbytes : (n + 1) * bytes ≤ 140737488355328)
    (h : ∀ (g' cap' : Nat) (sp' : List Value) w', Hid (Blk w' g' e (xs ++ news ++ sp').toArray) → n + 1 ≤ cap' → cap' ≤ maxLen → sp'.length + (n + 1) * size = cap' * size → (v.ownBlock = some g' ∨ g' = w.heap.size) →
      Hid (∀ S, (∀ g, v.ownBlock = some g → g ∈ S) → Off S w w') → Hid (w'.ownsRow 0 e size (.slice (some ⟨g', 0, none⟩) (n + 1) cap') (n + 1) (xs ++ news)) → wpList P ops Q rest (a.put o.dst (.slice (some ⟨g', 0, none⟩) (n + 1) cap')) w') :
    wpList P ops Q (o :: rest) a w := by
  refine wpList_append_own_at w hgd s x t ho 0 e i z size bytes ht hi hz hsize hby hzs hsz v n xs hs hv ad 1 c news hx (by omega) hnews h1 h63 hbytes (Nat.zero_le _) ?_
  intro v' w' hown hgrow hnil hat
  rcases id hown.2 with ⟨rfl, h0⟩ | ⟨g, cap, cur, rfl, hbg, hg, hnc, hcm, hcs, htake⟩
  · omega
  · have hcur : cur = (xs ++ news ++ cur.toList.drop ((n + 1) * size)).toArray := by
      have := List.take_append_drop ((n + 1) * size) cur.toList
      rw [htake] at this
      rw [this]
    refine h g cap (cur.toList.drop ((n + 1) * size)) w' (Lib.hid (show _ = _ from by rw [← hcur]; exact hg)) hnc hcm (by simp; rw [hcs]; exact Nat.sub_add_cancel (Nat.mul_le_mul_right _ hnc)) ?_ (Lib.hid fun S hS => off_grown_own hgrow hS) (Lib.hid hown)
    rcases hat with hat | hat
    · exact Or.inl (by rw [← hat]; rfl)
    · right
      simpa [Value.ownBlock] using hat
end

/-- A block known whole, as 'owns' says it. -/
theorem owns_blk {w : World} {g n cap size : Nat} {e : TypeId} {xs sp : List Value} (hb : Blk w g e (xs ++ sp).toArray) (hl : xs.length = n * size) (hsp : sp.length + n * size = cap * size) (hc : n ≤ cap) (hm : cap ≤ maxLen) : w.ownsRow 0 e size (.slice (some ⟨g, 0, none⟩) n cap) n xs :=
  ⟨hl, Or.inr ⟨g, cap, _, rfl, Nat.zero_le _, hb, hc, hm, by simp; omega, by simp [← hl]⟩⟩
end Go.Proofs.YtkdbjocchponfaaGreatDoor
namespace Go.Proofs.YtkdbjocchponfaaGreatDoor
open Go.RowKit

theorem Off.cellE {S : List Nat} {w w' : World} {p : Addr} {v : Value} (h : Off S w w') (hc : w.cell? p = some v) (hp : p.block ∉ S) : w'.cell? p = some v :=
  (World.cell?_of_block (h.block p.block (World.block_lt_of_cell? w _ hc) hp)).trans hc
/-- An entry of the thin package. -/
structure Ent where
  ver : Nat
  codec : Nat
  code : Nat
  dg : ByteArray
  off : Nat
structure Ent.ok (e : Ent) : Prop where
  ver : (e.ver = 0 ∧ e.codec = 112 ∧ e.code = 18 ∧ e.dg.data.toList.length = 32) ∨ (e.ver = 1 ∧ e.codec < 9223372036854775808 ∧ e.code < 9223372036854775808)
  small : e.dg.data.toList.length ≤ 1000
  off : e.off < 18446744073709551616

/-- Entries in memory. -/
structure EntsAt (w : World) (A : Option Addr) (ib io : Nat) (es : List Ent) : Prop where
  at_ : 0 < es.length → A = some ⟨ib, io, none⟩ ∧ ib < w.heap.size
  cells : ∀ i (h : i < es.length), w.cell? ⟨ib, io + i * 5, none⟩ = some (.int .u64 (es[i].ver : Int)) ∧ w.cell? ⟨ib, io + i * 5 + 1, none⟩ = some (.int .u64 (es[i].codec : Int)) ∧ w.cell? ⟨ib, io + i * 5 + 2, none⟩ = some (.int .u64 (es[i].code : Int)) ∧ w.cell? ⟨ib, io + i * 5 + 3, none⟩ = some (.string es[i].dg) ∧ w.cell? ⟨ib, io + i * 5 + 4, none⟩ = some (.int .u64 (es[i].off : Int))
theorem EntsAt.off {w w' : World} {A : Option Addr} {ib io : Nat} {es : List Ent} {S : List Nat} (h : EntsAt w A ib io es) (ho : Off S w w') (hS : 0 < es.length → ib ∉ S) : EntsAt w' A ib io es := by
  refine ⟨fun h0 => ⟨(h.at_ h0).1, Nat.lt_of_lt_of_le (h.at_ h0).2 ho.size⟩, fun i hi => ?_⟩
  have h0 : 0 < es.length := by omega
  obtain ⟨h1, h2, h3, h4, h5⟩ := h.cells i hi
  exact ⟨ho.cellE h1 (hS h0), ho.cellE h2 (hS h0), ho.cellE h3 (hS h0), ho.cellE h4 (hS h0), ho.cellE h5 (hS h0)⟩

end Go.Proofs.YtkdbjocchponfaaGreatDoor
namespace Go.Proofs.YtkdbjocchponfaaGreatDoor
open Go.RowKit

section
variable {P : Program}
theorem run_append_blks (w : World) (t ty e : TypeId) (i : TypeInfo) (z : Value) (size bytes : Nat) (ht : P.underlying t = some (.slice e)) (hi : P.info? e = some i) (hz : i.zero = some z) (hsize : i.size = size) (hby : i.bytes = bytes) (hzs : z.cells.size = size) (hsz : 0 < size)
    (g0 n cap0 : Nat) (xs sp0 : List Value) (hb : Blk w g0 e (xs ++ sp0).toArray) (hl : xs.length = n * size) (hsp : sp0.length + n * size = cap0 * size) (hc : n ≤ cap0) (hm : cap0 ≤ maxLen)
    (A : Option Addr) (m c : Nat) (news : List Value) (hA : A = none → m = 0 ∧ c = 0) (hln : news.length = m * size) (hnews : ∀ ad, A = some ad → ∀ j u, news[j]? = some u → w.cell? (ad.add j) = some u) (h1 : ∀ u ∈ news, u.oneCell' = true)
    (h63 : n + m ≤ maxLen) (hbytes : (n + m) * bytes ≤ 140737488355328) :
    ∃ g cap sp w', (Builtin.append_ #[t, t] ty #[.slice (some ⟨g0, 0, none⟩) n cap0, .slice A m c]).run P w = .ok (.slice (some ⟨g, 0, none⟩) (n + m) cap) w' ∧ Blk w' g e (xs ++ news ++ sp).toArray ∧ sp.length + (n + m) * size = cap * size ∧ n + m ≤ cap ∧ cap ≤ maxLen ∧ Off [g0] w w' ∧ (g = g0 ∨ g = w.heap.size) := by
  have hown := owns_blk hb hl hsp hc hm
  cases A with
  | none =>
    obtain ⟨rfl, rfl⟩ := hA rfl
    obtain rfl : news = [] := List.eq_nil_of_length_eq_zero (by omega)
    refine ⟨g0, cap0, sp0, w, run_append_owned_none (P := P) (w := w) 0 t ty e i size ht hi _ n xs hown, by rw [List.append_nil]; exact hb, hsp, hc, hm, Off.refl _ _, Or.inl rfl⟩
  | some ad =>
    obtain ⟨v', w', hr, h2, h3, h4, h5⟩ := run_append_own_at (P := P) w 0 t ty e i z size bytes ht hi hz hsize hby hzs hsz _ n xs hown ad m c news hln (hnews ad rfl) h1 h63 hbytes (Nat.zero_le _)
    rcases id h2.2 with ⟨rfl, h0⟩ | ⟨g, cap, cur, rfl, hbg, hg, hnc, hcm, hcs, htake⟩
    · have := (h4.1 rfl).1
      cases this
    · have hcur : cur = (xs ++ news ++ cur.toList.drop ((n + m) * size)).toArray := by
        have := List.take_append_drop ((n + m) * size) cur.toList
        rw [htake] at this
        rw [this]
      refine ⟨g, cap, cur.toList.drop ((n + m) * size), w', hr, show _ = _ from by rw [← hcur]; exact hg, by simp; rw [hcs]; exact Nat.sub_add_cancel (Nat.mul_le_mul_right _ hnc), hnc, hcm, off_grown_own h3 (fun g hg => by simpa [Value.ownBlock] using hg.symm), ?_⟩
      rcases h5 with h5 | h5
      · left; simpa [Value.ownBlock] using h5
      · right; simpa [Value.ownBlock] using h5

variable {ops : Array Oper} {o : Oper} {a : Act} {Q : Exit → Act → World → Prop}
end

/-- The cells of a row of entries. -/
def entC (e : Ent) : List Value := [.int .u64 (e.ver : Int), .int .u64 (e.codec : Int), .int .u64 (e.code : Int), .string e.dg, .int .u64 (e.off : Int)]
def entsC (es : List Ent) : List Value := es.flatMap entC
theorem entsC_len : ∀ es : List Ent, (entsC es).length = es.length * 5
  | [] => rfl
  | a :: es => by
    have e : entsC (a :: es) = entC a ++ entsC es := rfl
    rw [e, List.length_append, entsC_len es, List.length_cons]
    simp [entC]; omega
theorem entsC_at : ∀ (es : List Ent) (i : Nat) (h : i < es.length) (j : Nat), j < 5 → (entsC es)[i * 5 + j]? = (entC es[i])[j]?
  | [], i, h, _, _ => by simp at h
  | a :: es, 0, _, j, hj => by
    have e : entsC (a :: es) = entC a ++ entsC es := rfl
    rw [e, List.getElem?_append_left (by simp [entC]; omega)]
    simp
  | a :: es, i + 1, h, j, hj => by
    have e : entsC (a :: es) = entC a ++ entsC es := rfl
    have hl : (entC a).length = 5 := rfl
    rw [e, List.getElem?_append_right (by omega), hl, show (i + 1) * 5 + j - 5 = i * 5 + j by omega, entsC_at es i (by simpa using h) j hj]
    simp
theorem entsC_one (es : List Ent) : ∀ u ∈ entsC es, u.oneCell' = true := fun u hu => by
  obtain ⟨e, _, he⟩ := List.mem_flatMap.1 hu
  simp only [entC, List.mem_cons, List.not_mem_nil, or_false] at he
  rcases he with rfl | rfl | rfl | rfl | rfl <;> rfl
theorem EntsAt.of_blk {w : World} {g : Nat} {t : TypeId} {es : List Ent} {sp : List Value} (h : Blk w g t (entsC es ++ sp).toArray) : EntsAt w (some ⟨g, 0, none⟩) g 0 es := by
  have key : ∀ (i : Nat) (hi : i < es.length) (j : Nat), j < 5 → w.cell? ⟨g, i * 5 + j, none⟩ = (entC es[i])[j]? := fun i hi j hj => by
    rw [h.cell, List.getElem?_toArray, List.getElem?_append_left (by rw [entsC_len]; omega), entsC_at es i hi j hj]
  refine ⟨fun _ => ⟨rfl, h.lt⟩, fun i hi => ?_⟩
  rw [Nat.zero_add]
  exact ⟨key i hi 0 (by omega), key i hi 1 (by omega), key i hi 2 (by omega), key i hi 3 (by omega), key i hi 4 (by omega)⟩
theorem EntsAt.news {w : World} {A : Option Addr} {ib io : Nat} {es : List Ent} (h : EntsAt w A ib io es) (ad : Addr) (hA : A = some ad) : ∀ j u, (entsC es)[j]? = some u → w.cell? (ad.add j) = some u := fun j u hj => by
  obtain ⟨hjl, _⟩ := List.getElem?_eq_some_iff.1 hj
  rw [entsC_len] at hjl
  have hi : j / 5 < es.length := by omega
  obtain ⟨h1, _⟩ := h.at_ (by omega)
  rw [hA] at h1
  injection h1 with h1
  subst h1
  have hadd : (⟨ib, io, none⟩ : Addr).add j = ⟨ib, io + j, none⟩ := by unfold Addr.add; split <;> simp_all
  rw [hadd]
  obtain ⟨c0, c1, c2, c3, c4⟩ := h.cells (j / 5) hi
  have hj5 : j = j / 5 * 5 + j % 5 := by omega
  have e := entsC_at es (j / 5) hi (j % 5) (by omega)
  rw [← hj5, hj] at e
  have h5 : j % 5 = 0 ∨ j % 5 = 1 ∨ j % 5 = 2 ∨ j % 5 = 3 ∨ j % 5 = 4 := by omega
  rcases h5 with h5 | h5 | h5 | h5 | h5 <;> rw [h5] at e hj5
  · rw [e, show io + j = io + j / 5 * 5 by omega]; exact c0
  · rw [e, show io + j = io + j / 5 * 5 + 1 by omega]; exact c1
  · rw [e, show io + j = io + j / 5 * 5 + 2 by omega]; exact c2
  · rw [e, show io + j = io + j / 5 * 5 + 3 by omega]; exact c3
  · rw [e, show io + j = io + j / 5 * 5 + 4 by omega]; exact c4
end Go.Proofs.YtkdbjocchponfaaGreatDoor
namespace Go.Proofs.YtkdbjocchponfaaGreatDoor
open Go.RowKit

theorem or_join (i a y : Nat) (ha : a < 2 ^ (7 * i)) (hy : a + y * 2 ^ (7 * i) < 18446744073709551616) :
    bits .or .u64 (a : Int) ((y * 2 ^ (7 * i) : Nat) : Int) = ((a + y * 2 ^ (7 * i) : Nat) : Int) := by
  rw [u64_or_nat _ _ (by omega) (by omega), Nat.or_comm, nat_join (7 * i) _ _ (by simp) ha, Nat.add_comm]

theorem or_join_w (i a y : Nat) (ha : a < 2 ^ (7 * i)) (hy : a + y * 2 ^ (7 * i) < 18446744073709551616) :
    bits .or .u64 (a : Int) (IntKind.u64.wrap ((y : Int) * 2 ^ (7 * i))) = ((a + y * 2 ^ (7 * i) : Nat) : Int) := by
  have e : ((y : Int) * 2 ^ (7 * i)) = ((y * 2 ^ (7 * i) : Nat) : Int) := by push_cast; rfl
  rw [e, IntKind.wrap_u64, ← or_join i a y ha hy, Int.emod_eq_of_lt (by omega) (by omega)]

theorem ret3 {a a' b b' : Int} {ka kb : IntKind} {v : Value} (h : a = a') (h2 : b = b') : Ending.returned (.tuple #[.int ka a, .int kb b, v]) = Ending.returned (.tuple #[.int ka a', .int kb b', v]) := by rw [h, h2]

set_option maxRecDepth 100000 in
set_option maxHeartbeats 1000000 in
theorem fromUvarint_ok (x b o n c : Nat) (w : World) (hx : x < 9223372036854775808) (hn : (Lib.uvarint x).length ≤ n)
    (hc : Seg w b o (Lib.uvarint x)) :
    Calls Tryz.prog 144 #[.slice (some ⟨b, o, none⟩) n c] w fun e w' =>
      e = .returned (.tuple #[.int .u64 x, .int .i64 (Lib.uvarint x).length, .nilIface]) ∧ w = w' := by
  have HX := Lib.hid hx
  have HC := Lib.hid hc
  have HN := Lib.hid hn
  clear hx hc hn
  go_enter Tryz.func144, Tryz.ntmps144
  go_wp2
  go_loop [5, 6, 11] (fun vx vs vi => ∃ (i y acc : Nat) (pre : List UInt8), pre.length = i ∧ Lib.uvarint x = pre ++ Lib.uvarint y ∧ x = acc + y * 2 ^ (7 * i) ∧ acc < 2 ^ (7 * i) ∧ (0 < i → 0 < y) ∧
      vx = .int .u64 acc ∧ vs = .int .u64 ((7 * i : Nat) : Int) ∧ vi = .int .i64 i) (fun _ _ vi => 10 - (intOf vi).toNat)
  case atStart => exact ⟨0, x, 0, [], rfl, rfl, by simp, by simp, by omega, rfl, rfl, rfl⟩
  case round =>
    obtain ⟨i, y, acc, pre, hpl, hsp, hxe, hacc, hy0, rfl, rfl, rfl⟩ := hrel
    have hul := congrArg List.length hsp
    rw [List.length_append] at hul
    have hyp := Lib.uvarint_pos y
    have hx := HX.out
    have hn := HN.out
    have hin : i < n := by omega
    have hget : ∀ (h : i < (Lib.uvarint x).length), (Lib.uvarint x)[i] = (Lib.uvarint y)[0] := by
      intro h
      have : (Lib.uvarint x)[i]? = (Lib.uvarint y)[0]? := by rw [hsp, List.getElem?_append_right (by omega)]; simp [hpl]
      rw [List.getElem?_eq_getElem h, List.getElem?_eq_getElem (by omega)] at this
      exact Option.some.inj this
    have hi8 : i ≤ 8 := by
      rcases Nat.lt_or_ge i 9 with h | h
      · omega
      · exfalso
        have h1 : 2 ^ 63 ≤ 2 ^ (7 * i) := Nat.pow_le_pow_right (by omega) (by omega)
        have h2 := Nat.le_mul_of_pos_left (2 ^ (7 * i)) (hy0 (by omega))
        omega
    have hcl := HC.out i (by omega)
    rw [hget] at hcl
    clear hget
    by_cases h128 : 128 ≤ y
    · have hb := Lib.uvarint_big h128
      have hm := Lib.toUInt8_toNat (a := y % 128 + 128) (by omega)
      simp only [hb, List.getElem_cons_zero] at hcl
      rw [hm] at hcl
      have hi7 : i ≤ 7 := by
        rcases Nat.lt_or_ge i 8 with h | h
        · omega
        · exfalso
          have h1 : 2 ^ 56 ≤ 2 ^ (7 * i) := Nat.pow_le_pow_right (by omega) (by omega)
          have h2 := Nat.mul_le_mul h128 h1
          omega
      have HS := Lib.hid (And.intro hsp (And.intro hxe (And.intro hacc (And.intro hpl (And.intro hb hul)))))
      clear hsp hxe hacc hpl hb hul hx hn hy0 hm hyp
      go_wp2
      go_roundw
      case rel =>
        obtain ⟨hsp, hxe, hacc, hpl, hb, hul⟩ := HS.out
        have hx := HX.out
        have hpw : 2 ^ (7 * (i + 1)) = 128 * 2 ^ (7 * i) := by rw [show 7 * (i + 1) = 7 + 7 * i from by omega, Nat.pow_add]
        have hdm : y * 2 ^ (7 * i) = y % 128 * 2 ^ (7 * i) + y / 128 * (128 * 2 ^ (7 * i)) := by
          rw [← Nat.mul_assoc, ← Nat.add_mul]; congr 1; omega
        have hlt : y % 128 * 2 ^ (7 * i) + 2 ^ (7 * i) ≤ 128 * 2 ^ (7 * i) := by
          rw [← Nat.succ_mul]; exact Nat.mul_le_mul_right _ (by omega)
        refine ⟨i + 1, y / 128, acc + y % 128 * 2 ^ (7 * i), pre ++ [(y % 128 + 128).toUInt8], by simp [hpl], by rw [hsp, hb]; simp, by rw [hpw]; omega, by rw [hpw]; omega, by omega, ?_, by go_num, by go_num⟩
        have ea : bits .and .u8 ((y : Int) % 128 + 128) 127 = ((y % 128 : Nat) : Int) := by rw [u8_and127 (x := (y : Int) % 128 + 128) (by omega) (by omega)]; omega
        have ew : IntKind.u64.wrap ((y % 128 : Nat) : Int) = ((y % 128 : Nat) : Int) := by rw [IntKind.wrap_u64, Int.emod_eq_of_lt (by omega) (by omega)]
        rw [ea, ew, or_join_w i acc (y % 128) hacc (by omega)]
      case measure => simp [intOf]; omega
    · have hb := Lib.uvarint_small (x := y) (by omega)
      have hm := Lib.toUInt8_toNat (a := y) (by omega)
      simp only [hb, List.getElem_cons_zero] at hcl
      rw [hm] at hcl
      have HS := Lib.hid (And.intro hsp (And.intro hxe (And.intro hacc (And.intro hpl (And.intro hb hul)))))
      clear hsp hxe hacc hpl hb hul hx hn hm hyp
      go_wp2
      all_goals (try go_ret3)
      all_goals
        obtain ⟨hsp, hxe, hacc, hpl, hb, hul⟩ := HS.out
        have hx := HX.out
        rw [hb] at hul
        refine ⟨ret3 ?_ ?_, rfl⟩
        · first
          | (rw [or_join_w i acc y hacc (by rw [← hxe]; omega), ← hxe]; done)
          | (have h0 : i = 8 := by clear hxe hacc; omega
             subst h0
             have hj := or_join_w 8 acc y hacc (by rw [← hxe]; omega)
             rw [← hxe] at hj
             have e : IntKind.u64.wrap ((y : Int) * 2 ^ (7 * 8)) = (y : Int) * 72057594037927936 := by rw [IntKind.wrap_u64, Int.emod_eq_of_lt (by omega) (by omega)]; rfl
             rw [e] at hj
             exact hj)
          | (have h0 : i = 0 := by clear hxe hacc; omega
             subst h0
             have ha : acc = 0 := by simpa using hacc
             subst ha
             have hy : y = 0 := by omega
             rw [hxe, hy]; rfl)
        · simp at hul; omega
end Go.Proofs.YtkdbjocchponfaaGreatDoor
namespace Go.Proofs
open Go.Shelf
def Tryz.lays125_ren : Go.Shelf.Ren := ⟨fun | 125 => 93 | 128 => 113 | 129 => 114 | n => n, fun | 46 => 90 | 3 => 3 | 51 => 233 | 53 => 30 | 4 => 4 | 5 => 5 | 9 => 9 | n => n, fun | n => n⟩
theorem Tryz.lays125 : Go.Proofs.Lays.n125 Tryz.prog Tryz.lays125_ren := {
  mixed := by kernel_rfl
  f125 := Tryz.func93.trans (congrArg some (by kernel_rfl))
  f128 := Tryz.func113.trans (congrArg some (by kernel_rfl))
  f129 := Tryz.func114.trans (congrArg some (by kernel_rfl))
  t3 := Tryz.underlying3
  a3 := Tryz.isAgg3
  z3 := Tryz.sizeOf3
  v3 := Tryz.zeroValue3
  t4 := Tryz.underlying4
  a4 := Tryz.isAgg4
  z4 := Tryz.sizeOf4
  v4 := Tryz.zeroValue4
  t5 := Tryz.underlying5
  a5 := Tryz.isAgg5
  z5 := Tryz.sizeOf5
  v5 := Tryz.zeroValue5
  t9 := Tryz.underlying9
  a9 := Tryz.isAgg9
  z9 := Tryz.sizeOf9
  v9 := Tryz.zeroValue9
  t46 := Tryz.underlying90
  a46 := Tryz.isAgg90
  z46 := Tryz.sizeOf90
  v46 := Tryz.zeroValue90
  t51 := Tryz.underlying233
  a51 := Tryz.isAgg233
  z51 := Tryz.sizeOf233
  v51 := Tryz.zeroValue233
  t53 := Tryz.underlying30
  a53 := Tryz.isAgg30
  z53 := Tryz.sizeOf30
  v53 := Tryz.zeroValue30 }
/-- bits.Len: "Len returns the minimum number of bits required to represent x; the result is 0 for x == 0.": IT RETURNS 'Lib.bitLen x'; the world is as it was. (A uint has 64 bits in the model.) ITS CALLEE bits.Len64 IS MET BY ITS OWN CONTRACT OFF THE SHELF (lay that first). (LAID: no walk: one application.) -/
theorem Tryz.bits_Len (x : Int) (w : World) (h0 : 0 ≤ x) (h1 : x ≤ 18446744073709551615) :
    Calls Tryz.prog 93 #[.int .u64 x] w fun e w' => e = .returned (.int .i64 (Lib.bitLen x.toNat)) ∧ w' = w := Any.bits_Len Tryz.lays125 x w h0 h1
def Tryz.laysBin46_ren : Go.Shelf.Ren := ⟨fun | 46 => 86 | n => n, fun | 22 => 32 | 33 => 30 | 3 => 3 | 4 => 4 | 5 => 5 | 0 => 0 | 45 => 90 | n => n, fun | n => n⟩
theorem Tryz.laysBin46 : Go.Proofs.LaysBin.n46 Tryz.prog Tryz.laysBin46_ren := {
  mixed := by kernel_rfl
  f46 := Tryz.func86.trans (congrArg some (by kernel_rfl))
  t0 := Tryz.underlying0
  a0 := Tryz.isAgg0
  z0 := Tryz.sizeOf0
  v0 := Tryz.zeroValue0
  i0 := by kernel_rfl
  t3 := Tryz.underlying3
  a3 := Tryz.isAgg3
  z3 := Tryz.sizeOf3
  v3 := Tryz.zeroValue3
  i3 := by kernel_rfl
  t4 := Tryz.underlying4
  a4 := Tryz.isAgg4
  z4 := Tryz.sizeOf4
  v4 := Tryz.zeroValue4
  i4 := by kernel_rfl
  t5 := Tryz.underlying5
  a5 := Tryz.isAgg5
  z5 := Tryz.sizeOf5
  v5 := Tryz.zeroValue5
  i5 := by kernel_rfl
  t22 := Tryz.underlying32
  a22 := Tryz.isAgg32
  z22 := Tryz.sizeOf32
  v22 := Tryz.zeroValue32
  i22 := by kernel_rfl
  t33 := Tryz.underlying30
  a33 := Tryz.isAgg30
  z33 := Tryz.sizeOf30
  v33 := Tryz.zeroValue30
  i33 := by kernel_rfl
  t45 := Tryz.underlying90
  a45 := Tryz.isAgg90
  z45 := Tryz.sizeOf90
  v45 := Tryz.zeroValue90
  i45 := by kernel_rfl }
open Go.RowKit in
/-- binary.PutUvarint: "PutUvarint encodes a uint64 into buf and returns the number of bytes written. If the buffer is too small, PutUvarint will panic.": WHERE buf HAS ROOM: x's VARINT ('Lib.uvarint x') IS LAID IN buf's FIRST CELLS ('World.setCells'); its length comes back; nothing else turns. (LAID: no walk: one application.) -/
theorem Tryz.binary_PutUvarint (g o n c x : Nat) (hx : x < 18446744073709551616) (w : World) (hn : (Lib.uvarint x).length ≤ n) (hcell : ∀ j, j < (Lib.uvarint x).length → (w.cell? ⟨g, o + j, none⟩).isSome = true ∧ w.frozen? ⟨g, o + j, none⟩ = false) :
    Calls Tryz.prog 86 #[.slice (some ⟨g, o, none⟩) n c, .int .u64 x] w fun e w' => e = .returned (.int .i64 (Lib.uvarint x).length) ∧ w' = w.setCells g o (Lib.byteCells (Lib.uvarint x)) := Any.binary_PutUvarint Tryz.laysBin46 g o n c x hx w hn hcell
end Go.Proofs
