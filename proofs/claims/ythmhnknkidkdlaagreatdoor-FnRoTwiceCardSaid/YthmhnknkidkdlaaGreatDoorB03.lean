/-
  Maps with keys of an integer kind, their elements whatever values: the keys as a list, each key's element. No program is named here.
  A map's store and an append, at the operation. No program is named here.
  Entries of the thin package: what they are, where they lie.
  'append' of a row onto a slice over a block of its own, in a region that draws; rows of entries.
  Varints: what the number functions of the varint package compute. No condition but those in each statement.
  Multihashes: what the functions that write one make.
  Multihashes: what the functions that read one make of the bytes that Encode writes.
  (No condition beyond those that each theorem states.)
-/
import Derived.Test.YthmhnknkidkdlaaGreatDoorB02
import Derived.Maps.RangeWalk
import Derived.Maps.OwnOps
import Derived.Maps.OwnSet
import Derived.Maps.Ext
import Derived.Maps.AppendAt
import Derived.OwnWalk
import Derived.Test.YthmhnknkidkdlaaGreatDoorProg
import Derived.Laws.OwnMore
import Derived.Test.YthmhnknkidkdlaaGreatDoorB00
import Derived.WalkKit
import Derived.WalkSpells
import Derived.WalkLawsBesides
import Derived.Lib.Hide
import Derived.Lib.Varint
import Derived.Lib.VarintMem
import Derived.Lib.VarintBits
import Derived.Lib.BitFns
import Derived.Test.YthmhnknkidkdlaaGreatDoorB01
import Derived.Deep.RegionWith
import Derived.Deep.QuietTactic
import Derived.BigQuiet
import Derived.Deep.DeepFit
namespace Go.Proofs.YthmhnknkidkdlaaGreatDoor
open Go.RowKit Go.Maps

/-- An element stands for itself. -/
def hv (v : Value) : Option (DataW Value × List MemPlace) := some (.held v, [])

/-- Block b is a map (of at most n entries) whose keys are just those of K; at each of them the element V. -/
structure Mp (P : Program) (k : TypeId) (q : IntKind) (w : World) (b n : Nat) (K : List Int) (V : Int → Value) : Prop where
  nodup : K.Nodup
  wf : ∀ x, x ∈ K → (Lit.int q x).wf = true
  le : K.length ≤ n
  own : ∃ D : DataW Value, w.ownsMap P k hv b n D ∧ Maps.size D = K.length ∧ (∀ x, has D (.int q x) = decide (x ∈ K)) ∧ (∀ x, x ∈ K → ∀ z, D.atKey (.int q x) z = .held (V x))

/-- .. under a range: the keys still to come are those of L. -/
structure Rg (P : Program) (k : TypeId) (q : IntKind) (w : World) (b r n : Nat) (K : List Int) (V : Int → Value) (L : List Int) : Prop where
  nodup : L.Nodup
  sub : ∀ x, x ∈ L → x ∈ K
  map : Mp P k q w b n K V
  own : ∃ (D : DataW Value) (left : Lit → Bool) (cnt : Nat), w.ranges P k hv b r n D left cnt ∧ Maps.size D = K.length ∧ (∀ x, has D (.int q x) = decide (x ∈ K)) ∧ (∀ x, x ∈ K → ∀ z, D.atKey (.int q x) z = .held (V x)) ∧ (∀ x, left (.int q x) = decide (x ∈ L))

section
variable {P : Program} {k : TypeId} {q : IntKind} {w w' : World} {b r n : Nat} {K L : List Int} {V : Int → Value}

theorem isKeyInt (q : IntKind) (x : Int) : WideAt.IsKeyLit (.int q x) := by simp [WideAt.IsKeyLit]
theorem sameKey_int (q : IntKind) (x y : Int) : (Lit.int q x).sameKey (.int q y) = decide (x = y) := by
  by_cases h : x = y
  · subst h; rw [WideAt.sameKey_self (isKeyInt q x)]; simp
  · rw [sameKey_ne (fun e => h (by injection e))]; simp [h]

theorem Mp.made (w : World) (P : Program) (k : TypeId) (q : IntKind) (V : Int → Value) : Mp P k q (w.alloc (.map #[] 0)) w.heap.size 0 [] V :=
  ⟨List.nodup_nil, fun _ h => by simp at h, Nat.le_refl _, .map [], World.ownsMap_made w P k hv, rfl, fun x => by simp [has], fun x h => by simp at h⟩
theorem Mp.lt (h : Mp P k q w b n K V) : b < w.heap.size := by obtain ⟨D, ho, _⟩ := h.own; exact ho.lt
theorem Mp.off {S : List Nat} (h : Mp P k q w b n K V) (ho : Off S w w') (hb : b ∉ S) : Mp P k q w' b n K V := by
  obtain ⟨D, hown, h1, h2, h3⟩ := h.own
  have hlt := hown.lt
  obtain ⟨es, clock, hbk, F, hs, hD⟩ := hown
  exact ⟨h.nodup, h.wf, h.le, D, ⟨es, clock, (ho.block b hlt hb).trans hbk, F, hs, hD⟩, h1, h2, h3⟩
theorem Mp.mono {n' : Nat} (h : Mp P k q w b n K V) (hn : n ≤ n') : Mp P k q w b n' K V := by
  obtain ⟨D, hown, h1⟩ := h.own
  exact ⟨h.nodup, h.wf, Nat.le_trans h.le hn, D, hown.mono hn, h1⟩
theorem Mp.congr {V' : Int → Value} (h : Mp P k q w b n K V) (he : ∀ x, x ∈ K → V' x = V x) : Mp P k q w b n K V' := by
  obtain ⟨D, hown, h1, h2, h3⟩ := h.own
  exact ⟨h.nodup, h.wf, h.le, D, hown, h1, h2, fun x hx z => by rw [he x hx]; exact h3 x hx z⟩

/-- 'v, ok := m[x]'. -/
theorem Mp.look {t e : TypeId} (h : Mp P k q w b n K V) (hk : P.underlying k = some (.int q)) (ht : P.underlying t = some (.map k e)) {z : Value} (hz : (zeroValue e).run P w = .ok z w) (x : Int) (hx : (Lit.int q x).wf = true) :
    (Instr.lookup t (.map (some b)) (.int q x) true).run P w = .ok (.tuple #[if x ∈ K then V x else z, .bool (decide (x ∈ K))]) w ∧
    (Instr.lookup t (.map (some b)) (.int q x) false).run P w = .ok (if x ∈ K then V x else z) w := by
  obtain ⟨D, hown, h1, h2, h3⟩ := h.own
  obtain ⟨v, ps, hrun, hv1⟩ := hown.look_ok (int_keyed hk) ht hz (zd := .held z) (zp := []) rfl (keyOf_int_mk hk hx)
  obtain ⟨v', ps', hrun', hv2⟩ := hown.lookup (int_keyed hk) ht hz (zd := .held z) (zp := []) rfl (keyOf_int_mk hk hx)
  have key : ∀ u us, hv u = some (D.atKey (.int q x) (.held z), us) → u = if x ∈ K then V x else z := fun u us hu => by
    simp only [hv, Option.some.injEq, Prod.mk.injEq] at hu
    by_cases hm : x ∈ K
    · rw [h3 x hm] at hu
      rw [if_pos hm]
      have := hu.1
      injection this
    · rw [atKey_of_not_has (by rw [h2]; simpa using hm)] at hu
      rw [if_neg hm]
      have := hu.1
      injection this
  rw [h2, key v ps hv1] at hrun
  rw [key v' ps' hv2] at hrun'
  exact ⟨hrun, hrun'⟩

theorem off_mapTurned (h : w.mapTurned w' b) : Off [b] w w' ∧ w'.heap.size = w.heap.size := by
  have hg := h.grown
  obtain ⟨es, clock, es', clock', hb, rfl⟩ := h
  exact ⟨Off.ofGrown hg, by simp [Go.ChangeMaps.setBlock]⟩

/-- 'm[x] = v'. -/
theorem Mp.store {t e : TypeId} (h : Mp P k q w b n K V) (hk : P.underlying k = some (.int q)) (ht : P.underlying t = some (.map k e)) (hn : n < maxLen) (x : Int) (hx : (Lit.int q x).wf = true) (v : Value) :
    ∃ w', (Instr.mapUpdate t (.map (some b)) (.int q x) v).run P w = .ok () w' ∧ Mp P k q w' b (n + 1) (if x ∈ K then K else K ++ [x]) (fun y => if y = x then v else V y) ∧ Off [b] w w' ∧ w'.heap.size = w.heap.size := by
  obtain ⟨D, hown, h1, h2, h3⟩ := h.own
  obtain ⟨w', hrun, hown', hturn⟩ := hown.store (int_keyed hk) ht hn (keyOf_int_mk hk hx) (d := .held v) (ps := []) rfl
  have htd := hown.tidy (int_keyed hk)
  obtain ⟨ho, hs⟩ := off_mapTurned hturn
  refine ⟨w', hrun, ⟨?_, ?_, ?_, _, hown', ?_, ?_, ?_⟩, ho, hs⟩
  · by_cases hm : x ∈ K
    · rw [if_pos hm]; exact h.nodup
    · rw [if_neg hm]; exact List.nodup_append.2 ⟨h.nodup, by simp, fun a ha c hc e => hm (by simp at hc; rw [← hc, ← e]; exact ha)⟩
  · intro y hy
    by_cases hm : x ∈ K
    · rw [if_pos hm] at hy; exact h.wf y hy
    · rw [if_neg hm] at hy
      rcases List.mem_append.1 hy with h' | h'
      · exact h.wf y h'
      · simp at h'; rw [h']; exact hx
  · have := h.le
    split
    · omega
    · simp; omega
  · rw [size_put htd, h2]
    by_cases hm : x ∈ K
    · simp [hm, h1]
    · simp [hm, h1]
  · intro y
    by_cases he : y = x
    · subst he
      rw [has_put_same htd.isMap (isKeyInt q y)]
      by_cases hm : y ∈ K <;> simp [hm]
    · rw [has_put_other (fun e => he (by injection e)), h2]
      by_cases hm : x ∈ K <;> simp [hm, he]
  · intro y hy z
    by_cases he : y = x
    · subst he
      rw [atKey_put_same htd.isMap (isKeyInt q y), if_pos rfl]
    · rw [atKey_put_other (fun e => he (by injection e)), if_neg he]
      refine h3 y ?_ z
      by_cases hm : x ∈ K
      · rwa [if_pos hm] at hy
      · rw [if_neg hm] at hy
        rcases List.mem_append.1 hy with h' | h'
        · exact h'
        · simp at h'; exact absurd h' he

/-- 'len(m)'. -/
theorem Mp.len {t e : TypeId} (h : Mp P k q w b n K V) (ht : P.underlying t = some (.map k e)) (ty : TypeId) : (Builtin.len_ #[t] ty #[.map (some b)]).run P w = .ok (.int .i64 K.length) w := by
  obtain ⟨D, hown, h1, _⟩ := h.own
  rw [← h1]
  exact hown.len ht ty

/-- 'range m'. -/
theorem Mp.range {t e : TypeId} (h : Mp P k q w b n K V) (hk : P.underlying k = some (.int q)) (ht : P.underlying t = some (.map k e)) :
    ∃ w', (Instr.range t (.map (some b))).run P w = .ok (.pointer (some ⟨w.heap.size, 0, none⟩)) w' ∧ Rg P k q w' b w.heap.size n K V K ∧ Off [] w w' ∧ w'.heap.size = w.heap.size + 1 := by
  obtain ⟨D, hown, h1, h2, h3⟩ := h.own
  obtain ⟨w', hrun, hr, hg, hs⟩ := hown.range (int_keyed hk) ht
  have ho : Off [] w w' := ⟨hg.os, hg.tape, hg.output, hg.size, fun i hi _ => hg.block i hi (by simp)⟩
  exact ⟨w', hrun, ⟨h.nodup, fun _ hx => hx, h.off ho (by simp), D, has D, _, hr, h1, h2, h3, h2⟩, ho, hs⟩

theorem Rg.off {S : List Nat} (h : Rg P k q w b r n K V L) (ho : Off S w w') (hb : b ∉ S) (hr : r ∉ S) : Rg P k q w' b r n K V L := by
  obtain ⟨D, left, cnt, hown, h1, h2⟩ := h.own
  have hlt := hown.owns.lt
  have hrl := hown.lt
  obtain ⟨es, clock, since, seen, c0, hbk, F, hs, hD, hrk, rest⟩ := hown
  exact ⟨h.nodup, h.sub, h.map.off ho hb, D, left, cnt, ⟨es, clock, since, seen, c0, (ho.block b hlt hb).trans hbk, F, hs, hD, (ho.block r hrl hr).trans hrk, rest⟩, h1, h2⟩
theorem Rg.ne (h : Rg P k q w b r n K V L) : r ≠ b := by obtain ⟨D, left, cnt, hown, _⟩ := h.own; exact hown.ne

/-- A range's step, at the operation. -/
theorem wpList_next_mp {ops : Array Oper} {rest : List Oper} {o : Oper} {a : Act} {Q : Exit → Act → World → Prop} (hg : o.guard = none) (it : Operand) (hop : o.op = Op.next it false) (hk : P.underlying k = some (.int q))
    (hit : a.eval it = .pointer (some ⟨r, 0, none⟩)) (h : Rg P k q w b r n K V L)
    (hDone : L = [] → wpList P ops Q rest (a.put o.dst (.tuple #[.bool false])) w)
    (hMore : ∀ (x : Int) (w' : World), x ∈ L → (Lit.int q x).wf = true → Rg P k q w' b r n K V (L.erase x) → Off [r] w w' → w'.heap.size = w.heap.size →
      (Instr.entry (.pointer (some ⟨r, 0, none⟩))).run P w' = .ok (.tuple #[.int q x, V x]) w' → wpList P ops Q rest (a.put o.dst (.tuple #[.bool true, .int q x, V x])) w') :
    wpList P ops Q (o :: rest) a w := by
  obtain ⟨D, left, cnt, hr, h1, h2, h3, h4⟩ := h.own
  refine wpList_next_ranges w hg it hop k (int_keyed hk) hv (Value.int q) id (fun key kl hkey => by obtain ⟨x, rfl, _⟩ := Maps.keyOf_int_inv hk hkey; exact ⟨x, rfl⟩) (fun v y _ => ⟨v, rfl⟩) b r n D left cnt hit hr
    (fun _ h0 => hDone (List.eq_nil_iff_forall_not_mem.2 fun x hx => by have := h4 x; rw [h0] at this; simp [hx] at this)) (fun x c kl y w' cnt' hkey hlk hvy hat hrg hlt hgr hsz hen => ?_)
  obtain ⟨x', ex, rfl, hwx⟩ := Maps.keyOf_int_inv hk hkey
  cases ex
  have hxL : x ∈ L := by have := h4 x; rw [hlk] at this; simpa using this.symm
  have hxK := h.sub x hxL
  have hc : c = V x := by
    have e1 := hat (.held c)
    rw [h3 x hxK] at e1
    simp only [hv, id_eq, Option.some.injEq] at hvy
    rw [← hvy] at e1
    injection e1 with e1
    exact e1.symm
  have ho : Off [r] w w' := Off.ofGrown hgr
  have hrl := hr.lt
  have hmap : Mp P k q w' b n K V := h.map.off ho (by simp; exact fun e => h.ne e.symm)
  refine hc ▸ hMore x w' hxL hwx ⟨h.nodup.erase x, fun y hy => h.sub y (List.mem_of_mem_erase hy), hmap, D, _, cnt', hrg, h1, h2, h3, fun y => ?_⟩ ho hsz ?_
  · rw [h4, sameKey_int]
    by_cases he : y = x
    · subst he; simp [h.nodup.not_mem_erase]
    · simp [List.mem_erase_of_ne he, he]
  · rw [← hc]; exact hen
end
end Go.Proofs.YthmhnknkidkdlaaGreatDoor
namespace Go.Proofs.YthmhnknkidkdlaaGreatDoor
open Go.RowKit Go.Maps
section
variable {P : Program} {w : World} {ops : Array Oper} {rest : List Oper} {o : Oper} {a : Act} {Q : Exit → Act → World → Prop}

theorem wpList_mapUpdate_mp (hg : o.guard = none) (m x v : Operand) (t : TypeId) (hop : o.op = Op.mapUpdate t m x v) {k e : TypeId} {q : IntKind} (hk : P.underlying k = some (.int q)) (ht : P.underlying t = some (.map k e))
    {b n : Nat} {K : List Int} {V : Int → Value} (h : Mp P k q w b n K V) (hm : a.eval m = .map (some b)) (hn : n < maxLen) (i : Int) (hx : a.eval x = .int q i) (hi : (Lit.int q i).wf = true) (u : Value) (hv : a.eval v = u)
    (hK : ∀ w', Hid (Mp P k q w' b (n + 1) (if i ∈ K then K else K ++ [i]) (fun y => if y = i then u else V y)) → Hid (Off [b] w w') → w'.heap.size = w.heap.size → wpList P ops Q rest (a.put o.dst undef) w') :
    wpList P ops Q (o :: rest) a w := by
  refine wpList_plain hg fun K' hK' => ?_
  obtain ⟨w', hrun, r1, r2, r3⟩ := h.store hk ht hn i hi u
  unfold Oper.wp
  simp [execOp, hop, hm, hx, hv, hrun, Result.andThen]
  exact hK' _ _ (hK w' (Lib.hid r1) (Lib.hid r2) r3)

theorem wpList_range_mp (hg : o.guard = none) (m : Operand) (t : TypeId) (hop : o.op = Op.range t m) {k e : TypeId} {q : IntKind} (hk : P.underlying k = some (.int q)) (ht : P.underlying t = some (.map k e))
    {b n : Nat} {K : List Int} {V : Int → Value} (h : Mp P k q w b n K V) (hm : a.eval m = .map (some b))
    (hK : ∀ w', Hid (Rg P k q w' b w.heap.size n K V K) → Hid (Off [] w w') → w'.heap.size = w.heap.size + 1 → wpList P ops Q rest (a.put o.dst (.pointer (some ⟨w.heap.size, 0, none⟩))) w') :
    wpList P ops Q (o :: rest) a w := by
  refine wpList_plain hg fun K' hK' => ?_
  obtain ⟨w', hrun, r1, r2, r3⟩ := h.range hk ht
  unfold Oper.wp
  simp [execOp, hop, hm, hrun, Result.andThen]
  exact hK' _ _ (hK w' (Lib.hid r1) (Lib.hid r2) r3)

theorem off_grown_own {w' : World} {row : Option Nat} {S : List Nat} (h : w.grownBy w' row) (hr : ∀ g, row = some g → g ∈ S) : Off S w w' :=
  ⟨h.os, h.tape, h.output, h.size, fun i hi hn => h.block i hi (fun e => hn (hr i e.symm))⟩

/-- 'append' of one element onto a slice over a block of its own: the block is the elder one or a new one. -/
theorem wpList_append_blk (hgd : o.guard = none) (s x : Operand) (t : TypeId) (ho : o.op = .call { callee := .builtin .append, args := #[s, x], argTypes := #[t, t] })
    (e : TypeId) (i : TypeInfo) (z : Value) (size bytes : Nat) (ht : P.underlying t = some (.slice e)) (hi : P.info? e = some i) (hz : i.zero = some z) (hsize : i.size = size) (hby : i.bytes = bytes) (hzs : z.cells.size = size) (hsz : 0 < size)
    (v : Value) (n : Nat) (xs : List Value) (_hl : xs.length = n * size) (hs : a.eval s = v) (hv : w.ownsRow 0 e size v n xs)
    (ad : Addr) (c : Nat) (news : List Value) (hx : a.eval x = .slice (some ad) 1 c) (hln : news.length = size) (hnews : ∀ j u, news[j]? = some u → w.cell? (ad.add j) = some u) (h1 : ∀ u ∈ news, u.oneCell' = true)
    (h63 : n + 1 ≤ maxLen) (hbytes : (n + 1) * bytes ≤ 140737488355328)
    (h : ∀ (g' cap' : Nat) (sp' : List Value) w', Hid (Blk w' g' e (xs ++ news ++ sp').toArray) → n + 1 ≤ cap' → cap' ≤ maxLen → sp'.length + (n + 1) * size = cap' * size → (v.ownBlock = some g' ∨ g' = w.heap.size) →
      Hid (∀ S, (∀ g, v.ownBlock = some g → g ∈ S) → Off S w w') → Hid (w'.ownsRow 0 e size (.slice (some ⟨g', 0, none⟩) (n + 1) cap') (n + 1) (xs ++ news)) → wpList P ops Q rest (a.put o.dst (.slice (some ⟨g', 0, none⟩) (n + 1) cap')) w') :
    wpList P ops Q (o :: rest) a w := by
  refine wpList_append_own_at w hgd s x t ho 0 e i z size bytes ht hi hz hsize hby hzs hsz v n xs hs hv ad 1 c news hx (by omega) hnews h1 h63 hbytes (Nat.zero_le _) ?_
  intro v' w' hown hgrow hnil hat
  rcases id hown.2 with ⟨rfl, h0⟩ | ⟨g, cap, cur, rfl, hbg, hg, hnc, hcm, hcs, htake⟩
  · omega
  · have hcur : cur = (xs ++ news ++ cur.toList.drop ((n + 1) * size)).toArray := by
      have := List.take_append_drop ((n + 1) * size) cur.toList
      rw [htake] at this
      rw [this]
    refine h g cap (cur.toList.drop ((n + 1) * size)) w' (Lib.hid (show _ = _ from by rw [← hcur]; exact hg)) hnc hcm (by simp; rw [hcs]; exact Nat.sub_add_cancel (Nat.mul_le_mul_right _ hnc)) ?_ (Lib.hid fun S hS => off_grown_own hgrow hS) (Lib.hid hown)
    rcases hat with hat | hat
    · exact Or.inl (by rw [← hat]; rfl)
    · right
      simpa [Value.ownBlock] using hat
end

/-- A block known whole, as 'owns' says it. -/
theorem owns_blk {w : World} {g n cap size : Nat} {e : TypeId} {xs sp : List Value} (hb : Blk w g e (xs ++ sp).toArray) (hl : xs.length = n * size) (hsp : sp.length + n * size = cap * size) (hc : n ≤ cap) (hm : cap ≤ maxLen) : w.ownsRow 0 e size (.slice (some ⟨g, 0, none⟩) n cap) n xs :=
  ⟨hl, Or.inr ⟨g, cap, _, rfl, Nat.zero_le _, hb, hc, hm, by simp; omega, by simp [← hl]⟩⟩
end Go.Proofs.YthmhnknkidkdlaaGreatDoor
namespace Go.Proofs.YthmhnknkidkdlaaGreatDoor
open Go.RowKit

theorem Off.cellE {S : List Nat} {w w' : World} {p : Addr} {v : Value} (h : Off S w w') (hc : w.cell? p = some v) (hp : p.block ∉ S) : w'.cell? p = some v :=
  (World.cell?_of_block (h.block p.block (World.block_lt_of_cell? w _ hc) hp)).trans hc
/-- An entry of the thin package. -/
structure Ent where
  ver : Nat
  codec : Nat
  code : Nat
  dg : ByteArray
  off : Nat
structure Ent.ok (e : Ent) : Prop where
  ver : (e.ver = 0 ∧ e.codec = 112 ∧ e.code = 18 ∧ e.dg.data.toList.length = 32) ∨ (e.ver = 1 ∧ e.codec < 9223372036854775808 ∧ e.code < 9223372036854775808)
  small : e.dg.data.toList.length ≤ 1000
  off : e.off < 18446744073709551616

end Go.Proofs.YthmhnknkidkdlaaGreatDoor
namespace Go.Proofs.YthmhnknkidkdlaaGreatDoor
open Go.RowKit

section
variable {P : Program}
variable {ops : Array Oper} {o : Oper} {a : Act} {Q : Exit → Act → World → Prop}
end

end Go.Proofs.YthmhnknkidkdlaaGreatDoor
namespace Go.Proofs.YthmhnknkidkdlaaGreatDoor
open Go.RowKit

theorem or_join (i a y : Nat) (ha : a < 2 ^ (7 * i)) (hy : a + y * 2 ^ (7 * i) < 18446744073709551616) :
    bits .or .u64 (a : Int) ((y * 2 ^ (7 * i) : Nat) : Int) = ((a + y * 2 ^ (7 * i) : Nat) : Int) := by
  rw [u64_or_nat _ _ (by omega) (by omega), Nat.or_comm, nat_join (7 * i) _ _ (by simp) ha, Nat.add_comm]

theorem or_join_w (i a y : Nat) (ha : a < 2 ^ (7 * i)) (hy : a + y * 2 ^ (7 * i) < 18446744073709551616) :
    bits .or .u64 (a : Int) (IntKind.u64.wrap ((y : Int) * 2 ^ (7 * i))) = ((a + y * 2 ^ (7 * i) : Nat) : Int) := by
  have e : ((y : Int) * 2 ^ (7 * i)) = ((y * 2 ^ (7 * i) : Nat) : Int) := by push_cast; rfl
  rw [e, IntKind.wrap_u64, ← or_join i a y ha hy, Int.emod_eq_of_lt (by omega) (by omega)]

theorem ret3 {a a' b b' : Int} {ka kb : IntKind} {v : Value} (h : a = a') (h2 : b = b') : Ending.returned (.tuple #[.int ka a, .int kb b, v]) = Ending.returned (.tuple #[.int ka a', .int kb b', v]) := by rw [h, h2]

set_option maxRecDepth 100000 in
set_option maxHeartbeats 1000000 in
theorem fromUvarint_ok (x b o n c : Nat) (w : World) (hx : x < 9223372036854775808) (hn : (Lib.uvarint x).length ≤ n)
    (hc : Seg w b o (Lib.uvarint x)) :
    Calls Tryz.prog 103 #[.slice (some ⟨b, o, none⟩) n c] w fun e w' =>
      e = .returned (.tuple #[.int .u64 x, .int .i64 (Lib.uvarint x).length, .nilIface]) ∧ w = w' := by
  have HX := Lib.hid hx
  have HC := Lib.hid hc
  have HN := Lib.hid hn
  clear hx hc hn
  go_enter Tryz.func103, Tryz.ntmps103
  go_wp2
  go_loop [5, 6, 11] (fun vx vs vi => ∃ (i y acc : Nat) (pre : List UInt8), pre.length = i ∧ Lib.uvarint x = pre ++ Lib.uvarint y ∧ x = acc + y * 2 ^ (7 * i) ∧ acc < 2 ^ (7 * i) ∧ (0 < i → 0 < y) ∧
      vx = .int .u64 acc ∧ vs = .int .u64 ((7 * i : Nat) : Int) ∧ vi = .int .i64 i) (fun _ _ vi => 10 - (intOf vi).toNat)
  case atStart => exact ⟨0, x, 0, [], rfl, rfl, by simp, by simp, by omega, rfl, rfl, rfl⟩
  case round =>
    obtain ⟨i, y, acc, pre, hpl, hsp, hxe, hacc, hy0, rfl, rfl, rfl⟩ := hrel
    have hul := congrArg List.length hsp
    rw [List.length_append] at hul
    have hyp := Lib.uvarint_pos y
    have hx := HX.out
    have hn := HN.out
    have hin : i < n := by omega
    have hget : ∀ (h : i < (Lib.uvarint x).length), (Lib.uvarint x)[i] = (Lib.uvarint y)[0] := by
      intro h
      have : (Lib.uvarint x)[i]? = (Lib.uvarint y)[0]? := by rw [hsp, List.getElem?_append_right (by omega)]; simp [hpl]
      rw [List.getElem?_eq_getElem h, List.getElem?_eq_getElem (by omega)] at this
      exact Option.some.inj this
    have hi8 : i ≤ 8 := by
      rcases Nat.lt_or_ge i 9 with h | h
      · omega
      · exfalso
        have h1 : 2 ^ 63 ≤ 2 ^ (7 * i) := Nat.pow_le_pow_right (by omega) (by omega)
        have h2 := Nat.le_mul_of_pos_left (2 ^ (7 * i)) (hy0 (by omega))
        omega
    have hcl := HC.out i (by omega)
    rw [hget] at hcl
    clear hget
    by_cases h128 : 128 ≤ y
    · have hb := Lib.uvarint_big h128
      have hm := Lib.toUInt8_toNat (a := y % 128 + 128) (by omega)
      simp only [hb, List.getElem_cons_zero] at hcl
      rw [hm] at hcl
      have hi7 : i ≤ 7 := by
        rcases Nat.lt_or_ge i 8 with h | h
        · omega
        · exfalso
          have h1 : 2 ^ 56 ≤ 2 ^ (7 * i) := Nat.pow_le_pow_right (by omega) (by omega)
          have h2 := Nat.mul_le_mul h128 h1
          omega
      have HS := Lib.hid (And.intro hsp (And.intro hxe (And.intro hacc (And.intro hpl (And.intro hb hul)))))
      clear hsp hxe hacc hpl hb hul hx hn hy0 hm hyp
      go_wp2
      go_roundw
      case rel =>
        obtain ⟨hsp, hxe, hacc, hpl, hb, hul⟩ := HS.out
        have hx := HX.out
        have hpw : 2 ^ (7 * (i + 1)) = 128 * 2 ^ (7 * i) := by rw [show 7 * (i + 1) = 7 + 7 * i from by omega, Nat.pow_add]
        have hdm : y * 2 ^ (7 * i) = y % 128 * 2 ^ (7 * i) + y / 128 * (128 * 2 ^ (7 * i)) := by
          rw [← Nat.mul_assoc, ← Nat.add_mul]; congr 1; omega
        have hlt : y % 128 * 2 ^ (7 * i) + 2 ^ (7 * i) ≤ 128 * 2 ^ (7 * i) := by
          rw [← Nat.succ_mul]; exact Nat.mul_le_mul_right _ (by omega)
        refine ⟨i + 1, y / 128, acc + y % 128 * 2 ^ (7 * i), pre ++ [(y % 128 + 128).toUInt8], by simp [hpl], by rw [hsp, hb]; simp, by rw [hpw]; omega, by rw [hpw]; omega, by omega, ?_, by go_num, by go_num⟩
        have ea : bits .and .u8 ((y : Int) % 128 + 128) 127 = ((y % 128 : Nat) : Int) := by rw [u8_and127 (x := (y : Int) % 128 + 128) (by omega) (by omega)]; omega
        have ew : IntKind.u64.wrap ((y % 128 : Nat) : Int) = ((y % 128 : Nat) : Int) := by rw [IntKind.wrap_u64, Int.emod_eq_of_lt (by omega) (by omega)]
        rw [ea, ew, or_join_w i acc (y % 128) hacc (by omega)]
      case measure => simp [intOf]; omega
    · have hb := Lib.uvarint_small (x := y) (by omega)
      have hm := Lib.toUInt8_toNat (a := y) (by omega)
      simp only [hb, List.getElem_cons_zero] at hcl
      rw [hm] at hcl
      have HS := Lib.hid (And.intro hsp (And.intro hxe (And.intro hacc (And.intro hpl (And.intro hb hul)))))
      clear hsp hxe hacc hpl hb hul hx hn hm hyp
      go_wp2
      all_goals (try go_ret3)
      all_goals
        obtain ⟨hsp, hxe, hacc, hpl, hb, hul⟩ := HS.out
        have hx := HX.out
        rw [hb] at hul
        refine ⟨ret3 ?_ ?_, rfl⟩
        · first
          | (rw [or_join_w i acc y hacc (by rw [← hxe]; omega), ← hxe]; done)
          | (have h0 : i = 8 := by clear hxe hacc; omega
             subst h0
             have hj := or_join_w 8 acc y hacc (by rw [← hxe]; omega)
             rw [← hxe] at hj
             have e : IntKind.u64.wrap ((y : Int) * 2 ^ (7 * 8)) = (y : Int) * 72057594037927936 := by rw [IntKind.wrap_u64, Int.emod_eq_of_lt (by omega) (by omega)]; rfl
             rw [e] at hj
             exact hj)
          | (have h0 : i = 0 := by clear hxe hacc; omega
             subst h0
             have ha : acc = 0 := by simpa using hacc
             subst ha
             have hy : y = 0 := by omega
             rw [hxe, hy]; rfl)
        · simp at hul; omega
end Go.Proofs.YthmhnknkidkdlaaGreatDoor
namespace Go.Proofs.YthmhnknkidkdlaaGreatDoor
open Go.RowKit

set_option maxRecDepth 100000 in
theorem putUvarint_any (g o n c x : Nat) (hx : x < 18446744073709551616) (w : World) (hn : (Lib.uvarint x).length ≤ n) (hcell : ∀ j, j < (Lib.uvarint x).length → (w.cell? ⟨g, o + j, none⟩).isSome = true ∧ w.frozen? ⟨g, o + j, none⟩ = false) :
    Calls Tryz.prog 58 #[.slice (some ⟨g, o, none⟩) n c, .int .u64 x] w fun e w' => e = .returned (.int .i64 (Lib.uvarint x).length) ∧ w.setCells g o (Lib.byteCells (Lib.uvarint x)) = w' := by
  have H := Lib.hid (Tryz.binary_PutUvarint g o n c x hx w hn hcell)
  clear hcell hn hx
  go_enter Tryz.func58, Tryz.ntmps58
  go_wp2_with (go_at_call 81; refine H.out.mono ?_; rintro e w' ⟨rfl, rfl⟩)
  go_ret
  exact ⟨rfl, rfl⟩

/-- A varint is laid into a block of the caller's: at a place 'pre.length', over as many cells. -/
theorem putUvarint_blk (g o n c x : Nat) (t : TypeId) (pre mid post : List Value) (hx : x < 18446744073709551616) (w : World) (hn : (Lib.uvarint x).length ≤ n) (hpre : pre.length = o) (hmid : mid.length = (Lib.uvarint x).length) (hb : Blk w g t (pre ++ (mid ++ post)).toArray) :
    Calls Tryz.prog 58 #[.slice (some ⟨g, o, none⟩) n c, .int .u64 x] w fun e w' => e = .returned (.int .i64 (Lib.uvarint x).length) ∧ Blk w' g t (pre ++ (Lib.byteCells (Lib.uvarint x) ++ post)).toArray ∧ w.grownBy w' (some g) ∧ w'.heap.size = w.heap.size := by
  refine (putUvarint_any g o n c x hx w hn ?_).mono ?_
  · intro j hj
    refine ⟨?_, hb.frozen _⟩
    rw [hb.cell]
    simp
    omega
  · rintro e w' ⟨rfl, rfl⟩
    exact ⟨rfl, hb.setCells _ _ _ _ _ _ hpre (by rw [hmid, Lib.byteCells_length]), grown_setCells _ _ _ _, setCells_size _ _ _ _⟩

/-- A multihash's bytes. -/
def mhB (code : Nat) (d : List UInt8) : List UInt8 := Lib.uvarint code ++ (Lib.uvarint d.length ++ d)
theorem mhB_length (code : Nat) (d : List UInt8) : (mhB code d).length = (Lib.uvarint code).length + (Lib.uvarint d.length).length + d.length := by simp [mhB]; omega

end Go.Proofs.YthmhnknkidkdlaaGreatDoor
namespace Go.Proofs.YthmhnknkidkdlaaGreatDoor
open Go.RowKit

/-- The address that a slice 's[k:]' has. -/
def cutA (b o c k : Nat) : Option Addr := if c = k then some ⟨b, o, none⟩ else some ⟨b, o + k, none⟩

set_option maxRecDepth 100000 in
set_option maxHeartbeats 1000000 in
theorem mhUvarint_ok (x b o n c : Nat) (rest : List UInt8) (w : World) (hx : x < 9223372036854775808) (hn : n = (Lib.uvarint x).length + rest.length) (hnc : n ≤ c) (_hnm : n ≤ 4294967296) (hs : Seg w b o (Lib.uvarint x ++ rest)) :
    Calls Tryz.prog 100 #[.slice (some ⟨b, o, none⟩) n c] w fun e w' =>
      e = .returned (.tuple #[.int .u64 x, .slice (cutA b o c (Lib.uvarint x).length) rest.length (c - (Lib.uvarint x).length), .nilIface]) ∧ Drew w w' := by
  have hp := Lib.uvarint_pos x
  obtain ⟨k, hk⟩ : ∃ k, k = (Lib.uvarint x).length := ⟨_, rfl⟩
  have HC := Lib.hid (fromUvarint_ok x b o n c w hx (by omega) hs.left)
  rw [show (Lib.uvarint x).length = k from hk.symm] at HC hn hp ⊢
  have HK := Lib.hid hk
  have HN := Lib.hid hn
  have hkn : k ≤ n := by omega
  have hb1 : ((k : Int) == 0) = false := beq_eq_false_iff_ne.2 (by omega)
  have hb2 : ¬ ((k : Int) < 0) := by omega
  clear hx hk hs hn
  go_enter Tryz.func100, Tryz.ntmps100
  go_wp2_with fail

  go_fit HC.out
  rintro e w' ⟨rfl, rfl⟩
  go_wp2_with fail
  go_quiet (fail)
  go_wp2
  all_goals
    go_ret3
    have hl : n - k = rest.length := by have := HN.out; omega
    refine ⟨?_, Drew.drewN _ _⟩
    rename_i h
    simp [cutA, h, hl]

theorem mhUvarint_more (x b o n c m : Nat) (rest : List UInt8) (w : World) (hx : x < 9223372036854775808) (hm : m = rest.length) (hn : n = (Lib.uvarint x).length + m) (hnc : n ≤ c) (hnm : n ≤ 4294967296) (hr : 0 < m) (hs : Seg w b o (Lib.uvarint x ++ rest)) :
    Calls Tryz.prog 100 #[.slice (some ⟨b, o, none⟩) n c] w fun e w' =>
      e = .returned (.tuple #[.int .u64 x, .slice (some ⟨b, o + (Lib.uvarint x).length, none⟩) m (c - (Lib.uvarint x).length), .nilIface]) ∧ Drew w w' := by
  subst hm
  have h := mhUvarint_ok x b o n c rest w hx hn hnc hnm hs
  rw [cutA, if_neg (by omega)] at h
  exact h

theorem results_tmp4 {fn : Func} {t u v x : Tmp} (h : fn.results = #[.tmp t, .tmp u, .tmp v, .tmp x]) (tmps : Array Value) (P : Program) (w : World) :
    (results fn tmps).run P w = .ok (.tuple #[tmps.getD t undef, tmps.getD u undef, tmps.getD v undef, tmps.getD x undef]) w := by simp [results, h]

set_option maxRecDepth 100000 in
set_option maxHeartbeats 1000000 in
theorem readMh_ok (code b o n c : Nat) (d : List UInt8) (w : World) (hx : code < 9223372036854775808) (hd : d.length ≤ 2147483647) (hn : n = (mhB code d).length) (hnc : n ≤ c) (hs : Seg w b o (mhB code d)) :
    Calls Tryz.prog 88 #[.slice (some ⟨b, o, none⟩) n c] w fun e w' =>
      e = .returned (.tuple #[.int .i64 n, .int .u64 code, .slice (cutA b (o + (Lib.uvarint code).length) (c - (Lib.uvarint code).length) (Lib.uvarint d.length).length) d.length (c - (Lib.uvarint code).length - (Lib.uvarint d.length).length), .nilIface]) ∧ Drew w w' := by
  have hp := Lib.uvarint_pos code
  have hp2 := Lib.uvarint_pos d.length
  have hl1 := Lib.uvarint_length64 (x := code) (by omega)
  have hl2 := Lib.uvarint_length64 (x := d.length) (by omega)
  rw [mhB_length] at hn
  have HA := Lib.hid (mhUvarint_more code b o n c ((Lib.uvarint d.length).length + d.length) (Lib.uvarint d.length ++ d) w hx (by simp) (by omega) hnc (by omega) (by omega) hs)
  have HB := Lib.hid (fun W (hW : Drew w W) => mhUvarint_ok d.length b (o + (Lib.uvarint code).length) ((Lib.uvarint d.length).length + d.length) (c - (Lib.uvarint code).length) d W (by omega) rfl (by omega) (by omega) (hW.seg (Seg.right hs)))
  have HN := Lib.hid hn
  have hn2 : 2 ≤ n := by omega
  have hnb : n ≤ 2147483700 := by omega
  have hnd : d.length ≤ n := by omega
  have hcap : d.length ≤ c - (Lib.uvarint code).length - (Lib.uvarint d.length).length := by omega
  clear hx hs hn hl1 hl2
  go_enter Tryz.func88, Tryz.ntmps88
  go_wp2_with fail
  refine HA.out.mono ?_
  rintro e w1 ⟨rfl, hD1⟩
  go_wp2_with fail
  refine (HB.out w1 hD1).mono ?_
  rintro e w2 ⟨rfl, hD2⟩
  go_wp2_with fail
  go_quiet (fail)
  go_wp2_with fail
  all_goals
    refine bodyPost_ret (results_tmp4 rfl _ _ _) rfl ?_
    refine ⟨?_, (hD1.trans hD2).more _⟩
    rfl

/-- A slice value that is a digest: where it lies, if it has a byte. -/
def DgAt (A : Option Addr) (C b o : Nat) (d : List UInt8) : Prop := d.length ≤ C ∧ (0 < d.length → A = some ⟨b, o, none⟩)

/-- Where in a multihash the digest begins. -/
def mhO (code : Nat) (d : List UInt8) : Nat := (Lib.uvarint code).length + (Lib.uvarint d.length).length
theorem mhB_dig {w : World} {b o code : Nat} {d : List UInt8} (h : Seg w b o (mhB code d)) : Seg w b (o + mhO code d) d := by
  have := (Seg.right (Seg.right h))
  exact this.cast (by rw [mhO]; omega)

theorem readMh_dg (code b o n c : Nat) (d : List UInt8) (w : World) (hx : code < 9223372036854775808) (hd : d.length ≤ 2147483647) (hn : n = (mhB code d).length) (hnc : n ≤ c) (hs : Seg w b o (mhB code d)) :
    Calls Tryz.prog 88 #[.slice (some ⟨b, o, none⟩) n c] w fun e w' =>
      ∃ A C, e = .returned (.tuple #[.int .i64 n, .int .u64 code, .slice A d.length C, .nilIface]) ∧ DgAt A C b (o + mhO code d) d ∧ Drew w w' := by
  refine (readMh_ok code b o n c d w hx hd hn hnc hs).mono fun e w' ⟨he, hD⟩ => ⟨_, _, he, ⟨?_, fun hp => ?_⟩, hD⟩
  · rw [mhB_length] at hn; omega
  · rw [mhB_length] at hn
    rw [cutA, if_neg (by omega), mhO, Nat.add_assoc]

set_option maxRecDepth 100000 in
set_option maxHeartbeats 1000000 in
theorem decode_ok (code b o n c : Nat) (d : List UInt8) (w : World) (hx : code < 9223372036854775808) (hd : d.length ≤ 2147483647) (hn : n = (mhB code d).length) (hnc : n ≤ c) (hs : Seg w b o (mhB code d)) (hb : b < w.heap.size) :
    Calls Tryz.prog 99 #[.slice (some ⟨b, o, none⟩) n c] w fun e w' =>
      ∃ A C, e = .returned (.tuple #[.agg #[.int .u64 code, .string ByteArray.empty, .int .i64 d.length, .slice A d.length C], .nilIface]) ∧ DgAt A C b (o + mhO code d) d ∧ Below w.heap.size w w' := by
  have HC := Lib.hid (fun W (h : Seg W b o (mhB code d)) => readMh_dg code b o n c d W hx hd hn hnc h)
  have HS := Lib.hid hs
  have HN := Lib.hid hn
  clear hx hs hn
  go_enter Tryz.func99, Tryz.ntmps99
  go_wp2_with fail
  refine (HC.out _ (HS.out.alloc hb _)).mono ?_
  rintro e w1 ⟨A, C, rfl, hdg, hD1⟩
  have HDG := Lib.hid hdg
  clear hdg
  have hz : w1.heap.size = w.heap.size + 1 := by rw [hD1.size]; simp
  have hB1 : Below w.heap.size w w1 := ((Below.refl _ w).alloc (Nat.le_refl _) _).trans (hD1.below _)
  have hk1 : Blk w1 w.heap.size 226 #[.int .u64 0, .string ByteArray.empty, .int .i64 0, .slice none 0 0] := hD1.blk (Blk.new _ _ _)
  have hc0 := hk1.cell 0
  have hc1 := hk1.cell 1
  have hc2 := hk1.cell 2
  have hc3 := hk1.cell 3
  simp at hc0 hc1 hc2 hc3
  have hf0 := hk1.frozen 0
  have hf1 := hk1.frozen 1
  have hf2 := hk1.frozen 2
  have hf3 := hk1.frozen 3
  have HK := Lib.hid hk1
  clear hk1 hz
  go_wp2_with fail
  refine bodyPost_ret (results_row_tmp rfl _ (HK.out.fill4.fill4) rfl Tryz.underlying226 rfl (by kernel_rfl)) rfl ⟨A, C, rfl, HDG.out, ?_⟩
  exact below_fill4 (below_fill4 hB1 (Nat.le_refl _)) (Nat.le_refl _)

/-- The struct that a decoded multihash lies in. -/
def dmh (code : Nat) (d : List UInt8) (A : Option Addr) (C : Nat) : Array Value := #[.int .u64 code, .string ByteArray.empty, .int .i64 d.length, .slice A d.length C]

set_option maxRecDepth 100000 in
set_option maxHeartbeats 1000000 in
theorem decodeP_ok (code b o n c : Nat) (d : List UInt8) (w : World) (hx : code < 9223372036854775808) (hd : d.length ≤ 2147483647) (hn : n = (mhB code d).length) (hnc : n ≤ c) (hs : Seg w b o (mhB code d)) (hb : b < w.heap.size) :
    Calls Tryz.prog 87 #[.slice (some ⟨b, o, none⟩) n c] w fun e w' =>
      ∃ A C g, e = .returned (.tuple #[.pointer (some ⟨g, 0, none⟩), .nilIface]) ∧ w.heap.size ≤ g ∧ Blk w' g 226 (dmh code d A C) ∧ DgAt A C b (o + mhO code d) d ∧ Below w.heap.size w w' := by
  have HC := Lib.hid (decode_ok code b o n c d w hx hd hn hnc hs hb)
  clear hx hs hn
  go_enter Tryz.func87, Tryz.ntmps87
  go_wp2_with fail
  refine HC.out.mono ?_
  rintro e w1 ⟨A, C, rfl, hdg, hB1⟩
  have HDG := Lib.hid hdg
  have HB := Lib.hid hB1
  clear hdg hB1
  go_wp2_with fail
  go_ret2
  exact ⟨A, C, w1.heap.size, rfl, HB.out.size, Blk.new _ _ _, HDG.out, HB.out.alloc HB.out.size _⟩
end Go.Proofs.YthmhnknkidkdlaaGreatDoor
