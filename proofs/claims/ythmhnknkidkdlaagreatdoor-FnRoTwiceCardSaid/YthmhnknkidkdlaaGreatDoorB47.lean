/-
  PROVED: for every input laws.FnRoTwice returns true, and its arguments read behind the call as they read before (the card: the listed package-level variables are tied to the program's text). No condition of its own.
  (No condition beyond those that each theorem states.)
-/
import Derived.Test.YthmhnknkidkdlaaGreatDoorCards
import Derived.Test.YthmhnknkidkdlaaGreatDoorTie
import Derived.Test.YthmhnknkidkdlaaGreatDoorB52
import Derived.Test.YthmhnknkidkdlaaGreatDoorB45
import Derived.Test.YthmhnknkidkdlaaGreatDoorB46
import Derived.Stop.LaidErr
import Derived.MakeChecks
import Derived.ChangeMaps5
import Derived.WideKeyArgs
import Derived.Carry
import Derived.ProofKit
import Derived.OpenShut
import Derived.ChangeSame
import Derived.Lib.SmallJoins
import Derived.Deep.DeepHandedRow
import Derived.Deep.DeepWitnessRowRef
namespace Go.Proofs.YthmhnknkidkdlaaGreatDoor.fnRoTwice
open Go.ChangeShapes Go.WideShapes Go.ChangeAt Go.RowKit Go.Joins

section
variable {H : Type} {enc : TypeId × Value → H} {P : Program}
theorem post_of_below {f : Func} {s : ChangeSpec} {apart fresh handsOn again : Bool} {W W' : World} {args : Array Value} {v : Value} {ds gs : List (DataW H)} {before pa pv : List MemPlace}
    (hW : DataW.Whole enc P f.params.toList s.vars apart W args.toList ds gs before)
    (hres : ∀ (b : Nat) (sp : Nat → Bool) (hd : Bool), DataW.TrodAll enc P W' b sp hd f.resultTypes.toList (v.resultList f.resultTypes.size) (s.fn H (ds ++ gs)).results [])
    (hargs : ∀ sp : Nat → Bool, (∀ p ∈ before, sp p.block = true) → DataW.TrodAll enc P W' 0 sp true f.params.toList args.toList (s.fn H (ds ++ gs)).args pa)
    (hvars : ∀ sp : Nat → Bool, (∀ p ∈ before, sp p.block = true) → DataW.TrodVars enc P W' sp s.vars (s.fn H (ds ++ gs)).vars pv)
    (hps : before = pa ++ pv) (hb : Below W.heap.size W W')
    (hok : ∀ (j : Nat) (t : TypeId) (r : Value), f.resultTypes[j]? = some t → (v.resultList f.resultTypes.size)[j]? = some r → Value.okWide P W' .any 0 t r) :
    s.post enc P f apart fresh handsOn again W args v W' := by
  have hlt : ∀ p ∈ before, p.block < W.heap.size := fun p hp => hW.lt p hp
  have hold : ∀ p ∈ before, (fun b => decide (b < W.heap.size)) p.block = true := fun p hp => by simpa using hlt p hp
  refine ⟨ds, gs, before, [], pa, pv, hW, hres _ _ _, hargs _ hold, hvars _ hold, World.keptBut_mono (fun p hp => ⟨hp, ?_⟩) (hb.frame (· ∈ before)), fun _ => ?_⟩
  · rw [hps, List.mem_append] at hp
    exact Or.inr hp
  · obtain ⟨_, _, _, _, _, hz, hn⟩ := hW
    refine ⟨hok, _, _, ([] ++ pa) ++ pv, ⟨[] ++ pa, pv, trodAll_append (hargs _ (fun _ _ => rfl)) (hres _ _ _), hvars _ (fun _ _ => rfl), rfl, ?_, ?_⟩, ?_⟩
    · intro b off hp
      have hin : MemPlace.cell b off ∈ before := by rw [hps]; simpa using hp
      rw [hb.frozen (hlt _ hin)]
      exact hz b off hin
    · intro ha
      have := hn ha
      rw [hps] at this
      simpa using this
    · intro p hp _
      rw [hps]
      simpa using hp
end

theorem own : ownKnob Tryz.prog.godebug = none := by kernel_rfl
theorem gEof : Tryz.prog.globalNamed "io.EOF" = some 1 := by kernel_rfl
theorem gEofType : (Tryz.prog.globals[1]?).map (·.type) = some 53 := by kernel_rfl
theorem rowErr (u : TypeId) (h : Tryz.prog.typeName? 3 u = some "*errors.errorString") : u = 152 :=
  typeName_ptr_named (nm := "errors.errorString") (by kernel_rfl) (by kernel_rfl) (by decide) u h
theorem cellsE : Tryz.prog.cellsOf 154 = 1 := by kernel_rfl
theorem cellsS : Tryz.prog.cellsOf 9 = 1 := by kernel_rfl
theorem gAlr : Tryz.prog.globalNamed "pub-droshky/pub/car.ErrAlreadyV1" = some 0 := by kernel_rfl
theorem gAlrType : (Tryz.prog.globals[0]?).map (·.type) = some 53 := by kernel_rfl
theorem eof_of_laid {W : World} (h : laidMetH Tryz.prog Rows.fnRoTwiceRow.laid W) : ∃ qe, EofA qe W := by
  rw [Go.MakeChecks.laidMetH_plain Tryz.prog Rows.fnRoTwiceRow.laid W (by kernel_rfl)] at h
  obtain ⟨a, s, hv, _⟩ := laid_sentinel (show laidMet Tryz.prog (("io.EOF", .iface "*errors.errorString" (.ptr (.agg [.lit (.string [69, 79, 70])]))) :: _) W from laidMet.tail (laidMet.tail (show laidMet Tryz.prog (_ :: _) W from h))) gEof gEofType Tryz.underlying53 rowErr Tryz.underlying152 Tryz.underlying154 rfl rfl Tryz.underlying9 cellsE cellsS
  exact ⟨a, by simpa [EofA] using World.var?_cell gEof hv 0⟩
theorem alr_of_laid {W : World} (h : laidMetH Tryz.prog Rows.fnRoTwiceRow.laid W) : Alr W := by
  rw [Go.MakeChecks.laidMetH_plain Tryz.prog Rows.fnRoTwiceRow.laid W (by kernel_rfl)] at h
  obtain ⟨a, s, hv, _⟩ := laid_sentinel (show laidMet Tryz.prog (("pub-droshky/pub/car.ErrAlreadyV1", .iface "*errors.errorString" (.ptr (.agg [.lit (.string [97, 108, 114, 101, 97, 100, 121, 32, 97, 32, 67, 65, 82, 118, 49])]))) :: _) W from laidMet.tail (laidMet.tail (laidMet.tail (laidMet.tail (laidMet.tail (laidMet.tail (laidMet.tail (laidMet.tail (laidMet.tail (laidMet.tail (laidMet.tail (laidMet.tail (laidMet.tail (laidMet.tail (laidMet.tail (laidMet.tail (laidMet.tail (laidMet.tail (laidMet.tail (laidMet.tail (show laidMet Tryz.prog (_ :: _) W from h))))))))))))))))))))) gAlr gAlrType Tryz.underlying53 rowErr Tryz.underlying152 Tryz.underlying154 rfl rfl Tryz.underlying9 cellsE cellsS
  exact ⟨a, by simpa using World.var?_cell gAlr hv 0⟩

/-- A world in which the listed variables hold what they list: for the witness. -/
noncomputable def laidWorld (os : Os) : World :=
  let N := (World.settled Tryz.prog os).heap.size
  let w0 := World.holding Tryz.prog os ⟨#[.cells #[.string ⟨#[115, 104, 111, 114, 116, 32, 119, 114, 105, 116, 101]⟩] 154,
    .cells #[.string ⟨#[115, 104, 111, 114, 116, 32, 98, 117, 102, 102, 101, 114]⟩] 154,
    .cells #[.string ⟨#[69, 79, 70]⟩] 154,
    .cells #[.string ⟨#[117, 110, 101, 120, 112, 101, 99, 116, 101, 100, 32, 69, 79, 70]⟩] 154,
    .cells #[.string ⟨#[99, 98, 111, 114, 58, 32, 105, 110, 100, 101, 102, 105, 110, 105, 116, 101, 45, 108, 101, 110, 103, 116, 104, 32, 101, 110, 99, 111, 100, 105, 110, 103, 32, 114, 101, 106, 101, 99, 116, 101, 100]⟩] 154,
    .cells #[.string ⟨#[99, 98, 111, 114, 58, 32, 105, 110, 100, 101, 102, 105, 110, 105, 116, 101, 45, 108, 101, 110, 103, 116, 104, 32, 115, 116, 114, 105, 110, 103, 47, 98, 121, 116, 101, 115, 32, 116, 111, 116, 97, 108, 32, 115, 105, 122, 101, 32, 101, 120, 99, 101, 101, 100, 115, 32, 108, 105, 109, 105, 116]⟩] 154,
    .cells #[.string ⟨#[99, 98, 111, 114, 58, 32, 105, 110, 116, 101, 103, 101, 114, 32, 110, 111, 116, 32, 109, 105, 110, 105, 109, 97, 108, 108, 121, 32, 101, 110, 99, 111, 100, 101, 100]⟩] 154,
    .cells #[.string ⟨#[99, 98, 111, 114, 58, 32, 78, 97, 78, 32, 102, 108, 111, 97, 116, 32, 118, 97, 108, 117, 101, 32, 114, 101, 106, 101, 99, 116, 101, 100]⟩] 154,
    .cells #[.string ⟨#[99, 98, 111, 114, 58, 32, 105, 110, 102, 105, 110, 105, 116, 101, 32, 102, 108, 111, 97, 116, 32, 118, 97, 108, 117, 101, 32, 114, 101, 106, 101, 99, 116, 101, 100]⟩] 154,
    .cells #[.string ⟨#[99, 98, 111, 114, 58, 32, 102, 108, 111, 97, 116, 32, 110, 97, 114, 114, 111, 119, 101, 114, 32, 116, 104, 97, 110, 32, 54, 52, 32, 98, 105, 116, 115, 32, 114, 101, 106, 101, 99, 116, 101, 100]⟩] 154,
    .cells #[.string ⟨#[118, 97, 114, 105, 110, 116, 115, 32, 108, 97, 114, 103, 101, 114, 32, 116, 104, 97, 110, 32, 117, 105, 110, 116, 54, 51, 32, 110, 111, 116, 32, 115, 117, 112, 112, 111, 114, 116, 101, 100]⟩] 154,
    .cells #[.string ⟨#[118, 97, 114, 105, 110, 116, 115, 32, 109, 97, 108, 102, 111, 114, 109, 101, 100, 44, 32, 99, 111, 117, 108, 100, 32, 110, 111, 116, 32, 114, 101, 97, 99, 104, 32, 116, 104, 101, 32, 101, 110, 100]⟩] 154,
    .cells #[.string ⟨#[118, 97, 114, 105, 110, 116, 32, 110, 111, 116, 32, 109, 105, 110, 105, 109, 97, 108, 108, 121, 32, 101, 110, 99, 111, 100, 101, 100]⟩] 154,
    .cells #[.string ⟨#[109, 117, 108, 116, 105, 104, 97, 115, 104, 32, 116, 111, 111, 32, 115, 104, 111, 114, 116, 46, 32, 109, 117, 115, 116, 32, 98, 101, 32, 62, 61, 32, 50, 32, 98, 121, 116, 101, 115]⟩] 154,
    .cells #[.string ⟨#[117, 118, 97, 114, 105, 110, 116, 58, 32, 98, 117, 102, 102, 101, 114, 32, 116, 111, 111, 32, 115, 109, 97, 108, 108]⟩] 154,
    .cells #[.string ⟨#[117, 118, 97, 114, 105, 110, 116, 58, 32, 118, 97, 114, 105, 110, 116, 32, 116, 111, 111, 32, 98, 105, 103, 32, 40, 109, 97, 120, 32, 54, 52, 98, 105, 116, 41]⟩] 154,
    .cells #[.string ⟨#[105, 110, 118, 97, 108, 105, 100, 32, 115, 101, 99, 116, 105, 111, 110, 32, 100, 97, 116, 97, 44, 32, 108, 101, 110, 103, 116, 104, 32, 111, 102, 32, 114, 101, 97, 100, 32, 98, 101, 121, 111, 110, 100, 32, 97, 108, 108, 111, 119, 97, 98, 108, 101, 32, 109, 97, 120, 105, 109, 117, 109]⟩] 154,
    .cells #[.string ⟨#[105, 110, 118, 97, 108, 105, 100, 32, 104, 101, 97, 100, 101, 114, 32, 100, 97, 116, 97, 44, 32, 108, 101, 110, 103, 116, 104, 32, 111, 102, 32, 114, 101, 97, 100, 32, 98, 101, 121, 111, 110, 100, 32, 97, 108, 108, 111, 119, 97, 98, 108, 101, 32, 109, 97, 120, 105, 109, 117, 109]⟩] 154,
    .cells #[.string ⟨#[105, 110, 118, 97, 108, 105, 100, 32, 104, 101, 97, 100, 101, 114]⟩] 154,
    .cells #[.string ⟨#[97, 108, 114, 101, 97, 100, 121, 32, 97, 32, 67, 65, 82, 118, 49]⟩] 154], #[], []⟩
  let put (h : Array Obj) (g : Nat) (cs : Array Value) : Array Obj := h.modify g fun
    | .cells _ t frozen => .cells cs t frozen
    | o => o
  { w0 with heap := (put (put (put (put (put (put (put (put (put (put (put (put (put (put (put (put (put (put (put (put w0.heap 3 #[.iface 152 (.pointer (some ⟨N + 0, 0, none⟩))]) 12 #[.iface 152 (.pointer (some ⟨N + 1, 0, none⟩))]) 1 #[.iface 152 (.pointer (some ⟨N + 2, 0, none⟩))]) 6 #[.iface 152 (.pointer (some ⟨N + 3, 0, none⟩))]) 17 #[.iface 152 (.pointer (some ⟨N + 4, 0, none⟩))]) 23 #[.iface 152 (.pointer (some ⟨N + 5, 0, none⟩))]) 21 #[.iface 152 (.pointer (some ⟨N + 6, 0, none⟩))]) 19 #[.iface 152 (.pointer (some ⟨N + 7, 0, none⟩))]) 20 #[.iface 152 (.pointer (some ⟨N + 8, 0, none⟩))]) 16 #[.iface 152 (.pointer (some ⟨N + 9, 0, none⟩))]) 7 #[.iface 152 (.pointer (some ⟨N + 10, 0, none⟩))]) 11 #[.iface 152 (.pointer (some ⟨N + 11, 0, none⟩))]) 8 #[.iface 152 (.pointer (some ⟨N + 12, 0, none⟩))]) 13 #[.iface 152 (.pointer (some ⟨N + 13, 0, none⟩))]) 14 #[.iface 152 (.pointer (some ⟨N + 14, 0, none⟩))]) 15 #[.iface 152 (.pointer (some ⟨N + 15, 0, none⟩))]) 4 #[.iface 152 (.pointer (some ⟨N + 16, 0, none⟩))]) 5 #[.iface 152 (.pointer (some ⟨N + 17, 0, none⟩))]) 10 #[.iface 152 (.pointer (some ⟨N + 18, 0, none⟩))]) 0 #[.iface 152 (.pointer (some ⟨N + 19, 0, none⟩))]) }

abbrev zeroArgs : Array Value := #[.agg #[.slice none 0 0, .slice none 0 0], .slice none 0 0]
theorem laid_met (os : Os) : laidMet Tryz.prog Rows.fnRoTwiceRow.laid ((laidWorld os).forCall (fun _ _ => 0) ⟨#[], zeroArgs, []⟩).memory :=
  laidMet_of_run' 8 (by kernel_rfl) (by kernel_rfl)
theorem reads (os : Os) {H : Type} (enc : TypeId × Value → H) : ∃ places, DataW.whole enc Tryz.prog ((laidWorld os).forCall (fun _ _ => 0) ⟨#[], zeroArgs, []⟩).memory Tryz.f3.params.toList Rows.fnRoTwiceSpec.vars false zeroArgs.toList 8 = some ([.agg [.nil, .nil], .nil], [], places) :=
  ⟨[], by kernel_rfl⟩

theorem stays {H : Type} {enc : TypeId × Value → H} {t : TypeId} (hr : Tryz.prog.readableRec t = true) (hrow : t < Tryz.prog.types.size) {W W' : World} {sp : Nat → Bool} {v : Value} {d : DataW H} {ps before : List MemPlace} (h : DataW.Trod enc Tryz.prog W 0 (fun _ => true) true t v d ps) (hb : Below W.heap.size W W') (hlt : ∀ x ∈ before, x.block < W.heap.size) (hin : ∀ x ∈ ps, x ∈ before) (hs : ∀ x ∈ before, sp x.block = true) :
    DataW.Trod enc Tryz.prog W' 0 sp true t v d ps :=
  WideElems.Trod_stays (by kernel_rfl) hr hrow h (fun x hx => hb.same (hlt x (hin x hx))) (fun x hx => hs x (hin x hx))

set_option maxRecDepth 100000 in
set_option maxHeartbeats 2000000 in
theorem contract (H : Type) (enc : TypeId × Value → H) (W : World) (base : Nat) (args : Array Value) (ds gs : List (DataW H)) (before : List MemPlace)
    (hval : ∀ (j : Nat) t v, Tryz.f3.params[j]? = some t → args[j]? = some v → Value.okWide Tryz.prog W .any base t v)
    (hW : DataW.Whole enc Tryz.prog Tryz.f3.params.toList Rows.fnRoTwiceSpec.vars false W args.toList ds gs before) (qe : Addr) (hE : EofA qe W) (hAl : Alr W) :
    Calls Tryz.prog 3 args W fun e W' => ∃ v, e = .returned v ∧ Rows.fnRoTwiceSpec.post enc Tryz.prog Tryz.f3 false true false false W args v W' := by
  have hW' := hW
  obtain ⟨p, q, hA0, hV, rfl, _, _⟩ := hW
  have hA : DataW.TrodAll enc Tryz.prog W 0 (fun _ => true) true Tryz.f3.params.toList args.toList ds p := hA0
  rw [Tryz.params3] at hA hval
  obtain ⟨largs⟩ := args
  obtain ⟨v0, l1, d0, s1, p0, q0, e1, rfl, rfl, t0, hA1⟩ := trodAll_cons hA
  obtain ⟨v1, l2, d1, s2, p1, q1, rfl, rfl, rfl, t1, hA2⟩ := trodAll_cons hA1
  obtain ⟨rfl, rfl, rfl⟩ := trodAll_nil hA2
  have e1' : largs = [v0, v1] := e1
  subst e1'
  obtain ⟨rfl, rfl⟩ := trodVars_none hV
  obtain ⟨cs, rfl, hcsz⟩ := okWide_struct Tryz.underlying25 (hval 0 25 v0 rfl rfl)
  obtain ⟨fu0, hf0⟩ := id t0
  obtain ⟨rs, bs, A, B, ib, io, n, c, jb, jo, m, c2, hcs1, hn, hm, hat, hbt, hr0, hb0⟩ := open_car hf0
  have hcse : cs = #[.slice A n c, .slice B m c2] := by
    apply Array.toList_inj.1
    simpa [Value.cells] using hcs1
  subst hcse
  obtain ⟨A1, n1, c1, rfl⟩ := okWide_slice Tryz.underlying26 (hval 1 26 v1 rfl rfl)
  obtain ⟨fu1, hf1⟩ := id t1
  obtain ⟨ks, K, kb, ko, q, c3, hks, hq, hkt⟩ := open_bools hf1
  simp [Value.cells] at hks
  obtain ⟨rfl, rfl, rfl⟩ := hks
  have hlt := hW'.lt
  refine (twice_true rs bs ks A B A1 ib io jb jo kb ko c c2 c1 n m n1 W hn hm hq hat hbt hkt hr0 hb0 qe hE hAl).mono fun r W' ⟨hr, ho⟩ => ?_
  subst hr
  have hb : Below W.heap.size W W' := ho.below (fun x hx => by simp at hx)
  refine ⟨_, rfl, post_of_below (pa := p0 ++ (p1 ++ [])) (pv := []) hW' (fun _ _ _ => trodAll_mk1 (shut_bool Tryz.underlying4 _)) (fun sp hsp => ?_) (fun _ _ => rfl) rfl hb (ok_one (by kernel_rfl) rfl (okWide_bool_mk Tryz.underlying4 _))⟩
  rw [Tryz.params3]
  exact trodAll_cons_mk (stays (by kernel_rfl) (of_decide_eq_true (by kernel_rfl)) t0 hb hlt (fun x hx => by simp [hx]) hsp) (trodAll_cons_mk (stays (by kernel_rfl) (of_decide_eq_true (by kernel_rfl)) t1 hb hlt (fun x hx => by simp [hx]) hsp) rfl)

set_option maxRecDepth 100000 in
theorem lifted (os : Os) (started : os.Started) (H : Type) (enc : TypeId × Value → H) (F : Stop.Interp) :
    ReturnsInHanded {} Tryz.checked os 3 .any ((OpenSpec.ofChange Rows.fnRoTwiceSpec).preRow enc Tryz.prog Tryz.f3 Rows.fnRoTwiceRow.domain false Rows.fnRoTwiceRow.laid) (((OpenSpec.ofChange Rows.fnRoTwiceSpec).at F).post enc Tryz.prog Tryz.f3 false true false false) := by
  obtain ⟨places, hx⟩ := reads os enc
  refine returnsInHanded_of_row (C := Tryz.checked) (s := OpenSpec.ofChange Rows.fnRoTwiceSpec) own started (by kernel_rfl) Tryz.func3
    (witness_row_atRef (enc := enc) (C := Tryz.checked) false (laidWorld os) zeroArgs rfl (by kernel_rfl) (by kernel_rfl) (by kernel_rfl)
      (OpenSpec.preRow_of_cond 8 hx (by kernel_rfl) (fun k hk => by cases hk) (by kernel_rfl) (laid_met os))) ?_
  intro W base args ds gs before hval hW _ _ _ hL _ _
  obtain ⟨qe, hE⟩ := eof_of_laid hL
  exact contract H enc W base args ds gs before hval hW qe hE (alr_of_laid hL)

theorem said : Rows.FnRoTwiceSaid :=
  OpenClaim.holds_of_cond 3 Tryz.f3 rfl rfl rfl rfl rfl rfl rfl ⟨rfl, rfl, rfl, rfl, rfl⟩ rfl rfl rfl rfl rfl (by kernel_rfl) Tryz.func3 closed
    (of_decide_eq_true (by kernel_rfl)) (by unfold Func.isWrapper; first | (rw [if_pos (by decide +kernel)]; kernel_rfl) | (rw [if_neg (by decide +kernel)]; exact ⟨rfl, rfl⟩))
    (fun os started H enc _ F => by rw [OpenClaim.pre_eq_preRow]; exact lifted os started H enc F)

theorem plain (f : FuncId) (fn : Func) (hf : Tryz.pinned.checked.prog.funcNamed "pub-droshky/laws.FnRoTwice" = some f) (hfn : Tryz.pinned.checked.prog.funcs[f]? = some fn) :
    true = Tryz.pinned.checked.prog.looks [] ∧ ∀ (j : Nat) t, fn.params[j]? = some t → Tryz.pinned.checked.prog.wantsStandIn t = false := by
  obtain rfl : f = 3 := Option.some.inj ((show Tryz.prog.funcNamed "pub-droshky/laws.FnRoTwice" = some 3 by kernel_rfl).symm.trans hf) |>.symm
  obtain rfl : fn = Tryz.f3 := (Option.some.inj (Tryz.func3.symm.trans hfn)).symm
  refine ⟨by kernel_rfl, fun j t ht => ?_⟩
  rw [Tryz.params3] at ht
  have hm := Array.mem_of_getElem? ht
  simp at hm
  rcases hm with rfl | rfl
  · exact (show Tryz.prog.wantsStandIn 25 = false by kernel_rfl)
  · exact (show Tryz.prog.wantsStandIn 26 = false by kernel_rfl)

theorem card : Rows.FnRoTwiceCardSaid :=
  Claim7.holds_tied_plain_at .later [] _ _ _ _ said (fun _ h => by cases h) (by kernel_rfl) (fun _ h => by cases h) fnRoTwice_row_tie rfl ⟨rfl, rfl⟩ (by kernel_rfl) rfl plain (by kernel_rfl)

#print axioms card
end Go.Proofs.YthmhnknkidkdlaaGreatDoor.fnRoTwice
