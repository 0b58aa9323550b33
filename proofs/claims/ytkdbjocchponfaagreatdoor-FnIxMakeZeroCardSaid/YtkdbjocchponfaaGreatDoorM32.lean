/-
  stable_func over a row of the caller's: a sorted permutation.
  stable_func at no element or one: nothing is asked of less or of swap.
  sort.SliceStable over a row of entries with spec.ByDigest's closure: a sorted permutation, at every length.
  spec.ByDigest: the entries, sorted by digests, then by offsets; a row of its own.
  spec.Varint at the index codes.
  (No condition beyond those that each theorem states.)
-/
import Derived.Test.YtkdbjocchponfaaGreatDoorM51
import Derived.Test.YtkdbjocchponfaaGreatDoorM08
import Derived.Test.YtkdbjocchponfaaGreatDoorM06
import Derived.Lib.Varint
namespace Go.Proofs.YtkdbjocchponfaaGreatDoor
open Go.RowKit Go.Sort Go.Lib

section
variable {α : Type} [Inhabited α] {g gs : Nat} {lb sb : Array Value} {lt : α → α → Bool} {N B : Nat} {At : Array α → World → Prop}
theorem insF_use (S : SrtF g lb gs sb lt N B At) (hS : SWO lt) {w wr : World} (hB : B ≤ w.heap.size) (a b : Nat) (d : Array α) (hA : HasF g gs lb sb B At w d wr) (hab : a ≤ b) (hb : b ≤ N) (hN : N < 1152921504606846976) :
    Calls Tryz.prog 115 #[.agg #[.func (.func g) #[] lb, .func (.func gs) #[] sb], .int .i64 a, .int .i64 b] wr fun e w' => e = .returned (.tuple #[]) ∧ Hid (∃ d', HasF g gs lb sb B At w d' w' ∧ PermIn a b d d' ∧ SortedIn lt a b d') :=
  (insF S a b d wr hA.1 hab hb (by omega)).mono (by
    rintro e w' ⟨rfl, h1, h2⟩
    obtain ⟨h3, h4⟩ := insertionSort_holds hS d a b hab (by rw [S.size hA.1]; exact hb)
    exact ⟨rfl, Lib.hid ⟨_, ⟨h1, h2.blk hA.2.1 hB, hA.2.2.trans h2⟩, h3, h4⟩⟩)

set_option maxHeartbeats 4000000 in
set_option maxRecDepth 100000 in
theorem stableF (S : SrtF g lb gs sb lt N B At) (hS : SWO lt) (hN : N < 1152921504606846976) (d : Array α) (w : World) (hA : At d w) :
    Calls Tryz.prog 103 #[.agg #[.func (.func g) #[] lb, .func (.func gs) #[] sb], .int .i64 N] w fun e w' => e = .returned (.tuple #[]) ∧ ∃ d', At d' w' ∧ PermIn 0 N d d' ∧ SortedIn lt 0 N d' ∧ KeepG B w w' := by
  have HBw := Lib.hid (S.room hA)
  have HDS := Lib.hid (S.size hA)
  have HF0 := Lib.hid (HasF.start S hA)
  clear hA
  go_enter Tryz.func103, Tryz.ntmps103
  go_wp2_with fail
  go_loopg [5, 6] (N + 20) (fun kx s5 s6 wr => ∃ a : Nat, s5 = .int .i64 (a : Int) ∧ s6 = .int .i64 ((a : Int) + 20) ∧ a ≤ N ∧ N + 20 - a ≤ kx ∧ Hid (20 ∣ a) ∧ Hid (∃ d1, HasF g gs lb sb B At w d1 wr ∧ PermIn 0 N d d1 ∧ Runs lt 20 N 0 a d1))
  case atStart => exact ⟨0, rfl, rfl, Nat.zero_le _, by omega, Lib.hid (Nat.dvd_zero _), Lib.hid ⟨d, HF0.out, permIn_refl _ _ _, runs_none _ _ _ _⟩⟩
  case round =>
    rename World => wr
    obtain ⟨a, rfl, rfl, haN, hkx, hdv, hh⟩ := hrel
    obtain ⟨d1, hf1, hp1, hr1⟩ := hh.out
    have hz1 : d1.size = N := by rw [hp1.1]; exact HDS.out
    have HF1 := Lib.hid hf1
    have HP1 := Lib.hid hp1
    have HR1 := Lib.hid hr1
    have HZ1 := Lib.hid hz1
    clear hh hf1 hp1 hr1 hz1 HF0
    have c0 := HF1.out.c0
    have c1 := HF1.out.c1
    by_cases hlt : a + 20 ≤ N
    · have hz : (a : Int) + 20 ≤ (N : Int) := by omega
      have hi := insF_use S hS HBw.out a (a + 20) d1 HF1.out (by omega) hlt hN
      rw [show ((a + 20 : Nat) : Int) = (a : Int) + 20 by omega] at hi
      have HI := Lib.hid hi
      clear hi
      go_wp2_with (go_at_call 115; refine HI.out.mono ?_; rintro r w5 ⟨rfl, hh5⟩)
      go_roundg (N - a)
      case measure => omega
      case rel =>
        obtain ⟨d2, hf2, hp2, hs2⟩ := hh5.out
        have hzz := HZ1.out
        exact ⟨a + 20, by go_num, by go_num, hlt, by omega, Lib.hid (Nat.dvd_add hdv.out (Nat.dvd_refl 20)), Lib.hid ⟨d2, hf2, permIn_trans _ _ _ _ _ HP1.out (permIn_mono _ _ _ _ _ _ (Nat.zero_le _) hlt (by omega) hp2), runs_ins hdv.out (by omega) HR1.out hp2 hs2⟩⟩
    · have hz : ¬ ((a : Int) + 20 ≤ (N : Int)) := by omega
      have HI := Lib.hid (insF_use S hS HBw.out a N d1 HF1.out haN (Nat.le_refl _) hN)
      have HLT := Lib.hid hlt
      clear hlt hkx
      go_wp2_with (go_at_call 115; refine HI.out.mono ?_; rintro r w5 ⟨rfl, hh5⟩)
      have HST : Hid (∃ d2, HasF g gs lb sb B At w d2 w5 ∧ PermIn 0 N d d2 ∧ Runs lt 20 N 0 N d2) := Lib.hid (by
        obtain ⟨d2, hf2, hp2, hs2⟩ := hh5.out
        have hzz := HZ1.out
        have hl := HLT.out
        exact ⟨d2, hf2, permIn_trans _ _ _ _ _ HP1.out (permIn_mono _ _ _ _ _ _ (Nat.zero_le _) (Nat.le_refl _) (by omega) hp2), runs_to (runs_ins hdv.out (by omega) HR1.out hp2 hs2) (by omega)⟩)
      clear hh5 HI HF1 HP1 HR1 HZ1 HLT hdv c0 c1 hz
      go_loopg [4] N (fun kx s4 wr => ∃ k : Nat, s4 = .int .i64 (k : Int) ∧ 0 < k ∧ k ≤ 2 * N + 20 ∧ N - k ≤ kx ∧ Hid (∃ d1, HasF g gs lb sb B At w d1 wr ∧ PermIn 0 N d d1 ∧ Runs lt k N 0 N d1))
      case atStart => exact ⟨20, rfl, by omega, by omega, by omega, HST⟩
      case round =>
        rename World => wq
        obtain ⟨k, rfl, hk0, hkN, hkx, hh⟩ := hrel
        clear HST
        by_cases hlt : k < N
        · have hzk : (k : Int) < (N : Int) := by omega
          clear hkN
          go_wp2_with fail
          go_loopg [5, 6] (N + 2 * k) (fun kx s5 s6 wr => ∃ a : Nat, s5 = .int .i64 (a : Int) ∧ s6 = .int .i64 ((a : Int) + 2 * (k : Int)) ∧ a ≤ N ∧ N + 2 * k - a ≤ kx ∧ Hid (2 * k ∣ a) ∧ Hid (∃ d1, HasF g gs lb sb B At w d1 wr ∧ PermIn 0 N d d1 ∧ Runs lt (2 * k) N 0 a d1 ∧ Runs lt k N a N d1))
          case atStart =>
            obtain ⟨d1, hf1, hp1, hr1⟩ := hh.out
            exact ⟨0, rfl, by go_num, Nat.zero_le _, by omega, Lib.hid (Nat.dvd_zero _), Lib.hid ⟨d1, hf1, hp1, runs_none _ _ _ _, hr1⟩⟩
          case round =>
            rename World => wp
            clear hh
            obtain ⟨a, rfl, rfl, haN, hkx2, hdv, hh⟩ := hrel
            obtain ⟨d1, hf1, hp1, hr1, hr2⟩ := hh.out
            have hz1 : d1.size = N := by rw [hp1.1]; exact HDS.out
            have HF1 := Lib.hid hf1
            have HP1 := Lib.hid hp1
            have HR1 := Lib.hid (And.intro hr1 hr2)
            have HZ1 := Lib.hid hz1
            clear hh hf1 hp1 hr1 hr2 hz1
            have c0 := HF1.out.c0
            have c1 := HF1.out.c1
            by_cases hle : a + 2 * k ≤ N
            · have hz : (a : Int) + 2 * (k : Int) ≤ (N : Int) := by omega
              have hrr := (symMerge_all S hS hN (a + 2 * k - a)).use S HBw.out a (a + k) (a + 2 * k) d1 (Nat.le_refl _) HF1.out (by omega) (by omega) hle (runs_halves hdv.out HR1.out.2 (by omega)).1 (by have h := (runs_halves hdv.out HR1.out.2 (by omega)).2; rwa [show min (a + 2 * k) N = a + 2 * k by omega] at h)
              rw [show ((a + k : Nat) : Int) = (a : Int) + (k : Int) by omega, show ((a + 2 * k : Nat) : Int) = (a : Int) + 2 * (k : Int) by omega] at hrr
              have HRR := Lib.hid hrr
              clear hrr
              go_wp2_with (go_at_call 136; refine HRR.out.mono ?_; rintro r w6 ⟨rfl, hh6⟩)
              go_roundg (N - a)
              case measure => omega
              case rel =>
                obtain ⟨d2, hf2, hp2, hs2⟩ := hh6.out
                have hzz := HZ1.out
                obtain ⟨n1, n2⟩ := runs_merge hdv.out (show a + 2 * k = min (a + 2 * k) N by omega) HR1.out.1 HR1.out.2 hp2 hs2
                exact ⟨a + 2 * k, by go_num, by go_num, hle, by omega, Lib.hid (Nat.dvd_add hdv.out (Nat.dvd_refl _)), Lib.hid ⟨d2, hf2, permIn_trans _ _ _ _ _ HP1.out (permIn_mono _ _ _ _ _ _ (Nat.zero_le _) hle (by omega) hp2), n1, n2⟩⟩
            · have hz : ¬ ((a : Int) + 2 * (k : Int) ≤ (N : Int)) := by omega
              by_cases hm : a + k < N
              · have hzm : (a : Int) + (k : Int) < (N : Int) := by omega
                have hrr := (symMerge_all S hS hN (N - a)).use S HBw.out a (a + k) N d1 (Nat.le_refl _) HF1.out (by omega) (by omega) (Nat.le_refl _) (runs_halves hdv.out HR1.out.2 hm).1 (by have h := (runs_halves hdv.out HR1.out.2 hm).2; rwa [show min (a + 2 * k) N = N by omega] at h)
                rw [show ((a + k : Nat) : Int) = (a : Int) + (k : Int) by omega] at hrr
                have HRR := Lib.hid hrr
                clear hrr
                go_wp2_with (go_at_call 136; refine HRR.out.mono ?_; rintro r w6 ⟨rfl, hh6⟩)
                go_roundg (N - 2 * k)
                case measure => omega
                case rel =>
                  obtain ⟨d2, hf2, hp2, hs2⟩ := hh6.out
                  have hzz := HZ1.out
                  obtain ⟨n1, n2⟩ := runs_merge hdv.out (show N = min (a + 2 * k) N by omega) HR1.out.1 HR1.out.2 hp2 hs2
                  exact ⟨2 * k, by go_num, by omega, by omega, by omega, Lib.hid ⟨d2, hf2, permIn_trans _ _ _ _ _ HP1.out (permIn_mono _ _ _ _ _ _ (Nat.zero_le _) (Nat.le_refl _) (by omega) hp2), runs_to n1 (by omega)⟩⟩
              · have hzm : ¬ ((a : Int) + (k : Int) < (N : Int)) := by omega
                go_wp2_with fail
                go_roundg (N - 2 * k)
                case measure => omega
                case rel =>
                  exact ⟨2 * k, by go_num, by omega, by omega, by omega, Lib.hid ⟨d1, HF1.out, HP1.out, runs_rest hdv.out HR1.out.1 HR1.out.2 (by omega)⟩⟩
        · have hzk : ¬ ((k : Int) < (N : Int)) := by omega
          go_wp2_with fail
          go_end0
          obtain ⟨d1, hf1, hp1, hr1⟩ := hh.out
          exact ⟨rfl, d1, hf1.1, hp1, runs_all hr1 (by omega), hf1.2.2⟩
end
end Go.Proofs.YtkdbjocchponfaaGreatDoor
namespace Go.Proofs.YtkdbjocchponfaaGreatDoor
open Go.RowKit Go.Sort Go.Lib

set_option maxHeartbeats 2000000 in
set_option maxRecDepth 100000 in
theorem insTiny (lf : Fn) (la lb : Array Value) (f : Nat) (sb : Array Value) (n : Nat) (hn : n ≤ 1) (w : World) :
    Calls Tryz.prog 115 #[.agg #[.func lf la lb, .func (.func f) #[] sb], .int .i64 0, .int .i64 n] w fun e w' => e = .returned (.tuple #[]) ∧ w' = w.alloc (.cells #[.func lf la lb, .func (.func f) #[] sb] 206) := by
  go_enter Tryz.func115, Tryz.ntmps115
  go_wp2
  refine wp_loop_rounds 1 ?_
  rw [rounds_succ]
  have hz : ¬ ((1 : Int) < (n : Int)) := by omega
  go_wp2
  go_end0
  exact ⟨rfl, rfl⟩

set_option maxHeartbeats 2000000 in
set_option maxRecDepth 100000 in
theorem stableTiny (lf : Fn) (la lb : Array Value) (f : Nat) (sb : Array Value) (n : Nat) (hn : n ≤ 1) (w : World) :
    Calls Tryz.prog 103 #[.agg #[.func lf la lb, .func (.func f) #[] sb], .int .i64 n] w fun e w' => e = .returned (.tuple #[]) ∧ Off [] w w' := by
  have hi := insTiny lf la lb f sb n hn
  have hz : ¬ ((20 : Int) ≤ (n : Int)) := by omega
  have hz2 : ¬ ((20 : Int) < (n : Int)) := by omega
  go_enter Tryz.func103, Tryz.ntmps103
  go_wp2
  refine wp_loop_rounds 1 ?_
  rw [rounds_succ]
  go_wp2_with (go_at_call 115; refine (hi _).mono ?_; rintro e w1 ⟨rfl, rfl⟩)
  refine wp_loop_rounds 1 ?_
  rw [rounds_succ]
  go_wp2
  go_end0
  exact ⟨rfl, ((Off.refl [] w).alloc _).alloc _⟩
end Go.Proofs.YtkdbjocchponfaaGreatDoor
namespace Go.Proofs.YtkdbjocchponfaaGreatDoor
open Go.RowKit Go.Sort Go.Lib

noncomputable def eT : TypeInfo := (Tryz.prog.info? 27).get (by kernel_rfl)
noncomputable def eE : TypeInfo := (Tryz.prog.info? 49).get (by kernel_rfl)
theorem eK (n : Nat) (h2 : 2 ≤ n) : Lib.swapperK n eE 25 = 9 := by
  have a : eE.hasPointers = true := by kernel_rfl
  have b : eE.bytes = 48 := by kernel_rfl
  unfold Lib.swapperK
  rw [a, b]
  have h0 : (n == 0) = false := beq_eq_false_iff_ne.2 (by omega)
  have h1 : (n == 1) = false := beq_eq_false_iff_ne.2 (by omega)
  simp [h0, h1]

/-- The world in which stable_func is called: two new blocks. -/
noncomputable def stabW (p : Option Addr) (n c : Nat) (w : World) : World :=
  (w.alloc (.cells #[.slice p n c] 27)).alloc (.cells #[.pointer (some ⟨Tryz.prog.globals.size, 27, none⟩), .pointer (some ⟨w.heap.size, 0, none⟩), .int .u64 151] 198)

set_option maxHeartbeats 2000000 in
set_option maxRecDepth 100000 in
theorem sliceStable_of (p : Option Addr) (n c f : Nat) (hf : Tryz.prog.funcs.findIdx? (·.name == "internal/reflectlite" ++ ".Swapper$" ++ toString (swapperK n eE 25)) = some f) (lf : Fn) (la lb : Array Value) (w : World) (R : World → Prop)
    (hp : Calls Tryz.prog 103 #[.agg #[.func lf la lb, .func (.func f) #[] (if swapperK n eE 25 ≤ 2 then #[] else #[.slice p n c, typeHandle Tryz.prog 49])], .int .i64 n] (stabW p n c w) fun e w' => e = .returned (.tuple #[]) ∧ R w') :
    Calls Tryz.prog 88 #[.iface 27 (.slice p n c), .func lf la lb] w fun e w' => e = .returned (.tuple #[]) ∧ R w' := by
  have hi : Tryz.prog.info? 27 = some eT := by kernel_rfl
  have hd : eT.desc = .slice 49 := by kernel_rfl
  have hpk : Tryz.prog.packed 27 = false := by kernel_rfl
  have hie : Tryz.prog.info? 49 = some eE := by kernel_rfl
  have hv := run_valueOf_slice (P := Tryz.prog) 27 49 eT hi hd p n c w
  have hs := fun w => run_swapper_slice (P := Tryz.prog) 27 49 eT eE hi hd hie 25 (fun _ => by kernel_rfl) p n c f hf w
  have hl := fun a w ha => run_valueLen_slice (P := Tryz.prog) 27 49 eT hi hd hpk a p n c w ha
  unfold stabW at hp
  generalize (if swapperK n eE 25 ≤ 2 then (#[] : Array Value) else #[.slice p n c, typeHandle Tryz.prog 49]) = B at hs hp
  simp only [typeHandle] at hv hl
  obtain ⟨gz, hgz⟩ : ∃ gz, Tryz.prog.globals.size = gz := ⟨_, rfl⟩
  rw [hgz] at hv hl hp
  clear hi hd hpk hie hf hgz
  go_enter Tryz.func88, Tryz.ntmps88
  go_wp2
  rw [run_callFunc_extern Tryz.func90 (by kernel_rfl) (by kernel_rfl) (by kernel_rfl) (e := fun args => Extern.ReflectliteValue.unpack (args.getD 0 (.tuple #[]))) (by kernel_rfl),
    show Sem.run Tryz.prog ((fun args : Array Value => Extern.ReflectliteValue.unpack (args.getD 0 (.tuple #[]))) #[.iface 27 (.slice p n c)]) w = _ from hv]
  simp only [Result.andThen]
  rw [Oper.upon_value]
  go_wp2
  rw [run_callFunc_extern Tryz.func91 (by kernel_rfl) (by kernel_rfl) (by kernel_rfl) (e := Extern.ReflectliteSwapper.swapper "internal/reflectlite" (Extern.ReflectliteValue.valueError "Swapper")) (by kernel_rfl), hs]
  simp only [Result.andThen]
  rw [Oper.upon_value]
  go_wp2
  rw [run_callFunc_extern Tryz.func92 (by kernel_rfl) (by kernel_rfl) (by kernel_rfl) (e := Extern.ReflectliteValue.method (Extern.ReflectliteValue.valueError "reflectlite.Value.Len" 0) Extern.ReflectliteValue.len) (by kernel_rfl),
    hl _ _ (by simp)]
  simp only [Result.andThen]
  rw [Oper.upon_value]
  go_wp2_with (go_at_call 103; refine hp.mono ?_; rintro e w' ⟨rfl, hR⟩)
  go_end0
  exact ⟨rfl, hR⟩

theorem off_stabW (p : Option Addr) (n c : Nat) (w : World) : Off [] w (stabW p n c w) := ((Off.refl [] w).alloc _).alloc _

theorem perm_of_permIn {α : Type} [Inhabited α] {d d' : Array α} (h : PermIn 0 d.size d d') : d'.toList.Perm d.toList := by
  have h3 := h.2.2
  have e1 : d'.extract 0 d.size = d' := by rw [← h.1]; simp
  have e2 : d.extract 0 d.size = d := by simp
  rw [e1, e2] at h3
  exact h3

theorem sliceStable_ents (es : List Ent) (g c n Bs : Nat) (sp : List Value) (w : World) (hn : es.length = n) (h12 : n ≤ 1000) (hB : Blk w g 49 (entsC es ++ sp).toArray) (hb : Blk w Bs 27 #[.slice (some ⟨g, 0, none⟩) n c]) (hne : Bs ≠ g) :
    Calls Tryz.prog 88 #[.iface 27 (.slice (some ⟨g, 0, none⟩) n c), .func (.func 89) #[] #[.pointer (some ⟨Bs, 0, none⟩)]] w fun e w' =>
      e = .returned (.tuple #[]) ∧ ∃ es', es'.Perm es ∧ es'.Pairwise (fun a b => lessE b a = false) ∧ Blk w' g 49 (entsC es' ++ sp).toArray ∧ Off [g] w w' := by
  by_cases h2 : 2 ≤ n
  · have hK := eK n h2
    refine sliceStable_of _ n c 112 (by rw [hK]; kernel_rfl) _ _ _ w _ ?_
    rw [hK, if_neg (by omega)]
    have S := srtF_row w g Bs c n sp hB.lt hb.lt hne
    have hA : RowES w g Bs c sp n es.toArray (stabW (some ⟨g, 0, none⟩) n c w) := ⟨(off_stabW _ _ _ _).mono (fun x hx => by simp at hx), by simp [hn], hB.off (off_stabW _ _ _ _) (by simp), hb.off (off_stabW _ _ _ _) (by simp)⟩
    refine (stableF S swo_lessE (by omega) es.toArray _ hA).mono ?_
    rintro e w' ⟨rfl, d', hA', hp, hs, _⟩
    have hz : es.toArray.size = n := by simp [hn]
    have hz' : d'.size = n := hA'.size
    refine ⟨rfl, d'.toList, by have := perm_of_permIn (d := es.toArray) (d' := d') (by rw [hz]; exact hp); simpa using this, ?_, hA'.blk, hA'.off⟩
    rw [List.pairwise_iff_getElem]
    intro i j hi hj hij
    have hi' : i < d'.size := by simpa using hi
    have hj' : j < d'.size := by simpa using hj
    have := hs i j (Nat.zero_le _) hij (by omega)
    rw [getE d' i hi', getE d' j hj'] at this
    exact this
  · have h01 : n = 0 ∨ n = 1 := by omega
    have hpw : es.Pairwise (fun a b => lessE b a = false) := by
      match es, hn with
      | [], _ => exact List.Pairwise.nil
      | [x], _ => exact List.pairwise_singleton _ _
      | x :: y :: r, hn => simp at hn; omega
    rcases h01 with rfl | rfl
    · refine sliceStable_of _ 0 c 104 (by rw [show Lib.swapperK 0 eE 25 = 1 by simp [Lib.swapperK]]; kernel_rfl) _ _ _ w _ ?_
      refine (stableTiny _ _ _ _ _ 0 (by omega) _).mono ?_
      rintro e w' ⟨rfl, ho⟩
      have ho2 : Off [g] w w' := ((off_stabW _ _ _ _).then ho (fun x hx => Or.inl hx)).mono (fun x hx => by simp at hx)
      exact ⟨rfl, es, List.Perm.refl _, hpw, (hB.off (off_stabW _ _ _ _) (by simp)).off ho (by simp), ho2⟩
    · refine sliceStable_of _ 1 c 105 (by rw [show Lib.swapperK 1 eE 25 = 2 by simp [Lib.swapperK]]; kernel_rfl) _ _ _ w _ ?_
      refine (stableTiny _ _ _ _ _ 1 (by omega) _).mono ?_
      rintro e w' ⟨rfl, ho⟩
      have ho2 : Off [g] w w' := ((off_stabW _ _ _ _).then ho (fun x hx => Or.inl hx)).mono (fun x hx => by simp at hx)
      exact ⟨rfl, es, List.Perm.refl _, hpw, (hB.off (off_stabW _ _ _ _) (by simp)).off ho (by simp), ho2⟩
end Go.Proofs.YtkdbjocchponfaaGreatDoor
namespace Go.Proofs.YtkdbjocchponfaaGreatDoor
open Go.RowKit Go.Sort Go.Lib

section
variable {P : Program} {ops : Array Oper} {rest : List Oper} {o : Oper} {a : Act} {Q : Exit → Act → World → Prop}
/-- append of a row (nil or not) onto a slice over a block that is known whole. -/
theorem wpList_append_blks (w : World) (hgd : o.guard = none) (s x : Operand) (t : TypeId) (ho : o.op = .call { callee := .builtin .append, args := #[s, x], argTypes := #[t, t] })
    (e : TypeId) (i : TypeInfo) (z : Value) (size bytes : Nat) (ht : P.underlying t = some (.slice e)) (hi : P.info? e = some i) (hz : i.zero = some z) (hsize : i.size = size) (hby : i.bytes = bytes) (hzs : z.cells.size = size) (hsz : 0 < size)
    (g0 n cap0 : Nat) (hs : a.eval s = .slice (some ⟨g0, 0, none⟩) n cap0) (xs sp0 : List Value) (hb : Blk w g0 e (xs ++ sp0).toArray) (hl : xs.length = n * size) (hsp : sp0.length + n * size = cap0 * size) (hc : n ≤ cap0) (hm : cap0 ≤ maxLen)
    (A : Option Addr) (m c : Nat) (hx : a.eval x = .slice A m c) (news : List Value) (hA : A = none → m = 0 ∧ c = 0) (hln : news.length = m * size) (hnews : ∀ ad, A = some ad → ∀ j u, news[j]? = some u → w.cell? (ad.add j) = some u) (h1 : ∀ u ∈ news, u.oneCell' = true)
    (h63 : n + m ≤ maxLen) (hbytes : (n + m) * bytes ≤ 140737488355328)
    (h : ∀ (g cap : Nat) (sp : List Value) w', Blk w' g e (xs ++ news ++ sp).toArray → sp.length + (n + m) * size = cap * size → n + m ≤ cap → cap ≤ maxLen → Off [g0] w w' → (g = g0 ∨ g = w.heap.size) → wpList P ops Q rest (a.put o.dst (.slice (some ⟨g, 0, none⟩) (n + m) cap)) w') :
    wpList P ops Q (o :: rest) a w := by
  refine wpList_plain hgd fun K hK => ?_
  obtain ⟨g, cap, sp, w', hr, h2, h3, h4, h5, h6, h7⟩ := run_append_blks (P := P) w t o.type e i z size bytes ht hi hz hsize hby hzs hsz g0 n cap0 xs sp0 hb hl hsp hc hm A m c news hA hln hnews h1 h63 hbytes
  unfold Oper.wp execOp
  simp only [ho, resolve, invoke, builtin, Sem.run_bind, Sem.run_pure, Result.andThen_ok, List.map_toArray, List.map_cons, List.map_nil, hs, hx, hr]
  exact hK _ _ (h g cap sp w' h2 h3 h4 h5 h6 h7)
end

set_option maxRecDepth 100000 in
set_option maxHeartbeats 2000000 in
theorem byDigest_any (es : List Ent) (A : Option Addr) (ib io c n : Nat) (w : World) (hn : es.length = n) (hn2 : n ≤ 1000) (hA0 : A = none → n = 0 ∧ c = 0) (hat : EntsAt w A ib io es) :
    Calls Tryz.prog 73 #[.slice A n c] w fun r w' => ∃ g cap es' sp, r = .returned (.slice (some ⟨g, 0, none⟩) n cap) ∧ es'.Perm es ∧ es'.Pairwise (fun a b => lessE b a = false) ∧ Blk w' g 49 (entsC es' ++ sp).toArray ∧ w.heap.size ≤ g ∧ Off [] w w' := by
  obtain ⟨i0, hi, hz0, hz1, hz2⟩ := info_parts Tryz.infoEnt2
  have ho0 : Off [] w (w.alloc (.cells #[] 49)) := (Off.refl [] w).alloc _
  have hb0 : Blk (w.alloc (.cells #[] 49)) w.heap.size 49 (([] : List Value) ++ []).toArray := Blk.new w _ _
  have HNW := Lib.hid (EntsAt.news (hat.off ho0 (by simp)))
  have HN := Lib.hid (show (entsC es).length = n * 5 by rw [entsC_len, hn])
  have HE := Lib.hid hn
  have HB0 := Lib.hid hb0
  have HO0 := Lib.hid ho0
  clear hat hb0 ho0 hn
  go_enter Tryz.func73, Tryz.ntmps73
  go_wp2_with (first
    | (at_builtin
       refine wpList_append_blks _ rfl _ _ 27 rfl 49 i0 _ 5 48 Tryz.underlying27 hi hz0 hz1 hz2 rfl (by decide) w.heap.size 0 0 rfl [] [] HB0.out rfl rfl (Nat.le_refl _) (Nat.zero_le _) A n c rfl (entsC es) hA0 HN.out HNW.out (entsC_one es) (by unfold maxLen; omega) (by omega) ?_
       intro g cap sp w1 hb1 hsp1 hc1 hm1 ho1 hg1
       have HB1 := Lib.hid hb1
       have HO1 := Lib.hid ho1
       have HG1 := Lib.hid hg1
       clear hb1 hsp1 hc1 hm1 ho1 hg1)
    | (go_at_call 88
       have hb2 := (HB1.out.eq (show ([] ++ entsC es ++ sp : List Value).toArray = (entsC es ++ sp).toArray by rw [List.nil_append])).alloc (.cells #[.slice (some ⟨g, 0, none⟩) n cap] 27)
       have hbx := Blk.new w1 27 #[.slice (some ⟨g, 0, none⟩) n cap]
       have hgl := HB1.out.lt
       refine (sliceStable_ents es g cap n w1.heap.size sp _ HE.out hn2 hb2 hbx (by omega)).mono ?_
       rintro e w3 ⟨rfl, es', hp3, hs3, hb3, ho3⟩
       have c3 : w3.cell? ⟨w1.heap.size, 0, none⟩ = some (.slice (some ⟨g, 0, none⟩) n cap) := (ho3.blk hbx (ni1 (by omega))).cell 0
       have HR := Lib.hid (And.intro hp3 (And.intro hs3 (And.intro hb3 ho3)))
       clear hp3 hs3 hb3 ho3 hb2 hbx hgl))
  go_ret
  obtain ⟨hp3, hs3, hb3, ho3⟩ := HR.out
  have h1 := HO0.out
  have h2 := HO1.out
  have hg : w.heap.size ≤ g := by
    rcases HG1.out with rfl | rfl
    · exact Nat.le_refl _
    · simp
  refine ⟨g, cap, es', sp, rfl, hp3, hs3, hb3, hg, ?_⟩
  have h3 : Off [] w w1 := h1.then h2 (fun x hx => by simp at hx; subst hx; exact Or.inr (Nat.le_refl _))
  exact (h3.alloc _).then ho3 (fun x hx => by simp at hx; subst hx; exact Or.inr hg)
end Go.Proofs.YtkdbjocchponfaaGreatDoor
namespace Go.Proofs.YtkdbjocchponfaaGreatDoor
open Go.RowKit
theorem Row8.base {w : World} {B : Nat} {v : Value} {l : List UInt8} (h : Row8 w B v l) : ∀ x, x ∈ ob v → B ≤ x := fun x hx => by
  rcases id h.2 with ⟨rfl, _⟩ | ⟨g, cap, cur, rfl, hg, hgg, rest⟩
  · simp [ob, Value.ownBlock] at hx
  · simp [ob, Value.ownBlock] at hx
    omega

set_option maxRecDepth 100000 in
set_option maxHeartbeats 2000000 in
theorem varint_1024 (w : World) :
    Calls Tryz.prog 21 #[.int .u64 1024] w fun r w' => ∃ v', r = .returned v' ∧ Row8 w' w.heap.size v' (Lib.uvarint 1024) ∧ Off [] w w' := by
  obtain ⟨i0, hi, hz0, hz1, hz2⟩ := info_parts Tryz.infoByte
  have hu : Lib.uvarint 1024 = [128, 8] := by rw [Lib.uvarint_big (by omega), Lib.uvarint_small (by omega)]; rfl
  rw [hu]
  obtain ⟨B, hB⟩ : ∃ B, B = w.heap.size := ⟨_, rfl⟩
  rw [← hB]
  have HB := Lib.hid hB
  have hbt : bits BinOp.or IntKind.u8 0 128 = 128 := by kernel_rfl
  clear hu hB
  go_enter Tryz.func21, Tryz.ntmps21
  go_wp2_with fail
  go_loopg [0, 3] 2 (fun kx s0 s3 wr => (s0 = .int .u64 1024 ∧ s3 = .slice none 0 0 ∧ kx = 2 ∧ Hid (wr = w)) ∨ (s0 = .int .u64 8 ∧ kx = 1 ∧ Hid (Row8 wr B s3 [128] ∧ Off [] w wr)))
  case atStart => exact Or.inl ⟨rfl, rfl, rfl, Lib.hid rfl⟩
  case round =>
    rename World => wr
    rcases hrel with ⟨rfl, rfl, rfl, hwr⟩ | ⟨rfl, rfl, hh⟩
    · go_wp2_with (first
        | (at_builtin
           refine wpList_append_own_at _ rfl _ _ 32 rfl B 5 i0 _ 1 1 Tryz.underlying32 hi hz0 hz1 hz2 rfl (by decide) (.slice none 0 0) 0 [] rfl (World.ownsRow_nil _ _ _ _) ⟨wr.heap.size, 0, none⟩ 1 1 [.int .u8 128] rfl rfl (new_one wr _ _) (fun u hu => by simp at hu; subst hu; rfl) (by unfold maxLen; omega) (by omega) (by have h1 := HB.out; have h2 := hwr.out; subst h2; simp; omega) ?_
           intro v5 w5 hown5 hgr hnil hat
           have HO5 := Lib.hid hown5
           have HG5 := Lib.hid hgr
           clear hown5 hgr hnil hat))
      go_roundg 1
      case measure => omega
      case rel =>
        have hw := hwr.out
        subst hw
        refine Or.inr ⟨rfl, rfl, Lib.hid ⟨?_, (Off.alloc (Off.refl [] wr) _).then (off_grown_own (S := []) HG5.out (fun g hg => by simp [Value.ownBlock] at hg)) (fun x hx => by simp at hx)⟩⟩
        exact HO5.out
    · obtain ⟨h1, h2⟩ := hh.out
      have hb2 := h2.size
      have HBW := Lib.hid (show B ≤ wr.heap.size by have := HB.out; omega)
      have hown := h1.off (S := []) (Off.alloc (Off.refl [] wr) (.cells #[.int .u8 8] 5)) (fun x _ => by simp)
      have H1 := Lib.hid hown
      have H2 := Lib.hid h2
      have HBS := Lib.hid h1.base
      clear h1 h2 hh hown hb2
      go_wp2_with (first
        | (at_builtin
           refine wpList_append_own_at _ rfl _ _ 32 rfl B 5 i0 _ 1 1 Tryz.underlying32 hi hz0 hz1 hz2 rfl (by decide) u3 1 (Lib.byteCells [128]) rfl H1.out ⟨wr.heap.size, 0, none⟩ 1 1 [.int .u8 8] rfl rfl (new_one wr _ _) (fun u hu => by simp at hu; subst hu; rfl) (by unfold maxLen; omega) (by omega) (by have := HBW.out; simp; omega) ?_
           intro v5 w5 hown5 hgr hnil hat
           have HO5 := Lib.hid hown5
           have HG5 := Lib.hid hgr
           clear hown5 hgr hnil hat))
      go_ret
      refine ⟨v5, rfl, HO5.out, ?_⟩
      exact H2.out.then ((Off.alloc (Off.refl (ob u3) wr) _).then (off_grown_own (S := ob u3) HG5.out (fun g hg => by simp [ob, hg])) (fun x hx => Or.inl hx)) (fun x hx => Or.inr (by have := HBS.out x hx; rw [← HB.out]; exact this))

set_option maxRecDepth 100000 in
set_option maxHeartbeats 2000000 in
theorem varint_1025 (w : World) :
    Calls Tryz.prog 21 #[.int .u64 1025] w fun r w' => ∃ v', r = .returned v' ∧ Row8 w' w.heap.size v' (Lib.uvarint 1025) ∧ Off [] w w' := by
  obtain ⟨i0, hi, hz0, hz1, hz2⟩ := info_parts Tryz.infoByte
  have hu : Lib.uvarint 1025 = [129, 8] := by rw [Lib.uvarint_big (by omega), Lib.uvarint_small (by omega)]; rfl
  rw [hu]
  obtain ⟨B, hB⟩ : ∃ B, B = w.heap.size := ⟨_, rfl⟩
  rw [← hB]
  have HB := Lib.hid hB
  have hbt : bits BinOp.or IntKind.u8 1 128 = 129 := by kernel_rfl
  clear hu hB
  go_enter Tryz.func21, Tryz.ntmps21
  go_wp2_with fail
  go_loopg [0, 3] 2 (fun kx s0 s3 wr => (s0 = .int .u64 1025 ∧ s3 = .slice none 0 0 ∧ kx = 2 ∧ Hid (wr = w)) ∨ (s0 = .int .u64 8 ∧ kx = 1 ∧ Hid (Row8 wr B s3 [129] ∧ Off [] w wr)))
  case atStart => exact Or.inl ⟨rfl, rfl, rfl, Lib.hid rfl⟩
  case round =>
    rename World => wr
    rcases hrel with ⟨rfl, rfl, rfl, hwr⟩ | ⟨rfl, rfl, hh⟩
    · go_wp2_with (first
        | (at_builtin
           refine wpList_append_own_at _ rfl _ _ 32 rfl B 5 i0 _ 1 1 Tryz.underlying32 hi hz0 hz1 hz2 rfl (by decide) (.slice none 0 0) 0 [] rfl (World.ownsRow_nil _ _ _ _) ⟨wr.heap.size, 0, none⟩ 1 1 [.int .u8 129] rfl rfl (new_one wr _ _) (fun u hu => by simp at hu; subst hu; rfl) (by unfold maxLen; omega) (by omega) (by have h1 := HB.out; have h2 := hwr.out; subst h2; simp; omega) ?_
           intro v5 w5 hown5 hgr hnil hat
           have HO5 := Lib.hid hown5
           have HG5 := Lib.hid hgr
           clear hown5 hgr hnil hat))
      go_roundg 1
      case measure => omega
      case rel =>
        have hw := hwr.out
        subst hw
        refine Or.inr ⟨rfl, rfl, Lib.hid ⟨?_, (Off.alloc (Off.refl [] wr) _).then (off_grown_own (S := []) HG5.out (fun g hg => by simp [Value.ownBlock] at hg)) (fun x hx => by simp at hx)⟩⟩
        exact HO5.out
    · obtain ⟨h1, h2⟩ := hh.out
      have hb2 := h2.size
      have HBW := Lib.hid (show B ≤ wr.heap.size by have := HB.out; omega)
      have hown := h1.off (S := []) (Off.alloc (Off.refl [] wr) (.cells #[.int .u8 8] 5)) (fun x _ => by simp)
      have H1 := Lib.hid hown
      have H2 := Lib.hid h2
      have HBS := Lib.hid h1.base
      clear h1 h2 hh hown hb2
      go_wp2_with (first
        | (at_builtin
           refine wpList_append_own_at _ rfl _ _ 32 rfl B 5 i0 _ 1 1 Tryz.underlying32 hi hz0 hz1 hz2 rfl (by decide) u3 1 (Lib.byteCells [129]) rfl H1.out ⟨wr.heap.size, 0, none⟩ 1 1 [.int .u8 8] rfl rfl (new_one wr _ _) (fun u hu => by simp at hu; subst hu; rfl) (by unfold maxLen; omega) (by omega) (by have := HBW.out; simp; omega) ?_
           intro v5 w5 hown5 hgr hnil hat
           have HO5 := Lib.hid hown5
           have HG5 := Lib.hid hgr
           clear hown5 hgr hnil hat))
      go_ret
      refine ⟨v5, rfl, HO5.out, ?_⟩
      exact H2.out.then ((Off.alloc (Off.refl (ob u3) wr) _).then (off_grown_own (S := ob u3) HG5.out (fun g hg => by simp [ob, hg])) (fun x hx => Or.inl hx)) (fun x hx => Or.inr (by have := HBS.out x hx; rw [← HB.out]; exact this))
end Go.Proofs.YtkdbjocchponfaaGreatDoor
