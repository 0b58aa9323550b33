/-
  impl.indexBytes: entries to the bytes of an index.
  impl.indexBytes at 0x0401.
  (No condition beyond those that each theorem states.)
-/
import Derived.Test.YtcgggcjmmphldaaGreatDoorHi2
import Derived.Test.YtcgggcjmmphldaaGreatDoorHa3
import Derived.Test.YtcgggcjmmphldaaGreatDoorHa7
import Derived.Test.YtcgggcjmmphldaaGreatDoorHa4
namespace Go.Proofs.YtcgggcjmmphldaaGreatDoor
open Go.RowKit

def Ent.it (e : Ent) : It := ⟨str (if e.ver = 0 then mhB 18 e.dg.data.toList else cid1 e.codec (mhB e.code e.dg.data.toList)), e.code, e.dg.data.toList, e.off⟩
theorem Ent.it_ok {e : Ent} (h : e.ok) : e.it.ok := by
  refine ⟨?_, h.off, h.small⟩
  rcases h.ver with ⟨h1, h2, h3, h4⟩ | ⟨h1, h2, h3⟩
  · refine ⟨by show e.code < _; omega, by show e.dg.data.toList.length ≤ _; omega, Or.inl ⟨?_, h3, h4⟩⟩
    show (if e.ver = 0 then _ else _) = mhB e.code e.dg.data.toList
    rw [if_pos h1, h3]
  · refine ⟨h3, by show e.dg.data.toList.length ≤ _; have := h.small; omega, Or.inr ⟨e.codec, h2, ?_⟩⟩
    show (if e.ver = 0 then _ else _) = cid1 e.codec (mhB e.code e.dg.data.toList)
    rw [if_neg (by omega)]
theorem cidIn_ent (e : Ent) (h : e.ok) (w : World) : Calls Tryz.prog 39 #[.agg #[.int .u64 (e.ver : Int), .int .u64 (e.codec : Int), .int .u64 (e.code : Int), .string e.dg]] w fun r w' => r = .returned (.tuple #[.agg #[.string e.it.s], .bool true]) ∧ Below w.heap.size w w' := by
  rcases h.ver with ⟨h1, h2, h3, h4⟩ | ⟨h1, h2, h3⟩
  · have e1 : e.it.s = str (mhB 18 e.dg.data.toList) := by show str (if e.ver = 0 then _ else _) = _; rw [if_pos h1]
    rw [h1, h2, h3, e1]
    exact cidIn_zero e.dg w h4
  · have e1 : e.it.s = str (cid1 e.codec (mhB e.code e.dg.data.toList)) := by show str (if e.ver = 0 then _ else _) = _; rw [if_neg (by omega)]
    rw [h1, e1]
    exact cidIn_one e.codec e.code e.dg w (by omega) (by omega) (by have := h.small; simp at this; omega)

/-- The records gathered so far. -/
def RecsAt (w wr : World) (A : Option Addr) (cap : Nat) (its : List It) : Prop :=
  (its = [] ∧ A = none ∧ cap = 0) ∨ ∃ g sp, A = some ⟨g, 0, none⟩ ∧ w.heap.size ≤ g ∧ Blk wr g 82 (flatI its ++ sp).toArray ∧ sp.length + its.length * 2 = cap * 2 ∧ its.length ≤ cap ∧ cap ≤ maxLen
theorem RecsAt.items {w wr : World} {A : Option Addr} {cap : Nat} {its : List It} (h : RecsAt w wr A cap its) : ∃ g, ItemsAt wr A g 0 its := by
  rcases h with ⟨rfl, rfl, rfl⟩ | ⟨g, sp, rfl, _, hb, _⟩
  · exact ⟨0, fun h => absurd h (by simp), fun i h => absurd h (by simp)⟩
  · exact ⟨g, itemsAt_blk hb⟩
theorem RecsAt.owns {w wr W : World} {A : Option Addr} {cap : Nat} {its : List It} (h : RecsAt w wr A cap its) (ho : Off [] wr W) : W.ownsRow 0 82 2 (.slice A its.length cap) its.length (flatI its) := by
  rcases h with ⟨rfl, rfl, rfl⟩ | ⟨g, sp, rfl, _, hb, h1, h2, h3⟩
  · exact World.ownsRow_nil _ _ _ _
  · exact owns_blk (hb.off ho (by simp)) (flatI_length _) h1 h2 h3
theorem RecsAt.own {w wr : World} {A : Option Addr} {cap n : Nat} {its : List It} (h : RecsAt w wr A cap its) : ∀ g, (Value.slice A n cap).ownBlock = some g → w.heap.size ≤ g := by
  rcases h with ⟨rfl, rfl, rfl⟩ | ⟨g, sp, rfl, h1, _⟩
  · intro g hg; simp [Value.ownBlock] at hg
  · intro g' hg
    simp [Value.ownBlock] at hg
    omega

set_option maxRecDepth 100000 in
theorem newSorted_any (w : World) : Calls Tryz.prog 58 #[] w fun e w' => e = .returned (.iface 170 (.pointer (some ⟨w.heap.size + 1, 0, none⟩))) ∧ w' = (w.alloc (.map #[] 0)).alloc (.cells #[.map (some w.heap.size)] 169) := by
  have hmm := @run_makeMap Tryz.prog
  go_enter Tryz.func58, Tryz.ntmps58
  go_wp2_with fail
  go_ret
  exact ⟨by simp, rfl⟩
set_option maxRecDepth 100000 in
theorem newMis_any (w : World) : Calls Tryz.prog 59 #[] w fun e w' => e = .returned (.pointer (some ⟨w.heap.size + 1, 0, none⟩)) ∧ w' = (w.alloc (.map #[] 0)).alloc (.cells #[.map (some w.heap.size)] 172) := by
  have hmm := @run_makeMap Tryz.prog
  go_enter Tryz.func59, Tryz.ntmps59
  go_wp2_with fail
  go_ret
  exact ⟨by simp, rfl⟩

theorem fin_mw (es : List Ent) (hes : ∀ e, e ∈ es → e.ok) (hn : es.length ≤ 1000) (A : Option Addr) (cap pb mm g : Nat) (W : World) (h1 : ItemsAt W A g 0 (es.map Ent.it)) (h2 : W.cell? ⟨pb, 0, none⟩ = some (.map (some mm))) (h3 : pb ≠ mm) (h4 : Mp Tryz.prog 143 .u32 W mm 0 [] (fun _ => undef)) :
    Calls Tryz.prog 192 #[.pointer (some ⟨pb, 0, none⟩), .slice A es.length cap] W fun e w' => e = .returned .nilIface ∧ Off [mm] W w' ∧ Calls Tryz.prog 40 #[.iface 170 (.pointer (some ⟨pb, 0, none⟩)), .nilIface] w' fun e w2 => ∃ s, Enc 1024 (es.map fun e => (e.code, e.it.rw)) s ∧ e = .returned (.tuple #[.string ⟨s.toArray⟩, .bool true]) ∧ Off [] w' w2 := by
  have hits : ∀ it, it ∈ es.map Ent.it → it.ok := fun it hit => by
    obtain ⟨e, he, rfl⟩ := List.mem_map.1 hit
    exact Ent.it_ok (hes e he)
  have hl : (es.map Ent.it).length = es.length := List.length_map _
  have hld := mwLoad_any A g 0 pb 0 mm cap (es.map Ent.it) W hits (by rw [hl]; exact hn) h1 h2 h3 h4
  rw [hl] at hld
  refine hld.mono ?_
  rintro e w' ⟨he, ho, D, S, hmw, hD, hS⟩
  refine ⟨he, ho, ?_⟩
  have hp' := ho.cell h2 (by simp; exact h3)
  have hDl : D.length ≤ 1000 := by
    have hsub : D.length ≤ ((es.map Ent.it).map fun it => it.d.length).length := nodup_len D _ hmw.nodup (fun x hx => by
      obtain ⟨it, hit, hx⟩ := (hD x).1 hx
      exact List.mem_map.2 ⟨it, hit, hx⟩)
    rw [List.length_map, hl] at hsub
    omega
  have hDn : ∀ n, n ∈ D → n ≤ 1000 ∧ (S n).length ≤ 1000 := fun n hnD => by
    obtain ⟨it, hit, hx⟩ := (hD n).1 hnD
    refine ⟨by rw [← hx]; exact (hits it hit).small, ?_⟩
    rw [(hS n hnD).1.length_eq, List.length_map]
    have := List.length_filter_le (fun it : It => it.d.length == n) (es.map Ent.it)
    rw [hl] at this
    omega
  refine (written_mw w' pb (fun X => ∃ Ds : List Nat, Ds.Perm D ∧ Ds.Pairwise (· < ·) ∧ X = mwB (Ds.map fun n => (n, S n))) (fun b V l' hb hV hl' => ?_)).mono ?_
  · refine (mwMarshal_any hV pb mm _ D S hp' hmw hDl (fun n hm => (hDn n hm).1) (fun Ds hp => ?_)).mono ?_
    · have := mwB_le Ds S (by rw [hp.length_eq]; exact hDl) (fun n hm => ⟨(hDn n (hp.mem_iff.1 hm)).1, (hDn n (hp.mem_iff.1 hm)).2, hmw.wid n (hp.mem_iff.1 hm)⟩)
      omega
    · rintro e2 w2 ⟨Ds, a1, a2, a3, a4, _⟩
      exact ⟨_, _, ⟨Ds, a1, a2, rfl⟩, a3, a4⟩
  · rintro e2 w2 ⟨X, ⟨Ds, a1, a2, rfl⟩, b1, b2⟩
    refine ⟨_, Or.inl ⟨rfl, Ds.map fun n => (n, S n), ?_, rfl⟩, b1, b2⟩
    have hrows : (es.map fun e => (e.code, e.it.rw)).map (·.2) = (es.map Ent.it).map It.rw := by simp [List.map_map, Function.comp_def]
    rw [hrows]
    refine grp_made _ Ds S a2 (fun n => ?_) (fun n hnD => ?_) (fun n hnD => (hS n (a1.mem_iff.1 hnD)).2)
    · rw [a1.mem_iff, hD n]
      constructor
      · rintro ⟨it, hit, hx⟩; exact ⟨it.rw, List.mem_map.2 ⟨it, hit, rfl⟩, hx⟩
      · rintro ⟨r, hr, hx⟩
        obtain ⟨it, hit, rfl⟩ := List.mem_map.1 hr
        exact ⟨it, hit, hx⟩
    · have := (hS n (a1.mem_iff.1 hnD)).1
      rw [List.filter_map]
      exact this

set_option maxRecDepth 100000 in
theorem new_mw (w : World) : Calls Tryz.prog 38 #[.int .u64 1024] w fun e w' => ∃ pb mm, e = .returned (.tuple #[.iface 170 (.pointer (some ⟨pb, 0, none⟩)), .nilIface]) ∧ w'.cell? ⟨pb, 0, none⟩ = some (.map (some mm)) ∧ Mp Tryz.prog 143 .u32 w' mm 0 [] (fun _ => undef) ∧ Off [] w w' ∧ w.heap.size ≤ pb ∧ w.heap.size ≤ mm ∧ pb ≠ mm := by
  have hmp : Mp Tryz.prog 143 .u32 ((w.alloc (.map #[] 0)).alloc (.cells #[.map (some w.heap.size)] 169)) w.heap.size 0 [] (fun _ => undef) := (Mp.made w _ _ _ _).off (Off.alloc (Off.refl [] _) _) (by simp)
  have hbk := Blk.new' (w.alloc (.map #[] 0)) 169 #[.map (some w.heap.size)] (g := w.heap.size + 1) (by simp)
  have hof : Off [] w ((w.alloc (.map #[] 0)).alloc (.cells #[.map (some w.heap.size)] 169)) := (Off.alloc (Off.refl [] w) _).alloc _
  have HMP := Lib.hid hmp
  have HB := Lib.hid hbk
  have HO := Lib.hid hof
  clear hmp hbk hof
  go_enter Tryz.func38, Tryz.ntmps38
  go_wp2_with (go_at_call 58; refine (newSorted_any _).mono ?_; rintro e w1 ⟨rfl, rfl⟩)
  go_ret2
  exact ⟨w.heap.size + 1, w.heap.size, rfl, HB.out.cell 0, HMP.out, HO.out, by omega, Nat.le_refl _, by omega⟩

theorem method_mwLoad (a : Addr) (w : World) : (method 472 170 (.pointer (some a)) "Load").run Tryz.prog w = .ok (192, .pointer (some a)) w := by kernel_rfl

set_option maxRecDepth 100000 in
set_option maxHeartbeats 4000000 in
theorem indexBytes_mw (es : List Ent) (A : Option Addr) (ib io c : Nat) (w : World) (hes : ∀ e, e ∈ es → e.ok) (hn : es.length ≤ 1000) (hat : EntsAt w A ib io es) :
    Calls Tryz.prog 23 #[.slice A es.length c, .int .u64 1024] w fun e w' => ∃ s, Enc 1024 (es.map fun e => (e.code, e.it.rw)) s ∧ e = .returned (.tuple #[.string ⟨s.toArray⟩, .bool true]) ∧ Off [] w w' := by
  obtain ⟨n, hnl⟩ : ∃ n, n = es.length := ⟨_, rfl⟩
  obtain ⟨i0, hi, hz0, hz1, hz2⟩ := info_parts Tryz.infoRec
  have hFIN : ∀ (A' : Option Addr) (cap pb mm g : Nat) (W : World), ItemsAt W A' g 0 (es.map Ent.it) → W.cell? ⟨pb, 0, none⟩ = some (.map (some mm)) → pb ≠ mm → Mp Tryz.prog 143 .u32 W mm 0 [] (fun _ => undef) →
      Calls Tryz.prog 192 #[.pointer (some ⟨pb, 0, none⟩), .slice A' n cap] W fun e w' => e = .returned .nilIface ∧ Off [mm] W w' ∧ Calls Tryz.prog 40 #[.iface 170 (.pointer (some ⟨pb, 0, none⟩)), .nilIface] w' fun e w2 => ∃ s, Enc 1024 (es.map fun e => (e.code, e.it.rw)) s ∧ e = .returned (.tuple #[.string ⟨s.toArray⟩, .bool true]) ∧ Off [] w' w2 := fun A' cap pb mm g W h1 h2 h3 h4 => by
    rw [hnl]
    exact fin_mw es hes hn A' cap pb mm g W h1 h2 h3 h4
  have HFIN := Lib.hid hFIN
  have HES := Lib.hid hes
  have HAT := Lib.hid hat
  have HNL := Lib.hid hnl
  have hm1 := method_mwLoad
  rw [← hnl]
  have hn1000 : n ≤ 1000 := by omega
  clear hFIN hes hat hnl hn
  go_enter Tryz.func23, Tryz.ntmps23
  go_wp2_with (go_at_call 38; refine (new_mw _).mono ?_; rintro e w1 ⟨pb, mm, rfl, hp1, hm1', ho1, hpb, hmm, hpm⟩; have HP1 := Lib.hid hp1; have HM1 := Lib.hid hm1'; have HO1 := Lib.hid ho1; clear hp1 hm1' ho1)
  go_loopg [8, 22] n (fun kx s8 s22 wr => ∃ (i : Nat) (A' : Option Addr) (cap : Nat), s22 = .int .i64 (i : Int) ∧ s8 = .slice A' i cap ∧ i ≤ n ∧ n - i ≤ kx ∧ Hid (Off [] w1 wr ∧ RecsAt w1 wr A' cap ((es.take i).map Ent.it)))
  case atStart => exact ⟨0, none, 0, rfl, rfl, Nat.zero_le _, Nat.le_refl _, Lib.hid ⟨Off.refl _ _, Or.inl ⟨by simp, rfl, rfl⟩⟩⟩
  case round =>
    rename World => wr
    obtain ⟨i, A', cap, rfl, rfl, hin, hkx, hh⟩ := hrel
    by_cases hlt : i < n
    · have hltz : (i : Int) < (n : Int) := by omega
      obtain ⟨hO, hR⟩ := hh.out
      have hie : i < es.length := by rw [← HNL.out]; exact hlt
      have hat := (HAT.out.off HO1.out (by simp)).off hO (by simp)
      obtain ⟨hA, hib⟩ := hat.at_ (by omega)
      obtain ⟨c0, c1, c2, c3, c4⟩ := hat.cells i hie
      obtain ⟨ent, hent⟩ : ∃ ent, ent = es[i] := ⟨_, rfl⟩
      rw [← hent] at c0 c1 c2 c3 c4
      have hok : ent.ok := HES.out ent (by rw [hent]; exact List.getElem_mem _)
      have htk : (es.take (i + 1)).map Ent.it = (es.take i).map Ent.it ++ [ent.it] := by
        rw [List.take_succ_eq_append_getElem hie, List.map_append, hent]; rfl
      have htl : ((es.take i).map Ent.it).length = i := by rw [List.length_map, List.length_take, Nat.min_eq_left (by omega)]
      have hown : ∀ W, Off [] wr W → W.ownsRow 0 82 2 (.slice A' i cap) i (flatI ((es.take i).map Ent.it)) := fun W ho => by
        have := hR.owns ho
        rwa [htl] at this
      have HOWN := Lib.hid hown
      have hfl : (flatI ((es.take i).map Ent.it)).length = i * 2 := by rw [flatI_length, htl]
      have HFL := Lib.hid hfl
      have HTL := Lib.hid htl
      have HTK := Lib.hid htk
      obtain ⟨os, hos⟩ : ∃ os : ByteArray, os = ent.it.s := ⟨_, rfl⟩
      have hci : ∀ W, Calls Tryz.prog 39 #[.agg #[.int .u64 (ent.ver : Int), .int .u64 (ent.codec : Int), .int .u64 (ent.code : Int), .string ent.dg]] W fun r w' => r = .returned (.tuple #[.agg #[.string os], .bool true]) ∧ Below W.heap.size W w' := fun W => by rw [hos]; exact cidIn_ent ent hok W
      have HCI := Lib.hid hci
      have HOS := Lib.hid hos
      obtain ⟨xv, hxv⟩ : ∃ xv : Array Value, xv = #[.int .u64 (ent.ver : Int), .int .u64 (ent.codec : Int), .int .u64 (ent.code : Int), .string ent.dg, .int .u64 (ent.off : Int)] := ⟨_, rfl⟩
      have hX := Blk.new' wr 27 #[.int .u64 (ent.ver : Int), .int .u64 (ent.codec : Int), .int .u64 (ent.code : Int), .string ent.dg, .int .u64 (ent.off : Int)] rfl
      have HX := Lib.hid hX
      have hALX : Off [] wr (wr.alloc (.cells #[.int .u64 (ent.ver : Int), .int .u64 (ent.codec : Int), .int .u64 (ent.code : Int), .string ent.dg, .int .u64 (ent.off : Int)] 27)) := Off.alloc (Off.refl [] wr) _
      have HALX := Lib.hid hALX
      have HOK := Lib.hid hok
      have HR := Lib.hid hR
      have HO := Lib.hid hO
      subst hA
      clear hh hat hent hok htk htl hR hO hown hfl hci hos hxv xv hX hALX
      go_wp2_with (first
        | (go_at_call 39; refine (HCI.out _).mono ?_; rintro e w2 ⟨rfl, hb2⟩
           have hX2 := HX.out.below hb2 (HX.out.lt)
           have hx4 : (w2.alloc (.cells #[.string os] 78)).cell? ⟨wr.heap.size, 4, none⟩ = some (.int .u64 (ent.off : Int)) := (hX2.alloc _).cell 4
           have hcs : (w2.alloc (.cells #[.string os] 78)).cell? ⟨w2.heap.size, 0, none⟩ = some (.string os) := (Blk.new' w2 78 #[.string os] rfl).cell 0
           have hO2 : Off [] wr (w2.alloc (.cells #[.string os] 78)) := (HALX.out.then (Off.ofBelow (S := []) hb2) (fun x hx => by simp at hx)).alloc _
           have HO2 := Lib.hid hO2
           have HNEW := Lib.hid (news_alloc (w2.alloc (.cells #[.string os] 78)) [.string os, .int .u64 (ent.off : Int)] 82)
           clear hO2 hX2 hb2)
        | (at_builtin; refine wpList_append_blk rfl _ _ 76 rfl 82 i0 _ 2 24 Tryz.underlying76 hi hz0 hz1 hz2 rfl (by decide) (.slice A' i cap) i (flatI ((es.take i).map Ent.it)) HFL.out rfl
             (HOWN.out _ (HO2.out.alloc _)) ⟨w2.heap.size + 1, 0, none⟩ 1 [.string os, .int .u64 (ent.off : Int)] rfl rfl (by have := HNEW.out; rw [size_alloc] at this; exact this) (oneR _ _ _) (by unfold maxLen; omega) (by omega) ?_
           intro g' cap' sp' w5 hb5 q1 q2 q3 hg5 ho5 hown5
           have HQ3 := Lib.hid q3; have HG5 := Lib.hid hg5; clear q3 hg5 hown5))
      go_roundg (n - (i + 1))
      case measure => omega
      case rel =>
        have hR := HR.out
        have hown := hR.own (n := i)
        have ho5' := ho5.out (Value.slice A' i cap).ownBlock.toList (fun g hg => by simp [hg])
        have hO5 : Off [] w1 w5 := (HO.out.then (HO2.out.alloc _) (fun x hx => by simp at hx)).then ho5' (fun x hx => Or.inr (hown x (by simpa using hx)))
        have htk1 : ((es.take (i + 1)).map Ent.it).length = i + 1 := by rw [HTK.out, List.length_append, HTL.out]; rfl
        have hsz := (HO.out.then (HO2.out.alloc (.cells #[.string os, .int .u64 (ent.off : Int)] 82)) (fun x hx => by simp at hx)).size
        refine ⟨i + 1, some ⟨g', 0, none⟩, cap', by go_num, rfl, by omega, Nat.le_refl _, Lib.hid ⟨hO5, Or.inr ⟨g', sp', rfl, ?_, ?_, ?_, ?_, q2⟩⟩⟩
        · rcases HG5.out with h | h
          · exact hown g' h
          · rw [h]; exact hsz
        · have h1 := hb5.out
          rw [HTK.out, flatI_append]
          have h2 : flatI [ent.it] = [.string os, .int .u64 (ent.off : Int)] := by rw [HOS.out]; rfl
          rw [h2]
          exact h1
        · rw [htk1]; exact HQ3.out
        · rw [htk1]; exact q1
    · obtain rfl : i = n := by omega
      have hltz : ¬ (i : Int) < (i : Int) := by omega
      obtain ⟨hO, hR⟩ := hh.out
      rw [List.take_of_length_le (by rw [← HNL.out]; exact Nat.le_refl _)] at hR
      obtain ⟨g, hit⟩ := hR.items
      have hmlt : mm < w1.heap.size := HM1.out.lt
      have HL := Lib.hid (HFIN.out A' cap pb mm g wr hit (hO.cell HP1.out (by simp)) hpm (HM1.out.off hO (by simp)))
      have HO := Lib.hid hO
      clear hO hR hit hh
      go_wp2_with (first
        | (go_at_call 192; refine HL.out.mono ?_; rintro e w5 ⟨rfl, ho5, hwr⟩; have HWR := Lib.hid hwr; have HO5 := Lib.hid ho5; clear hwr ho5)
        | (go_at_call 40; refine HWR.out.mono ?_; rintro e w6 ⟨s, hs, rfl, ho6⟩))
      go_ret2
      exact ⟨s, hs, rfl, ((HO1.out.then HO.out (fun x hx => by simp at hx)).then HO5.out (fun x hx => by simp at hx; right; omega)).then ho6 (fun x hx => by simp at hx)⟩
end Go.Proofs.YtcgggcjmmphldaaGreatDoor
namespace Go.Proofs.YtcgggcjmmphldaaGreatDoor
open Go.RowKit

theorem perm_byKey {α : Type} (f : α → Nat) : ∀ (W : List Nat) (l : List α), W.Nodup → (∀ r, r ∈ l → f r ∈ W) → (W.flatMap fun n => l.filter fun r => f r == n).Perm l
  | [], l, _, h => by
    have : l = [] := List.eq_nil_iff_forall_not_mem.2 fun r hr => by have := h r hr; simp at this
    rw [this]; simp
  | n :: W, l, hnd, h => by
    obtain ⟨h1, h2⟩ := List.nodup_cons.1 hnd
    have ih := perm_byKey f W (l.filter fun r => !(f r == n)) h2 (fun r hr => by
      obtain ⟨a, b⟩ := List.mem_filter.1 hr
      have := h r a
      simp at b
      rcases List.mem_cons.1 this with c | c
      · exact absurd c b
      · exact c)
    have e : (W.flatMap fun m => (l.filter fun r => !(f r == n)).filter fun r => f r == m) = W.flatMap fun m => l.filter fun r => f r == m := by
      simp only [List.flatMap]
      refine congrArg List.flatten (List.map_congr_left fun m hm => ?_)
      rw [List.filter_filter]
      refine List.filter_congr fun r _ => ?_
      by_cases hr : f r = m
      · have : m ≠ n := fun e => h1 (e ▸ hm)
        simp [hr, this]
      · simp [hr]
    rw [e] at ih
    rw [List.flatMap_cons]
    exact (List.Perm.append_left _ ih).trans (List.filter_append_perm (fun r => f r == n) l)

theorem cgrp_made (its : List It) (Cs : List Nat) (D : Nat → List Nat) (S : Nat → Nat → List Rw) (H : List (Nat × List (Nat × List Rw))) (hw : Wrt Cs D S H) (hC : ∀ c, c ∈ Cs ↔ ∃ it, it ∈ its ∧ it.code = c)
    (hS : ∀ c, c ∈ Cs → (∀ n, n ∈ D c ↔ ∃ it, it ∈ its.filter (fun it => it.code == c) ∧ it.d.length = n) ∧ ∀ n, n ∈ D c → (S c n).Perm (((its.filter fun it => it.code == c).filter fun it => it.d.length == n).map It.rw) ∧ Srtd (S c n)) :
    CGrp (its.map fun it => (it.code, it.rw)) H := by
  have hcs : ∀ p, p ∈ H → p.1 ∈ Cs := fun p hp => hw.perm.mem_iff.1 (List.mem_map.2 ⟨p, hp, rfl⟩)
  have hg : ∀ p, p ∈ H → Grp ((its.filter fun it => it.code == p.1).map It.rw) p.2 := fun p hp => by
    obtain ⟨Ds, d1, d2, d3⟩ := hw.ex p hp
    obtain ⟨s1, s2⟩ := hS p.1 (hcs p hp)
    rw [d3]
    refine grp_made _ Ds (S p.1) d2 (fun n => ?_) (fun n hn => ?_) (fun n hn => (s2 n (d1.mem_iff.1 hn)).2)
    · rw [d1.mem_iff, s1 n]
      constructor
      · rintro ⟨it, hit, hx⟩; exact ⟨it.rw, List.mem_map.2 ⟨it, hit, rfl⟩, hx⟩
      · rintro ⟨r, hr, hx⟩
        obtain ⟨it, hit, rfl⟩ := List.mem_map.1 hr
        exact ⟨it, hit, hx⟩
    · have := (s2 n (d1.mem_iff.1 hn)).1
      rw [List.filter_map]
      exact this
  refine ⟨hw.asc, fun p hp => (hg p hp).bks, fun p hp => ?_, ?_⟩
  · obtain ⟨it, hit, hc⟩ := (hC p.1).1 (hcs p hp)
    intro e
    have h1 := (hg p hp).perm
    rw [e] at h1
    have : it.rw ∈ (its.filter fun it => it.code == p.1).map It.rw := List.mem_map.2 ⟨it, List.mem_filter.2 ⟨hit, by simp [hc]⟩, rfl⟩
    have := h1.mem_iff.2 this
    simp [flat] at this
  · have h1 : (cflat H).Perm (H.flatMap fun p => ((its.map fun it => (it.code, it.rw)).filter fun r => r.1 == p.1)) := by
      refine perm_flatMap H fun p hp => ?_
      have h2 := (hg p hp).perm.map fun r => (p.1, r)
      refine h2.trans (List.Perm.of_eq ?_)
      rw [List.filter_map, List.map_map]
      refine List.map_congr_left fun it hit => ?_
      have := (List.mem_filter.1 hit).2
      simp at this
      show (p.1, it.rw) = (it.code, it.rw)
      rw [this]
    refine h1.trans ?_
    have h3 := perm_byKey (fun r : Nat × Rw => r.1) (H.map (·.1)) (its.map fun it => (it.code, it.rw)) (nodup_asc hw.asc) (fun r hr => by
      obtain ⟨it, hit, rfl⟩ := List.mem_map.1 hr
      exact hw.perm.mem_iff.2 ((hC it.code).2 ⟨it, hit, rfl⟩))
    rw [List.flatMap_map] at h3
    exact h3

theorem fin_mis (es : List Ent) (hes : ∀ e, e ∈ es → e.ok) (hn : es.length ≤ 1000) (A : Option Addr) (cap pb mm g : Nat) (W : World) (h1 : ItemsAt W A g 0 (es.map Ent.it)) (h2 : W.cell? ⟨pb, 0, none⟩ = some (.map (some mm))) (h3 : pb ≠ mm) (h4 : Mp Tryz.prog 23 .u64 W mm 0 [] (fun _ => undef)) :
    Calls Tryz.prog 183 #[.pointer (some ⟨pb, 0, none⟩), .slice A es.length cap] W fun e w' => e = .returned .nilIface ∧ Off [mm] W w' ∧ Calls Tryz.prog 40 #[.iface 124 (.pointer (some ⟨pb, 0, none⟩)), .nilIface] w' fun e w2 => ∃ s, Enc 1025 (es.map fun e => (e.code, e.it.rw)) s ∧ e = .returned (.tuple #[.string ⟨s.toArray⟩, .bool true]) ∧ Off [] w' w2 := by
  have hits : ∀ it, it ∈ es.map Ent.it → it.ok := fun it hit => by
    obtain ⟨e, he, rfl⟩ := List.mem_map.1 hit
    exact Ent.it_ok (hes e he)
  have hl : (es.map Ent.it).length = es.length := List.length_map _
  have hld := misLoad_any A g 0 pb 0 mm cap (es.map Ent.it) W hits (by rw [hl]; exact hn) h1 h2 h3 h4
  rw [hl] at hld
  refine hld.mono ?_
  rintro e w' ⟨he, ho, Cs, D, S, hmw, hC, hS⟩
  refine ⟨he, ho, ?_⟩
  have hp' := ho.cell h2 (by simp; exact h3)
  have hfl : ∀ p : It → Bool, ((es.map Ent.it).filter p).length ≤ 1000 := fun p => by
    have := List.length_filter_le p (es.map Ent.it)
    rw [hl] at this
    omega
  have hCl : Cs.length ≤ 1000 := by
    have hsub : Cs.length ≤ ((es.map Ent.it).map fun it => it.code).length := nodup_len Cs _ hmw.nodup (fun x hx => by
      obtain ⟨it, hit, hx⟩ := (hC x).1 hx
      exact List.mem_map.2 ⟨it, hit, hx⟩)
    rw [List.length_map, hl] at hsub
    omega
  have hC64 : ∀ c, c ∈ Cs → c < 18446744073709551616 := fun c hc => by
    obtain ⟨it, hit, hx⟩ := (hC c).1 hc
    have := (hits it hit).cid.1
    omega
  have hDD : ∀ c, c ∈ Cs → (D c).length ≤ 1000 ∧ ∀ n, n ∈ D c → n ≤ 1000 ∧ (S c n).length ≤ 1000 := fun c hc => by
    obtain ⟨s1, s2⟩ := hS c hc
    have hnd : (D c).Nodup := by
      obtain ⟨V, q, m, _, h⟩ := hmw.ex
      exact (h c hc).2.2.1.nodup
    refine ⟨?_, fun n hnD => ?_⟩
    · have hsub : (D c).length ≤ (((es.map Ent.it).filter fun it => it.code == c).map fun it => it.d.length).length := nodup_len (D c) _ hnd (fun x hx => by
        obtain ⟨it, hit, hx⟩ := (s1 x).1 hx
        exact List.mem_map.2 ⟨it, hit, hx⟩)
      rw [List.length_map] at hsub
      exact Nat.le_trans hsub (hfl _)
    · obtain ⟨it, hit, hx⟩ := (s1 n).1 hnD
      refine ⟨by rw [← hx]; exact (hits it (List.mem_filter.1 hit).1).small, ?_⟩
      rw [(s2 n hnD).1.length_eq, List.length_map]
      exact Nat.le_trans (List.length_filter_le _ _) (hfl _)
  refine (written_mis w' pb (fun X => ∃ H, Wrt Cs D S H ∧ X = mhiB H) (fun b V l' hb hV hl' => ?_)).mono ?_
  · refine (misMarshal_any hV pb mm _ Cs D S hp' hmw hCl hC64 hDD hl').mono ?_
    rintro e2 w2 ⟨H, a1, a3, a4, _⟩
    exact ⟨_, _, ⟨H, a1, rfl⟩, a3, a4⟩
  · rintro e2 w2 ⟨X, ⟨H, a1, rfl⟩, b1, b2⟩
    refine ⟨_, Or.inr ⟨rfl, H, ?_, rfl⟩, b1, b2⟩
    have hrows : (es.map fun e => (e.code, e.it.rw)) = (es.map Ent.it).map fun it => (it.code, it.rw) := by
      rw [List.map_map]; rfl
    rw [hrows]
    exact cgrp_made _ Cs D S H a1 hC hS

set_option maxRecDepth 100000 in
theorem new_mis (w : World) : Calls Tryz.prog 38 #[.int .u64 1025] w fun e w' => ∃ pb mm, e = .returned (.tuple #[.iface 124 (.pointer (some ⟨pb, 0, none⟩)), .nilIface]) ∧ w'.cell? ⟨pb, 0, none⟩ = some (.map (some mm)) ∧ Mp Tryz.prog 23 .u64 w' mm 0 [] (fun _ => undef) ∧ Off [] w w' ∧ w.heap.size ≤ pb ∧ w.heap.size ≤ mm ∧ pb ≠ mm := by
  have hmp : Mp Tryz.prog 23 .u64 ((w.alloc (.map #[] 0)).alloc (.cells #[.map (some w.heap.size)] 172)) w.heap.size 0 [] (fun _ => undef) := (Mp.made w _ _ _ _).off (Off.alloc (Off.refl [] _) _) (by simp)
  have hbk := Blk.new' (w.alloc (.map #[] 0)) 172 #[.map (some w.heap.size)] (g := w.heap.size + 1) (by simp)
  have hof : Off [] w ((w.alloc (.map #[] 0)).alloc (.cells #[.map (some w.heap.size)] 172)) := (Off.alloc (Off.refl [] w) _).alloc _
  have HMP := Lib.hid hmp
  have HB := Lib.hid hbk
  have HO := Lib.hid hof
  clear hmp hbk hof
  go_enter Tryz.func38, Tryz.ntmps38
  go_wp2_with (go_at_call 59; refine (newMis_any _).mono ?_; rintro e w1 ⟨rfl, rfl⟩)
  go_ret2
  exact ⟨w.heap.size + 1, w.heap.size, rfl, HB.out.cell 0, HMP.out, HO.out, by omega, Nat.le_refl _, by omega⟩

theorem method_misLoad (a : Addr) (w : World) : (method 472 124 (.pointer (some a)) "Load").run Tryz.prog w = .ok (183, .pointer (some a)) w := by kernel_rfl

set_option maxRecDepth 100000 in
set_option maxHeartbeats 4000000 in
theorem indexBytes_mis (es : List Ent) (A : Option Addr) (ib io c : Nat) (w : World) (hes : ∀ e, e ∈ es → e.ok) (hn : es.length ≤ 1000) (hat : EntsAt w A ib io es) :
    Calls Tryz.prog 23 #[.slice A es.length c, .int .u64 1025] w fun e w' => ∃ s, Enc 1025 (es.map fun e => (e.code, e.it.rw)) s ∧ e = .returned (.tuple #[.string ⟨s.toArray⟩, .bool true]) ∧ Off [] w w' := by
  obtain ⟨n, hnl⟩ : ∃ n, n = es.length := ⟨_, rfl⟩
  obtain ⟨i0, hi, hz0, hz1, hz2⟩ := info_parts Tryz.infoRec
  have hFIN : ∀ (A' : Option Addr) (cap pb mm g : Nat) (W : World), ItemsAt W A' g 0 (es.map Ent.it) → W.cell? ⟨pb, 0, none⟩ = some (.map (some mm)) → pb ≠ mm → Mp Tryz.prog 23 .u64 W mm 0 [] (fun _ => undef) →
      Calls Tryz.prog 183 #[.pointer (some ⟨pb, 0, none⟩), .slice A' n cap] W fun e w' => e = .returned .nilIface ∧ Off [mm] W w' ∧ Calls Tryz.prog 40 #[.iface 124 (.pointer (some ⟨pb, 0, none⟩)), .nilIface] w' fun e w2 => ∃ s, Enc 1025 (es.map fun e => (e.code, e.it.rw)) s ∧ e = .returned (.tuple #[.string ⟨s.toArray⟩, .bool true]) ∧ Off [] w' w2 := fun A' cap pb mm g W h1 h2 h3 h4 => by
    rw [hnl]
    exact fin_mis es hes hn A' cap pb mm g W h1 h2 h3 h4
  have HFIN := Lib.hid hFIN
  have HES := Lib.hid hes
  have HAT := Lib.hid hat
  have HNL := Lib.hid hnl
  have hm1 := method_misLoad
  rw [← hnl]
  have hn1000 : n ≤ 1000 := by omega
  clear hFIN hes hat hnl hn
  go_enter Tryz.func23, Tryz.ntmps23
  go_wp2_with (go_at_call 38; refine (new_mis _).mono ?_; rintro e w1 ⟨pb, mm, rfl, hp1, hm1', ho1, hpb, hmm, hpm⟩; have HP1 := Lib.hid hp1; have HM1 := Lib.hid hm1'; have HO1 := Lib.hid ho1; clear hp1 hm1' ho1)
  go_loopg [8, 22] n (fun kx s8 s22 wr => ∃ (i : Nat) (A' : Option Addr) (cap : Nat), s22 = .int .i64 (i : Int) ∧ s8 = .slice A' i cap ∧ i ≤ n ∧ n - i ≤ kx ∧ Hid (Off [] w1 wr ∧ RecsAt w1 wr A' cap ((es.take i).map Ent.it)))
  case atStart => exact ⟨0, none, 0, rfl, rfl, Nat.zero_le _, Nat.le_refl _, Lib.hid ⟨Off.refl _ _, Or.inl ⟨by simp, rfl, rfl⟩⟩⟩
  case round =>
    rename World => wr
    obtain ⟨i, A', cap, rfl, rfl, hin, hkx, hh⟩ := hrel
    by_cases hlt : i < n
    · have hltz : (i : Int) < (n : Int) := by omega
      obtain ⟨hO, hR⟩ := hh.out
      have hie : i < es.length := by rw [← HNL.out]; exact hlt
      have hat := (HAT.out.off HO1.out (by simp)).off hO (by simp)
      obtain ⟨hA, hib⟩ := hat.at_ (by omega)
      obtain ⟨c0, c1, c2, c3, c4⟩ := hat.cells i hie
      obtain ⟨ent, hent⟩ : ∃ ent, ent = es[i] := ⟨_, rfl⟩
      rw [← hent] at c0 c1 c2 c3 c4
      have hok : ent.ok := HES.out ent (by rw [hent]; exact List.getElem_mem _)
      have htk : (es.take (i + 1)).map Ent.it = (es.take i).map Ent.it ++ [ent.it] := by
        rw [List.take_succ_eq_append_getElem hie, List.map_append, hent]; rfl
      have htl : ((es.take i).map Ent.it).length = i := by rw [List.length_map, List.length_take, Nat.min_eq_left (by omega)]
      have hown : ∀ W, Off [] wr W → W.ownsRow 0 82 2 (.slice A' i cap) i (flatI ((es.take i).map Ent.it)) := fun W ho => by
        have := hR.owns ho
        rwa [htl] at this
      have HOWN := Lib.hid hown
      have hfl : (flatI ((es.take i).map Ent.it)).length = i * 2 := by rw [flatI_length, htl]
      have HFL := Lib.hid hfl
      have HTL := Lib.hid htl
      have HTK := Lib.hid htk
      obtain ⟨os, hos⟩ : ∃ os : ByteArray, os = ent.it.s := ⟨_, rfl⟩
      have hci : ∀ W, Calls Tryz.prog 39 #[.agg #[.int .u64 (ent.ver : Int), .int .u64 (ent.codec : Int), .int .u64 (ent.code : Int), .string ent.dg]] W fun r w' => r = .returned (.tuple #[.agg #[.string os], .bool true]) ∧ Below W.heap.size W w' := fun W => by rw [hos]; exact cidIn_ent ent hok W
      have HCI := Lib.hid hci
      have HOS := Lib.hid hos
      obtain ⟨xv, hxv⟩ : ∃ xv : Array Value, xv = #[.int .u64 (ent.ver : Int), .int .u64 (ent.codec : Int), .int .u64 (ent.code : Int), .string ent.dg, .int .u64 (ent.off : Int)] := ⟨_, rfl⟩
      have hX := Blk.new' wr 27 #[.int .u64 (ent.ver : Int), .int .u64 (ent.codec : Int), .int .u64 (ent.code : Int), .string ent.dg, .int .u64 (ent.off : Int)] rfl
      have HX := Lib.hid hX
      have hALX : Off [] wr (wr.alloc (.cells #[.int .u64 (ent.ver : Int), .int .u64 (ent.codec : Int), .int .u64 (ent.code : Int), .string ent.dg, .int .u64 (ent.off : Int)] 27)) := Off.alloc (Off.refl [] wr) _
      have HALX := Lib.hid hALX
      have HOK := Lib.hid hok
      have HR := Lib.hid hR
      have HO := Lib.hid hO
      subst hA
      clear hh hat hent hok htk htl hR hO hown hfl hci hos hxv xv hX hALX
      go_wp2_with (first
        | (go_at_call 39; refine (HCI.out _).mono ?_; rintro e w2 ⟨rfl, hb2⟩
           have hX2 := HX.out.below hb2 (HX.out.lt)
           have hx4 : (w2.alloc (.cells #[.string os] 78)).cell? ⟨wr.heap.size, 4, none⟩ = some (.int .u64 (ent.off : Int)) := (hX2.alloc _).cell 4
           have hcs : (w2.alloc (.cells #[.string os] 78)).cell? ⟨w2.heap.size, 0, none⟩ = some (.string os) := (Blk.new' w2 78 #[.string os] rfl).cell 0
           have hO2 : Off [] wr (w2.alloc (.cells #[.string os] 78)) := (HALX.out.then (Off.ofBelow (S := []) hb2) (fun x hx => by simp at hx)).alloc _
           have HO2 := Lib.hid hO2
           have HNEW := Lib.hid (news_alloc (w2.alloc (.cells #[.string os] 78)) [.string os, .int .u64 (ent.off : Int)] 82)
           clear hO2 hX2 hb2)
        | (at_builtin; refine wpList_append_blk rfl _ _ 76 rfl 82 i0 _ 2 24 Tryz.underlying76 hi hz0 hz1 hz2 rfl (by decide) (.slice A' i cap) i (flatI ((es.take i).map Ent.it)) HFL.out rfl
             (HOWN.out _ (HO2.out.alloc _)) ⟨w2.heap.size + 1, 0, none⟩ 1 [.string os, .int .u64 (ent.off : Int)] rfl rfl (by have := HNEW.out; rw [size_alloc] at this; exact this) (oneR _ _ _) (by unfold maxLen; omega) (by omega) ?_
           intro g' cap' sp' w5 hb5 q1 q2 q3 hg5 ho5 hown5
           have HQ3 := Lib.hid q3; have HG5 := Lib.hid hg5; clear q3 hg5 hown5))
      go_roundg (n - (i + 1))
      case measure => omega
      case rel =>
        have hR := HR.out
        have hown := hR.own (n := i)
        have ho5' := ho5.out (Value.slice A' i cap).ownBlock.toList (fun g hg => by simp [hg])
        have hO5 : Off [] w1 w5 := (HO.out.then (HO2.out.alloc _) (fun x hx => by simp at hx)).then ho5' (fun x hx => Or.inr (hown x (by simpa using hx)))
        have htk1 : ((es.take (i + 1)).map Ent.it).length = i + 1 := by rw [HTK.out, List.length_append, HTL.out]; rfl
        have hsz := (HO.out.then (HO2.out.alloc (.cells #[.string os, .int .u64 (ent.off : Int)] 82)) (fun x hx => by simp at hx)).size
        refine ⟨i + 1, some ⟨g', 0, none⟩, cap', by go_num, rfl, by omega, Nat.le_refl _, Lib.hid ⟨hO5, Or.inr ⟨g', sp', rfl, ?_, ?_, ?_, ?_, q2⟩⟩⟩
        · rcases HG5.out with h | h
          · exact hown g' h
          · rw [h]; exact hsz
        · have h1 := hb5.out
          rw [HTK.out, flatI_append]
          have h2 : flatI [ent.it] = [.string os, .int .u64 (ent.off : Int)] := by rw [HOS.out]; rfl
          rw [h2]
          exact h1
        · rw [htk1]; exact HQ3.out
        · rw [htk1]; exact q1
    · obtain rfl : i = n := by omega
      have hltz : ¬ (i : Int) < (i : Int) := by omega
      obtain ⟨hO, hR⟩ := hh.out
      rw [List.take_of_length_le (by rw [← HNL.out]; exact Nat.le_refl _)] at hR
      obtain ⟨g, hit⟩ := hR.items
      have hmlt : mm < w1.heap.size := HM1.out.lt
      have HL := Lib.hid (HFIN.out A' cap pb mm g wr hit (hO.cell HP1.out (by simp)) hpm (HM1.out.off hO (by simp)))
      have HO := Lib.hid hO
      clear hO hR hit hh
      go_wp2_with (first
        | (go_at_call 183; refine HL.out.mono ?_; rintro e w5 ⟨rfl, ho5, hwr⟩; have HWR := Lib.hid hwr; have HO5 := Lib.hid ho5; clear hwr ho5)
        | (go_at_call 40; refine HWR.out.mono ?_; rintro e w6 ⟨s, hs, rfl, ho6⟩))
      go_ret2
      exact ⟨s, hs, rfl, ((HO1.out.then HO.out (fun x hx => by simp at hx)).then HO5.out (fun x hx => by simp at hx; right; omega)).then ho6 (fun x hx => by simp at hx)⟩
end Go.Proofs.YtcgggcjmmphldaaGreatDoor
