/-
  laws.zzFits2, zzFits6, zzFits5, zzFits4 over files in memory.
  laws.wrGood over a file in memory.
  (No condition beyond those that each theorem states.)
-/
import Derived.Test.YthmhnknkidkdlaaGreatDoorB31
import Derived.Test.YthmhnknkidkdlaaGreatDoorB35
import Derived.Deep.LoopGhost
namespace Go.Proofs.YthmhnknkidkdlaaGreatDoor
open Go.RowKit

def fitC (es : List Ent) : Bool := decide (es.length ≤ 2147483647) && es.all fun e => decide (e.dg.size ≤ 2147483647)
def fitK (bs : List Bk) : Bool := decide (bs.length ≤ 2147483647) && bs.all fun e => (decide (e.1.dg.size ≤ 2147483647) && decide (e.2.size ≤ 2147483647))

theorem zzFits1_off (ver codec code : Nat) (dg : ByteArray) (w : World) :
    Calls Tryz.prog 19 #[.agg #[.int .u64 (ver : Int), .int .u64 (codec : Int), .int .u64 (code : Int), .string dg]] w fun e w' => e = .returned (.bool (decide (dg.size ≤ 2147483647))) ∧ Off [] w w' := by
  refine (zzFits1_any ver codec code dg w).mono ?_
  rintro e w1 ⟨h, hb⟩
  exact ⟨h, Off.ofBelow (S := []) hb⟩

set_option maxRecDepth 100000 in
set_option maxHeartbeats 4000000 in
theorem zzFits2_any (es : List Ent) (A : Option Addr) (ib io c n : Nat) (w : World) (hn : es.length = n) (hat : CidsAt w A ib io es) :
    Calls Tryz.prog 9 #[.slice A n c] w fun r w' => r = .returned (.bool (fitC es)) ∧ Off [] w w' := by
  obtain ⟨F, hF⟩ : ∃ F, F = fitC es := ⟨_, rfl⟩
  rw [← hF]
  have HF := Lib.hid hF
  clear hF
  have HAT := Lib.hid hat
  have HN := Lib.hid hn
  clear hat hn
  by_cases hbig : n ≤ 2147483647
  · go_enter Tryz.func9, Tryz.ntmps9
    go_wp2_with fail
    go_loopg [10] n (fun kx s10 wr => ∃ j : Nat, s10 = .int .i64 (j : Int) ∧ j ≤ n ∧ n - j ≤ kx ∧ Hid (Off [] w wr) ∧ Hid (∀ e, e ∈ es.take j → decide (e.dg.size ≤ 2147483647) = true))
    case atStart => exact ⟨0, rfl, Nat.zero_le _, by omega, Lib.hid (Off.refl [] w), Lib.hid (fun e he => by simp at he)⟩
    case round =>
      rename World => wr
      obtain ⟨j, rfl, hjn, hkx, HO, HA⟩ := hrel
      by_cases hlt : j < n
      · have hie : j < es.length := by have := HN.out; omega
        have hat := HAT.out.off HO.out (by simp)
        obtain ⟨hA, hib⟩ := hat.at_ (by omega)
        obtain ⟨c0, c1, c2, c3⟩ := hat.cells j hie
        obtain ⟨ent, hent⟩ : ∃ ent, ent = es[j] := ⟨_, rfl⟩
        rw [← hent] at c0 c1 c2 c3
        have HZ := Lib.hid fun W => zzFits1_off ent.ver ent.codec ent.code ent.dg W
        have HM := Lib.hid (show ent ∈ es by rw [hent]; exact List.getElem_mem _)
        have HTK := Lib.hid (show es.take (j + 1) = es.take j ++ [ent] by rw [List.take_succ_eq_append_getElem hie, hent])
        obtain ⟨B, hB⟩ : ∃ B, B = decide (ent.dg.size ≤ 2147483647) := ⟨_, rfl⟩
        rw [← hB] at HZ
        have HB0 := Lib.hid hB
        clear hent hat hB
        subst hA
        cases B
        · go_wp2_with (go_at_call 19; refine (HZ.out _).mono ?_; rintro r w1 ⟨rfl, hb⟩; have HB := Lib.hid (Off.then (Off.alloc HO.out _) hb (fun x hx => by simp at hx)); clear hb)
          go_ret
          refine ⟨?_, HB.out⟩
          have : fitC es = false := by
            unfold fitC
            rw [Bool.and_eq_false_iff]
            exact Or.inr (List.all_eq_false.2 ⟨ent, HM.out, by rw [← HB0.out]; decide⟩)
          rw [HF.out, this]
          rfl
        · go_wp2_with (go_at_call 19; refine (HZ.out _).mono ?_; rintro r w1 ⟨rfl, hb⟩; have HB := Lib.hid (Off.then (Off.alloc HO.out _) hb (fun x hx => by simp at hx)); clear hb)
          go_roundg (n - (j + 1))
          case measure => omega
          case rel =>
            refine ⟨j + 1, rfl, by omega, by omega, HB, Lib.hid fun x hx => ?_⟩
            rw [HTK.out] at hx
            rcases List.mem_append.1 hx with hx | hx
            · exact HA.out x hx
            · rw [List.mem_singleton.1 hx]; exact HB0.out.symm
      · obtain rfl : j = n := by omega
        go_wp2_with fail
        go_ret
        refine ⟨?_, HO.out⟩
        have hl := HN.out
        have : fitC es = true := by
          unfold fitC
          rw [Bool.and_eq_true, decide_eq_true_eq]
          refine ⟨by omega, List.all_eq_true.2 fun e he => HA.out e ?_⟩
          rw [List.take_of_length_le (by omega)]
          exact he
        rw [HF.out, this]
        rfl
  · go_enter Tryz.func9, Tryz.ntmps9
    go_wp2_with fail
    go_ret
    refine ⟨?_, Off.refl [] w⟩
    have hl := HN.out
    have : fitC es = false := by
      unfold fitC
      rw [Bool.and_eq_false_iff]
      exact Or.inl (decide_eq_false (by omega))
    rw [HF.out, this]
    rfl

set_option maxRecDepth 100000 in
set_option maxHeartbeats 2000000 in
theorem zzFits6_any (b : Bk) (w : World) :
    Calls Tryz.prog 20 #[.agg #[.int .u64 (b.1.ver : Int), .int .u64 (b.1.codec : Int), .int .u64 (b.1.code : Int), .string b.1.dg, .string b.2]] w fun r w' => r = .returned (.bool (decide (b.1.dg.size ≤ 2147483647) && decide (b.2.size ≤ 2147483647))) ∧ Off [] w w' := by
  have HZ := Lib.hid fun W => zzFits1_off b.1.ver b.1.codec b.1.code b.1.dg W
  have hA : Off [] w (w.alloc (.cells #[.int .u64 (b.1.ver : Int), .int .u64 (b.1.codec : Int), .int .u64 (b.1.code : Int), .string b.1.dg, .string b.2] 44)) := (Off.refl [] w).alloc _
  have hB := Blk.new w 44 #[.int .u64 (b.1.ver : Int), .int .u64 (b.1.codec : Int), .int .u64 (b.1.code : Int), .string b.1.dg, .string b.2]
  have HB := Lib.hid hB
  have HA := Lib.hid hA
  clear hA hB
  obtain ⟨B, hB⟩ : ∃ B, B = decide (b.1.dg.size ≤ 2147483647) := ⟨_, rfl⟩
  rw [← hB] at HZ ⊢
  clear hB
  by_cases hd : b.2.size ≤ 2147483647
  · have hd2 : ¬ (2147483647 < (b.2.size : Int)) := by omega
    rw [decide_eq_true hd, Bool.and_true]
    clear hd
    cases B
    all_goals
      go_enter Tryz.func20, Tryz.ntmps20
      go_wp2_with (go_at_call 19; refine (HZ.out _).mono ?_; rintro r w1 ⟨rfl, hb⟩; have c4 := (hb.blk HB.out (by simp)).cell 4; simp at c4; have HO := Lib.hid (HA.out.then hb (fun x hx => by simp at hx)); clear hb)
      go_ret
      exact ⟨rfl, HO.out⟩
  · have hd2 : (2147483647 : Int) < (b.2.size : Int) := by omega
    rw [decide_eq_false hd, Bool.and_false]
    clear hd
    cases B
    all_goals
      go_enter Tryz.func20, Tryz.ntmps20
      go_wp2_with (go_at_call 19; refine (HZ.out _).mono ?_; rintro r w1 ⟨rfl, hb⟩; have c4 := (hb.blk HB.out (by simp)).cell 4; simp at c4; have HO := Lib.hid (HA.out.then hb (fun x hx => by simp at hx)); clear hb)
      go_ret
      exact ⟨rfl, HO.out⟩

set_option maxRecDepth 100000 in
set_option maxHeartbeats 4000000 in
theorem zzFits5_any (es : List Bk) (A : Option Addr) (ib io c n : Nat) (w : World) (hn : es.length = n) (hat : BlosAt w A ib io es) :
    Calls Tryz.prog 10 #[.slice A n c] w fun r w' => r = .returned (.bool (fitK es)) ∧ Off [] w w' := by
  obtain ⟨F, hF⟩ : ∃ F, F = fitK es := ⟨_, rfl⟩
  rw [← hF]
  have HF := Lib.hid hF
  clear hF
  have HAT := Lib.hid hat
  have HN := Lib.hid hn
  clear hat hn
  by_cases hbig : n ≤ 2147483647
  · go_enter Tryz.func10, Tryz.ntmps10
    go_wp2_with fail
    go_loopg [10] n (fun kx s10 wr => ∃ j : Nat, s10 = .int .i64 (j : Int) ∧ j ≤ n ∧ n - j ≤ kx ∧ Hid (Off [] w wr) ∧ Hid (∀ e, e ∈ es.take j → (decide (e.1.dg.size ≤ 2147483647) && decide (e.2.size ≤ 2147483647)) = true))
    case atStart => exact ⟨0, rfl, Nat.zero_le _, by omega, Lib.hid (Off.refl [] w), Lib.hid (fun e he => by simp at he)⟩
    case round =>
      rename World => wr
      obtain ⟨j, rfl, hjn, hkx, HO, HA⟩ := hrel
      by_cases hlt : j < n
      · have hie : j < es.length := by have := HN.out; omega
        have hat := HAT.out.off HO.out (by simp)
        obtain ⟨hA, hib⟩ := hat.at_ (by omega)
        obtain ⟨c0, c1, c2, c3, c4⟩ := hat.cells j hie
        obtain ⟨ent, hent⟩ : ∃ ent, ent = es[j] := ⟨_, rfl⟩
        rw [← hent] at c0 c1 c2 c3 c4
        have HZ := Lib.hid fun W => zzFits6_any ent W
        have HM := Lib.hid (show ent ∈ es by rw [hent]; exact List.getElem_mem _)
        have HTK := Lib.hid (show es.take (j + 1) = es.take j ++ [ent] by rw [List.take_succ_eq_append_getElem hie, hent])
        obtain ⟨B, hB⟩ : ∃ B, B = (decide (ent.1.dg.size ≤ 2147483647) && decide (ent.2.size ≤ 2147483647)) := ⟨_, rfl⟩
        rw [← hB] at HZ
        have HB0 := Lib.hid hB
        clear hent hat hB
        subst hA
        cases B
        · go_wp2_with (go_at_call 20; refine (HZ.out _).mono ?_; rintro r w1 ⟨rfl, hb⟩; have HB := Lib.hid (Off.then (Off.alloc HO.out _) hb (fun x hx => by simp at hx)); clear hb)
          go_ret
          refine ⟨?_, HB.out⟩
          have : fitK es = false := by
            unfold fitK
            rw [Bool.and_eq_false_iff]
            exact Or.inr (List.all_eq_false.2 ⟨ent, HM.out, by rw [← HB0.out]; decide⟩)
          rw [HF.out, this]
          rfl
        · go_wp2_with (go_at_call 20; refine (HZ.out _).mono ?_; rintro r w1 ⟨rfl, hb⟩; have HB := Lib.hid (Off.then (Off.alloc HO.out _) hb (fun x hx => by simp at hx)); clear hb)
          go_roundg (n - (j + 1))
          case measure => omega
          case rel =>
            refine ⟨j + 1, rfl, by omega, by omega, HB, Lib.hid fun x hx => ?_⟩
            rw [HTK.out] at hx
            rcases List.mem_append.1 hx with hx | hx
            · exact HA.out x hx
            · rw [List.mem_singleton.1 hx]; exact HB0.out.symm
      · obtain rfl : j = n := by omega
        go_wp2_with fail
        go_ret
        refine ⟨?_, HO.out⟩
        have hl := HN.out
        have : fitK es = true := by
          unfold fitK
          rw [Bool.and_eq_true, decide_eq_true_eq]
          refine ⟨by omega, List.all_eq_true.2 fun e he => HA.out e ?_⟩
          rw [List.take_of_length_le (by omega)]
          exact he
        rw [HF.out, this]
        rfl
  · go_enter Tryz.func10, Tryz.ntmps10
    go_wp2_with fail
    go_ret
    refine ⟨?_, Off.refl [] w⟩
    have hl := HN.out
    have : fitK es = false := by
      unfold fitK
      rw [Bool.and_eq_false_iff]
      exact Or.inl (decide_eq_false (by omega))
    rw [HF.out, this]
    rfl

set_option maxRecDepth 100000 in
set_option maxHeartbeats 2000000 in
theorem zzFits4_any (rs : List Ent) (bs : List Bk) (A B : Option Addr) (ib io jb jo c c2 n m : Nat) (w : World) (hn : rs.length = n) (hm : bs.length = m) (hat : CidsAt w A ib io rs) (hbt : BlosAt w B jb jo bs) :
    Calls Tryz.prog 4 #[.agg #[.slice A n c, .slice B m c2]] w fun r w' => r = .returned (.bool (fitC rs && fitK bs)) ∧ Off [] w w' := by
  have hA : Off [] w (w.alloc (.cells #[.slice A n c, .slice B m c2] 25)) := (Off.refl [] w).alloc _
  have hB := Blk.new w 25 #[.slice A n c, .slice B m c2]
  have H2 := Lib.hid fun W (h : Off [] w W) => zzFits2_any rs A ib io c n W hn (hat.off h (by simp))
  have H5 := Lib.hid fun W (h : Off [] w W) => zzFits5_any bs B jb jo c2 m W hm (hbt.off h (by simp))
  have HB := Lib.hid hB
  have HA := Lib.hid hA
  clear hA hB hat hbt hn hm
  obtain ⟨F, hF⟩ : ∃ F, F = fitC rs := ⟨_, rfl⟩
  obtain ⟨G, hG⟩ : ∃ G, G = fitK bs := ⟨_, rfl⟩
  rw [← hF] at H2 ⊢
  rw [← hG] at H5 ⊢
  clear hF hG
  cases F with
  | false =>
    go_enter Tryz.func4, Tryz.ntmps4
    go_wp2_with (go_at_call 9; refine (H2.out _ HA.out).mono ?_; rintro r w1 ⟨rfl, hb⟩; have HO := Lib.hid (HA.out.then hb (fun x hx => by simp at hx)); clear hb)
    go_ret
    exact ⟨rfl, HO.out⟩
  | true =>
    cases G
    all_goals
      go_enter Tryz.func4, Tryz.ntmps4
      go_wp2_with (first
        | (go_at_call 9; refine (H2.out _ HA.out).mono ?_; rintro r w1 ⟨rfl, hb⟩; have c1 := (hb.blk HB.out (by simp)).cell 1; simp at c1; have HO := Lib.hid (HA.out.then hb (fun x hx => by simp at hx)); clear hb)
        | (go_at_call 10; refine (H5.out _ HO.out).mono ?_; rintro r w2 ⟨rfl, hb⟩; have HO2 := Lib.hid (HO.out.then hb (fun x hx => by simp at hx)); clear hb))
      go_ret
      exact ⟨rfl, HO2.out⟩
end Go.Proofs.YthmhnknkidkdlaaGreatDoor
namespace Go.Proofs.YthmhnknkidkdlaaGreatDoor
open Go.RowKit

def gdC (e : Ent) : Bool := decide (e.dg.size ≤ 200) && tidyB e.ver e.codec e.code e.dg.size
def gdK (b : Bk) : Bool := decide (b.1.dg.size ≤ 200) && (decide (b.2.size ≤ 32768) && tidyB b.1.ver b.1.codec b.1.code b.1.dg.size)
def wrB (rs : List Ent) (bs : List Bk) : Bool := (decide (rs.length ≤ 50) && decide (bs.length ≤ 50)) && (rs.all gdC && bs.all gdK)
theorem wrB_c {rs : List Ent} {bs : List Bk} {e : Ent} (he : e ∈ rs) (h : gdC e = false) : wrB rs bs = false := by
  unfold wrB
  rw [Bool.and_eq_false_iff]
  refine Or.inr ?_
  rw [Bool.and_eq_false_iff]
  exact Or.inl (List.all_eq_false.2 ⟨e, he, by rw [h]; decide⟩)
theorem wrB_k {rs : List Ent} {bs : List Bk} {e : Bk} (he : e ∈ bs) (h : gdK e = false) : wrB rs bs = false := by
  unfold wrB
  rw [Bool.and_eq_false_iff]
  refine Or.inr ?_
  rw [Bool.and_eq_false_iff]
  exact Or.inr (List.all_eq_false.2 ⟨e, he, by rw [h]; decide⟩)
theorem wrB_ok {rs : List Ent} {bs : List Bk} (h : wrB rs bs = true) (ho : ∀ e, e ∈ rs → e.off = 0) (hk : ∀ b, b ∈ bs → b.1.off = 0) : rs.length ≤ 50 ∧ bs.length ≤ 50 ∧ (∀ e, e ∈ rs → e.ok ∧ e.dg.size ≤ 200) ∧ ∀ b, b ∈ bs → b.ok := by
  unfold wrB at h
  simp only [Bool.and_eq_true, decide_eq_true_eq] at h
  obtain ⟨⟨h1, h2⟩, h3, h4⟩ := h
  refine ⟨h1, h2, fun e he => ?_, fun b hb => ?_⟩
  · have h5 := List.all_eq_true.1 h3 e he
    unfold gdC at h5
    rw [Bool.and_eq_true, decide_eq_true_eq] at h5
    exact ⟨ok_of_tidy h5.2.symm h5.1 (by rw [ho e he]; omega), h5.1⟩
  · have h5 := List.all_eq_true.1 h4 b hb
    unfold gdK at h5
    simp only [Bool.and_eq_true, decide_eq_true_eq] at h5
    exact ⟨ok_of_tidy h5.2.2.symm h5.1 (by rw [hk b hb]; omega), h5.1, h5.2.1⟩
theorem tidy_off (ver codec code : Nat) (dg : ByteArray) (w : World) :
    Calls Tryz.prog 11 #[.agg #[.int .u64 (ver : Int), .int .u64 (codec : Int), .int .u64 (code : Int), .string dg]] w fun e w' => e = .returned (.bool (tidyB ver codec code dg.size)) ∧ Off [] w w' := by
  refine (tidy_any ver codec code dg w).mono ?_
  rintro e w1 ⟨h, hb⟩
  exact ⟨h, Off.ofBelow (S := []) hb⟩

set_option maxRecDepth 100000 in
set_option maxHeartbeats 4000000 in
theorem wrGood_any (rs : List Ent) (bs : List Bk) (A B : Option Addr) (ib io jb jo c c2 n m : Nat) (w : World) (hn : rs.length = n) (hm : bs.length = m) (hat : CidsAt w A ib io rs) (hbt : BlosAt w B jb jo bs) :
    Calls Tryz.prog 5 #[.agg #[.slice A n c, .slice B m c2]] w fun r w' => r = .returned (.bool (wrB rs bs)) ∧ Off [] w w' := by
  obtain ⟨F, hF⟩ : ∃ F, F = wrB rs bs := ⟨_, rfl⟩
  rw [← hF]
  have HF := Lib.hid hF
  have hA : Off [] w (w.alloc (.cells #[.slice A n c, .slice B m c2] 25)) := (Off.refl [] w).alloc _
  have hB := Blk.new w 25 #[.slice A n c, .slice B m c2]
  have HAT := Lib.hid hat
  have HBT := Lib.hid hbt
  have HN := Lib.hid hn
  have HM := Lib.hid hm
  have HB := Lib.hid hB
  have HA := Lib.hid hA
  clear hA hB hat hbt hn hm hF
  by_cases h1 : n ≤ 50
  · by_cases h2 : m ≤ 50
    · have h1' : (n : Int) ≤ 50 := by omega
      have h2' : (m : Int) ≤ 50 := by omega
      go_enter Tryz.func5, Tryz.ntmps5
      go_wp2_with fail
      go_loopg [20] n (fun kx s20 wr => ∃ j : Nat, s20 = .int .i64 (j : Int) ∧ j ≤ n ∧ n - j ≤ kx ∧ Hid (Off [] (w.alloc (.cells #[.slice A n c, .slice B m c2] 25)) wr) ∧ Hid (∀ e, e ∈ rs.take j → gdC e = true))
      case atStart => exact ⟨0, rfl, Nat.zero_le _, by omega, Lib.hid (Off.refl [] _), Lib.hid (fun e he => by simp at he)⟩
      case round =>
        rename World => wr
        obtain ⟨j, rfl, hjn, hkx, HO, HG⟩ := hrel
        by_cases hlt : j < n
        · have hie : j < rs.length := by have := HN.out; omega
          have hat := (HAT.out.off HA.out (by simp)).off HO.out (by simp)
          obtain ⟨hA, hib⟩ := hat.at_ (by omega)
          obtain ⟨c0, c1, c2', c3⟩ := hat.cells j hie
          obtain ⟨ent, hent⟩ : ∃ ent, ent = rs[j] := ⟨_, rfl⟩
          rw [← hent] at c0 c1 c2' c3
          have HME := Lib.hid (show ent ∈ rs by rw [hent]; exact List.getElem_mem _)
          have HTK := Lib.hid (show rs.take (j + 1) = rs.take j ++ [ent] by rw [List.take_succ_eq_append_getElem hie, hent])
          have HT := Lib.hid fun W => tidy_off ent.ver ent.codec ent.code ent.dg W
          obtain ⟨T, hT⟩ : ∃ T, T = tidyB ent.ver ent.codec ent.code ent.dg.size := ⟨_, rfl⟩
          rw [← hT] at HT
          have HTT := Lib.hid hT
          clear hent hat hT
          subst hA
          by_cases hz : ent.dg.size ≤ 200
          · have hz2 : (ent.dg.size : Int) ≤ 200 := by omega
            have HZ := Lib.hid hz
            clear hz
            cases T
            · go_wp2_with (go_at_call 11; refine (HT.out _).mono ?_; rintro r w1 ⟨rfl, hb⟩; have HO1 := Lib.hid (Off.then (Off.alloc HO.out _) hb (fun x hx => by simp at hx)); clear hb)
              go_ret
              refine ⟨?_, HA.out.then HO1.out (fun x hx => by simp at hx)⟩
              rw [HF.out, wrB_c HME.out (by unfold gdC; rw [← HTT.out, Bool.and_false])]
              rfl
            · go_wp2_with (go_at_call 11; refine (HT.out _).mono ?_; rintro r w1 ⟨rfl, hb⟩; have HO1 := Lib.hid (Off.then (Off.alloc HO.out _) hb (fun x hx => by simp at hx)); clear hb)
              go_roundg (n - (j + 1))
              case measure => omega
              case rel =>
                refine ⟨j + 1, rfl, by omega, by omega, HO1, Lib.hid ?_⟩
                rw [HTK.out]
                intro e he
                rcases List.mem_append.1 he with he | he
                · exact HG.out e he
                · rw [List.mem_singleton.1 he]
                  unfold gdC
                  rw [← HTT.out, decide_eq_true HZ.out]; rfl
          · have hz2 : ¬ (ent.dg.size : Int) ≤ 200 := by omega
            have HZ := Lib.hid hz
            clear hz
            go_wp2_with fail
            go_ret
            refine ⟨?_, (HA.out.then HO.out (fun x hx => by simp at hx)).alloc _⟩
            rw [HF.out, wrB_c HME.out (by unfold gdC; rw [decide_eq_false HZ.out, Bool.false_and])]
            rfl
        · obtain rfl : j = n := by omega
          have k1 := (HO.out.blk HB.out (by simp)).cell 1
          simp at k1
          have HOA := Lib.hid (HA.out.then HO.out (fun x hx => by simp at hx))
          have HGR := Lib.hid (show ∀ e, e ∈ rs → gdC e = true from fun e he => HG.out e (by rw [List.take_of_length_le (by have := HN.out; omega)]; exact he))
          clear HG
          go_wp2_with fail
          go_loopg [37] m (fun kx s37 wq => ∃ i : Nat, s37 = .int .i64 (i : Int) ∧ i ≤ m ∧ m - i ≤ kx ∧ Hid (Off [] wr wq) ∧ Hid (∀ e, e ∈ bs.take i → gdK e = true))
          case atStart => exact ⟨0, rfl, Nat.zero_le _, by omega, Lib.hid (Off.refl [] _), Lib.hid (fun e he => by simp at he)⟩
          case round =>
            rename World => wq
            obtain ⟨i, rfl, him, hkm, HP, HG⟩ := hrel
            by_cases hlt2 : i < m
            · have hie : i < bs.length := by have := HM.out; omega
              have hat := (HBT.out.off HOA.out (by simp)).off HP.out (by simp)
              obtain ⟨hA, hib⟩ := hat.at_ (by omega)
              obtain ⟨c0, c1, c2', c3, c4⟩ := hat.cells i hie
              obtain ⟨bk, hbk⟩ : ∃ bk, bk = bs[i] := ⟨_, rfl⟩
              rw [← hbk] at c0 c1 c2' c3 c4
              have HME := Lib.hid (show bk ∈ bs by rw [hbk]; exact List.getElem_mem _)
              have HTK := Lib.hid (show bs.take (i + 1) = bs.take i ++ [bk] by rw [List.take_succ_eq_append_getElem hie, hbk])
              obtain ⟨ent, data⟩ := bk
              have HT := Lib.hid fun W => tidy_off ent.ver ent.codec ent.code ent.dg W
              obtain ⟨T, hT⟩ : ∃ T, T = tidyB ent.ver ent.codec ent.code ent.dg.size := ⟨_, rfl⟩
              rw [← hT] at HT
              have HTT := Lib.hid hT
              clear hbk hat hT
              subst hA
              by_cases hz : ent.dg.size ≤ 200
              · have hz2 : (ent.dg.size : Int) ≤ 200 := by omega
                have HZ := Lib.hid hz
                clear hz
                by_cases hy : data.size ≤ 32768
                · have hy2 : (data.size : Int) ≤ 32768 := by omega
                  have HY := Lib.hid hy
                  clear hy
                  cases T
                  · go_wp2_with (go_at_call 11; refine (HT.out _).mono ?_; rintro r w1 ⟨rfl, hb⟩; have HO1 := Lib.hid (Off.then (Off.alloc HP.out _) hb (fun x hx => by simp at hx)); clear hb)
                    go_ret
                    refine ⟨?_, HOA.out.then HO1.out (fun x hx => by simp at hx)⟩
                    rw [HF.out, wrB_k HME.out (by unfold gdK; rw [← HTT.out, Bool.and_false, Bool.and_false])]
                    rfl
                  · go_wp2_with (go_at_call 11; refine (HT.out _).mono ?_; rintro r w1 ⟨rfl, hb⟩; have HO1 := Lib.hid (Off.then (Off.alloc HP.out _) hb (fun x hx => by simp at hx)); clear hb)
                    go_roundg (m - (i + 1))
                    case measure => omega
                    case rel =>
                      refine ⟨i + 1, rfl, by omega, by omega, HO1, Lib.hid ?_⟩
                      rw [HTK.out]
                      intro e he
                      rcases List.mem_append.1 he with he | he
                      · exact HG.out e he
                      · rw [List.mem_singleton.1 he]
                        unfold gdK
                        rw [← HTT.out, decide_eq_true HZ.out, decide_eq_true HY.out]; rfl
                · have hy2 : ¬ (data.size : Int) ≤ 32768 := by omega
                  have HY := Lib.hid hy
                  clear hy
                  go_wp2_with fail
                  go_ret
                  refine ⟨?_, (HOA.out.then HP.out (fun x hx => by simp at hx)).alloc _⟩
                  rw [HF.out, wrB_k HME.out (by unfold gdK; rw [decide_eq_false HY.out, Bool.false_and, Bool.and_false])]
                  rfl
              · have hz2 : ¬ (ent.dg.size : Int) ≤ 200 := by omega
                have HZ := Lib.hid hz
                clear hz
                go_wp2_with fail
                go_ret
                refine ⟨?_, (HOA.out.then HP.out (fun x hx => by simp at hx)).alloc _⟩
                rw [HF.out, wrB_k HME.out (by unfold gdK; rw [decide_eq_false HZ.out, Bool.false_and])]
                rfl
            · obtain rfl : i = m := by omega
              go_wp2_with fail
              go_ret
              refine ⟨?_, HOA.out.then HP.out (fun x hx => by simp at hx)⟩
              have hl := HN.out
              have hl2 := HM.out
              have : wrB rs bs = true := by
                unfold wrB
                rw [decide_eq_true (by omega), decide_eq_true (by omega), List.all_eq_true.2 HGR.out, List.all_eq_true.2 fun e he => HG.out e (by rw [List.take_of_length_le (by omega)]; exact he)]
                rfl
              rw [HF.out, this]
              rfl
    · have h1' : (n : Int) ≤ 50 := by omega
      have h2' : ¬ (m : Int) ≤ 50 := by omega
      go_enter Tryz.func5, Tryz.ntmps5
      go_wp2_with fail
      go_ret
      refine ⟨?_, HA.out⟩
      have hl2 := HM.out
      have : wrB rs bs = false := by unfold wrB; rw [decide_eq_false (p := bs.length ≤ 50) (by omega), Bool.and_false, Bool.false_and]
      rw [HF.out, this]
      rfl
  · have h1' : ¬ (n : Int) ≤ 50 := by omega
    go_enter Tryz.func5, Tryz.ntmps5
    go_wp2_with fail
    go_ret
    refine ⟨?_, HA.out⟩
    have hl := HN.out
    have : wrB rs bs = false := by unfold wrB; rw [decide_eq_false (p := rs.length ≤ 50) (by omega), Bool.false_and, Bool.false_and]
    rw [HF.out, this]
    rfl
end Go.Proofs.YthmhnknkidkdlaaGreatDoor
