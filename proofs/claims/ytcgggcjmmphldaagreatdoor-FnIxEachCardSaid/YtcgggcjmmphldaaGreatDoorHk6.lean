/-
  sort.Slice with the closures of spec.Offsets and spec.Codes.
  spec.Offsets: the offsets of the entries that fit, sorted.
  (No condition beyond those that each theorem states.)
-/
import Derived.Test.YtcgggcjmmphldaaGreatDoorHj1
import Derived.Test.YtcgggcjmmphldaaGreatDoorHj2
import Derived.Test.YtcgggcjmmphldaaGreatDoorHa5
namespace Go.Proofs.YtcgggcjmmphldaaGreatDoor
open Go.Shelf Go.RowKit Go.Lib Go.Sort

set_option maxHeartbeats 2000000 in
set_option maxRecDepth 100000 in
theorem lessU64O (blk off c Bs size : Nat) (W : World) (G : Nat → Int) (hs : W.cell? ⟨Bs, 0, none⟩ = some (.slice (some ⟨blk, off, none⟩) size c))
    (hc : ∀ t, t < size → W.cell? ⟨blk, off + t, none⟩ = some (.int .u64 (G t))) (i j : Nat) (hi : i < size) (hj : j < size) :
    Calls Tryz.prog 30 #[.int .i64 i, .int .i64 j, .pointer (some ⟨Bs, 0, none⟩)] W fun e w' => e = .returned (.bool (decide (G i < G j))) ∧ ∃ q, w' = W.drewN q := by
  have ci := hc i hi
  have cj := hc j hj
  go_enter Tryz.func30, Tryz.ntmps30
  go_wp2
  go_quiet (fail)
  go_wp2
  go_ret
  exact ⟨rfl, nq, rfl⟩

set_option maxHeartbeats 2000000 in
set_option maxRecDepth 100000 in
/-- sort.Slice with the law's closure, at two elements or more. -/
theorem sortU64O (blk off c Bs : Nat) (d : Array Int) (h2 : 2 ≤ d.size) (h12 : d.size < 4611686018427387904) (w : World) (hH : Holds (Value.int .u64) w blk off d) (hblk : blk < w.heap.size) (hb : Blk w Bs 33 #[.slice (some ⟨blk, off, none⟩) d.size c]) (hne : Bs ≠ blk) :
    Calls Tryz.prog 25 #[.iface 33 (.slice (some ⟨blk, off, none⟩) d.size c), .func (.func 30) #[] #[.pointer (some ⟨Bs, 0, none⟩)]] w fun e w' =>
      e = .returned (.tuple #[]) ∧ ∃ n os, w' = grow (putRow (Value.int .u64) (Sort.ahead w n) blk off (srtI d.toList).toArray) os := by
  have hcell : w.cell? ⟨Bs, 0, none⟩ = some (.slice (some ⟨blk, off, none⟩) d.size c) := hb.cell 0
  have hBl := hb.lt
  have hless : LessReads Tryz.prog 30 #[.pointer (some ⟨Bs, 0, none⟩)] (Value.int .u64) ltInt blk off d.size w := by
    intro m os dk hs i j hi hj
    have e : sortWorld (Value.int .u64) w blk off m dk os = putRow (Value.int .u64) (grow (Sort.ahead w m) os) blk off dk := by
      unfold sortWorld; rw [putRow_grow _ (Sort.ahead w m) _ blk off _ hblk]
    have hHg : Holds (Value.int .u64) (grow (Sort.ahead w m) os) blk off d := holds_grow _ _ _ blk off d hblk (holds_ahead _ _ _ _ _ _ hH)
    refine lessU64O blk off c Bs d.size _ (fun t => dk[t]!) ?_ (fun t ht => ?_) i j hi hj
    · rw [e, cell?_putRow_other _ _ blk off dk _ (Or.inl (by show Bs ≠ blk; exact hne)), cell?_grow _ _ _ (by show Bs < w.heap.size; exact hBl)]
      exact hcell
    · rw [e]; exact cell?_putRow _ _ blk off d dk hHg hs t (by omega)
  have hS := Any.sort_Slice_sorted Tryz.laysGg6 33 23 uT uE (by kernel_rfl) (by kernel_rfl) (by kernel_rfl) (by kernel_rfl) 11 (fun _ => by kernel_rfl) (by kernel_rfl) (fun _ => by kernel_rfl) (Value.int .u64) (fun _ => rfl) ltInt swo_ltInt 30 _
    (enters_of Tryz.func30 (by kernel_rfl) rfl) blk off c d h2 h12 71 (by rw [uK _ h2]; kernel_rfl) true
    (fun args W => run_callFunc_extern Tryz.func71 (by kernel_rfl) (by kernel_rfl) (by kernel_rfl) (e := Extern.ReflectliteSwapper.swap true) (by kernel_rfl) args W) _ hless hH hblk
  change Calls Tryz.prog 25 _ _ _ at hS
  refine hS.mono ?_
  rintro e w' ⟨rfl, d', n, os, hp, hso, rfl⟩
  rw [u64_sorted_eq d d' hp hso]
  exact ⟨rfl, n, os, rfl⟩

/-- .. at none or one. -/
theorem sortTinyO (p : Option Addr) (n c Bs : Nat) (h1 : n ≤ 1) (w : World) :
    Calls Tryz.prog 25 #[.iface 33 (.slice p n c), .func (.func 30) #[] #[.pointer (some ⟨Bs, 0, none⟩)]] w fun e w' => e = .returned (.tuple #[]) ∧ ∃ os, w' = grow w os := by
  have h01 : n = 0 ∨ n = 1 := by omega
  rcases h01 with rfl | rfl
  · have hS := Any.sort_Slice_tiny Tryz.laysGg6 33 23 uT uE (by kernel_rfl) (by kernel_rfl) (by kernel_rfl) (by kernel_rfl) 11 (fun _ => by kernel_rfl) p 0 c (by omega) 67 (by rw [show Lib.swapperK 0 uE 11 = 1 by simp [Lib.swapperK]]; kernel_rfl) (.func 30) #[] #[.pointer (some ⟨Bs, 0, none⟩)] w
    exact hS
  · have hS := Any.sort_Slice_tiny Tryz.laysGg6 33 23 uT uE (by kernel_rfl) (by kernel_rfl) (by kernel_rfl) (by kernel_rfl) 11 (fun _ => by kernel_rfl) p 1 c (by omega) 68 (by rw [show Lib.swapperK 1 uE 11 = 2 by simp [Lib.swapperK]]; kernel_rfl) (.func 30) #[] #[.pointer (some ⟨Bs, 0, none⟩)] w
    exact hS

/-- sort.Slice with the law's closure over a row, at every length. -/
theorem sortAllO (blk c Bs n : Nat) (zs : List Int) (sp : List Value) (hn : zs.length = n) (h12 : n ≤ 1000) (w : World) (hB : Blk w blk 23 (zs.map (Value.int .u64) ++ sp).toArray) (hb : Blk w Bs 33 #[.slice (some ⟨blk, 0, none⟩) n c]) (hne : Bs ≠ blk) :
    Calls Tryz.prog 25 #[.iface 33 (.slice (some ⟨blk, 0, none⟩) n c), .func (.func 30) #[] #[.pointer (some ⟨Bs, 0, none⟩)]] w fun e w' =>
      e = .returned (.tuple #[]) ∧ Off [blk] w w' ∧ ∀ j (h : j < (srtI zs).length), w'.cell? ⟨blk, j, none⟩ = some (.int .u64 (srtI zs)[j]) := by
  have hblk := hB.lt
  have hcell : ∀ j (h : j < zs.length), w.cell? ⟨blk, j, none⟩ = some (.int .u64 zs[j]) := fun j h => by
    rw [hB.cell]
    simp [List.getElem?_append, h]
  have hH : Holds (Value.int .u64) w blk 0 zs.toArray := fun j hj => by
    have hj' : j < zs.length := by simpa using hj
    refine ⟨?_, by rw [Nat.zero_add]; exact hB.frozen _⟩
    rw [Nat.zero_add, hcell j hj']
    simp [hj']
  by_cases h2 : 2 ≤ n
  · have h := sortU64O blk 0 c Bs zs.toArray (by simpa [hn] using h2) (by simp [hn]; omega) w hH hblk (by simpa [hn] using hb) hne
    rw [show zs.toArray.size = n by simp [hn]] at h
    refine h.mono ?_
    rintro e w' ⟨rfl, m, os, rfl⟩
    refine ⟨rfl, off_putRow _ _ _ _ _ _, fun j hj => ?_⟩
    have hl : (srtI zs).length = zs.length := srtI_len zs
    have := cell?_grow (putRow (Value.int .u64) (Sort.ahead w m) blk 0 (srtI zs.toArray.toList).toArray) os ⟨blk, j, none⟩ (by simpa [putRow, mapBlock, Sort.ahead] using hblk)
    rw [this]
    have h3 := cell?_putRow (Value.int .u64) (Sort.ahead w m) blk 0 zs.toArray (srtI zs.toArray.toList).toArray (holds_ahead _ _ _ _ _ _ hH) (by simp [hl]) j (by simp; omega)
    rw [Nat.zero_add] at h3
    rw [h3]
    simp [hj]
  · have hm : srtI zs = zs := by
      unfold srtI
      match zs, hn with
      | [], _ => simp
      | [x], _ => simp
      | x :: y :: r, hn => simp at hn; omega
    refine (sortTinyO _ n c Bs (by omega) w).mono ?_
    rintro e w' ⟨rfl, os, rfl⟩
    refine ⟨rfl, (off_grow w os).mono (fun x hx => by simp at hx), fun j hj => ?_⟩
    rw [cell?_grow _ _ _ (by exact hblk)]
    have hj' : j < zs.length := by rw [← srtI_len]; exact hj
    rw [hcell j hj']
    simp [hm]

set_option maxHeartbeats 2000000 in
set_option maxRecDepth 100000 in
theorem lessU64C (blk off c Bs size : Nat) (W : World) (G : Nat → Int) (hs : W.cell? ⟨Bs, 0, none⟩ = some (.slice (some ⟨blk, off, none⟩) size c))
    (hc : ∀ t, t < size → W.cell? ⟨blk, off + t, none⟩ = some (.int .u64 (G t))) (i j : Nat) (hi : i < size) (hj : j < size) :
    Calls Tryz.prog 51 #[.int .i64 i, .int .i64 j, .pointer (some ⟨Bs, 0, none⟩)] W fun e w' => e = .returned (.bool (decide (G i < G j))) ∧ ∃ q, w' = W.drewN q := by
  have ci := hc i hi
  have cj := hc j hj
  go_enter Tryz.func51, Tryz.ntmps51
  go_wp2
  go_quiet (fail)
  go_wp2
  go_ret
  exact ⟨rfl, nq, rfl⟩

set_option maxHeartbeats 2000000 in
set_option maxRecDepth 100000 in
/-- sort.Slice with the law's closure, at two elements or more. -/
theorem sortU64C (blk off c Bs : Nat) (d : Array Int) (h2 : 2 ≤ d.size) (h12 : d.size < 4611686018427387904) (w : World) (hH : Holds (Value.int .u64) w blk off d) (hblk : blk < w.heap.size) (hb : Blk w Bs 33 #[.slice (some ⟨blk, off, none⟩) d.size c]) (hne : Bs ≠ blk) :
    Calls Tryz.prog 25 #[.iface 33 (.slice (some ⟨blk, off, none⟩) d.size c), .func (.func 51) #[] #[.pointer (some ⟨Bs, 0, none⟩)]] w fun e w' =>
      e = .returned (.tuple #[]) ∧ ∃ n os, w' = grow (putRow (Value.int .u64) (Sort.ahead w n) blk off (srtI d.toList).toArray) os := by
  have hcell : w.cell? ⟨Bs, 0, none⟩ = some (.slice (some ⟨blk, off, none⟩) d.size c) := hb.cell 0
  have hBl := hb.lt
  have hless : LessReads Tryz.prog 51 #[.pointer (some ⟨Bs, 0, none⟩)] (Value.int .u64) ltInt blk off d.size w := by
    intro m os dk hs i j hi hj
    have e : sortWorld (Value.int .u64) w blk off m dk os = putRow (Value.int .u64) (grow (Sort.ahead w m) os) blk off dk := by
      unfold sortWorld; rw [putRow_grow _ (Sort.ahead w m) _ blk off _ hblk]
    have hHg : Holds (Value.int .u64) (grow (Sort.ahead w m) os) blk off d := holds_grow _ _ _ blk off d hblk (holds_ahead _ _ _ _ _ _ hH)
    refine lessU64C blk off c Bs d.size _ (fun t => dk[t]!) ?_ (fun t ht => ?_) i j hi hj
    · rw [e, cell?_putRow_other _ _ blk off dk _ (Or.inl (by show Bs ≠ blk; exact hne)), cell?_grow _ _ _ (by show Bs < w.heap.size; exact hBl)]
      exact hcell
    · rw [e]; exact cell?_putRow _ _ blk off d dk hHg hs t (by omega)
  have hS := Any.sort_Slice_sorted Tryz.laysGg6 33 23 uT uE (by kernel_rfl) (by kernel_rfl) (by kernel_rfl) (by kernel_rfl) 11 (fun _ => by kernel_rfl) (by kernel_rfl) (fun _ => by kernel_rfl) (Value.int .u64) (fun _ => rfl) ltInt swo_ltInt 51 _
    (enters_of Tryz.func51 (by kernel_rfl) rfl) blk off c d h2 h12 71 (by rw [uK _ h2]; kernel_rfl) true
    (fun args W => run_callFunc_extern Tryz.func71 (by kernel_rfl) (by kernel_rfl) (by kernel_rfl) (e := Extern.ReflectliteSwapper.swap true) (by kernel_rfl) args W) _ hless hH hblk
  change Calls Tryz.prog 25 _ _ _ at hS
  refine hS.mono ?_
  rintro e w' ⟨rfl, d', n, os, hp, hso, rfl⟩
  rw [u64_sorted_eq d d' hp hso]
  exact ⟨rfl, n, os, rfl⟩

/-- .. at none or one. -/
theorem sortTinyC (p : Option Addr) (n c Bs : Nat) (h1 : n ≤ 1) (w : World) :
    Calls Tryz.prog 25 #[.iface 33 (.slice p n c), .func (.func 51) #[] #[.pointer (some ⟨Bs, 0, none⟩)]] w fun e w' => e = .returned (.tuple #[]) ∧ ∃ os, w' = grow w os := by
  have h01 : n = 0 ∨ n = 1 := by omega
  rcases h01 with rfl | rfl
  · have hS := Any.sort_Slice_tiny Tryz.laysGg6 33 23 uT uE (by kernel_rfl) (by kernel_rfl) (by kernel_rfl) (by kernel_rfl) 11 (fun _ => by kernel_rfl) p 0 c (by omega) 67 (by rw [show Lib.swapperK 0 uE 11 = 1 by simp [Lib.swapperK]]; kernel_rfl) (.func 51) #[] #[.pointer (some ⟨Bs, 0, none⟩)] w
    exact hS
  · have hS := Any.sort_Slice_tiny Tryz.laysGg6 33 23 uT uE (by kernel_rfl) (by kernel_rfl) (by kernel_rfl) (by kernel_rfl) 11 (fun _ => by kernel_rfl) p 1 c (by omega) 68 (by rw [show Lib.swapperK 1 uE 11 = 2 by simp [Lib.swapperK]]; kernel_rfl) (.func 51) #[] #[.pointer (some ⟨Bs, 0, none⟩)] w
    exact hS

/-- sort.Slice with the law's closure over a row, at every length. -/
theorem sortAllC (blk c Bs n : Nat) (zs : List Int) (sp : List Value) (hn : zs.length = n) (h12 : n ≤ 1000) (w : World) (hB : Blk w blk 23 (zs.map (Value.int .u64) ++ sp).toArray) (hb : Blk w Bs 33 #[.slice (some ⟨blk, 0, none⟩) n c]) (hne : Bs ≠ blk) :
    Calls Tryz.prog 25 #[.iface 33 (.slice (some ⟨blk, 0, none⟩) n c), .func (.func 51) #[] #[.pointer (some ⟨Bs, 0, none⟩)]] w fun e w' =>
      e = .returned (.tuple #[]) ∧ Off [blk] w w' ∧ ∀ j (h : j < (srtI zs).length), w'.cell? ⟨blk, j, none⟩ = some (.int .u64 (srtI zs)[j]) := by
  have hblk := hB.lt
  have hcell : ∀ j (h : j < zs.length), w.cell? ⟨blk, j, none⟩ = some (.int .u64 zs[j]) := fun j h => by
    rw [hB.cell]
    simp [List.getElem?_append, h]
  have hH : Holds (Value.int .u64) w blk 0 zs.toArray := fun j hj => by
    have hj' : j < zs.length := by simpa using hj
    refine ⟨?_, by rw [Nat.zero_add]; exact hB.frozen _⟩
    rw [Nat.zero_add, hcell j hj']
    simp [hj']
  by_cases h2 : 2 ≤ n
  · have h := sortU64C blk 0 c Bs zs.toArray (by simpa [hn] using h2) (by simp [hn]; omega) w hH hblk (by simpa [hn] using hb) hne
    rw [show zs.toArray.size = n by simp [hn]] at h
    refine h.mono ?_
    rintro e w' ⟨rfl, m, os, rfl⟩
    refine ⟨rfl, off_putRow _ _ _ _ _ _, fun j hj => ?_⟩
    have hl : (srtI zs).length = zs.length := srtI_len zs
    have := cell?_grow (putRow (Value.int .u64) (Sort.ahead w m) blk 0 (srtI zs.toArray.toList).toArray) os ⟨blk, j, none⟩ (by simpa [putRow, mapBlock, Sort.ahead] using hblk)
    rw [this]
    have h3 := cell?_putRow (Value.int .u64) (Sort.ahead w m) blk 0 zs.toArray (srtI zs.toArray.toList).toArray (holds_ahead _ _ _ _ _ _ hH) (by simp [hl]) j (by simp; omega)
    rw [Nat.zero_add] at h3
    rw [h3]
    simp [hj]
  · have hm : srtI zs = zs := by
      unfold srtI
      match zs, hn with
      | [], _ => simp
      | [x], _ => simp
      | x :: y :: r, hn => simp at hn; omega
    refine (sortTinyC _ n c Bs (by omega) w).mono ?_
    rintro e w' ⟨rfl, os, rfl⟩
    refine ⟨rfl, (off_grow w os).mono (fun x hx => by simp at hx), fun j hj => ?_⟩
    rw [cell?_grow _ _ _ (by exact hblk)]
    have hj' : j < zs.length := by rw [← srtI_len]; exact hj
    rw [hcell j hj']
    simp [hm]

end Go.Proofs.YtcgggcjmmphldaaGreatDoor
namespace Go.Proofs.YtcgggcjmmphldaaGreatDoor
open Go.RowKit

/-- A row of offsets, the least first; none at all: nil. -/
def SrtRow (w : World) (v : Value) (outs : List Nat) : Prop := (outs = [] ∧ v = .slice none 0 0) ∨ ∃ A c, v = .slice A outs.length c ∧ U64s w A (srtI (ints outs))
theorem founds_step (kind : Nat) (es : List Ent) (x : Ent) (code : Nat) (d : List UInt8) : founds kind (rws (es ++ [x])) code d = founds kind (rws es) code d ++ if (kind == 1024 || x.code == code) && x.dg.data.toList == d then [x.off] else [] := by
  rw [rws_snoc, founds, founds, List.filter_append, List.map_append]
  congr 1
  have e1 : x.it.rw.d = x.dg.data.toList := rfl
  by_cases h : ((kind == 1024 || x.code == code) && x.dg.data.toList == d) = true
  · rw [if_pos h, List.filter_cons_of_pos (by rw [e1]; exact h)]; rfl
  · rw [if_neg h, List.filter_cons_of_neg (by rw [e1]; exact h)]; rfl

theorem founds_len (kind : Nat) (es : List (Nat × Rw)) (c : Nat) (d : List UInt8) : (founds kind es c d).length ≤ es.length := by
  rw [founds, List.length_map]
  exact List.length_filter_le _ _

set_option maxRecDepth 100000 in
set_option maxHeartbeats 4000000 in
theorem specOffsets_any (es : List Ent) (A : Option Addr) (ib io c n kind : Nat) (t : Ent) (w : World) (hk : kind = 1024 ∨ kind = 1025) (hn : es.length = n) (hn2 : n ≤ 1000) (hat : EntsAt w A ib io es) :
    Calls Tryz.prog 20 #[.slice A n c, .int .u64 (kind : Int), .agg #[.int .u64 (t.ver : Int), .int .u64 (t.codec : Int), .int .u64 (t.code : Int), .string t.dg]] w fun r w' => ∃ v, r = .returned v ∧ SrtRow w' v (founds kind (rws es) t.code t.dg.data.toList) ∧ Off [] w w' := by
  obtain ⟨i0, hi, hz0, hz1, hz2⟩ := info_parts Tryz.infoU64
  obtain ⟨wA, hwA⟩ : ∃ wA, wA = (w.alloc (.cells #[.int .u64 (t.ver : Int), .int .u64 (t.codec : Int), .int .u64 (t.code : Int), .string t.dg] 25)).alloc (.cells #[.slice none 0 0] 33) := ⟨_, rfl⟩
  have hoA : Off [] w wA := by rw [hwA]; exact ((Off.refl [] w).alloc _).alloc _
  have hcA : Blk wA w.heap.size 25 #[.int .u64 (t.ver : Int), .int .u64 (t.codec : Int), .int .u64 (t.code : Int), .string t.dg] := by rw [hwA]; exact (Blk.new w _ _).alloc _
  have hbA : Blk wA (w.heap.size + 1) 33 #[.slice none 0 0] := by rw [hwA]; exact Blk.new' _ _ _ (by simp)
  have hzA : wA.heap.size = w.heap.size + 2 := by rw [hwA]; simp
  have hatA := hat.off hoA (by simp)
  have HOA := Lib.hid hoA
  have HCA := Lib.hid hcA
  have HBA := Lib.hid hbA
  have HAT := Lib.hid hatA
  have HIB := Lib.hid (fun h0 : 0 < es.length => (hat.at_ h0).2)
  have HN := Lib.hid hn
  have HWA := Lib.hid hwA
  have HZA := Lib.hid hzA
  clear hoA hcA hbA hatA hat hn hwA hzA
  rcases hk with rfl | rfl
  · go_enter Tryz.func20, Tryz.ntmps20
    go_wp2_with fail
    go_loopg [12] n (fun kx s12 wr => ∃ j : Nat, s12 = .int .i64 (j : Int) ∧ j ≤ n ∧ n - j ≤ kx ∧ Hid (Off [w.heap.size + 1] wA wr ∧ ∃ v, Blk wr (w.heap.size + 1) 33 #[v] ∧ OutRow wA wr v (founds 1024 (rws (es.take j)) t.code t.dg.data.toList)))
    case atStart => exact ⟨0, rfl, Nat.zero_le _, by omega, Lib.hid (by rw [← HWA.out]; exact ⟨Off.refl _ _, _, HBA.out, Or.inl ⟨by simp [founds, rws], rfl⟩⟩)⟩
    case round =>
      rename World => wr
      obtain ⟨j, rfl, hjn, hkx, hh⟩ := hrel
      obtain ⟨hO, v, hB, hR⟩ := hh.out
      obtain ⟨m, hm⟩ : ∃ m, m = (founds 1024 (rws (es.take j)) t.code t.dg.data.toList).length := ⟨_, rfl⟩
      obtain ⟨A', cap, hvA⟩ : ∃ A' cap, v = .slice A' m cap := by
        rcases hR with ⟨h1, h2⟩ | ⟨g, cap, sp, h2, _⟩
        · exact ⟨none, 0, by rw [hm, h1, h2]; rfl⟩
        · exact ⟨_, cap, by rw [hm]; exact h2⟩
      subst hvA
      have hmj : m ≤ j := by
        rw [hm]
        refine Nat.le_trans (founds_len _ _ _ _) ?_
        rw [rws, List.length_map, List.length_take]; omega
      have HO := Lib.hid hO
      have HB := Lib.hid hB
      have HR := Lib.hid hR
      have HM := Lib.hid hm.symm
      by_cases hlt : j < n
      · have hie : j < es.length := by have := HN.out; omega
        have hat := HAT.out.off hO (fun h0 => ni1 (by have := HIB.out h0; omega))
        obtain ⟨hA, hib⟩ := hat.at_ (by omega)
        obtain ⟨c0, c1, c2, c3, c4⟩ := hat.cells j hie
        obtain ⟨ent, hent⟩ : ∃ ent, ent = es[j] := ⟨_, rfl⟩
        rw [← hent] at c0 c1 c2 c3 c4
        have HTK := Lib.hid (show es.take (j + 1) = es.take j ++ [ent] by rw [List.take_succ_eq_append_getElem hie, hent])
        have hcr := (HCA.out.off hO (ni1 (by omega))).alloc (.cells #[.int .u64 (ent.ver : Int), .int .u64 (ent.codec : Int), .int .u64 (ent.code : Int), .string ent.dg, .int .u64 (ent.off : Int)] 27)
        have a2 := hcr.cell 2
        have a3 := hcr.cell 3
        simp at a2 a3
        have hbr := hB.alloc (.cells #[.int .u64 (ent.ver : Int), .int .u64 (ent.codec : Int), .int .u64 (ent.code : Int), .string ent.dg, .int .u64 (ent.off : Int)] 27)
        have b0 := hbr.cell 0
        simp at b0
        have hxl : ((ints (founds 1024 (rws (es.take j)) t.code t.dg.data.toList)).map (Value.int .u64)).length = m * 1 := by simp [ints, HM.out]
        have hown := ((hR.off (Off.alloc (Off.refl [] wr) (.cells #[.int .u64 (ent.ver : Int), .int .u64 (ent.codec : Int), .int .u64 (ent.code : Int), .string ent.dg, .int .u64 (ent.off : Int)] 27)) (fun x hx => by simp at hx)).off (Off.alloc (Off.refl [] _) (.cells #[.int .u64 (ent.off : Int)] 23)) (fun x hx => by simp at hx)).owns
        rw [HM.out] at hown
        have hnew : ∀ jj u, ([.int .u64 (ent.off : Int)] : List Value)[jj]? = some u → ((wr.alloc (.cells #[.int .u64 (ent.ver : Int), .int .u64 (ent.codec : Int), .int .u64 (ent.code : Int), .string ent.dg, .int .u64 (ent.off : Int)] 27)).alloc (.cells #[.int .u64 (ent.off : Int)] 23)).cell? ((⟨wr.heap.size + 1, 0, none⟩ : Addr).add jj) = some u := by
          have h := news_alloc (wr.alloc (.cells #[.int .u64 (ent.ver : Int), .int .u64 (ent.codec : Int), .int .u64 (ent.code : Int), .string ent.dg, .int .u64 (ent.off : Int)] 27)) [.int .u64 (ent.off : Int)] 23
          simpa using h
        have HXL := Lib.hid hxl
        have HOWN := Lib.hid hown
        have HNEW := Lib.hid hnew
        clear hxl hown hnew hcr hbr hent hat hO hB hR hh hm
        subst hA
        by_cases hdg : ent.dg = t.dg
        · have hdt : ent.dg.toList = t.dg.toList := by rw [hdg]
          have hdl : (ent.dg.data.toList == t.dg.data.toList) = true := by rw [hdg]; exact beq_self_eq_true _
          have HFIT := Lib.hid (show ((1024 == 1024 || ent.code == t.code) && ent.dg.data.toList == t.dg.data.toList) = true by rw [hdl]; rfl)
          clear hdg hdl
          go_wp2_with (first
          | (at_builtin
             refine wpList_append_blk rfl _ _ 33 rfl 23 i0 _ 1 8 Tryz.underlying33 hi hz0 hz1 hz2 rfl (by decide) (.slice A' m cap) m ((ints (founds 1024 (rws (es.take j)) t.code t.dg.data.toList)).map (Value.int .u64)) HXL.out rfl HOWN.out ⟨wr.heap.size + 1, 0, none⟩ 1 [.int .u64 (ent.off : Int)] rfl rfl (HNEW.out) (oneInt _ _) (by unfold maxLen; omega) (by omega) ?_
             intro g' cap' sp' w5 hb5 q1 q2 q3 hg5 ho5 hown5
             have ho5' := ho5.out (Value.slice A' m cap).ownBlock.toList (fun g hg => by simp [hg])
             have hvs : ∀ y, y ∈ (Value.slice A' m cap).ownBlock.toList → wA.heap.size ≤ y := fun y hy => HR.out.own y (by simpa using hy)
             have hob5 := ((HB.out.alloc (.cells #[.int .u64 (ent.ver : Int), .int .u64 (ent.codec : Int), .int .u64 (ent.code : Int), .string ent.dg, .int .u64 (ent.off : Int)] 27)).alloc (.cells #[.int .u64 (ent.off : Int)] 23)).off ho5' (fun hx => by have := hvs _ hx; have := HZA.out; omega)
             have f5 := hob5.frozen 0
             have d5 : w5.cell? ⟨w.heap.size + 1, 0, none⟩ = some (.slice A' m cap) := hob5.cell 0
             have hO5 := (((Off.refl (Value.slice A' m cap).ownBlock.toList wr).alloc (.cells #[.int .u64 (ent.ver : Int), .int .u64 (ent.codec : Int), .int .u64 (ent.code : Int), .string ent.dg, .int .u64 (ent.off : Int)] 27)).alloc (.cells #[.int .u64 (ent.off : Int)] 23)).then ho5' (fun x hx => Or.inl hx)
             have HOB := Lib.hid hob5; have HO5 := Lib.hid hO5; have HQ3 := Lib.hid q3; have HG5 := Lib.hid hg5
             have HVS := Lib.hid hvs
             clear hob5 hO5 q3 hg5 hown5 ho5' hvs))
          go_roundg (n - (j + 1))
          case measure => omega
          case rel =>
            have hg : wA.heap.size ≤ g' := by
              have hz := HO.out.size
              rcases HG5.out with h | h
              · exact HR.out.own g' h
              · rw [h]; simp; omega
            have hO6 : Off [w.heap.size + 1] w5 (w5.setCell ⟨w.heap.size + 1, 0, none⟩ (.slice (some ⟨g', 0, none⟩) (m + 1) cap')) := (Off.refl [w.heap.size + 1] w5).setCell (p := ⟨w.heap.size + 1, 0, none⟩) (Or.inl (by simp)) _
            have hlen : (founds 1024 (rws (es.take (j + 1))) t.code t.dg.data.toList).length = m + 1 := by rw [HTK.out, founds_step, if_pos HFIT.out, List.length_append, HM.out]; rfl
            refine ⟨j + 1, rfl, by omega, by omega, Lib.hid ⟨(HO.out.then HO5.out (fun y hy => Or.inr (HVS.out y hy))).then hO6 (fun y hy => Or.inl hy), .slice (some ⟨g', 0, none⟩) (m + 1) cap', HOB.out.set_ 0 _, Or.inr ⟨g', cap', sp', by rw [hlen], hg, ?_, by rw [hlen]; exact HQ3.out, by rw [hlen]; exact q1, q2⟩⟩⟩
            have h1 := hb5.out.off hO6 (ni1 (by have := HZA.out; omega))
            rw [HTK.out, founds_step, if_pos HFIT.out]
            simpa [ints] using h1

        · have hdt : ¬ ent.dg.toList = t.dg.toList := fun h => hdg (by rw [ByteArray.toList_eq, ByteArray.toList_eq] at h; exact ByteArray.ext (Array.toList_inj.1 h))
          have HFIT := Lib.hid (show ((1024 == 1024 || ent.code == t.code) && ent.dg.data.toList == t.dg.data.toList) = false by
            rw [Bool.and_eq_false_iff]; exact Or.inr (beq_eq_false_iff_ne.2 fun h => hdg (ByteArray.ext (Array.toList_inj.1 h))))
          clear hdg
          go_wp2_with fail
          go_roundg (n - (j + 1))
          case measure => omega
          case rel => exact ⟨j + 1, rfl, by omega, by omega, Lib.hid ⟨HO.out.alloc _, .slice A' m cap, HB.out.alloc _, by rw [HTK.out, founds_step, if_neg (by rw [HFIT.out]; decide), List.append_nil]; exact HR.out.off (Off.alloc (Off.refl [] wr) _) (fun x hx => by simp at hx)⟩⟩

      · obtain rfl : n = j := by omega
        have htk : es.take n = es := List.take_of_length_le (by have := HN.out; omega)
        rw [htk] at hR hm
        have HO2 := Lib.hid hO
        have hBs := hB
        rcases hR with ⟨h1, h2⟩ | ⟨g, cp, sp, h2, hg, hbg, h5, h6, h7⟩
        · have b0 := hB.cell 0
          simp at b0
          have H1 := Lib.hid h1
          have ST := Lib.hid fun W => sortTinyO A' m cap (w.heap.size + 1) (by rw [hm, h1]; simp) W
          have HV := Lib.hid h2
          have HBB := Lib.hid hB
          clear hO hB hh hm htk h1 h2 HR HM HB HO hBs hlt hkx
          go_wp2_with (first
            | (go_at_call 25
               refine (ST.out _).mono ?_
               rintro r w3 ⟨rfl, os, rfl⟩
               have ho3 := off_grow wr os
               have b3 := ho3.cellS b0 (by simp)
               have HO3 := Lib.hid ho3
               clear ho3))
          go_ret
          refine ⟨_, rfl, Or.inl ⟨H1.out, HV.out⟩, ?_⟩
          exact HOA.out.then ((HO2.out.mono (S' := [w.heap.size + 1]) (fun x hx => Or.inl hx)).then HO3.out (fun x hx => by simp at hx)) (fun x hx => by simp at hx; right; omega)
        · injection h2 with h2 hq3 h3
          subst h2 h3
          clear hq3
          have hne : w.heap.size + 1 ≠ g := by have := HZA.out; omega
          have b0 := hB.cell 0
          simp at b0
          have hml : (ints (founds 1024 (rws es) t.code t.dg.data.toList)).length = m := by rw [ints, List.length_map, hm]
          have hm1000 : m ≤ 1000 := by rw [hm]; refine Nat.le_trans (founds_len _ _ _ _) ?_; rw [rws, List.length_map, HN.out]; omega
          have ST := Lib.hid (sortAllO g cap (w.heap.size + 1) m _ sp hml hm1000 wr hbg hB hne)
          have HMQ := Lib.hid hm
          have HG := Lib.hid hg
          have HGL := Lib.hid hbg.lt
          clear hO hB hh hm htk HR HM HB HO hBs hlt hkx hml hm1000 hg hbg h5 h6 h7
          go_wp2_with (first
            | (go_at_call 25
               refine ST.out.mono ?_
               rintro r w3 ⟨rfl, ho3, hc3⟩
               have b3 := ho3.cellS b0 (ni1 hne)
               have HO3 := Lib.hid ho3
               have HC3 := Lib.hid hc3
               clear ho3 hc3))
          go_ret
          refine ⟨_, rfl, Or.inr ⟨some ⟨g, 0, none⟩, cap, by rw [← HMQ.out]; rfl, g, 0, rfl, Nat.lt_of_lt_of_le HGL.out HO3.out.size, fun j hj => ?_⟩, ?_⟩
          · rw [Nat.zero_add]; exact HC3.out j hj
          · exact HOA.out.then ((HO2.out.mono (S' := [w.heap.size + 1, g]) (fun x hx => by simp at hx; simp [hx])).then HO3.out (fun x hx => by simp at hx; simp [hx])) (fun x hx => by have := HZA.out; have := HG.out; simp at hx; right; omega)
  · go_enter Tryz.func20, Tryz.ntmps20
    go_wp2_with fail
    go_loopg [12] n (fun kx s12 wr => ∃ j : Nat, s12 = .int .i64 (j : Int) ∧ j ≤ n ∧ n - j ≤ kx ∧ Hid (Off [w.heap.size + 1] wA wr ∧ ∃ v, Blk wr (w.heap.size + 1) 33 #[v] ∧ OutRow wA wr v (founds 1025 (rws (es.take j)) t.code t.dg.data.toList)))
    case atStart => exact ⟨0, rfl, Nat.zero_le _, by omega, Lib.hid (by rw [← HWA.out]; exact ⟨Off.refl _ _, _, HBA.out, Or.inl ⟨by simp [founds, rws], rfl⟩⟩)⟩
    case round =>
      rename World => wr
      obtain ⟨j, rfl, hjn, hkx, hh⟩ := hrel
      obtain ⟨hO, v, hB, hR⟩ := hh.out
      obtain ⟨m, hm⟩ : ∃ m, m = (founds 1025 (rws (es.take j)) t.code t.dg.data.toList).length := ⟨_, rfl⟩
      obtain ⟨A', cap, hvA⟩ : ∃ A' cap, v = .slice A' m cap := by
        rcases hR with ⟨h1, h2⟩ | ⟨g, cap, sp, h2, _⟩
        · exact ⟨none, 0, by rw [hm, h1, h2]; rfl⟩
        · exact ⟨_, cap, by rw [hm]; exact h2⟩
      subst hvA
      have hmj : m ≤ j := by
        rw [hm]
        refine Nat.le_trans (founds_len _ _ _ _) ?_
        rw [rws, List.length_map, List.length_take]; omega
      have HO := Lib.hid hO
      have HB := Lib.hid hB
      have HR := Lib.hid hR
      have HM := Lib.hid hm.symm
      by_cases hlt : j < n
      · have hie : j < es.length := by have := HN.out; omega
        have hat := HAT.out.off hO (fun h0 => ni1 (by have := HIB.out h0; omega))
        obtain ⟨hA, hib⟩ := hat.at_ (by omega)
        obtain ⟨c0, c1, c2, c3, c4⟩ := hat.cells j hie
        obtain ⟨ent, hent⟩ : ∃ ent, ent = es[j] := ⟨_, rfl⟩
        rw [← hent] at c0 c1 c2 c3 c4
        have HTK := Lib.hid (show es.take (j + 1) = es.take j ++ [ent] by rw [List.take_succ_eq_append_getElem hie, hent])
        have hcr := (HCA.out.off hO (ni1 (by omega))).alloc (.cells #[.int .u64 (ent.ver : Int), .int .u64 (ent.codec : Int), .int .u64 (ent.code : Int), .string ent.dg, .int .u64 (ent.off : Int)] 27)
        have a2 := hcr.cell 2
        have a3 := hcr.cell 3
        simp at a2 a3
        have hbr := hB.alloc (.cells #[.int .u64 (ent.ver : Int), .int .u64 (ent.codec : Int), .int .u64 (ent.code : Int), .string ent.dg, .int .u64 (ent.off : Int)] 27)
        have b0 := hbr.cell 0
        simp at b0
        have hxl : ((ints (founds 1025 (rws (es.take j)) t.code t.dg.data.toList)).map (Value.int .u64)).length = m * 1 := by simp [ints, HM.out]
        have hown := ((hR.off (Off.alloc (Off.refl [] wr) (.cells #[.int .u64 (ent.ver : Int), .int .u64 (ent.codec : Int), .int .u64 (ent.code : Int), .string ent.dg, .int .u64 (ent.off : Int)] 27)) (fun x hx => by simp at hx)).off (Off.alloc (Off.refl [] _) (.cells #[.int .u64 (ent.off : Int)] 23)) (fun x hx => by simp at hx)).owns
        rw [HM.out] at hown
        have hnew : ∀ jj u, ([.int .u64 (ent.off : Int)] : List Value)[jj]? = some u → ((wr.alloc (.cells #[.int .u64 (ent.ver : Int), .int .u64 (ent.codec : Int), .int .u64 (ent.code : Int), .string ent.dg, .int .u64 (ent.off : Int)] 27)).alloc (.cells #[.int .u64 (ent.off : Int)] 23)).cell? ((⟨wr.heap.size + 1, 0, none⟩ : Addr).add jj) = some u := by
          have h := news_alloc (wr.alloc (.cells #[.int .u64 (ent.ver : Int), .int .u64 (ent.codec : Int), .int .u64 (ent.code : Int), .string ent.dg, .int .u64 (ent.off : Int)] 27)) [.int .u64 (ent.off : Int)] 23
          simpa using h
        have HXL := Lib.hid hxl
        have HOWN := Lib.hid hown
        have HNEW := Lib.hid hnew
        clear hxl hown hnew hcr hbr hent hat hO hB hR hh hm
        subst hA
        by_cases hdg : ent.dg = t.dg
        · have hdt : ent.dg.toList = t.dg.toList := by rw [hdg]
          have hdl : (ent.dg.data.toList == t.dg.data.toList) = true := by rw [hdg]; exact beq_self_eq_true _
          by_cases hcd : ent.code = t.code
          · have hcq : ((ent.code : Int) == (t.code : Int)) = true := beq_iff_eq.2 (by rw [hcd])
            have HFIT := Lib.hid (show ((1025 == 1024 || ent.code == t.code) && ent.dg.data.toList == t.dg.data.toList) = true by rw [hdl, hcd]; simp)
            clear hdg hdl hcd
            go_wp2_with (first
            | (at_builtin
               refine wpList_append_blk rfl _ _ 33 rfl 23 i0 _ 1 8 Tryz.underlying33 hi hz0 hz1 hz2 rfl (by decide) (.slice A' m cap) m ((ints (founds 1025 (rws (es.take j)) t.code t.dg.data.toList)).map (Value.int .u64)) HXL.out rfl HOWN.out ⟨wr.heap.size + 1, 0, none⟩ 1 [.int .u64 (ent.off : Int)] rfl rfl (HNEW.out) (oneInt _ _) (by unfold maxLen; omega) (by omega) ?_
               intro g' cap' sp' w5 hb5 q1 q2 q3 hg5 ho5 hown5
               have ho5' := ho5.out (Value.slice A' m cap).ownBlock.toList (fun g hg => by simp [hg])
               have hvs : ∀ y, y ∈ (Value.slice A' m cap).ownBlock.toList → wA.heap.size ≤ y := fun y hy => HR.out.own y (by simpa using hy)
               have hob5 := ((HB.out.alloc (.cells #[.int .u64 (ent.ver : Int), .int .u64 (ent.codec : Int), .int .u64 (ent.code : Int), .string ent.dg, .int .u64 (ent.off : Int)] 27)).alloc (.cells #[.int .u64 (ent.off : Int)] 23)).off ho5' (fun hx => by have := hvs _ hx; have := HZA.out; omega)
               have f5 := hob5.frozen 0
               have d5 : w5.cell? ⟨w.heap.size + 1, 0, none⟩ = some (.slice A' m cap) := hob5.cell 0
               have hO5 := (((Off.refl (Value.slice A' m cap).ownBlock.toList wr).alloc (.cells #[.int .u64 (ent.ver : Int), .int .u64 (ent.codec : Int), .int .u64 (ent.code : Int), .string ent.dg, .int .u64 (ent.off : Int)] 27)).alloc (.cells #[.int .u64 (ent.off : Int)] 23)).then ho5' (fun x hx => Or.inl hx)
               have HOB := Lib.hid hob5; have HO5 := Lib.hid hO5; have HQ3 := Lib.hid q3; have HG5 := Lib.hid hg5
               have HVS := Lib.hid hvs
               clear hob5 hO5 q3 hg5 hown5 ho5' hvs))
            go_roundg (n - (j + 1))
            case measure => omega
            case rel =>
              have hg : wA.heap.size ≤ g' := by
                have hz := HO.out.size
                rcases HG5.out with h | h
                · exact HR.out.own g' h
                · rw [h]; simp; omega
              have hO6 : Off [w.heap.size + 1] w5 (w5.setCell ⟨w.heap.size + 1, 0, none⟩ (.slice (some ⟨g', 0, none⟩) (m + 1) cap')) := (Off.refl [w.heap.size + 1] w5).setCell (p := ⟨w.heap.size + 1, 0, none⟩) (Or.inl (by simp)) _
              have hlen : (founds 1025 (rws (es.take (j + 1))) t.code t.dg.data.toList).length = m + 1 := by rw [HTK.out, founds_step, if_pos HFIT.out, List.length_append, HM.out]; rfl
              refine ⟨j + 1, rfl, by omega, by omega, Lib.hid ⟨(HO.out.then HO5.out (fun y hy => Or.inr (HVS.out y hy))).then hO6 (fun y hy => Or.inl hy), .slice (some ⟨g', 0, none⟩) (m + 1) cap', HOB.out.set_ 0 _, Or.inr ⟨g', cap', sp', by rw [hlen], hg, ?_, by rw [hlen]; exact HQ3.out, by rw [hlen]; exact q1, q2⟩⟩⟩
              have h1 := hb5.out.off hO6 (ni1 (by have := HZA.out; omega))
              rw [HTK.out, founds_step, if_pos HFIT.out]
              simpa [ints] using h1

          · have hcq : ((ent.code : Int) == (t.code : Int)) = false := beq_eq_false_iff_ne.2 (fun h => hcd (by omega))
            have HFIT := Lib.hid (show ((1025 == 1024 || ent.code == t.code) && ent.dg.data.toList == t.dg.data.toList) = false by
              have h2 : (ent.code == t.code) = false := beq_eq_false_iff_ne.2 hcd
              rw [h2]; rfl)
            clear hdg hdl hcd
            go_wp2_with fail
            go_roundg (n - (j + 1))
            case measure => omega
            case rel => exact ⟨j + 1, rfl, by omega, by omega, Lib.hid ⟨HO.out.alloc _, .slice A' m cap, HB.out.alloc _, by rw [HTK.out, founds_step, if_neg (by rw [HFIT.out]; decide), List.append_nil]; exact HR.out.off (Off.alloc (Off.refl [] wr) _) (fun x hx => by simp at hx)⟩⟩

        · have hdt : ¬ ent.dg.toList = t.dg.toList := fun h => hdg (by rw [ByteArray.toList_eq, ByteArray.toList_eq] at h; exact ByteArray.ext (Array.toList_inj.1 h))
          have HFIT := Lib.hid (show ((1025 == 1024 || ent.code == t.code) && ent.dg.data.toList == t.dg.data.toList) = false by
            rw [Bool.and_eq_false_iff]; exact Or.inr (beq_eq_false_iff_ne.2 fun h => hdg (ByteArray.ext (Array.toList_inj.1 h))))
          clear hdg
          go_wp2_with fail
          go_roundg (n - (j + 1))
          case measure => omega
          case rel => exact ⟨j + 1, rfl, by omega, by omega, Lib.hid ⟨HO.out.alloc _, .slice A' m cap, HB.out.alloc _, by rw [HTK.out, founds_step, if_neg (by rw [HFIT.out]; decide), List.append_nil]; exact HR.out.off (Off.alloc (Off.refl [] wr) _) (fun x hx => by simp at hx)⟩⟩

      · obtain rfl : n = j := by omega
        have htk : es.take n = es := List.take_of_length_le (by have := HN.out; omega)
        rw [htk] at hR hm
        have HO2 := Lib.hid hO
        have hBs := hB
        rcases hR with ⟨h1, h2⟩ | ⟨g, cp, sp, h2, hg, hbg, h5, h6, h7⟩
        · have b0 := hB.cell 0
          simp at b0
          have H1 := Lib.hid h1
          have ST := Lib.hid fun W => sortTinyO A' m cap (w.heap.size + 1) (by rw [hm, h1]; simp) W
          have HV := Lib.hid h2
          have HBB := Lib.hid hB
          clear hO hB hh hm htk h1 h2 HR HM HB HO hBs hlt hkx
          go_wp2_with (first
            | (go_at_call 25
               refine (ST.out _).mono ?_
               rintro r w3 ⟨rfl, os, rfl⟩
               have ho3 := off_grow wr os
               have b3 := ho3.cellS b0 (by simp)
               have HO3 := Lib.hid ho3
               clear ho3))
          go_ret
          refine ⟨_, rfl, Or.inl ⟨H1.out, HV.out⟩, ?_⟩
          exact HOA.out.then ((HO2.out.mono (S' := [w.heap.size + 1]) (fun x hx => Or.inl hx)).then HO3.out (fun x hx => by simp at hx)) (fun x hx => by simp at hx; right; omega)
        · injection h2 with h2 hq3 h3
          subst h2 h3
          clear hq3
          have hne : w.heap.size + 1 ≠ g := by have := HZA.out; omega
          have b0 := hB.cell 0
          simp at b0
          have hml : (ints (founds 1025 (rws es) t.code t.dg.data.toList)).length = m := by rw [ints, List.length_map, hm]
          have hm1000 : m ≤ 1000 := by rw [hm]; refine Nat.le_trans (founds_len _ _ _ _) ?_; rw [rws, List.length_map, HN.out]; omega
          have ST := Lib.hid (sortAllO g cap (w.heap.size + 1) m _ sp hml hm1000 wr hbg hB hne)
          have HMQ := Lib.hid hm
          have HG := Lib.hid hg
          have HGL := Lib.hid hbg.lt
          clear hO hB hh hm htk HR HM HB HO hBs hlt hkx hml hm1000 hg hbg h5 h6 h7
          go_wp2_with (first
            | (go_at_call 25
               refine ST.out.mono ?_
               rintro r w3 ⟨rfl, ho3, hc3⟩
               have b3 := ho3.cellS b0 (ni1 hne)
               have HO3 := Lib.hid ho3
               have HC3 := Lib.hid hc3
               clear ho3 hc3))
          go_ret
          refine ⟨_, rfl, Or.inr ⟨some ⟨g, 0, none⟩, cap, by rw [← HMQ.out]; rfl, g, 0, rfl, Nat.lt_of_lt_of_le HGL.out HO3.out.size, fun j hj => ?_⟩, ?_⟩
          · rw [Nat.zero_add]; exact HC3.out j hj
          · exact HOA.out.then ((HO2.out.mono (S' := [w.heap.size + 1, g]) (fun x hx => by simp at hx; simp [hx])).then HO3.out (fun x hx => by simp at hx; simp [hx])) (fun x hx => by have := HZA.out; have := HG.out; simp at hx; right; omega)
end Go.Proofs.YtcgggcjmmphldaaGreatDoor
