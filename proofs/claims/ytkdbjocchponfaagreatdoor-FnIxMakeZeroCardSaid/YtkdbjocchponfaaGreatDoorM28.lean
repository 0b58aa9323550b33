/-
  index.WriteTo into a bytes.Buffer; impl.written; index.New.
  strings.Builder: what its writing methods do at a builder that has been used.
  Identifiers of version 1 are made: their bytes are the version, the codec and the multihash.
  An identifier is made of its parts: impl.cidIn at tidy identifiers.
  impl.indexBytes: entries to the bytes of an index.
  impl.indexBytes at 0x0401.
  index.ReadCodec, index.ReadFrom over a bytes.Reader.
  impl.found: 0 at nil, 1 at index.ErrNotFound.
  impl.offsets: an index's bytes read, an identifier looked up.
  laws.FnIxAdd's arithmetic in plain words: how much longer an index is for an entry more, as the law counts it. No program is named here.
  impl.IxBytes, impl.IxAll.
  What the statements' own guards compute of an identifier.
  laws.zzFits8, zzFits7, ixGood over entries in memory.
  spec.Offsets: the offsets of the entries that fit, sorted.
  (No condition beyond those that each theorem states.)
-/
import Derived.Test.YtkdbjocchponfaaGreatDoorM27
import Derived.Test.YtkdbjocchponfaaGreatDoorM06
import Derived.Test.YtkdbjocchponfaaGreatDoorM05
import Derived.Lib.Builder
import Derived.Deep.RegionHeld3
import Derived.Test.YtkdbjocchponfaaGreatDoorM08
import Derived.Test.YtkdbjocchponfaaGreatDoorProg
import Derived.Test.YtkdbjocchponfaaGreatDoorM01
import Derived.WalkSpells
import Derived.WalkKit
import Derived.LaidEql
import Derived.Test.YtkdbjocchponfaaGreatDoorM09
import Derived.Deep.LoopGhost
namespace Go.Proofs.YtkdbjocchponfaaGreatDoor
open Go.RowKit

theorem run_makeB10 (W : World) : (Instr.makeSlice 32 (.int .i64 10) (.int .i64 10)).run Tryz.prog W = .ok (.slice (some ⟨W.heap.size, 0, none⟩) 10 10) (W.alloc (.cells (zeroBytes 10).toArray 5)) := by
  obtain ⟨ib0, hbi, hbz0, hbz1, hbz2⟩ := info_parts Tryz.infoByte
  exact run_makeBytes Tryz.underlying32 hbi hbz0 hbz1 hbz2 10 (by omega) W

theorem method_mwCodec (a : Addr) (w : World) : (method 513 150 (.pointer (some a)) "Codec").run Tryz.prog w = .ok (287, .pointer (some a)) w := by kernel_rfl
theorem method_mwMarshal (a : Addr) (w : World) : (method 513 150 (.pointer (some a)) "Marshal").run Tryz.prog w = .ok (232, .pointer (some a)) w := by kernel_rfl
set_option maxRecDepth 100000 in
theorem codec_mw (v : Value) (w : World) : Calls Tryz.prog 287 #[v] w fun e w' => e = .returned (.int .u64 1024) ∧ w' = w := by
  go_enter Tryz.func287, Tryz.ntmps287
  go_wp2
  go_ret
  exact ⟨rfl, rfl⟩

set_option maxRecDepth 100000 in
set_option maxHeartbeats 2000000 in
theorem writeTo_mw {b : Nat} {w0 w : World} {l : List UInt8} (h : WrAt b w0 l w) (pb : Nat) (OK : List UInt8 → Prop) (hlim : l.length ≤ 1000)
    (hM : ∀ W l', WrAt b w0 l' W → l'.length ≤ 1000000 → Calls Tryz.prog 232 #[.pointer (some ⟨pb, 0, none⟩), .iface 88 (.pointer (some ⟨b, 0, none⟩))] W fun e w' => ∃ (X : List UInt8) (n : Nat), OK X ∧ e = .returned (.tuple #[.int .u64 (n : Int), .nilIface]) ∧ WrAt b w0 (l' ++ X) w') :
    Calls Tryz.prog 43 #[.iface 150 (.pointer (some ⟨pb, 0, none⟩)), .iface 88 (.pointer (some ⟨b, 0, none⟩))] w fun e w' => ∃ (X : List UInt8) (n : Int), OK X ∧ e = .returned (.tuple #[.int .u64 n, .nilIface]) ∧ WrAt b w0 (l ++ (Lib.uvarint 1024 ++ X)) w' := by
  have hblt := h.lt
  obtain ⟨LL, hLL⟩ : ∃ LL, LL = (Lib.uvarint 1024).length := ⟨_, rfl⟩
  have hL10 : LL ≤ 10 := by rw [hLL]; exact Lib.uvarint_length64 (by omega)
  have hzz : zeroBytes 10 = zeroBytes LL ++ zeroBytes (10 - LL) := by rw [← zeroBytes_append]; congr 1; omega
  have hP : ∀ W, Blk W w.heap.size 5 (zeroBytes 10).toArray → Calls Tryz.prog 71 #[.slice (some ⟨w.heap.size, 0, none⟩) 10 10, .int .u64 1024] W fun e w' => e = .returned (.int .i64 (LL : Int)) ∧ Seg w' w.heap.size 0 (Lib.uvarint 1024) ∧ Off [w.heap.size] W w' := fun W hW => by
    rw [hzz] at hW
    refine (putUvarint_blk w.heap.size 0 10 10 1024 5 [] (zeroBytes LL) (zeroBytes (10 - LL)) (by omega) W (by rw [← hLL]; exact hL10) rfl (by rw [zeroBytes_length, hLL]) hW).mono ?_
    rintro e w' ⟨h1, h2, h3, _⟩
    exact ⟨by rw [hLL]; exact h1, Blk.seg (post := zeroBytes (10 - LL)) h2, Off.ofGrown h3⟩
  have hW : ∀ W, WrAt b w0 l W → Seg W w.heap.size 0 (Lib.uvarint 1024) → Calls Tryz.prog 207 #[.pointer (some ⟨b, 0, none⟩), .slice (some ⟨w.heap.size, 0, none⟩) LL 10] W fun e w' => e = .returned (.tuple #[.int .i64 (LL : Int), .nilIface]) ∧ WrAt b w0 (l ++ Lib.uvarint 1024) w' := fun W h1 h2 =>
    (bufWrite_any h1 w.heap.size 0 LL 10 (Lib.uvarint 1024) h2 hLL.symm (by omega) (by omega)).mono fun e w' ⟨a1, a2, _⟩ => ⟨a1, a2⟩
  have HM := Lib.hid fun W hW => hM W (l ++ Lib.uvarint 1024) hW (by rw [List.length_append, ← hLL]; omega)
  have HP := Lib.hid hP
  have HW := Lib.hid hW
  have HH := Lib.hid h
  have hm1 := method_bufWrite
  have hm2 := nil_bufWrite
  have hm3 := method_mwCodec
  have hm4 := method_mwMarshal
  have hmk := run_makeB10
  have hL0 : (0 : Int) ≤ (LL : Int) := by omega
  have hL1 : (LL : Int) ≤ 10 := by omega
  have hwL : IntKind.u64.wrap (LL : Int) = (LL : Int) := by rw [IntKind.wrap_u64]; omega
  clear hP hW h hM hzz hLL
  go_enter Tryz.func43, Tryz.ntmps43
  go_wp2_with (first
    | (go_at_call 287; refine (codec_mw _ _).mono ?_; rintro e w' ⟨rfl, rfl⟩)
    | (go_at_call 71; refine (HP.out _ (Blk.new' _ _ _ rfl)).mono ?_; rintro e w1 ⟨rfl, hS1, hO1⟩))
  have hR1 := HH.out.old (((Off.alloc (Off.refl [w.heap.size] w) _).then hO1 (fun x hx => Or.inl hx)).below (fun x hx => by simp at hx; omega))
  have HR1 := Lib.hid hR1
  have HS1 := Lib.hid hS1
  clear hR1 hS1 hO1
  go_region_held3 (fun w' => True) (exact trivial) (first | (go_at_call 207; refine (HW.out _ (HR1.out.ofDrew (by repeat' (first | exact Drew.refl _ | exact Drew.one _ | refine Drew.more ?_ 1))) (by exact HS1.out)).mono ?_; rintro e w3 ⟨rfl, hR3⟩; have HR3 := Lib.hid hR3; clear hR3))
  all_goals go_wp2_with (go_at_call 232; refine (HM.out _ HR3.out).mono ?_; rintro e w4 ⟨X, n, hX, rfl, hR4⟩)
  all_goals go_ret2
  all_goals exact ⟨X, _, hX, rfl, by rw [← List.append_assoc]; exact hR4⟩

theorem method_misCodec (a : Addr) (w : World) : (method 513 99 (.pointer (some a)) "Codec").run Tryz.prog w = .ok (214, .pointer (some a)) w := by kernel_rfl
theorem method_misMarshal (a : Addr) (w : World) : (method 513 99 (.pointer (some a)) "Marshal").run Tryz.prog w = .ok (217, .pointer (some a)) w := by kernel_rfl
set_option maxRecDepth 100000 in
theorem codec_mis (v : Value) (w : World) : Calls Tryz.prog 214 #[v] w fun e w' => e = .returned (.int .u64 1025) ∧ w' = w := by
  go_enter Tryz.func214, Tryz.ntmps214
  go_wp2
  go_ret
  exact ⟨rfl, rfl⟩

set_option maxRecDepth 100000 in
set_option maxHeartbeats 2000000 in
theorem writeTo_mis {b : Nat} {w0 w : World} {l : List UInt8} (h : WrAt b w0 l w) (pb : Nat) (OK : List UInt8 → Prop) (hlim : l.length ≤ 1000)
    (hM : ∀ W l', WrAt b w0 l' W → l'.length ≤ 1000000 → Calls Tryz.prog 217 #[.pointer (some ⟨pb, 0, none⟩), .iface 88 (.pointer (some ⟨b, 0, none⟩))] W fun e w' => ∃ (X : List UInt8) (n : Nat), OK X ∧ e = .returned (.tuple #[.int .u64 (n : Int), .nilIface]) ∧ WrAt b w0 (l' ++ X) w') :
    Calls Tryz.prog 43 #[.iface 99 (.pointer (some ⟨pb, 0, none⟩)), .iface 88 (.pointer (some ⟨b, 0, none⟩))] w fun e w' => ∃ (X : List UInt8) (n : Int), OK X ∧ e = .returned (.tuple #[.int .u64 n, .nilIface]) ∧ WrAt b w0 (l ++ (Lib.uvarint 1025 ++ X)) w' := by
  have hblt := h.lt
  obtain ⟨LL, hLL⟩ : ∃ LL, LL = (Lib.uvarint 1025).length := ⟨_, rfl⟩
  have hL10 : LL ≤ 10 := by rw [hLL]; exact Lib.uvarint_length64 (by omega)
  have hzz : zeroBytes 10 = zeroBytes LL ++ zeroBytes (10 - LL) := by rw [← zeroBytes_append]; congr 1; omega
  have hP : ∀ W, Blk W w.heap.size 5 (zeroBytes 10).toArray → Calls Tryz.prog 71 #[.slice (some ⟨w.heap.size, 0, none⟩) 10 10, .int .u64 1025] W fun e w' => e = .returned (.int .i64 (LL : Int)) ∧ Seg w' w.heap.size 0 (Lib.uvarint 1025) ∧ Off [w.heap.size] W w' := fun W hW => by
    rw [hzz] at hW
    refine (putUvarint_blk w.heap.size 0 10 10 1025 5 [] (zeroBytes LL) (zeroBytes (10 - LL)) (by omega) W (by rw [← hLL]; exact hL10) rfl (by rw [zeroBytes_length, hLL]) hW).mono ?_
    rintro e w' ⟨h1, h2, h3, _⟩
    exact ⟨by rw [hLL]; exact h1, Blk.seg (post := zeroBytes (10 - LL)) h2, Off.ofGrown h3⟩
  have hW : ∀ W, WrAt b w0 l W → Seg W w.heap.size 0 (Lib.uvarint 1025) → Calls Tryz.prog 207 #[.pointer (some ⟨b, 0, none⟩), .slice (some ⟨w.heap.size, 0, none⟩) LL 10] W fun e w' => e = .returned (.tuple #[.int .i64 (LL : Int), .nilIface]) ∧ WrAt b w0 (l ++ Lib.uvarint 1025) w' := fun W h1 h2 =>
    (bufWrite_any h1 w.heap.size 0 LL 10 (Lib.uvarint 1025) h2 hLL.symm (by omega) (by omega)).mono fun e w' ⟨a1, a2, _⟩ => ⟨a1, a2⟩
  have HM := Lib.hid fun W hW => hM W (l ++ Lib.uvarint 1025) hW (by rw [List.length_append, ← hLL]; omega)
  have HP := Lib.hid hP
  have HW := Lib.hid hW
  have HH := Lib.hid h
  have hm1 := method_bufWrite
  have hm2 := nil_bufWrite
  have hm3 := method_misCodec
  have hm4 := method_misMarshal
  have hmk := run_makeB10
  have hL0 : (0 : Int) ≤ (LL : Int) := by omega
  have hL1 : (LL : Int) ≤ 10 := by omega
  have hwL : IntKind.u64.wrap (LL : Int) = (LL : Int) := by rw [IntKind.wrap_u64]; omega
  clear hP hW h hM hzz hLL
  go_enter Tryz.func43, Tryz.ntmps43
  go_wp2_with (first
    | (go_at_call 214; refine (codec_mis _ _).mono ?_; rintro e w' ⟨rfl, rfl⟩)
    | (go_at_call 71; refine (HP.out _ (Blk.new' _ _ _ rfl)).mono ?_; rintro e w1 ⟨rfl, hS1, hO1⟩))
  have hR1 := HH.out.old (((Off.alloc (Off.refl [w.heap.size] w) _).then hO1 (fun x hx => Or.inl hx)).below (fun x hx => by simp at hx; omega))
  have HR1 := Lib.hid hR1
  have HS1 := Lib.hid hS1
  clear hR1 hS1 hO1
  go_region_held3 (fun w' => True) (exact trivial) (first | (go_at_call 207; refine (HW.out _ (HR1.out.ofDrew (by repeat' (first | exact Drew.refl _ | exact Drew.one _ | refine Drew.more ?_ 1))) (by exact HS1.out)).mono ?_; rintro e w3 ⟨rfl, hR3⟩; have HR3 := Lib.hid hR3; clear hR3))
  all_goals go_wp2_with (go_at_call 217; refine (HM.out _ HR3.out).mono ?_; rintro e w4 ⟨X, n, hX, rfl, hR4⟩)
  all_goals go_ret2
  all_goals exact ⟨X, _, hX, rfl, by rw [← List.append_assoc]; exact hR4⟩

set_option maxRecDepth 100000 in
set_option maxHeartbeats 1000000 in
theorem written_mis (w : World) (pb : Nat) (OK : List UInt8 → Prop)
    (hM : ∀ b W l', w.heap.size ≤ b → WrAt b w l' W → l'.length ≤ 1000000 → Calls Tryz.prog 217 #[.pointer (some ⟨pb, 0, none⟩), .iface 88 (.pointer (some ⟨b, 0, none⟩))] W fun e w' => ∃ (X : List UInt8) (n : Nat), OK X ∧ e = .returned (.tuple #[.int .u64 (n : Int), .nilIface]) ∧ WrAt b w (l' ++ X) w') :
    Calls Tryz.prog 20 #[.iface 99 (.pointer (some ⟨pb, 0, none⟩)), .nilIface] w fun e w' => ∃ X, OK X ∧ e = .returned (.tuple #[.string ⟨(Lib.uvarint 1025 ++ X).toArray⟩, .bool true]) ∧ Off [] w w' := by
  have h0 : WrAt w.heap.size w [] (w.alloc (.cells #[.slice none 0 0, .int .i64 0, .int .i8 0] 85)) := ⟨Nat.le_refl _, Lib.fresh_isBuffer _ _ w, Off.alloc (Off.refl [] w) _⟩
  have HW := Lib.hid (writeTo_mis h0 pb OK (by simp) (fun W l' => hM w.heap.size W l' (Nat.le_refl _)))
  have hS : ∀ W l', WrAt w.heap.size w l' W → Calls Tryz.prog 44 #[.pointer (some ⟨w.heap.size, 0, none⟩)] W fun e w' => e = .returned (.string ⟨l'.toArray⟩) ∧ ∃ n, w' = W.drewN n := fun W l' h => Tryz.Buffer_String w.heap.size w.heap.size l' W h.buf
  have HS := Lib.hid hS
  clear hS h0 hM
  go_enter Tryz.func20, Tryz.ntmps20
  go_wp2_with (first
    | (go_at_call 43; refine HW.out.mono ?_; rintro e w1 ⟨X, n, hX, rfl, hR1⟩)
    | (go_at_call 44; refine (HS.out _ _ hR1).mono ?_; rintro e w2 ⟨rfl, k, rfl⟩))
  go_ret2
  exact ⟨X, hX, rfl, hR1.off.drewN k⟩
end Go.Proofs.YtkdbjocchponfaaGreatDoor
namespace Go.Proofs.YtkdbjocchponfaaGreatDoor
open Go.RowKit

end Go.Proofs.YtkdbjocchponfaaGreatDoor
namespace Go.Proofs.YtkdbjocchponfaaGreatDoor
open Go.RowKit

end Go.Proofs.YtkdbjocchponfaaGreatDoor
namespace Go.Proofs.YtkdbjocchponfaaGreatDoor
open Go.RowKit

/-- An identifier as a value: version, codec, code, digest. -/
abbrev cidV (ver codec code : Nat) (dg : ByteArray) : Value := .agg #[.int .u64 ver, .int .u64 codec, .int .u64 code, .string dg]

end Go.Proofs.YtkdbjocchponfaaGreatDoor
namespace Go.Proofs.YtkdbjocchponfaaGreatDoor
open Go.RowKit

def Ent.it (e : Ent) : It := ⟨str (if e.ver = 0 then mhB 18 e.dg.data.toList else cid1 e.codec (mhB e.code e.dg.data.toList)), e.code, e.dg.data.toList, e.off⟩
theorem Ent.it_ok {e : Ent} (h : e.ok) : e.it.ok := by
  refine ⟨?_, h.off, h.small⟩
  rcases h.ver with ⟨h1, h2, h3, h4⟩ | ⟨h1, h2, h3⟩
  · refine ⟨by show e.code < _; omega, by show e.dg.data.toList.length ≤ _; omega, Or.inl ⟨?_, h3, h4⟩⟩
    show (if e.ver = 0 then _ else _) = mhB e.code e.dg.data.toList
    rw [if_pos h1, h3]
  · refine ⟨h3, by show e.dg.data.toList.length ≤ _; have := h.small; omega, Or.inr ⟨e.codec, h2, ?_⟩⟩
    show (if e.ver = 0 then _ else _) = cid1 e.codec (mhB e.code e.dg.data.toList)
    rw [if_neg (by omega)]
/-- The records gathered so far. -/
def RecsAt (w wr : World) (A : Option Addr) (cap : Nat) (its : List It) : Prop :=
  (its = [] ∧ A = none ∧ cap = 0) ∨ ∃ g sp, A = some ⟨g, 0, none⟩ ∧ w.heap.size ≤ g ∧ Blk wr g 134 (flatI its ++ sp).toArray ∧ sp.length + its.length * 2 = cap * 2 ∧ its.length ≤ cap ∧ cap ≤ maxLen
theorem RecsAt.items {w wr : World} {A : Option Addr} {cap : Nat} {its : List It} (h : RecsAt w wr A cap its) : ∃ g, ItemsAt wr A g 0 its := by
  rcases h with ⟨rfl, rfl, rfl⟩ | ⟨g, sp, rfl, _, hb, _⟩
  · exact ⟨0, fun h => absurd h (by simp), fun i h => absurd h (by simp)⟩
  · exact ⟨g, itemsAt_blk hb⟩
theorem RecsAt.owns {w wr W : World} {A : Option Addr} {cap : Nat} {its : List It} (h : RecsAt w wr A cap its) (ho : Off [] wr W) : W.ownsRow 0 134 2 (.slice A its.length cap) its.length (flatI its) := by
  rcases h with ⟨rfl, rfl, rfl⟩ | ⟨g, sp, rfl, _, hb, h1, h2, h3⟩
  · exact World.ownsRow_nil _ _ _ _
  · exact owns_blk (hb.off ho (by simp)) (flatI_length _) h1 h2 h3
theorem RecsAt.own {w wr : World} {A : Option Addr} {cap n : Nat} {its : List It} (h : RecsAt w wr A cap its) : ∀ g, (Value.slice A n cap).ownBlock = some g → w.heap.size ≤ g := by
  rcases h with ⟨rfl, rfl, rfl⟩ | ⟨g, sp, rfl, h1, _⟩
  · intro g hg; simp [Value.ownBlock] at hg
  · intro g' hg
    simp [Value.ownBlock] at hg
    omega

set_option maxRecDepth 100000 in
theorem newMis_any (w : World) : Calls Tryz.prog 51 #[] w fun e w' => e = .returned (.pointer (some ⟨w.heap.size + 1, 0, none⟩)) ∧ w' = (w.alloc (.map #[] 0)).alloc (.cells #[.map (some w.heap.size)] 152) := by
  have hmm := @run_makeMap Tryz.prog
  go_enter Tryz.func51, Tryz.ntmps51
  go_wp2_with fail
  go_ret
  exact ⟨by simp, rfl⟩

end Go.Proofs.YtkdbjocchponfaaGreatDoor
namespace Go.Proofs.YtkdbjocchponfaaGreatDoor
open Go.RowKit

theorem perm_byKey {α : Type} (f : α → Nat) : ∀ (W : List Nat) (l : List α), W.Nodup → (∀ r, r ∈ l → f r ∈ W) → (W.flatMap fun n => l.filter fun r => f r == n).Perm l
  | [], l, _, h => by
    have : l = [] := List.eq_nil_iff_forall_not_mem.2 fun r hr => by have := h r hr; simp at this
    rw [this]; simp
  | n :: W, l, hnd, h => by
    obtain ⟨h1, h2⟩ := List.nodup_cons.1 hnd
    have ih := perm_byKey f W (l.filter fun r => !(f r == n)) h2 (fun r hr => by
      obtain ⟨a, b⟩ := List.mem_filter.1 hr
      have := h r a
      simp at b
      rcases List.mem_cons.1 this with c | c
      · exact absurd c b
      · exact c)
    have e : (W.flatMap fun m => (l.filter fun r => !(f r == n)).filter fun r => f r == m) = W.flatMap fun m => l.filter fun r => f r == m := by
      simp only [List.flatMap]
      refine congrArg List.flatten (List.map_congr_left fun m hm => ?_)
      rw [List.filter_filter]
      refine List.filter_congr fun r _ => ?_
      by_cases hr : f r = m
      · have : m ≠ n := fun e => h1 (e ▸ hm)
        simp [hr, this]
      · simp [hr]
    rw [e] at ih
    rw [List.flatMap_cons]
    exact (List.Perm.append_left _ ih).trans (List.filter_append_perm (fun r => f r == n) l)

theorem cgrp_made (its : List It) (Cs : List Nat) (D : Nat → List Nat) (S : Nat → Nat → List Rw) (H : List (Nat × List (Nat × List Rw))) (hw : Wrt Cs D S H) (hC : ∀ c, c ∈ Cs ↔ ∃ it, it ∈ its ∧ it.code = c)
    (hS : ∀ c, c ∈ Cs → (∀ n, n ∈ D c ↔ ∃ it, it ∈ its.filter (fun it => it.code == c) ∧ it.d.length = n) ∧ ∀ n, n ∈ D c → (S c n).Perm (((its.filter fun it => it.code == c).filter fun it => it.d.length == n).map It.rw) ∧ Srtd (S c n)) :
    CGrp (its.map fun it => (it.code, it.rw)) H := by
  have hcs : ∀ p, p ∈ H → p.1 ∈ Cs := fun p hp => hw.perm.mem_iff.1 (List.mem_map.2 ⟨p, hp, rfl⟩)
  have hg : ∀ p, p ∈ H → Grp ((its.filter fun it => it.code == p.1).map It.rw) p.2 := fun p hp => by
    obtain ⟨Ds, d1, d2, d3⟩ := hw.ex p hp
    obtain ⟨s1, s2⟩ := hS p.1 (hcs p hp)
    rw [d3]
    refine grp_made _ Ds (S p.1) d2 (fun n => ?_) (fun n hn => ?_) (fun n hn => (s2 n (d1.mem_iff.1 hn)).2)
    · rw [d1.mem_iff, s1 n]
      constructor
      · rintro ⟨it, hit, hx⟩; exact ⟨it.rw, List.mem_map.2 ⟨it, hit, rfl⟩, hx⟩
      · rintro ⟨r, hr, hx⟩
        obtain ⟨it, hit, rfl⟩ := List.mem_map.1 hr
        exact ⟨it, hit, hx⟩
    · have := (s2 n (d1.mem_iff.1 hn)).1
      rw [List.filter_map]
      exact this
  refine ⟨hw.asc, fun p hp => (hg p hp).bks, fun p hp => ?_, ?_⟩
  · obtain ⟨it, hit, hc⟩ := (hC p.1).1 (hcs p hp)
    intro e
    have h1 := (hg p hp).perm
    rw [e] at h1
    have : it.rw ∈ (its.filter fun it => it.code == p.1).map It.rw := List.mem_map.2 ⟨it, List.mem_filter.2 ⟨hit, by simp [hc]⟩, rfl⟩
    have := h1.mem_iff.2 this
    simp [flat] at this
  · have h1 : (cflat H).Perm (H.flatMap fun p => ((its.map fun it => (it.code, it.rw)).filter fun r => r.1 == p.1)) := by
      refine perm_flatMap H fun p hp => ?_
      have h2 := (hg p hp).perm.map fun r => (p.1, r)
      refine h2.trans (List.Perm.of_eq ?_)
      rw [List.filter_map, List.map_map]
      refine List.map_congr_left fun it hit => ?_
      have := (List.mem_filter.1 hit).2
      simp at this
      show (p.1, it.rw) = (it.code, it.rw)
      rw [this]
    refine h1.trans ?_
    have h3 := perm_byKey (fun r : Nat × Rw => r.1) (H.map (·.1)) (its.map fun it => (it.code, it.rw)) (nodup_asc hw.asc) (fun r hr => by
      obtain ⟨it, hit, rfl⟩ := List.mem_map.1 hr
      exact hw.perm.mem_iff.2 ((hC it.code).2 ⟨it, hit, rfl⟩))
    rw [List.flatMap_map] at h3
    exact h3

set_option maxRecDepth 100000 in
theorem new_mis (w : World) : Calls Tryz.prog 29 #[.int .u64 1025] w fun e w' => ∃ pb mm, e = .returned (.tuple #[.iface 99 (.pointer (some ⟨pb, 0, none⟩)), .nilIface]) ∧ w'.cell? ⟨pb, 0, none⟩ = some (.map (some mm)) ∧ Mp Tryz.prog 30 .u64 w' mm 0 [] (fun _ => undef) ∧ Off [] w w' ∧ w.heap.size ≤ pb ∧ w.heap.size ≤ mm ∧ pb ≠ mm := by
  have hmp : Mp Tryz.prog 30 .u64 ((w.alloc (.map #[] 0)).alloc (.cells #[.map (some w.heap.size)] 152)) w.heap.size 0 [] (fun _ => undef) := (Mp.made w _ _ _ _).off (Off.alloc (Off.refl [] _) _) (by simp)
  have hbk := Blk.new' (w.alloc (.map #[] 0)) 152 #[.map (some w.heap.size)] (g := w.heap.size + 1) (by simp)
  have hof : Off [] w ((w.alloc (.map #[] 0)).alloc (.cells #[.map (some w.heap.size)] 152)) := (Off.alloc (Off.refl [] w) _).alloc _
  have HMP := Lib.hid hmp
  have HB := Lib.hid hbk
  have HO := Lib.hid hof
  clear hmp hbk hof
  go_enter Tryz.func29, Tryz.ntmps29
  go_wp2_with (go_at_call 51; refine (newMis_any _).mono ?_; rintro e w1 ⟨rfl, rfl⟩)
  go_ret2
  exact ⟨w.heap.size + 1, w.heap.size, rfl, HB.out.cell 0, HMP.out, HO.out, by omega, Nat.le_refl _, by omega⟩

end Go.Proofs.YtkdbjocchponfaaGreatDoor
namespace Go.Proofs.YtkdbjocchponfaaGreatDoor
open Go.RowKit

end Go.Proofs.YtkdbjocchponfaaGreatDoor
namespace Go.Proofs.YtkdbjocchponfaaGreatDoor
open Go.RowKit

end Go.Proofs.YtkdbjocchponfaaGreatDoor
namespace Go.Proofs.YtkdbjocchponfaaGreatDoor
open Go.RowKit

end Go.Proofs.YtkdbjocchponfaaGreatDoor
namespace Go.Proofs.YtkdbjocchponfaaGreatDoor

/-- The entries as the index knows them. -/
def rws (es : List Ent) : List (Nat × Rw) := es.map fun e => (e.code, e.it.rw)
theorem rws_small (es : List Ent) (h : ∀ e, e ∈ es → e.ok) : ∀ r, r ∈ rws es → r.1 < 18446744073709551616 ∧ r.2.d.length ≤ 1000 ∧ r.2.off < 18446744073709551616 := fun r hr => by
  obtain ⟨e, he, rfl⟩ := List.mem_map.1 hr
  have := h e he
  refine ⟨?_, this.small, this.off⟩
  have := this.ver
  show e.code < _
  omega
end Go.Proofs.YtkdbjocchponfaaGreatDoor
namespace Go.Proofs.YtkdbjocchponfaaGreatDoor
open Go.RowKit

end Go.Proofs.YtkdbjocchponfaaGreatDoor
namespace Go.Proofs.YtkdbjocchponfaaGreatDoor
open Go.RowKit

/-- Is it a tidy identifier? -/
def tidyB (ver codec code n : Nat) : Bool := if ver = 0 then (codec == 112 && code == 18 && n == 32) else (ver == 1 && decide (codec < 9223372036854775808) && decide (code < 9223372036854775808))

theorem beqT {a : Nat} {b : Int} (h : (a : Int) = b) : ((a : Int) == b) = true := beq_iff_eq.2 h
theorem beqF {a : Nat} {b : Int} (h : ¬ (a : Int) = b) : ((a : Int) == b) = false := beq_eq_false_iff_ne.2 h

set_option maxRecDepth 100000 in
set_option maxHeartbeats 2000000 in
theorem tidy_any (ver codec code : Nat) (dg : ByteArray) (w : World) :
    Calls Tryz.prog 13 #[cidV ver codec code dg] w fun e w' => e = .returned (.bool (tidyB ver codec code dg.size)) ∧ Below w.heap.size w w' := by
  obtain ⟨B, hB⟩ : ∃ B, B = tidyB ver codec code dg.size := ⟨_, rfl⟩
  rw [← hB]
  have HB := Lib.hid hB
  clear hB
  have cs : (ver = 0 ∧ ¬ codec = 112) ∨ (ver = 0 ∧ codec = 112 ∧ ¬ code = 18) ∨ (ver = 0 ∧ codec = 112 ∧ code = 18 ∧ ¬ dg.size = 32) ∨ (ver = 0 ∧ codec = 112 ∧ code = 18 ∧ dg.size = 32) ∨ (¬ ver = 0 ∧ ¬ ver = 1) ∨
      (ver = 1 ∧ ¬ codec < 9223372036854775808) ∨ (ver = 1 ∧ codec < 9223372036854775808 ∧ ¬ code < 9223372036854775808) ∨ (ver = 1 ∧ codec < 9223372036854775808 ∧ code < 9223372036854775808) := by omega
  rcases cs with ⟨h1, h2⟩ | ⟨h1, h2, h3⟩ | ⟨h1, h2, h3, h4⟩ | ⟨h1, h2, h3, h4⟩ | ⟨h1, h2⟩ | ⟨h1, h2⟩ | ⟨h1, h2, h3⟩ | ⟨h1, h2, h3⟩
  · have a0 := beqT (b := 0) (a := ver) (by omega)
    have a1 := beqF (b := 112) (a := codec) (by omega)
    have H := Lib.hid (And.intro h1 h2)
    clear h1 h2
    go_enter Tryz.func13, Tryz.ntmps13
    go_wp2_with fail
    go_ret
    refine ⟨?_, (Below.refl _ w).alloc (Nat.le_refl _) _⟩
    have := H.out
    rw [HB.out]; simp [tidyB, this]
  · have a0 := beqT (b := 0) (a := ver) (by omega)
    have a1 := beqT (b := 112) (a := codec) (by omega)
    have a2 := beqF (b := 18) (a := code) (by omega)
    have H := Lib.hid (And.intro h1 (And.intro h2 h3))
    clear h1 h2 h3
    go_enter Tryz.func13, Tryz.ntmps13
    go_wp2_with fail
    go_ret
    refine ⟨?_, (Below.refl _ w).alloc (Nat.le_refl _) _⟩
    have := H.out
    rw [HB.out]; simp [tidyB, this]
  · have a0 := beqT (b := 0) (a := ver) (by omega)
    have a1 := beqT (b := 112) (a := codec) (by omega)
    have a2 := beqT (b := 18) (a := code) (by omega)
    have a3 := beqF (b := 32) (a := dg.size) (by omega)
    have H := Lib.hid (And.intro h1 (And.intro h2 (And.intro h3 h4)))
    clear h1 h2 h3 h4
    go_enter Tryz.func13, Tryz.ntmps13
    go_wp2_with fail
    go_ret
    refine ⟨?_, (Below.refl _ w).alloc (Nat.le_refl _) _⟩
    have := H.out
    rw [HB.out]; simp [tidyB, this]
  · have a0 := beqT (b := 0) (a := ver) (by omega)
    have a1 := beqT (b := 112) (a := codec) (by omega)
    have a2 := beqT (b := 18) (a := code) (by omega)
    have a3 := beqT (b := 32) (a := dg.size) (by omega)
    have H := Lib.hid (And.intro h1 (And.intro h2 (And.intro h3 h4)))
    clear h1 h2 h3 h4
    go_enter Tryz.func13, Tryz.ntmps13
    go_wp2_with fail
    go_ret
    refine ⟨?_, (Below.refl _ w).alloc (Nat.le_refl _) _⟩
    have := H.out
    rw [HB.out]; simp [tidyB, this]
  · have a0 := beqF (b := 0) (a := ver) (by omega)
    have a1 := beqF (b := 1) (a := ver) (by omega)
    have H := Lib.hid (And.intro h1 h2)
    clear h1 h2
    go_enter Tryz.func13, Tryz.ntmps13
    go_wp2_with fail
    go_ret
    refine ⟨?_, (Below.refl _ w).alloc (Nat.le_refl _) _⟩
    have := H.out
    rw [HB.out]; simp [tidyB, this]
  · have a0 := beqF (b := 0) (a := ver) (by omega)
    have a1 := beqT (b := 1) (a := ver) (by omega)
    have a2 : ¬ ((codec : Int) < 9223372036854775808) := by omega
    have H := Lib.hid (And.intro h1 h2)
    clear h1 h2
    go_enter Tryz.func13, Tryz.ntmps13
    go_wp2_with fail
    go_ret
    refine ⟨?_, (Below.refl _ w).alloc (Nat.le_refl _) _⟩
    have := H.out
    rw [HB.out]; simp [tidyB, this]
  · have a0 := beqF (b := 0) (a := ver) (by omega)
    have a1 := beqT (b := 1) (a := ver) (by omega)
    have a2 : (codec : Int) < 9223372036854775808 := by omega
    have a3 : ¬ ((code : Int) < 9223372036854775808) := by omega
    have H := Lib.hid (And.intro h1 (And.intro h2 h3))
    clear h1 h2 h3
    go_enter Tryz.func13, Tryz.ntmps13
    go_wp2_with fail
    go_ret
    refine ⟨?_, (Below.refl _ w).alloc (Nat.le_refl _) _⟩
    have := H.out
    rw [HB.out]; simp [tidyB, this]
  · have a0 := beqF (b := 0) (a := ver) (by omega)
    have a1 := beqT (b := 1) (a := ver) (by omega)
    have a2 : (codec : Int) < 9223372036854775808 := by omega
    have a3 : (code : Int) < 9223372036854775808 := by omega
    have H := Lib.hid (And.intro h1 (And.intro h2 h3))
    clear h1 h2 h3
    go_enter Tryz.func13, Tryz.ntmps13
    go_wp2_with fail
    go_ret
    refine ⟨?_, (Below.refl _ w).alloc (Nat.le_refl _) _⟩
    have := H.out
    rw [HB.out]; simp [tidyB, this]

set_option maxRecDepth 100000 in
theorem zzFits1_any (ver codec code : Nat) (dg : ByteArray) (w : World) :
    Calls Tryz.prog 23 #[cidV ver codec code dg] w fun e w' => e = .returned (.bool (decide (dg.size ≤ 2147483647))) ∧ Below w.heap.size w w' := by
  by_cases h : dg.size ≤ 2147483647
  · have h2 : ¬ (2147483647 < (dg.size : Int)) := by omega
    rw [show decide (dg.size ≤ 2147483647) = true from by simpa using h]
    clear h
    go_enter Tryz.func23, Tryz.ntmps23
    go_wp2_with fail
    go_ret
    exact ⟨rfl, (Below.refl _ w).alloc (Nat.le_refl _) _⟩
  · have h2 : (2147483647 < (dg.size : Int)) := by omega
    rw [show decide (dg.size ≤ 2147483647) = false from by simpa using h]
    clear h
    go_enter Tryz.func23, Tryz.ntmps23
    go_wp2_with fail
    go_ret
    exact ⟨rfl, (Below.refl _ w).alloc (Nat.le_refl _) _⟩
end Go.Proofs.YtkdbjocchponfaaGreatDoor
namespace Go.Proofs.YtkdbjocchponfaaGreatDoor
open Go.RowKit

theorem ok_of_tidy {e : Ent} (h : true = tidyB e.ver e.codec e.code e.dg.size) (hz : e.dg.size ≤ 200) (ho : e.off < 18446744073709551616) : e.ok := by
  have hl : e.dg.data.toList.length = e.dg.size := by rw [Array.length_toList]; rfl
  refine ⟨?_, by omega, ho⟩
  unfold tidyB at h
  by_cases h0 : e.ver = 0
  · rw [if_pos h0] at h
    simp only [Bool.and_eq_true, beq_iff_eq, eq_comm (a := true)] at h
    exact Or.inl ⟨h0, h.1.1, h.1.2, by omega⟩
  · rw [if_neg h0] at h
    simp only [Bool.and_eq_true, beq_iff_eq, decide_eq_true_eq, eq_comm (a := true)] at h
    exact Or.inr ⟨h.1.1, h.1.2, h.2⟩

end Go.Proofs.YtkdbjocchponfaaGreatDoor
namespace Go.Proofs.YtkdbjocchponfaaGreatDoor
open Go.RowKit

/-- A row of offsets, the least first; none at all: nil. -/
def SrtRow (w : World) (v : Value) (outs : List Nat) : Prop := (outs = [] ∧ v = .slice none 0 0) ∨ ∃ A c, v = .slice A outs.length c ∧ U64s w A (srtI (ints outs))
end Go.Proofs.YtkdbjocchponfaaGreatDoor
