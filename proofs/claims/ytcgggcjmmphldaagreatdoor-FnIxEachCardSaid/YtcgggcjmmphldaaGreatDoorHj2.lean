/-
  laws.FnIxAdd's arithmetic in plain words: how much longer an index is for an entry more, as the law counts it. No program is named here.
  impl.IxBytes, impl.IxAll.
  (No condition beyond those that each theorem states.)
-/
import Derived.Test.YtcgggcjmmphldaaGreatDoorHi3
import Derived.Test.YtcgggcjmmphldaaGreatDoorHa7
import Derived.Test.YtcgggcjmmphldaaGreatDoorHi4
import Derived.Test.YtcgggcjmmphldaaGreatDoorHj1
namespace Go.Proofs.YtcgggcjmmphldaaGreatDoor

/-- The entries as the index knows them. -/
def rws (es : List Ent) : List (Nat × Rw) := es.map fun e => (e.code, e.it.rw)
def sameB (kind : Nat) (e x : Ent) : Bool := decide (kind = 1024) || decide (x.code = e.code)
def widB (kind : Nat) (e : Ent) (l : List Ent) : Bool := l.all fun x => !sameB kind e x || !decide (x.dg.size = e.dg.size)
def codB (kind : Nat) (e : Ent) (l : List Ent) : Bool := decide (kind = 1025) && l.all fun x => !sameB kind e x
theorem widB_snoc (kind : Nat) (e : Ent) (l : List Ent) (x : Ent) : widB kind e (l ++ [x]) = (widB kind e l && (!sameB kind e x || !decide (x.dg.size = e.dg.size))) := by simp [widB]
theorem codB_snoc (kind : Nat) (e : Ent) (l : List Ent) (x : Ent) : codB kind e (l ++ [x]) = (codB kind e l && !sameB kind e x) := by simp [codB, Bool.and_assoc]
def moreN (kind : Nat) (e : Ent) (l : List Ent) : Nat := e.dg.size + 8 + (if widB kind e l then 12 else 0) + (if codB kind e l then 12 else 0)

theorem dg_len (e : Ent) : e.it.rw.d.length = e.dg.size := by
  show e.dg.data.toList.length = e.dg.size
  rw [Array.length_toList]; rfl
theorem enc_len {kind : Nat} (hk : kind = 1024 ∨ kind = 1025) (es : List Ent) (e : Ent) {s s' : List UInt8} (h : Enc kind (rws es) s) (h' : Enc kind (rws (es ++ [e])) s') : s'.length = s.length + moreN kind e es := by
  have h2 : Enc kind (rws es ++ [(e.code, e.it.rw)]) s' := by simpa [rws] using h'
  have hm := enc_more h h2
  have c1 : (∃ x, x ∈ rws es ∧ (kind = 1024 ∨ x.1 = e.code) ∧ x.2.d.length = e.it.rw.d.length) ↔ widB kind e es = false := by
    constructor
    · rintro ⟨x, hx, h1, h3⟩
      obtain ⟨y, hy, rfl⟩ := List.mem_map.1 hx
      rw [Bool.eq_false_iff]
      intro hb
      have := List.all_eq_true.1 hb y hy
      rw [dg_len, dg_len] at h3
      have hs : sameB kind e y = true := by
        rcases h1 with h1 | h1
        · simp [sameB, h1]
        · have h5 : y.code = e.code := h1
          simp [sameB, h5]
      simp [hs, h3] at this
    · intro hb
      obtain ⟨y, hy, h3⟩ := List.all_eq_false.1 hb
      refine ⟨(y.code, y.it.rw), List.mem_map.2 ⟨y, hy, rfl⟩, ?_, ?_⟩
      · show kind = 1024 ∨ y.code = e.code
        by_cases hk : kind = 1024
        · exact Or.inl hk
        · simp [sameB, hk] at h3
          exact Or.inr h3.1
      · rw [dg_len, dg_len]
        simp at h3
        exact h3.2
  have c2 : (kind = 1025 ∧ ¬ ∃ x, x ∈ rws es ∧ x.1 = e.code) ↔ codB kind e es = true := by
    constructor
    · rintro ⟨rfl, h3⟩
      simp only [codB, decide_true, Bool.true_and, List.all_eq_true]
      intro y hy
      have : ¬ y.code = e.code := fun hc => h3 ⟨(y.code, y.it.rw), List.mem_map.2 ⟨y, hy, rfl⟩, hc⟩
      simp [sameB, this]
    · intro hb
      simp only [codB, Bool.and_eq_true, decide_eq_true_eq, List.all_eq_true] at hb
      refine ⟨hb.1, ?_⟩
      rintro ⟨x, hx, hc⟩
      obtain ⟨y, hy, rfl⟩ := List.mem_map.1 hx
      have h4 := hb.2 y hy
      have h5 : y.code = e.code := hc
      simp [sameB, h5] at h4
  rw [hm, moreN]
  have hd : (e.code, e.it.rw).snd.d.length = e.dg.size := dg_len e
  have hd2 : (e.code, e.it.rw).snd.d.length = e.it.rw.d.length := rfl
  rw [hd2] at *
  rw [dg_len] at hd ⊢
  simp only [dg_len] at c1
  by_cases hw : widB kind e es = true <;> by_cases hc : codB kind e es = true
  · rw [if_neg (fun x => by rw [c1.1 x] at hw; cases hw), if_pos (c2.2 hc), if_pos hw, if_pos hc]; omega
  · rw [if_neg (fun x => by rw [c1.1 x] at hw; cases hw), if_neg (fun x => hc (c2.1 x)), if_pos hw, if_neg hc]; omega
  · rw [if_pos (c1.2 (by simpa using hw)), if_pos (c2.2 hc), if_neg hw, if_pos hc]; omega
  · rw [if_pos (c1.2 (by simpa using hw)), if_neg (fun x => hc (c2.1 x)), if_neg hw, if_neg hc]; omega

/-- What stands for x's digest, with and without e's entry. -/
theorem rws_snoc (es : List Ent) (e : Ent) : rws (es ++ [e]) = rws es ++ [(e.code, e.it.rw)] := by simp [rws]
theorem founds_rest (kind : Nat) (es : List Ent) (e x : Ent) (h : x.dg ≠ e.dg) : founds kind (rws (es ++ [e])) x.code x.dg.data.toList = founds kind (rws es) x.code x.dg.data.toList := by
  rw [rws_snoc]
  refine founds_other _ _ _ _ _ (fun h2 => h ?_)
  have h3 : e.dg.data.toList = x.dg.data.toList := h2
  exact (ByteArray.ext (Array.toList_inj.1 h3)).symm
theorem founds_ne (kind : Nat) (es : List Ent) (x : Ent) (h : x ∈ es) : founds kind (rws es) x.code x.dg.data.toList ≠ [] := by
  have : x.off ∈ founds kind (rws es) x.code x.dg.data.toList := by
    simp only [founds, List.mem_map, List.mem_filter]
    exact ⟨(x.code, x.it.rw), ⟨List.mem_map.2 ⟨x, h, rfl⟩, by simp [It.rw, Ent.it]⟩, rfl⟩
  exact List.ne_nil_of_mem this
theorem founds_in (kind : Nat) (es : List Ent) (e : Ent) : e.off ∈ founds kind (rws (es ++ [e])) e.code e.dg.data.toList := by
  rw [rws_snoc]
  exact founds_self kind (rws es) (e.code, e.it.rw)
theorem rws_small (es : List Ent) (h : ∀ e, e ∈ es → e.ok) : ∀ r, r ∈ rws es → r.1 < 18446744073709551616 ∧ r.2.d.length ≤ 1000 ∧ r.2.off < 18446744073709551616 := fun r hr => by
  obtain ⟨e, he, rfl⟩ := List.mem_map.1 hr
  have := h e he
  refine ⟨?_, this.small, this.off⟩
  have := this.ver
  show e.code < _
  omega
end Go.Proofs.YtcgggcjmmphldaaGreatDoor
namespace Go.Proofs.YtcgggcjmmphldaaGreatDoor
open Go.RowKit

theorem offsets_enc (kind : Nat) (rs : List (Nat × Rw)) (l : List UInt8) (h : Enc kind rs l) (h1 : rs.length ≤ 1000) (h2 : ∀ r, r ∈ rs → r.1 < 18446744073709551616 ∧ r.2.d.length ≤ 1000 ∧ r.2.off < 18446744073709551616) (sb : ByteArray) (hsb : sb.data.toList = l) (e : Ent) (he : e.ok) (most : Nat) (hm : rs.length < most) (a : Addr) (w : World)
    (hE : w.cell? ⟨0, 0, none⟩ = some (notF a)) :
    Calls Tryz.prog 24 #[.string sb, .agg #[.int .u64 (e.ver : Int), .int .u64 (e.codec : Int), .int .u64 (e.code : Int), .string e.dg], .int .i64 (most : Int)] w fun r w' => ∃ v outs, outs.Perm (founds kind rs e.code e.dg.data.toList) ∧ r = .returned (.tuple #[v, .int .u8 (if outs = [] then 1 else 0)]) ∧ OutRow w w' v outs ∧ Off [] w w' := by
  have hl := h.len h1 (fun r hr => (h2 r hr).2.1)
  rcases h with ⟨rfl, G, hG, hs⟩ | ⟨rfl, H, hH, hs⟩
  · have hsm := hG.small (by rw [List.length_map]; exact h1) (fun r hr => by obtain ⟨x, hx, rfl⟩ := List.mem_map.1 hr; exact (h2 x hx).2.1)
    have hfl : ∀ r, r ∈ flat G → r.off < 18446744073709551616 := fun r hr => by
      obtain ⟨x, hx, rfl⟩ := List.mem_map.1 (hG.perm.mem_iff.1 hr)
      exact (h2 x hx).2.2
    refine (offsets_mw sb l hsb G hs hG.bks hsm hl e he most (fun p hp => ?_) (fun p hp r hr => hfl r (mem_flat.2 ⟨p, hp, hr⟩)) a w hE).mono ?_
    · have := mem_len_flat hp
      rw [hG.perm.length_eq, List.length_map] at this
      omega
    · rintro r w' ⟨v, rfl, h3, h4⟩
      refine ⟨v, _, (hG.look e.dg.data.toList).trans ?_, rfl, h3, h4⟩
      rw [List.filter_map, List.map_map]
      refine List.Perm.of_eq ?_
      simp [founds, Function.comp_def]
  · have hsm := hH.small h1 (fun r hr => ⟨(h2 r hr).1, (h2 r hr).2.1⟩)
    refine (offsets_mis sb l hsb H hs hH.asc hsm.1 hsm.2 hl e he most (fun p hp x hx => ⟨?_, fun r hr => ?_⟩) a w hE).mono ?_
    · have h3 := mem_len_flat hx
      have h4 := mem_len_cflat hp
      rw [hH.perm.length_eq] at h4
      omega
    · exact (h2 (p.1, r) (hH.perm.mem_iff.1 (mem_cflat.2 ⟨p, hp, rfl, mem_flat.2 ⟨x, hx, hr⟩⟩))).2.2
    · rintro r w' ⟨v, rfl, h3, h4⟩
      refine ⟨v, _, (hH.look e.code e.dg.data.toList).trans ?_, rfl, h3, h4⟩
      refine List.Perm.of_eq ?_
      simp [founds]

set_option maxRecDepth 100000 in
theorem ixAll_enc (kind : Nat) (rs : List (Nat × Rw)) (l : List UInt8) (h : Enc kind rs l) (h1 : rs.length ≤ 1000) (h2 : ∀ r, r ∈ rs → r.1 < 18446744073709551616 ∧ r.2.d.length ≤ 1000 ∧ r.2.off < 18446744073709551616) (sb : ByteArray) (hsb : sb.data.toList = l) (e : Ent) (he : e.ok) (most : Nat) (hm : rs.length < most) (a : Addr) (w : World)
    (hE : w.cell? ⟨0, 0, none⟩ = some (notF a)) :
    Calls Tryz.prog 12 #[.string sb, .agg #[.int .u64 (e.ver : Int), .int .u64 (e.codec : Int), .int .u64 (e.code : Int), .string e.dg], .int .i64 (most : Int)] w fun r w' => ∃ v outs, outs.Perm (founds kind rs e.code e.dg.data.toList) ∧ r = .returned (.tuple #[v, .int .u8 (if outs = [] then 1 else 0)]) ∧ OutRow w w' v outs ∧ Off [] w w' := by
  have HC := Lib.hid fun (W : World) hW => offsets_enc kind rs l h h1 h2 sb hsb e he most hm a W hW
  have HE := Lib.hid hE
  clear h h1 h2 hsb he hm hE
  go_enter Tryz.func12, Tryz.ntmps12
  go_wp2_with (go_at_call 24
               have hal : Off [] w (w.alloc (.cells #[.int .u64 (e.ver : Int), .int .u64 (e.codec : Int), .int .u64 (e.code : Int), .string e.dg] 25)) := Off.alloc (Off.refl [] w) _
               refine (HC.out _ (hal.cell HE.out (by simp))).mono ?_
               rintro r w1 ⟨v, outs, hp, rfl, hr, ho⟩
               have HP := Lib.hid hp
               have HR := Lib.hid (hr.low hal.size)
               have HO := Lib.hid (hal.then ho (fun x hx => by simp at hx))
               obtain ⟨fv, hfv⟩ : ∃ fv : Int, fv = if outs = [] then 1 else 0 := ⟨_, rfl⟩
               rw [← hfv]
               have HF := Lib.hid hfv
               clear hp hr ho hfv hal)
  go_ret2
  exact ⟨v, outs, HP.out, by rw [← HF.out]; rfl, HR.out, HO.out⟩

set_option maxRecDepth 100000 in
theorem ixBytes_enc (kind : Nat) (hk : kind = 1024 ∨ kind = 1025) (es : List Ent) (A : Option Addr) (ib io c n : Nat) (w : World) (hes : ∀ e, e ∈ es → e.ok) (hn : es.length = n) (hn2 : n ≤ 1000) (hat : EntsAt w A ib io es) :
    Calls Tryz.prog 11 #[.slice A n c, .int .u64 (kind : Int)] w fun r w' => ∃ s, Enc kind (rws es) s ∧ r = .returned (.tuple #[.string ⟨s.toArray⟩, .bool true]) ∧ Off [] w w' := by
  subst hn
  have HC : Hid (Calls Tryz.prog 23 #[.slice A es.length c, .int .u64 (kind : Int)] w fun r w' => ∃ s, Enc kind (rws es) s ∧ r = .returned (.tuple #[.string ⟨s.toArray⟩, .bool true]) ∧ Off [] w w') := Lib.hid (by
    rcases hk with rfl | rfl
    · exact indexBytes_mw es A ib io c w hes hn2 hat
    · exact indexBytes_mis es A ib io c w hes hn2 hat)
  clear hk hes hat hn2
  go_enter Tryz.func11, Tryz.ntmps11
  go_wp2_with (go_at_call 23; refine HC.out.mono ?_; rintro r w1 ⟨s, hs, rfl, ho⟩; have HS := Lib.hid hs; have HO := Lib.hid ho; clear hs ho)
  go_ret2
  exact ⟨s, HS.out, rfl, HO.out⟩

theorem OutRow.u64s {w W : World} {v : Value} {outs : List Nat} (h : OutRow w W v outs) (hne : outs ≠ []) : ∃ A cap, v = .slice A outs.length cap ∧ U64s W A (ints outs) := by
  rcases h with ⟨h1, _⟩ | ⟨g, cap, sp, rfl, h2, h3, _⟩
  · exact absurd h1 hne
  · refine ⟨_, cap, rfl, g, 0, rfl, h3.lt, fun j hj => ?_⟩
    rw [h3.cell, Nat.zero_add]
    simp [List.getElem?_append, hj]
end Go.Proofs.YtcgggcjmmphldaaGreatDoor
