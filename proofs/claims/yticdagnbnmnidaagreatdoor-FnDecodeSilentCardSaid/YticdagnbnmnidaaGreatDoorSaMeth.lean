/- What the decoder's methods leave: how a decoder stands well, and what a step of it is. Conditions: none; plain lemmas. The decoder over bytes: ends of lines (takeEOL, consumeLine, skipEmptyLines). Conditions: none. -/
import Derived.Test.YticdagnbnmnidaaGreatDoorSaEsc
set_option linter.unusedSimpArgs false
set_option linter.unusedVariables false
namespace Go.Proofs.YticdagnbnmnidaaGreatDoor
open Go.RowKit

/-- The decoder stands well: its memory, its unescaped bytes, the laid memory as it was. -/
structure Ok (w0 : World) (c : DC) (w : World) (s : DS) : Prop where
  dec : Dec w c s
  ok : s.ok
  sec : s.sec ≤ 5
  lay : Lay w0 w
  D : w0.heap.size ≤ c.base

/-- how many bytes are left -/
def DS.left (s : DS) : Nat := s.L - s.r1

theorem Ok.far {w0 w w' : World} {c : DC} {s s' : DS} (h : Ok w0 c w s) (hd : Dec w' c s') (hok : s'.ok) (hsec : s'.sec ≤ 5) (hf : Far c s s' w w') : Ok w0 c w' s' :=
  ⟨hd, hok, hsec, h.lay.far h.dec h.D hf, h.D⟩
theorem Ok.same {w0 w w' : World} {c : DC} {s : DS} (h : Ok w0 c w s) (hk : Same w w') : Ok w0 c w' s :=
  ⟨h.dec.same hk, h.ok, h.sec, h.lay.same hk, h.D⟩
/-- a step that turns the decoder's own block alone -/
theorem Ok.turn {w0 w w' : World} {c : DC} {s s' : DS} (h : Ok w0 c w s) (hd : Dec w' c s') (hok : s'.ok) (hsec : s'.sec ≤ 5) (hk : Keep (fun k => k = c.D) w w') : Ok w0 c w' s' :=
  ⟨hd, hok, hsec, h.lay.keep hk (fun k hl e => by have := h.D; have := h.dec.base_D; omega), h.D⟩
theorem Far.of_D {c : DC} {s s' : DS} {w w' : World} (h : Keep (fun k => k = c.D) w w') (he : s'.esc.ownBlock = s.esc.ownBlock) : Far c s s' w w' :=
  ⟨h.mono fun _ _ e => .inl e, fun k hk _ => by rw [he] at hk; exact hk⟩
theorem Far.same {c : DC} {s : DS} {w w' : World} (h : Same w w') : Far c s s w w' := Far.of_D h.wide rfl

/-- the nil slice -/
def nilS : Value := .slice none 0 0

/-- A token that was handed back: bytes that can be read, and stay. -/
structure Tk (c : DC) (s : DS) (w : World) (v : Value) (n : Nat) (f : Nat → Nat) : Prop where
  rd : Rd w v n f
  loc : Loc c s v
  le : n ≤ 3000000

theorem Tk.far {c : DC} {s s' : DS} {w w' : World} {v : Value} {n : Nat} {f : Nat → Nat} (h : Tk c s w v n f) (hf : Far1 c s s' w w') : Tk c s' w' v n f :=
  ⟨h.rd.far h.loc hf, h.loc.far h.rd hf, h.le⟩
theorem Tk.same {c : DC} {s : DS} {w w' : World} {v : Value} {n : Nat} {f : Nat → Nat} (h : Tk c s w v n f) (hk : Same w w') : Tk c s w' v n f :=
  h.far (Far1.same hk)

theorem Bad.same {w w' : World} {err : Value} (h : Bad w err) (hk : Same w w') : Bad w' err := by
  obtain ⟨g, k, e, ⟨ln, col, hr⟩, hc⟩ := h
  exact ⟨g, k, e, ⟨ln, col, hr.same hk⟩, hc.same hk⟩

end Go.Proofs.YticdagnbnmnidaaGreatDoor
namespace Go.Proofs.YticdagnbnmnidaaGreatDoor
open Go.RowKit

theorem at_yes (c : DC) (s : DS) (n : Nat) (w : World) (h : Dec w c s) (hlt : s.r1 + n < s.L) :
    Calls Tryz.prog 124 #[.pointer (some ⟨c.D, 0, none⟩), .int .i64 n] w (Looks (.int .u8 (c.b (s.r1 + n) : Nat)) w) := by
  have hb := h.big
  have hl := h.L_le
  refine (at_any c s n w h (by omega)).mono ?_
  intro e w1 h1
  rw [show s.at_ c n = c.b (s.r1 + n) from if_pos hlt] at h1
  exact h1
theorem at_no (c : DC) (s : DS) (n : Nat) (w : World) (h : Dec w c s) (hn : n ≤ 1000000) (hlt : ¬ s.r1 + n < s.L) :
    Calls Tryz.prog 124 #[.pointer (some ⟨c.D, 0, none⟩), .int .i64 n] w (Looks (.int .u8 0) w) := by
  refine (at_any c s n w h hn).mono ?_
  intro e w1 h1
  rw [show s.at_ c n = 0 from if_neg hlt] at h1
  exact h1

/-- A step that turns the decoder's place, line and part alone. -/
structure Mv (c : DC) (s s' : DS) (w w' : World) : Prop where
  dec : Dec w' c s'
  keep : Keep (fun k => k = c.D) w w'
  L : s'.L = s.L
  cap : s'.cap = s.cap
  r0 : s'.r0 = s.r0
  skip : s'.skip = s.skip
  esc : s'.esc = s.esc
  xs : s'.xs = s.xs

theorem Mv.refl {c : DC} {s : DS} {w : World} (h : Dec w c s) : Mv c s s w w := ⟨h, Keep.refl _ _, rfl, rfl, rfl, rfl, rfl, rfl⟩
theorem Mv.trans {c : DC} {s s1 s2 : DS} {w w1 w2 : World} (h : Mv c s s1 w w1) (k : Mv c s1 s2 w1 w2) : Mv c s s2 w w2 :=
  ⟨k.dec, h.keep.trans k.keep, k.L.trans h.L, k.cap.trans h.cap, k.r0.trans h.r0, k.skip.trans h.skip, k.esc.trans h.esc, k.xs.trans h.xs⟩
theorem Mv.same {c : DC} {s s1 : DS} {w w1 w2 : World} (h : Mv c s s1 w w1) (k : Same w1 w2) : Mv c s s1 w w2 :=
  ⟨h.dec.same k, h.keep.trans k.wide, h.L, h.cap, h.r0, h.skip, h.esc, h.xs⟩
theorem Mv.far {c : DC} {s s1 : DS} {w w1 : World} (h : Mv c s s1 w w1) : Far1 c s s1 w w1 := Far1.of_D h.keep h.esc h.xs

/-- What takeEOL gives. -/
def Eol (c : DC) (s : DS) (w : World) (e : Ending) (w' : World) : Prop :=
  ∃ (b : Bool) (s' : DS), e = .returned (.bool b) ∧ Mv c s s' w w' ∧ s'.sec = s.sec ∧ s.r1 ≤ s'.r1 ∧ (b = true → s.r1 < s'.r1 ∨ s.L ≤ s.r1)

set_option maxRecDepth 20000 in
set_option maxHeartbeats 1600000 in
theorem takeEOL_any (c : DC) (s : DS) (w : World) (h : Dec w c s) : Calls Tryz.prog 126 #[.pointer (some ⟨c.D, 0, none⟩)] w (Eol c s w) := by
  have hb := h.big
  have hl := h.L_le
  have H := hid h
  by_cases h1 : s.r1 < s.L
  · by_cases hn : c.b s.r1 = 10
    · have hnb : ((c.b s.r1 : Int) == 10) = true := by simp [hn]
      have Hn := hid hn
      clear hn h
      go_enter Tryz.func126, Tryz.ntmps126
      go_wp2_with fail
      refine (ensure_yes c s 1 _ H.out h1).mono ?_
      rintro e w1 ⟨rfl, hk1⟩
      have H1 := hid (H.out.same hk1)
      go_wp2_with fail
      refine (at_yes c s 0 _ H1.out h1).mono ?_
      rintro e w2 ⟨rfl, hk2⟩
      have H2 := hid (H1.out.same hk2)
      go_wp2_with fail
      refine (advance_any c s 1 _ H2.out h1).mono ?_
      rintro e w3 ⟨rfl, hd3, hk3⟩
      have f8 := hd3.f8
      have fr8 := hd3.fr 8
      have Hk := hid (((Keep.wide hk1).trans (Keep.wide hk2)).trans hk3)
      have H3 := hid hd3
      clear hd3 hk1 hk2 hk3
      go_wp2_with fail
      go_ret
      refine ⟨true, { s with r1 := s.r1 + 1, line := _ }, rfl, ⟨H3.out.set_line _, Hk.out.trans (keep_D _ _ _ _), rfl, rfl, rfl, rfl, rfl, rfl⟩, rfl, Nat.le_succ _, fun _ => .inl (Nat.lt_succ_self _)⟩
    · have hnb : ((c.b s.r1 : Int) == 10) = false := by simp; omega
      have Hn := hid hn
      clear hn
      by_cases hr : c.b s.r1 = 13
      · have hrb : ((c.b s.r1 : Int) == 13) = true := by simp [hr]
        have Hr := hid hr
        clear hr h
        by_cases h2 : s.r1 + 1 < s.L
        · by_cases hm : c.b (s.r1 + 1) = 10
          · have hmb : ((c.b (s.r1 + 1) : Int) == 10) = true := by simp [hm]
            have Hm := hid hm
            clear hm
            go_enter Tryz.func126, Tryz.ntmps126
            go_wp2_with fail
            refine (ensure_yes c s 1 _ H.out h1).mono ?_
            rintro e w1 ⟨rfl, hk1⟩
            have H1 := hid (H.out.same hk1)
            go_wp2_with fail
            refine (at_yes c s 0 _ H1.out h1).mono ?_
            rintro e w2 ⟨rfl, hk2⟩
            have H2 := hid (H1.out.same hk2)
            go_wp2_with fail
            refine (ensure_yes c s 2 _ H2.out h2).mono ?_
            rintro e w3 ⟨rfl, hk3⟩
            have H3 := hid (H2.out.same hk3)
            go_wp2_with fail
            refine (at_yes c s 1 _ H3.out h2).mono ?_
            rintro e w4 ⟨rfl, hk4⟩
            have H4 := hid (H3.out.same hk4)
            go_wp2_with fail
            refine (advance_any c s 2 _ H4.out h2).mono ?_
            rintro e w5 ⟨rfl, hd5, hk5⟩
            have f8 := hd5.f8
            have fr8 := hd5.fr 8
            have Hk := hid (((((Keep.wide hk1).trans (Keep.wide hk2)).trans (Keep.wide hk3)).trans (Keep.wide hk4)).trans hk5)
            have H5 := hid hd5
            clear hd5 hk1 hk2 hk3 hk4 hk5
            go_wp2_with fail
            go_ret
            exact ⟨true, { s with r1 := s.r1 + 2, line := _ }, rfl, ⟨H5.out.set_line _, Hk.out.trans (keep_D _ _ _ _), rfl, rfl, rfl, rfl, rfl, rfl⟩, rfl, Nat.le_add_right _ _, fun _ => .inl (by show s.r1 < s.r1 + 2; omega)⟩
          · have hmb : ((c.b (s.r1 + 1) : Int) == 10) = false := by simp; omega
            have Hm := hid hm
            clear hm
            go_enter Tryz.func126, Tryz.ntmps126
            go_wp2_with fail
            refine (ensure_yes c s 1 _ H.out h1).mono ?_
            rintro e w1 ⟨rfl, hk1⟩
            have H1 := hid (H.out.same hk1)
            go_wp2_with fail
            refine (at_yes c s 0 _ H1.out h1).mono ?_
            rintro e w2 ⟨rfl, hk2⟩
            have H2 := hid (H1.out.same hk2)
            go_wp2_with fail
            refine (ensure_yes c s 2 _ H2.out h2).mono ?_
            rintro e w3 ⟨rfl, hk3⟩
            have H3 := hid (H2.out.same hk3)
            go_wp2_with fail
            refine (at_yes c s 1 _ H3.out h2).mono ?_
            rintro e w4 ⟨rfl, hk4⟩
            go_wp2_with fail
            go_ret
            exact ⟨false, s, rfl, ((((Mv.refl H.out).same hk1).same hk2).same hk3).same hk4, rfl, Nat.le_refl _, fun h => by cases h⟩
        · go_enter Tryz.func126, Tryz.ntmps126
          go_wp2_with fail
          refine (ensure_yes c s 1 _ H.out h1).mono ?_
          rintro e w1 ⟨rfl, hk1⟩
          have H1 := hid (H.out.same hk1)
          go_wp2_with fail
          refine (at_yes c s 0 _ H1.out h1).mono ?_
          rintro e w2 ⟨rfl, hk2⟩
          have H2 := hid (H1.out.same hk2)
          go_wp2_with fail
          refine (ensure_no c s 2 _ H2.out (by omega) (by omega)).mono ?_
          rintro e w3 ⟨rfl, hk3⟩
          have H3 := hid (H2.out.same hk3)
          go_wp2_with fail
          refine (advance_any c s 1 _ H3.out h1).mono ?_
          rintro e w4 ⟨rfl, hd4, hk4⟩
          have Hk := hid ((((Keep.wide hk1).trans (Keep.wide hk2)).trans (Keep.wide hk3)).trans hk4)
          have H4 := hid hd4
          clear hd4 hk1 hk2 hk3 hk4
          go_wp2_with fail
          go_ret
          exact ⟨true, { s with r1 := s.r1 + 1 }, rfl, ⟨H4.out, Hk.out, rfl, rfl, rfl, rfl, rfl, rfl⟩, rfl, Nat.le_succ _, fun _ => .inl (Nat.lt_succ_self _)⟩
      · have hrb : ((c.b s.r1 : Int) == 13) = false := by simp; omega
        have Hr := hid hr
        clear hr h
        go_enter Tryz.func126, Tryz.ntmps126
        go_wp2_with fail
        refine (ensure_yes c s 1 _ H.out h1).mono ?_
        rintro e w1 ⟨rfl, hk1⟩
        have H1 := hid (H.out.same hk1)
        go_wp2_with fail
        refine (at_yes c s 0 _ H1.out h1).mono ?_
        rintro e w2 ⟨rfl, hk2⟩
        go_wp2_with fail
        go_ret
        exact ⟨false, s, rfl, ((Mv.refl H.out).same hk1).same hk2, rfl, Nat.le_refl _, fun h => by cases h⟩
  · clear h
    go_enter Tryz.func126, Tryz.ntmps126
    go_wp2_with fail
    refine (ensure_no c s 1 _ H.out (by omega) (by omega)).mono ?_
    rintro e w1 ⟨rfl, hk1⟩
    go_wp2_with fail
    go_ret
    exact ⟨true, s, rfl, (Mv.refl H.out).same hk1, rfl, Nat.le_refl _, fun _ => .inr (by omega)⟩

/-- A step of the decoder. -/
structure Step (w0 : World) (c : DC) (s s' : DS) (w w' : World) : Prop where
  ok : Ok w0 c w' s'
  far : Far c s s' w w'
  left : s'.left ≤ s.left
  skip : s'.skip = s.skip

namespace Step
variable {w0 w w1 w2 : World} {c : DC} {s s1 s2 : DS}
theorem refl (h : Ok w0 c w s) : Step w0 c s s w w := ⟨h, Far.refl _ _ _, Nat.le_refl _, rfl⟩
theorem trans (h : Step w0 c s s1 w w1) (k : Step w0 c s1 s2 w1 w2) : Step w0 c s s2 w w2 :=
  ⟨k.ok, h.far.trans k.far, Nat.le_trans k.left h.left, k.skip.trans h.skip⟩
theorem same (h : Step w0 c s s1 w w1) (k : Same w1 w2) : Step w0 c s s1 w w2 :=
  ⟨h.ok.same k, h.far.trans (Far.same k), h.left, h.skip⟩
end Step

theorem Ok.mv {w0 w w' : World} {c : DC} {s s' : DS} (h : Ok w0 c w s) (m : Mv c s s' w w') (hr : s.r1 ≤ s'.r1) (hs : s'.sec ≤ 5) : Step w0 c s s' w w' :=
  ⟨h.turn m.dec (by have := h.ok; unfold DS.ok at *; rw [m.r0, m.xs]; omega) hs m.keep, m.far.toFar, by unfold DS.left; rw [m.L]; omega, m.skip⟩

theorem Ok.set {w0 w w' : World} {c : DC} {s : DS} (h : Ok w0 c w s) (x : Nat) (hx : x ≤ 5) (hd : Dec w' c { s with sec := x }) (hk : Keep (fun k => k = c.D) w w') : Step w0 c s { s with sec := x } w w' :=
  ⟨h.turn hd h.ok hx hk, Far.of_D hk rfl, Nat.le_refl _, rfl⟩

theorem Ok.reset {w0 w w' : World} {c : DC} {s : DS} {v : Value} (h : Ok w0 c w s) (hv : v.ownBlock = s.esc.ownBlock) (hd : Dec w' c (s.reset v)) (hk : Keep (fun k => k = c.D) w w') :
    Step w0 c s (s.reset v) w w' := by
  have hl := h.dec.r1_le
  by_cases e : s.r1 = s.L
  · rw [reset_yes e] at hd ⊢
    exact ⟨h.turn hd (by unfold DS.ok; simp) h.sec hk, Far.of_D hk hv, by unfold DS.left; simp, rfl⟩
  · rw [reset_no e] at hd ⊢
    exact ⟨h.turn hd (by unfold DS.ok; simp) h.sec hk, Far.of_D hk hv, Nat.le_refl _, rfl⟩
theorem reset_sec (s : DS) (v : Value) : (s.reset v).sec = s.sec := by unfold DS.reset; split <;> rfl

theorem Step.line {w0 w w1 : World} {c : DC} {s s1 : DS} (h : Step w0 c s s1 w w1) (x : Int) : Step w0 c s (s1.ln x) w (w1.setCell ⟨c.D, 8, none⟩ (.int .i64 x)) :=
  h.trans (h.ok.mv ⟨h.ok.dec.set_line x, keep_D _ _ _ _, rfl, rfl, rfl, rfl, rfl, rfl⟩ (Nat.le_refl _) h.ok.sec)
theorem Step.sec {w0 w w1 : World} {c : DC} {s s1 : DS} (h : Step w0 c s s1 w w1) (x : Nat) (hx : x ≤ 5) : Step w0 c s { s1 with sec := x } w (w1.setCell ⟨c.D, 5, none⟩ (.int .u8 x)) :=
  h.trans (h.ok.set x hx (h.ok.dec.set_sec x) (keep_D _ _ _ _))
theorem Step.mv {w0 w w1 w2 : World} {c : DC} {s s1 s2 : DS} (h : Step w0 c s s1 w w1) (m : Mv c s1 s2 w1 w2) (hr : s1.r1 ≤ s2.r1) (hs : s2.sec = s1.sec) : Step w0 c s s2 w w2 :=
  h.trans (h.ok.mv m hr (by rw [hs]; exact h.ok.sec))
theorem Turns.mv {c : DC} {v : Value} {s : DS} {q : Nat} {w : World} {e : Ending} {w' : World} (h : Turns c v { s with r1 := q } w e w') : Mv c s { s with r1 := q } w w' :=
  ⟨h.2.1, h.2.2, rfl, rfl, rfl, rfl, rfl, rfl⟩

/-- What consumeLine does. -/
def Lines (w0 : World) (c : DC) (s : DS) (w : World) (e : Ending) (w' : World) : Prop := ∃ s', e = .returned (.tuple #[]) ∧ Step w0 c s s' w w' ∧ s'.sec = 5

theorem ne_D {w0 w : World} {c : DC} {s : DS} {g : Nat} (h : Ok w0 c w s) (hg : w.heap.size ≤ g) : g ≠ c.D := by have := h.dec.lt; omega

set_option maxRecDepth 20000 in
set_option maxHeartbeats 1600000 in
theorem consumeLine_any (w0 : World) (c : DC) (s : DS) (w : World) (h : Ok w0 c w s) : Calls Tryz.prog 188 #[.pointer (some ⟨c.D, 0, none⟩)] w (Lines w0 c s w) := by
  have H := hid h
  clear h
  go_enter Tryz.func188, Tryz.ntmps188
  go_wp2_with fail
  refine (notNl_set _).mono ?_
  rintro e w1 ⟨g, rfl, hg, hs, hk1⟩
  have H1 := hid (H.out.same hk1)
  have hgD := hid (ne_D H.out hg)
  go_wp2_with fail
  refine (take_any c s g _ _ H1.out.dec hs hgD.out).mono ?_
  rintro e w2 ⟨q, hrun, rfl, hd2, hk2⟩
  have S2 := hid (((Step.refl H.out).same hk1).trans (H1.out.mv ⟨hd2, hk2, rfl, rfl, rfl, rfl, rfl, rfl⟩ hrun.le H.out.sec))
  clear hd2 hk2 hk1 hs
  by_cases hlt : q < s.L
  · by_cases hn : c.b q = 10
    · have hnb : ((c.b q : Int) == 10) = true := by simp [hn]
      have Hn := hid hn
      clear hn hrun
      go_wp2_with fail
      refine (at_yes c { s with r1 := q } 0 _ S2.out.ok.dec hlt).mono ?_
      rintro e w3 ⟨rfl, hk3⟩
      have S3 := hid (S2.out.same hk3)
      clear hk3
      go_wp2_with fail
      refine (advance_any c { s with r1 := q } 1 _ S3.out.ok.dec hlt).mono ?_
      rintro e w4 ⟨rfl, hd4, hk4⟩
      have S4 := hid (S3.out.trans (S3.out.ok.mv ⟨hd4, hk4, rfl, rfl, rfl, rfl, rfl, rfl⟩ (Nat.le_succ _) S3.out.ok.sec))
      have f8 := hd4.f8
      have fr8 := hd4.fr 8
      clear hd4 hk4
      go_wp2_with fail
      refine (reset_any c _ _ (S4.out.line _).ok.dec).mono ?_
      rintro e w5 ⟨v, hv, rfl, hd5, hk5⟩
      have S5 := hid ((S4.out.line _).trans (Ok.reset (S4.out.line _).ok hv hd5 hk5))
      have f5 := hd5.f5
      have fr5 := hd5.fr 5
      clear hd5 hk5
      go_wp2_with fail
      go_end0
      exact ⟨_, rfl, S5.out.sec 5 (Nat.le_refl _), rfl⟩
    · have hnb : ((c.b q : Int) == 10) = false := by simp; omega
      have Hn := hid hn
      clear hn hrun
      go_wp2_with fail
      refine (at_yes c { s with r1 := q } 0 _ S2.out.ok.dec hlt).mono ?_
      rintro e w3 ⟨rfl, hk3⟩
      have S3 := hid (S2.out.same hk3)
      clear hk3
      go_wp2_with fail
      refine (reset_any c { s with r1 := q } _ S3.out.ok.dec).mono ?_
      rintro e w5 ⟨v, hv, rfl, hd5, hk5⟩
      have S5 := hid (S3.out.trans (S3.out.ok.reset hv hd5 hk5))
      have f5 := hd5.f5
      have fr5 := hd5.fr 5
      clear hd5 hk5
      go_wp2_with fail
      go_end0
      exact ⟨_, rfl, S5.out.sec 5 (Nat.le_refl _), rfl⟩
  · clear hrun
    go_wp2_with fail
    refine (at_no c { s with r1 := q } 0 _ S2.out.ok.dec (by omega) hlt).mono ?_
    rintro e w3 ⟨rfl, hk3⟩
    have S3 := hid (S2.out.same hk3)
    clear hk3
    go_wp2_with fail
    refine (reset_any c { s with r1 := q } _ S3.out.ok.dec).mono ?_
    rintro e w5 ⟨v, hv, rfl, hd5, hk5⟩
    have S5 := hid (S3.out.trans (S3.out.ok.reset hv hd5 hk5))
    have f5 := hd5.f5
    have fr5 := hd5.fr 5
    clear hd5 hk5
    go_wp2_with fail
    go_end0
    exact ⟨_, rfl, S5.out.sec 5 (Nat.le_refl _), rfl⟩
end Go.Proofs.YticdagnbnmnidaaGreatDoor
