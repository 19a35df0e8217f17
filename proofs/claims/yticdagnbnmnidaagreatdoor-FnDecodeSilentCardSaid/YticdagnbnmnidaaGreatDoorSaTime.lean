/- The decoder over bytes: TimeBytes at the time. Conditions: none. The decoder over bytes: the parts that are over; consumeSection; advanceToSection. Conditions: none. -/
import Derived.Test.YticdagnbnmnidaaGreatDoorSaField
import Derived.WalkSpells
set_option linter.unusedSimpArgs false
set_option linter.unusedVariables false
namespace Go.Proofs.YticdagnbnmnidaaGreatDoor
open Go.RowKit

/-- What TimeBytes gives at the time. -/
def Times (w0 : World) (c : DC) (s : DS) (w : World) (e : Ending) (w' : World) : Prop :=
  ∃ (v err : Value) (s' : DS), e = .returned (.tuple #[v, err]) ∧ Step1 w0 c s s' w w' ∧
    ((err = .nilIface ∧ s'.sec = 5 ∧ (v = nilS ∨ ∃ n f, 0 < n ∧ Tk c s' w' v n f)) ∨ (Bad w' err ∧ v = nilS ∧ (s'.sec = 4 ∨ s'.sec = 5)))

def TakesEnd (c : DC) (s : DS) (w : World) (e : Ending) (w' : World) : Prop := ∃ A k, Turns c (.slice A 0 k) s w e w'
theorem take_end (c : DC) (s : DS) (g : Nat) (p : Nat → Bool) (w : World) (h : Dec w c s) (hs : SetAt w g p) (hg : g ≠ c.D) (hlt : ¬ s.r1 < s.L) :
    Calls Tryz.prog 122 #[.pointer (some ⟨c.D, 0, none⟩), .pointer (some ⟨g, 0, none⟩)] w (TakesEnd c s w) := by
  have h1 := h.r1_le
  refine (take_any c s g p w h hs hg).mono ?_
  rintro e w1 ⟨q, hr, ht⟩
  have h2 := hr.le
  have h3 := hr.le'
  obtain rfl : q = s.r1 := by omega
  rw [Nat.sub_self] at ht
  exact ⟨_, _, ht⟩
theorem faultSec_45 {x : Nat} : faultSec x = 4 ∨ faultSec x = 5 := by unfold faultSec; split <;> omega

/-- What TimeBytes gives, whatever part it begins at. -/
def BehindM (w0 : World) (c : DC) (R : DS → World → Prop) (e : Ending) (w' : World) : Prop :=
  ∃ (s : DS) (w : World), R s w ∧ Ok w0 c w s ∧ (Times w0 c s w e w' ∨ (e = .returned (.tuple #[nilS, .nilIface]) ∧ Same w w' ∧ 3 < s.sec) ∨
    (∃ err, e = .returned (.tuple #[nilS, err]) ∧ Bad w err ∧ Same w w' ∧ (s.sec = 4 ∨ s.sec = 5)))

set_option maxRecDepth 100000 in
set_option maxHeartbeats 12800000 in
theorem timeBytes_of (w0 : World) (c : DC) (wI : World) (R : DS → World → Prop)
    (hadv : Calls Tryz.prog 70 #[.pointer (some ⟨c.D, 0, none⟩), .int .u8 (3 : Nat)] wI (Gate w0 c 3 R)) : Calls Tryz.prog 77 #[.pointer (some ⟨c.D, 0, none⟩)] wI (BehindM w0 c R) := by
  have Hadv := hid hadv
  clear hadv
  go_enter Tryz.func77, Tryz.ntmps77
  go_wp2_with fail
  refine Hadv.out.mono ?_
  rintro e w ⟨b, err, s, rfl, hok, hR, (⟨rfl, rfl, hsec⟩ | ⟨rfl, rfl, hsec⟩ | ⟨hbad, rfl, hsec⟩)⟩
  · have H := hid hok
    have H0 := hid hsec
    have HR := hid hR
    have a1 := hok.dec.r0_le
    have a2 := hok.dec.r1_le
    have a3 := hok.dec.L_le
    have a4 := hok.dec.big
    clear hok hsec hR Hadv
    have S1 := hid (Step1.refl H.out)
    have f2 := S1.out.ok.dec.f2
    have f3 := S1.out.ok.dec.f3
    go_wp2_with fail
    go_quiet (fail)
    have S2 := hid (S1.out.same (same_drewN _ nq))
    clear f2 f3
    go_wp2_with fail
    refine (time_set _).mono ?_
    rintro e w3 ⟨g3, rfl, hg3, hs3, hk3⟩
    have S3 := hid (S2.out.same hk3)
    have hgD := hid (ne_D S2.out.ok hg3)
    clear hk3
    go_wp2_with fail
    by_cases hlt : s.r1 < s.L
    · refine (take_in c s g3 _ _ S3.out.ok.dec hs3 hgD.out hlt).mono ?_
      rintro e w4 ⟨q, hrun, rfl, hd4, hk4⟩
      have m4 : Mv c s { s with r1 := q } w3 w4 := ⟨hd4, hk4, rfl, rfl, rfl, rfl, rfl, rfl⟩
      have S4a := hid (S3.out.mv m4 hrun.le S3.out.ok.sec)
      have hq1 := hrun.le
      have hq2 := hrun.le'
      have hcap : s.L ≤ s.cap := H.out.dec.cap_le
      clear hd4 hk4 hrun hs3 m4
      by_cases hn0 : q = s.r1
      · subst hn0
        rw [Nat.sub_self]
        have f5 := S4a.out.ok.dec.f5
        have fr5 := S4a.out.ok.dec.fr 5
        have S4 := hid (S4a.out.sec 5 (by omega))
        clear S4a
        go_wp2_with fail
        clear f5 fr5
        obtain ⟨s4, hs4, hlt4⟩ : ∃ s4 : DS, s4 = { ({ s with r1 := s.r1 } : DS) with sec := 5 } ∧ s4.r1 < s4.L := ⟨_, rfl, hlt⟩
        rw [← hs4] at S4
        clear hs4
        have b4 := S4.out.ok.dec.L_le
        have b5 := S4.out.ok.dec.r1_le
        have b6 := S4.out.ok.dec.r0_le
        generalize World.setCell w4 ⟨c.D, 5, none⟩ (Value.int .u8 (5 : Nat)) = w4' at S4 ⊢
        go_wp2_with fail
        refine (ensure_yes c s4 1 _ S4.out.ok.dec hlt4).mono ?_
        rintro e w5 ⟨rfl, hk5⟩
        have S5 := hid (S4.out.same hk5)
        clear hk5
        go_wp2_with fail
        refine (white_set _).mono ?_
        rintro e w6 ⟨g6, rfl, hg6, hs6, hk6⟩
        have S6 := hid (S5.out.same hk6)
        clear hk6
        go_wp2_with fail
        refine (at_yes c s4 0 _ S6.out.ok.dec hlt4).mono ?_
        rintro e w7 ⟨rfl, hk7⟩
        have S7 := hid (S6.out.same hk7)
        have hs7 := hs6.same hk7
        clear hk7 hs6
        go_wp2_with fail
        refine (get_any g6 _ pWhite _ (c.b_lt _) hs7).mono ?_
        rintro e w8 ⟨rfl, rfl⟩
        clear hs7
        cases hp : pWhite (c.b s4.r1)
        · go_wp2_with fail
          refine (notEol_set _).mono ?_
          rintro e w9 ⟨g9, rfl, hg9, hs9, hk9⟩
          have S9 := hid (S7.out.same hk9)
          have hgD9 := hid (ne_D S7.out.ok hg9)
          clear hk9
          go_wp2_with fail
          refine (take_any c s4 g9 _ _ S9.out.ok.dec hs9 hgD9.out).mono ?_
          rintro e w10 ⟨q, hrun, rfl, hd10, hk10⟩
          have S10 := hid (S9.out.mv (s2 := { s4 with r1 := q }) ⟨hd10, hk10, rfl, rfl, rfl, rfl, rfl, rfl⟩ hrun.le S9.out.ok.sec)
          have e2 := S10.out.le
          clear hd10 hk10 hrun hs9
          generalize ({ s4 with r1 := q } : DS) = s10 at S10 e2
          go_wp2_with fail
          refine (errorsNew_any _ _).mono ?_
          rintro e wf1 ⟨gf, rfl, hgf, hgf', hkf⟩
          have SF1 := hid (S10.out.same hkf)
          clear hkf
          go_wp2_with fail
          refine (syntaxErrorf_at SF1.out.ok _ gf (by omega) (by show _ ≤ ((_ : Nat) : Int) - ((_ : Nat) : Int); have e1 := SF1.out.r0; omega)).mono ?_
          rintro e wf2 ⟨err, rfl, sf, hbad⟩
          have SF2 := hid (SF1.out.trans sf)
          have Hbad := hid hbad
          clear sf hbad
          go_wp2_with fail
          go_ret2
          exact ⟨s, w, HR.out, H.out, .inl ⟨_, _, _, rfl, SF2.out, .inr ⟨Hbad.out, rfl, faultSec_45⟩⟩⟩
        · go_wp2_with fail
          refine (blank_set _).mono ?_
          rintro e w9 ⟨g9, rfl, hg9, hs9, hk9⟩
          have S9 := hid (S7.out.same hk9)
          have hgD9 := hid (ne_D S7.out.ok hg9)
          clear hk9
          go_wp2_with fail
          refine (take_any c s4 g9 _ _ S9.out.ok.dec hs9 hgD9.out).mono ?_
          rintro e w10 ⟨q, hrun, rfl, hd10, hk10⟩
          have m10 : Mv c s4 { s4 with r1 := q } w9 w10 := ⟨hd10, hk10, rfl, rfl, rfl, rfl, rfl, rfl⟩
          have S10 := hid (S9.out.mv m10 hrun.le S9.out.ok.sec)
          have e2 := S10.out.le
          clear hd10 hk10 hrun hs9 m10
          generalize ({ s4 with r1 := q } : DS) = s10 at *
          have b1 := S10.out.ok.dec.r0_le
          have b2 := S10.out.ok.dec.r1_le
          have b3 := S10.out.ok.dec.L_le
          go_wp2_with fail
          by_cases hlt10 : s10.r1 < s10.L
          · refine (ensure_yes c s10 1 _ S10.out.ok.dec hlt10).mono ?_
            rintro e w11 ⟨rfl, hk11⟩
            have S11 := hid (S10.out.same hk11)
            clear hk11
            go_wp2_with fail
            refine (takeEOL_any c s10 _ S11.out.ok.dec).mono ?_
            rintro e w12 ⟨b, s12, rfl, m12, hsec12, hle12, -⟩
            have S12 := hid (S11.out.mv m12 hle12 (by rw [hsec12]; exact S11.out.ok.sec))
            have f2 := S12.out.ok.dec.f2
            have f3 := S12.out.ok.dec.f3
            have f5 := S12.out.ok.dec.f5
            have fr5 := S12.out.ok.dec.fr 5
            have d1 := S12.out.ok.dec.r0_le
            have d2 := S12.out.ok.dec.r1_le
            have d3 := S12.out.ok.dec.L_le
            clear m12 hsec12 hle12
            cases b
            · clear f5 fr5
              go_wp2_with fail
              go_quiet (fail)
              have S13 := hid (S12.out.same (same_drewN _ nq))
              clear f2 f3
              go_wp2_with fail
              refine (notEol_set _).mono ?_
              rintro e w14 ⟨g14, rfl, hg14, hs14, hk14⟩
              have S14 := hid (S13.out.same hk14)
              have hgD14 := hid (ne_D S13.out.ok hg14)
              clear hk14
              go_wp2_with fail
              refine (take_any c s12 g14 _ _ S14.out.ok.dec hs14 hgD14.out).mono ?_
              rintro e w15 ⟨q15, hrun, rfl, hd15, hk15⟩
              have S15 := hid (S14.out.mv (s2 := { s12 with r1 := q15 }) ⟨hd15, hk15, rfl, rfl, rfl, rfl, rfl, rfl⟩ hrun.le S14.out.ok.sec)
              have e3 : s12.r1 ≤ ({ s12 with r1 := q15 } : DS).r1 := hrun.le
              have e4 : ({ s12 with r1 := q15 } : DS).r0 = s12.r0 := rfl
              clear hd15 hk15 hrun hs14
              generalize ({ s12 with r1 := q15 } : DS) = s15 at S15 e3 e4
              have E4 := hid e4
              clear e4
              go_wp2_with fail
              refine (errorsNew_any _ _).mono ?_
              rintro e wf1 ⟨gf, rfl, hgf, hgf', hkf⟩
              have SF1 := hid (S15.out.same hkf)
              clear hkf
              go_wp2_with fail
              refine (syntaxErrorf_at SF1.out.ok _ gf (by omega) (by show _ ≤ ((_ : Nat) : Int) - ((_ : Nat) : Int); have e1 := E4.out; omega)).mono ?_
              rintro e wf2 ⟨err, rfl, sf, hbad⟩
              have SF2 := hid (SF1.out.trans sf)
              have Hbad := hid hbad
              clear sf hbad
              go_wp2_with fail
              go_ret2
              exact ⟨s, w, HR.out, H.out, .inl ⟨_, _, _, rfl, SF2.out, .inr ⟨Hbad.out, rfl, faultSec_45⟩⟩⟩
            · clear f2 f3
              go_wp2_with fail
              go_ret2
              exact ⟨s, w, HR.out, H.out, .inl ⟨_, _, _, rfl, S12.out.sec 5 (by omega), .inl ⟨rfl, rfl, .inl rfl⟩⟩⟩
          · refine (ensure_no c s10 1 _ S10.out.ok.dec (by omega) (by omega)).mono ?_
            rintro e w11 ⟨rfl, hk11⟩
            have S11 := hid (S10.out.same hk11)
            have f5 := S11.out.ok.dec.f5
            have fr5 := S11.out.ok.dec.fr 5
            clear hk11
            go_wp2_with fail
            go_ret2
            exact ⟨s, w, HR.out, H.out, .inl ⟨_, _, _, rfl, S11.out.sec 5 (by omega), .inl ⟨rfl, rfl, .inl rfl⟩⟩⟩
      · have hn1 : 0 < q - s.r1 := by omega
        have hnI : (((q - s.r1 : Nat) : Int) == 0) = false := by simp; omega
        have T4 := hid (Tk.text (n := q - s.r1) (k := s.cap - s.r1) S4a.out.ok (by show s.r1 + (q - s.r1) ≤ s.L; omega) (by omega) (by show s.cap - s.r1 ≤ s.cap; omega))
        have S4 := S4a
        generalize hs4 : ({ s with r1 := q } : DS) = s4 at S4 T4
        have Hs4 := hid hs4
        clear hs4 S4a
        have b4 := S4.out.ok.dec.L_le
        have b5 := S4.out.ok.dec.r1_le
        have b6 := S4.out.ok.dec.r0_le
        by_cases hlt4 : s4.r1 < s4.L
        · go_wp2_with fail
          refine (ensure_yes c s4 1 _ S4.out.ok.dec hlt4).mono ?_
          rintro e w5 ⟨rfl, hk5⟩
          have S5 := hid (S4.out.same hk5)
          have T5 := hid (T4.out.same hk5)
          clear hk5
          go_wp2_with fail
          refine (white_set _).mono ?_
          rintro e w6 ⟨g6, rfl, hg6, hs6, hk6⟩
          have S6 := hid (S5.out.same hk6)
          have T6 := hid (T5.out.same hk6)
          clear hk6
          go_wp2_with fail
          refine (at_yes c s4 0 _ S6.out.ok.dec hlt4).mono ?_
          rintro e w7 ⟨rfl, hk7⟩
          have S7 := hid (S6.out.same hk7)
          have T7 := hid (T6.out.same hk7)
          have hs7 := hs6.same hk7
          clear hk7 hs6
          go_wp2_with fail
          refine (get_any g6 _ pWhite _ (c.b_lt _) hs7).mono ?_
          rintro e w8 ⟨rfl, rfl⟩
          clear hs7
          cases hp : pWhite (c.b s4.r1)
          · go_wp2_with fail
            refine (notEol_set _).mono ?_
            rintro e w9 ⟨g9, rfl, hg9, hs9, hk9⟩
            have S9 := hid (S7.out.same hk9)
            have hgD9 := hid (ne_D S7.out.ok hg9)
            clear hk9
            go_wp2_with fail
            refine (take_any c s4 g9 _ _ S9.out.ok.dec hs9 hgD9.out).mono ?_
            rintro e w10 ⟨q, hrun, rfl, hd10, hk10⟩
            have S10 := hid (S9.out.mv (s2 := { s4 with r1 := q }) ⟨hd10, hk10, rfl, rfl, rfl, rfl, rfl, rfl⟩ hrun.le S9.out.ok.sec)
            have e2 := S10.out.le
            clear hd10 hk10 hrun hs9
            generalize ({ s4 with r1 := q } : DS) = s10 at S10 e2
            go_wp2_with fail
            refine (errorsNew_any _ _).mono ?_
            rintro e wf1 ⟨gf, rfl, hgf, hgf', hkf⟩
            have SF1 := hid (S10.out.same hkf)
            clear hkf
            go_wp2_with fail
            refine (syntaxErrorf_at SF1.out.ok _ gf (by omega) (by show _ ≤ ((_ : Nat) : Int) - ((_ : Nat) : Int); have e1 := SF1.out.r0; omega)).mono ?_
            rintro e wf2 ⟨err, rfl, sf, hbad⟩
            have SF2 := hid (SF1.out.trans sf)
            have Hbad := hid hbad
            clear sf hbad
            go_wp2_with fail
            go_ret2
            exact ⟨s, w, HR.out, H.out, .inl ⟨_, _, _, rfl, SF2.out, .inr ⟨Hbad.out, rfl, faultSec_45⟩⟩⟩
          · go_wp2_with fail
            refine (blank_set _).mono ?_
            rintro e w9 ⟨g9, rfl, hg9, hs9, hk9⟩
            have S9 := hid (S7.out.same hk9)
            have T9 := hid (T7.out.same hk9)
            have hgD9 := hid (ne_D S7.out.ok hg9)
            clear hk9
            go_wp2_with fail
            refine (take_any c s4 g9 _ _ S9.out.ok.dec hs9 hgD9.out).mono ?_
            rintro e w10 ⟨q, hrun, rfl, hd10, hk10⟩
            have m10 : Mv c s4 { s4 with r1 := q } w9 w10 := ⟨hd10, hk10, rfl, rfl, rfl, rfl, rfl, rfl⟩
            have S10 := hid (S9.out.mv m10 hrun.le S9.out.ok.sec)
            have T10 := hid (T9.out.far m10.far)
            have e2 := S10.out.le
            clear hd10 hk10 hrun hs9 m10
            generalize ({ s4 with r1 := q } : DS) = s10 at *
            have b1 := S10.out.ok.dec.r0_le
            have b2 := S10.out.ok.dec.r1_le
            have b3 := S10.out.ok.dec.L_le
            go_wp2_with fail
            by_cases hlt10 : s10.r1 < s10.L
            · refine (ensure_yes c s10 1 _ S10.out.ok.dec hlt10).mono ?_
              rintro e w11 ⟨rfl, hk11⟩
              have S11 := hid (S10.out.same hk11)
              have T11 := hid (T10.out.same hk11)
              clear hk11
              go_wp2_with fail
              refine (takeEOL_any c s10 _ S11.out.ok.dec).mono ?_
              rintro e w12 ⟨b, s12, rfl, m12, hsec12, hle12, -⟩
              have S12 := hid (S11.out.mv m12 hle12 (by rw [hsec12]; exact S11.out.ok.sec))
              have T12 := hid (T11.out.far m12.far)
              have f2 := S12.out.ok.dec.f2
              have f3 := S12.out.ok.dec.f3
              have f5 := S12.out.ok.dec.f5
              have fr5 := S12.out.ok.dec.fr 5
              have d1 := S12.out.ok.dec.r0_le
              have d2 := S12.out.ok.dec.r1_le
              have d3 := S12.out.ok.dec.L_le
              clear m12 hsec12 hle12
              cases b
              · clear f5 fr5
                go_wp2_with fail
                go_quiet (fail)
                have S13 := hid (S12.out.same (same_drewN _ nq))
                clear f2 f3
                go_wp2_with fail
                refine (notEol_set _).mono ?_
                rintro e w14 ⟨g14, rfl, hg14, hs14, hk14⟩
                have S14 := hid (S13.out.same hk14)
                have hgD14 := hid (ne_D S13.out.ok hg14)
                clear hk14
                go_wp2_with fail
                refine (take_any c s12 g14 _ _ S14.out.ok.dec hs14 hgD14.out).mono ?_
                rintro e w15 ⟨q15, hrun, rfl, hd15, hk15⟩
                have S15 := hid (S14.out.mv (s2 := { s12 with r1 := q15 }) ⟨hd15, hk15, rfl, rfl, rfl, rfl, rfl, rfl⟩ hrun.le S14.out.ok.sec)
                have e3 : s12.r1 ≤ ({ s12 with r1 := q15 } : DS).r1 := hrun.le
                have e4 : ({ s12 with r1 := q15 } : DS).r0 = s12.r0 := rfl
                clear hd15 hk15 hrun hs14
                generalize ({ s12 with r1 := q15 } : DS) = s15 at S15 e3 e4
                have E4 := hid e4
                clear e4
                go_wp2_with fail
                refine (errorsNew_any _ _).mono ?_
                rintro e wf1 ⟨gf, rfl, hgf, hgf', hkf⟩
                have SF1 := hid (S15.out.same hkf)
                clear hkf
                go_wp2_with fail
                refine (syntaxErrorf_at SF1.out.ok _ gf (by omega) (by show _ ≤ ((_ : Nat) : Int) - ((_ : Nat) : Int); have e1 := E4.out; omega)).mono ?_
                rintro e wf2 ⟨err, rfl, sf, hbad⟩
                have SF2 := hid (SF1.out.trans sf)
                have Hbad := hid hbad
                clear sf hbad
                go_wp2_with fail
                go_ret2
                exact ⟨s, w, HR.out, H.out, .inl ⟨_, _, _, rfl, SF2.out, .inr ⟨Hbad.out, rfl, faultSec_45⟩⟩⟩
              · clear f2 f3
                go_wp2_with fail
                go_ret2
                exact ⟨s, w, HR.out, H.out, .inl ⟨_, _, _, rfl, S12.out.sec 5 (by omega), .inl ⟨rfl, rfl, .inr ⟨_, _, hn1, T12.out.far (Far1.of_D (keep_D _ _ _ _) rfl rfl)⟩⟩⟩⟩
            · refine (ensure_no c s10 1 _ S10.out.ok.dec (by omega) (by omega)).mono ?_
              rintro e w11 ⟨rfl, hk11⟩
              have S11 := hid (S10.out.same hk11)
              have T11 := hid (T10.out.same hk11)
              have f5 := S11.out.ok.dec.f5
              have fr5 := S11.out.ok.dec.fr 5
              clear hk11
              go_wp2_with fail
              go_ret2
              exact ⟨s, w, HR.out, H.out, .inl ⟨_, _, _, rfl, S11.out.sec 5 (by omega), .inl ⟨rfl, rfl, .inr ⟨_, _, hn1, T11.out.far (Far1.of_D (keep_D _ _ _ _) rfl rfl)⟩⟩⟩⟩
        · go_wp2_with fail
          refine (ensure_no c s4 1 _ S4.out.ok.dec (by omega) (by omega)).mono ?_
          rintro e w5 ⟨rfl, hk5⟩
          have S5 := hid (S4.out.same hk5)
          have T5 := hid (T4.out.same hk5)
          have f5 := S5.out.ok.dec.f5
          have fr5 := S5.out.ok.dec.fr 5
          clear hk5
          go_wp2_with fail
          go_ret2
          exact ⟨s, w, HR.out, H.out, .inl ⟨_, _, _, rfl, S5.out.sec 5 (by omega), .inl ⟨rfl, rfl, .inr ⟨_, _, hn1, T5.out.far (Far1.of_D (keep_D _ _ _ _) rfl rfl)⟩⟩⟩⟩
    · refine (take_end c s g3 _ _ S3.out.ok.dec hs3 hgD.out hlt).mono ?_
      rintro e w4 ⟨A, k, rfl, hd4, hk4⟩
      have S4a := hid (S3.out.mv ⟨hd4, hk4, rfl, rfl, rfl, rfl, rfl, rfl⟩ (Nat.le_refl _) S3.out.ok.sec)
      have f5 := S4a.out.ok.dec.f5
      have fr5 := S4a.out.ok.dec.fr 5
      have S4 := hid (S4a.out.sec 5 (by omega))
      clear hd4 hk4 hs3 S4a
      go_wp2_with fail
      clear f5 fr5
      refine (ensure_no c { s with sec := 5 } 1 _ S4.out.ok.dec (by show s.L < s.r1 + 1; omega) (by omega)).mono ?_
      rintro e w5 ⟨rfl, hk5⟩
      have S5 := hid (S4.out.same hk5)
      have f5 := S5.out.ok.dec.f5
      have fr5 := S5.out.ok.dec.fr 5
      clear hk5
      go_wp2_with fail
      go_ret2
      exact ⟨s, w, HR.out, H.out, .inl ⟨_, _, _, rfl, S5.out.sec 5 (by omega), .inl ⟨rfl, rfl, .inl rfl⟩⟩⟩
  · have HR := hid hR
    have H := hid hok
    clear hR hok Hadv
    go_wp2_with fail
    go_ret2
    exact ⟨s, w, HR.out, H.out, .inr (.inl ⟨rfl, Keep.refl _ _, hsec⟩)⟩
  · obtain ⟨gb, kb, rfl, hrow⟩ := hbad.iface
    have HR := hid hR
    have H := hid hok
    have Hbad := hid hbad
    have Hsec := hid hsec
    clear hR hok hbad hrow hsec Hadv
    go_wp2_with fail
    go_ret2
    exact ⟨s, w, HR.out, H.out, .inr (.inr ⟨_, rfl, Hbad.out, Keep.refl _ _, Hsec.out⟩)⟩

theorem timeBytes_3 (w0 : World) (c : DC) (s : DS) (w : World) (h : Ok w0 c w s) (h0 : s.sec = 3) : Calls Tryz.prog 77 #[.pointer (some ⟨c.D, 0, none⟩)] w (Times w0 c s w) := by
  refine (timeBytes_of w0 c w _ (gate_eq h h0)).mono ?_
  rintro e w' ⟨s1, w1, ⟨rfl, hk⟩, hok, (⟨v, err, s', rfl, hst, hor⟩ | ⟨_, _, h1⟩ | ⟨err, _, _, _, h1⟩)⟩
  · exact ⟨v, err, s', rfl, hst.before h hk, hor⟩
  · omega
  · omega
end Go.Proofs.YticdagnbnmnidaaGreatDoor
namespace Go.Proofs.YticdagnbnmnidaaGreatDoor
open Go.RowKit

set_option maxRecDepth 20000 in
theorem measurement_gt (c : DC) (s : DS) (w : World) (h : Dec w c s) (hk : 0 < s.sec) :
    Calls Tryz.prog 73 #[.pointer (some ⟨c.D, 0, none⟩)] w (Looks (.tuple #[nilS, .nilIface]) w) := by
  go_enter Tryz.func73, Tryz.ntmps73
  go_wp2_with fail
  refine (advance_gt c s 0 _ h hk).mono ?_
  rintro e w1 ⟨rfl, hk1⟩
  go_wp2_with fail
  go_ret2
  exact ⟨rfl, hk1⟩

set_option maxRecDepth 20000 in
theorem nextTag_gt (c : DC) (s : DS) (w : World) (h : Dec w c s) (hk : 1 < s.sec) :
    Calls Tryz.prog 75 #[.pointer (some ⟨c.D, 0, none⟩)] w (Looks (.tuple #[nilS, nilS, .nilIface]) w) := by
  go_enter Tryz.func75, Tryz.ntmps75
  go_wp2_with fail
  refine (advance_gt c s 1 _ h hk).mono ?_
  rintro e w1 ⟨rfl, hk1⟩
  go_wp2_with fail
  go_ret3
  exact ⟨rfl, hk1⟩

set_option maxRecDepth 20000 in
theorem nextField_gt (c : DC) (s : DS) (w : World) (h : Dec w c s) (hk : 2 < s.sec) :
    Calls Tryz.prog 76 #[.pointer (some ⟨c.D, 0, none⟩)] w (Looks (.tuple #[nilS, .int .u8 (0 : Nat), nilS, .nilIface]) w) := by
  go_enter Tryz.func76, Tryz.ntmps76
  go_wp2_with fail
  refine (advance_gt c s 2 _ h hk).mono ?_
  rintro e w1 ⟨rfl, hk1⟩
  go_wp2_with fail
  refine bodyPost_ret (v := .tuple #[nilS, .int .u8 (0 : Nat), nilS, .nilIface]) ?_ rfl ⟨rfl, hk1⟩
  simp [results, Tryz.results76, go_sem, nilS]

set_option maxRecDepth 20000 in
theorem timeBytes_gt (c : DC) (s : DS) (w : World) (h : Dec w c s) (hk : 3 < s.sec) :
    Calls Tryz.prog 77 #[.pointer (some ⟨c.D, 0, none⟩)] w (Looks (.tuple #[nilS, .nilIface]) w) := by
  go_enter Tryz.func77, Tryz.ntmps77
  go_wp2_with fail
  refine (advance_gt c s 3 _ h hk).mono ?_
  rintro e w1 ⟨rfl, hk1⟩
  go_wp2_with fail
  go_ret2
  exact ⟨rfl, hk1⟩

/-- What consumeSection gives. -/
def Cons (w0 : World) (c : DC) (s : DS) (w : World) (e : Ending) (w' : World) : Prop :=
  ∃ (err : Value) (s' : DS), e = .returned err ∧ Step w0 c s s' w w' ∧ ((err = .nilIface ∧ s.sec < s'.sec) ∨ (Bad w' err ∧ (s'.sec = 4 ∨ s'.sec = 5)))

set_option maxRecDepth 20000 in
set_option maxHeartbeats 1600000 in
theorem cons_0 (w0 : World) (hval : ValidOK w0) (c : DC) (s : DS) (w : World) (h : Ok w0 c w s) (h0 : s.sec = 0) : Calls Tryz.prog 121 #[.pointer (some ⟨c.D, 0, none⟩)] w (Cons w0 c s w) := by
  have f5 := h.dec.f5
  rw [h0] at f5
  have H := hid h
  have H0 := hid h0
  have Hval := hid hval
  clear h h0 hval
  have hen := fun (W : World) (a : Option Addr) (n k n' k' : Nat) => Lib.run_eql_slice_nil (P := Tryz.prog) W 75 5 a n k n' k' Tryz.underlying75
  go_enter Tryz.func121, Tryz.ntmps121
  go_wp2_with fail
  refine (measurement_0 w0 Hval.out c s _ H.out H0.out).mono ?_
  rintro e w1 ⟨v, err, s1, rfl, hst, hor⟩
  have S1 := hid hst
  clear hst
  rcases hor with ⟨rfl, hsec, n, f, hn, htk⟩ | ⟨hbad, rfl, hsec⟩
  · have Hsec := hid hsec
    clear hsec htk
    go_wp2_with fail
    go_ret
    exact ⟨_, s1, rfl, S1.out, .inl ⟨rfl, by rw [H0.out, Hsec.out]; omega⟩⟩
  · obtain ⟨gb, kb, rfl, hrow⟩ := hbad.iface
    have Hbad := hid hbad
    have Hsec := hid hsec
    clear hbad hsec hrow
    go_wp2_with fail
    go_ret
    exact ⟨_, s1, rfl, S1.out, .inr ⟨Hbad.out, .inl Hsec.out⟩⟩

set_option maxRecDepth 20000 in
set_option maxHeartbeats 1600000 in
theorem cons_3 (w0 : World) (c : DC) (s : DS) (w : World) (h : Ok w0 c w s) (h0 : s.sec = 3) : Calls Tryz.prog 121 #[.pointer (some ⟨c.D, 0, none⟩)] w (Cons w0 c s w) := by
  have f5 := h.dec.f5
  rw [h0] at f5
  have H := hid h
  have H0 := hid h0
  clear h h0
  go_enter Tryz.func121, Tryz.ntmps121
  go_wp2_with fail
  refine (timeBytes_3 w0 c s _ H.out H0.out).mono ?_
  rintro e w1 ⟨v, err, s1, rfl, hst, hor⟩
  have S1 := hid hst.step
  clear hst
  rcases hor with ⟨rfl, hsec, hv⟩ | ⟨hbad, rfl, hsec⟩
  · have Hsec := hid hsec
    clear hsec hv
    go_wp2_with fail
    go_ret
    exact ⟨_, s1, rfl, S1.out, .inl ⟨rfl, by rw [H0.out, Hsec.out]; omega⟩⟩
  · obtain ⟨gb, kb, rfl, hrow⟩ := hbad.iface
    have Hbad := hid hbad
    have Hsec := hid hsec
    clear hbad hsec hrow
    go_wp2_with fail
    go_ret
    exact ⟨_, s1, rfl, S1.out, .inr ⟨Hbad.out, Hsec.out⟩⟩

set_option maxRecDepth 20000 in
set_option maxHeartbeats 1600000 in
theorem cons_4 (w0 : World) (c : DC) (s : DS) (w : World) (h : Ok w0 c w s) (h0 : s.sec = 4) : Calls Tryz.prog 121 #[.pointer (some ⟨c.D, 0, none⟩)] w (Cons w0 c s w) := by
  have f5 := h.dec.f5
  rw [h0] at f5
  have H := hid h
  have H0 := hid h0
  clear h h0
  go_enter Tryz.func121, Tryz.ntmps121
  go_wp2_with fail
  refine (consumeLine_any w0 c s _ H.out).mono ?_
  rintro e w1 ⟨s1, rfl, hst, hsec⟩
  have S1 := hid hst
  have Hsec := hid hsec
  clear hst hsec
  go_wp2_with fail
  go_ret
  exact ⟨_, s1, rfl, S1.out, .inl ⟨rfl, by rw [H0.out, Hsec.out]; omega⟩⟩

set_option maxRecDepth 20000 in
set_option maxHeartbeats 3200000 in
theorem cons_1 (w0 : World) (hval : ValidOK w0) (c : DC) (s : DS) (w : World) (h : Ok w0 c w s) (h0 : s.sec = 1) : Calls Tryz.prog 121 #[.pointer (some ⟨c.D, 0, none⟩)] w (Cons w0 c s w) := by
  have f5 := h.dec.f5
  rw [h0] at f5
  have H := hid h
  have H0 := hid h0
  have Hval := hid hval
  clear h h0 hval
  have hen := fun (W : World) (a : Option Addr) (n k n' k' : Nat) => Lib.run_eql_slice_nil (P := Tryz.prog) W 75 5 a n k n' k' Tryz.underlying75
  go_enter Tryz.func121, Tryz.ntmps121
  go_wp2_with fail
  clear f5
  go_loopg [] s.left (fun gk wr => ∃ s1 : DS, Hid (gk = s1.left) ∧ Hid (Step w0 c s s1 w wr) ∧ Hid (s1.sec = 1 ∨ s1.sec = 2))
  case atStart => exact ⟨s, rfl, Step.refl H.out, .inl H0.out⟩
  case round =>
    obtain ⟨s1, Hgk, S1, Hsec⟩ := hrel
    rcases Hsec.out with hs1 | hs1
    · have Hs1 := hid hs1
      clear hs1
      go_wp2_with fail
      refine (nextTag_1 w0 Hval.out c s1 _ S1.out.ok Hs1.out).mono ?_
      rintro e w2 ⟨k, v, err, s2, rfl, hst, hor⟩
      have S2 := hid (S1.out.trans hst.step)
      have HL := hid hst.L
      have b1 := S2.out.ok.dec.r1_le
      clear hst
      rcases hor with ⟨rfl, rfl, rfl, hsec⟩ | ⟨rfl, hsec, hlt, n, f, m, g, hn, htk, htv⟩ | ⟨hbad, rfl, rfl, hsec⟩
      · have Hsec2 := hid hsec
        clear hsec
        unfold nilS
        go_wp2_with fail
        go_ret
        exact ⟨_, s2, rfl, S2.out, .inl ⟨rfl, by rw [H0.out, Hsec2.out]; omega⟩⟩
      · obtain ⟨T, off, cap, rfl, -, -, -⟩ := htk.form hn
        have Hsec2 := hid hsec
        clear hsec htk htv
        go_wp2_with fail
        go_roundg s2.left
        case rel => exact ⟨s2, rfl, S2.out, Hsec2.out⟩
        case measure =>
          have e := Hgk.out
          have e2 := HL.out
          unfold DS.left at *
          rw [e2] at b1 ⊢
          omega
      · obtain ⟨gb, kb, rfl, hrow⟩ := hbad.iface
        have Hbad := hid hbad
        have Hsec2 := hid hsec
        clear hbad hsec hrow
        go_wp2_with fail
        go_ret
        exact ⟨_, s2, rfl, S2.out, .inr ⟨Hbad.out, .inl Hsec2.out⟩⟩
    · have Hs1 := hid hs1
      clear hs1
      go_wp2_with fail
      refine (nextTag_gt c s1 _ S1.out.ok.dec (by rw [Hs1.out]; omega)).mono ?_
      rintro e w2 ⟨rfl, hk2⟩
      unfold nilS
      go_wp2_with fail
      go_ret
      exact ⟨_, s1, rfl, S1.out.same hk2, .inl ⟨rfl, by rw [H0.out, Hs1.out]; omega⟩⟩

set_option maxRecDepth 20000 in
set_option maxHeartbeats 3200000 in
theorem cons_2 (w0 : World) (hval : ValidOK w0) (c : DC) (s : DS) (w : World) (h : Ok w0 c w s) (h0 : s.sec = 2) : Calls Tryz.prog 121 #[.pointer (some ⟨c.D, 0, none⟩)] w (Cons w0 c s w) := by
  have f5 := h.dec.f5
  rw [h0] at f5
  have H := hid h
  have H0 := hid h0
  have Hval := hid hval
  clear h h0 hval
  have hen := fun (W : World) (a : Option Addr) (n k n' k' : Nat) => Lib.run_eql_slice_nil (P := Tryz.prog) W 75 5 a n k n' k' Tryz.underlying75
  go_enter Tryz.func121, Tryz.ntmps121
  go_wp2_with fail
  clear f5
  go_loopg [] s.left (fun gk wr => ∃ s1 : DS, Hid (gk = s1.left) ∧ Hid (Step w0 c s s1 w wr) ∧ Hid (s1.sec = 2 ∨ s1.sec = 3 ∨ s1.sec = 5))
  case atStart => exact ⟨s, rfl, Step.refl H.out, .inl H0.out⟩
  case round =>
    obtain ⟨s1, Hgk, S1, Hsec⟩ := hrel
    by_cases hs1 : s1.sec = 2
    · have Hs1 := hid hs1
      clear hs1
      go_wp2_with fail
      refine (nextField_2 w0 Hval.out c s1 _ S1.out.ok Hs1.out).mono ?_
      rintro e w2 ⟨k, v, err, kd, s2, rfl, hst, hor⟩
      have S2 := hid (S1.out.trans hst.step)
      have HL := hid hst.L
      have b1 := S2.out.ok.dec.r1_le
      clear hst
      rcases hor with ⟨rfl, hsec, hlt, hkd, n, f, m, g, hn, htk, htv, hkey⟩ | ⟨hbad, rfl, rfl, hsec⟩
      · obtain ⟨T, off, cap, rfl, -, -, -⟩ := htk.form hn
        have Hsec2 := hid hsec
        clear hsec htk htv hkey hkd
        go_wp2_with fail
        go_roundg s2.left
        case rel => exact ⟨s2, rfl, S2.out, Hsec2.out⟩
        case measure =>
          have e := Hgk.out
          have e2 := HL.out
          unfold DS.left at *
          rw [e2] at b1 ⊢
          omega
      · obtain ⟨gb, kb, rfl, hrow⟩ := hbad.iface
        have Hbad := hid hbad
        have Hsec2 := hid hsec
        clear hbad hsec hrow
        go_wp2_with fail
        go_ret
        exact ⟨_, s2, rfl, S2.out, .inr ⟨Hbad.out, .inl Hsec2.out⟩⟩
    · have hs3 : 2 < s1.sec := by have := Hsec.out; omega
      have Hs1 := hid hs3
      clear hs1 hs3
      go_wp2_with fail
      refine (nextField_gt c s1 _ S1.out.ok.dec Hs1.out).mono ?_
      rintro e w2 ⟨rfl, hk2⟩
      unfold nilS
      go_wp2_with fail
      go_ret
      exact ⟨_, s1, rfl, S1.out.same hk2, .inl ⟨rfl, by rw [H0.out]; exact Hs1.out⟩⟩

theorem consumeSection_any (w0 : World) (hval : ValidOK w0) (c : DC) (s : DS) (w : World) (h : Ok w0 c w s) (h0 : s.sec < 5) : Calls Tryz.prog 121 #[.pointer (some ⟨c.D, 0, none⟩)] w (Cons w0 c s w) := by
  have : s.sec = 0 ∨ s.sec = 1 ∨ s.sec = 2 ∨ s.sec = 3 ∨ s.sec = 4 := by omega
  rcases this with e | e | e | e | e
  · exact cons_0 w0 hval c s w h e
  · exact cons_1 w0 hval c s w h e
  · exact cons_2 w0 hval c s w h e
  · exact cons_3 w0 c s w h e
  · exact cons_4 w0 c s w h e
end Go.Proofs.YticdagnbnmnidaaGreatDoor
