/- The decoder over bytes: NextFieldBytes among the fields. Conditions: none. -/
import Derived.Test.YticdagnbnmnidaaGreatDoorSaMeas
import Derived.Outline
set_option linter.unusedSimpArgs false
set_option linter.unusedVariables false
namespace Go.Proofs.YticdagnbnmnidaaGreatDoor
open Go.RowKit

/-- A key that was read as it stands is not longer, escaped, than what was gone by. -/
def KeyFits (s s' : DS) (n : Nat) (f : Nat → Nat) : Prop := s.skip = false → ∃ l : List Nat, n = l.length ∧ (∀ j, j < n → f j = l.getD j 0) ∧ s.r1 + escLen l + 1 ≤ s'.r1

/-- What NextFieldBytes gives among the fields. -/
def Flds (w0 : World) (c : DC) (s : DS) (w : World) (e : Ending) (w' : World) : Prop :=
  ∃ (k v err : Value) (kd : Nat) (s' : DS), e = .returned (.tuple #[k, .int .u8 kd, v, err]) ∧ Step1 w0 c s s' w w' ∧
    ((err = .nilIface ∧ (s'.sec = 2 ∨ s'.sec = 3 ∨ s'.sec = 5) ∧ s.r1 < s'.r1 ∧ (1 ≤ kd ∧ kd ≤ 5) ∧ ∃ n f m h, 0 < n ∧ Tk c s' w' k n f ∧ Tk c s' w' v m h ∧ KeyFits s s' n f) ∨
     (Bad w' err ∧ k = nilS ∧ v = nilS ∧ s'.sec = 4))

/-- How it stands behind the value. -/
def AtVal (w0 : World) (c : DC) (s s8 : DS) (k V K : Value) (n : Nat) (f : Nat → Nat) (w wc : World) : Prop :=
  ∃ (s9 : DS) (kd m : Nat) (h : Nat → Nat), Step1 w0 c s s9 w wc ∧ Tk c s9 wc k n f ∧ Tk c s9 wc V m h ∧ s9.sec = 2 ∧ s8.r1 ≤ s9.r1 ∧ K = .int .u8 kd ∧ 1 ≤ kd ∧ kd ≤ 5

theorem pVal_num {b : Nat} (h : b = 45 ∨ b = 46 ∨ (48 ≤ b ∧ b ≤ 57)) : pVal b = true := by
  unfold pVal pWhite
  simp
  omega

/-- What take gives where something is left. -/
def TakesIn (c : DC) (s : DS) (p : Nat → Bool) (w : World) (e : Ending) (w' : World) : Prop :=
  ∃ q, Run c s p q ∧ Turns c (.slice (some ⟨c.T, s.r1, none⟩) (q - s.r1) (s.cap - s.r1)) { s with r1 := q } w e w'
theorem take_in (c : DC) (s : DS) (g : Nat) (p : Nat → Bool) (w : World) (h : Dec w c s) (hs : SetAt w g p) (hg : g ≠ c.D) (hlt : s.r1 < s.L) :
    Calls Tryz.prog 122 #[.pointer (some ⟨c.D, 0, none⟩), .pointer (some ⟨g, 0, none⟩)] w (TakesIn c s p w) := by
  have h1 := h.cap_le
  refine (take_any c s g p w h hs hg).mono ?_
  rintro e w1 ⟨q, hr, ht⟩
  rw [cut_far (by omega)] at ht
  exact ⟨q, hr, ht⟩
theorem Tk.text {w0 w : World} {c : DC} {s : DS} (h : Ok w0 c w s) {a n k : Nat} (ha : a + n ≤ s.L) (hk : n ≤ k) (hk' : k ≤ s.cap) : Tk c s w (.slice (some ⟨c.T, a, none⟩) n k) n (fun j => c.b (a + j)) := by
  have h1 := h.dec.L_le
  have h2 := h.dec.big
  have h3 := h.dec.capBig
  refine ⟨rd_text h.dec ha (fun _ => rfl) hk (by omega), ⟨fun T off m cap e hm => ?_⟩, by omega⟩
  injection e with e1 e2 e3
  injection e1 with e1
  injection e1 with e4 e5
  subst e4
  refine ⟨fun e => h.dec.D_T e.symm, fun e => ?_⟩
  have h4 := (h.dec.own_ge e).1
  have h5 := h.dec.base_T
  omega

/-- What NextFieldBytes gives, whatever part it begins at. -/
def BehindF (w0 : World) (c : DC) (R : DS → World → Prop) (e : Ending) (w' : World) : Prop :=
  ∃ (s : DS) (w : World), R s w ∧ Ok w0 c w s ∧ (Flds w0 c s w e w' ∨ (e = .returned (.tuple #[nilS, .int .u8 (0 : Nat), nilS, .nilIface]) ∧ Same w w' ∧ 2 < s.sec) ∨
    (∃ err, e = .returned (.tuple #[nilS, .int .u8 (0 : Nat), nilS, err]) ∧ Bad w err ∧ Same w w' ∧ (s.sec = 4 ∨ s.sec = 5)))

set_option maxRecDepth 100000 in
set_option maxHeartbeats 12800000 in
theorem nextField_of (w0 : World) (hval : ValidOK w0) (c : DC) (wI : World) (R : DS → World → Prop)
    (hadv : Calls Tryz.prog 70 #[.pointer (some ⟨c.D, 0, none⟩), .int .u8 (2 : Nat)] wI (Gate w0 c 2 R)) : Calls Tryz.prog 76 #[.pointer (some ⟨c.D, 0, none⟩)] wI (BehindF w0 c R) := by
  have Hval := hid hval
  have Hadv := hid hadv
  clear hval hadv
  go_enter Tryz.func76, Tryz.ntmps76
  go_wp2_with fail
  refine Hadv.out.mono ?_
  rintro e w ⟨b, err, s, rfl, hok, hR, (⟨rfl, rfl, hsec⟩ | ⟨rfl, rfl, hsec⟩ | ⟨hbad, rfl, hsec⟩)⟩
  · have H := hid hok
    have H0 := hid hsec
    have HR := hid hR
    have a1 := hok.dec.r0_le
    have a2 := hok.dec.r1_le
    have a3 := hok.dec.L_le
    have a4 := hok.dec.big
    clear hok hsec hR Hadv
    have S2 := hid (Step1.refl H.out)
    go_wp2_with fail
    refine (fieldKey_set _).mono ?_
    rintro e w3 ⟨g3, rfl, hg3, hs3, hk3⟩
    have S3 := hid (S2.out.same hk3)
    have T3 := hid (fresh_touch S2.out.ok.dec hg3)
    clear hk3
    go_wp2_with fail
    refine (fieldKeyEsc_any _).mono ?_
    rintro e w4 ⟨g4, rfl, hg4, hgl4, ht4, hc4, hk4⟩
    have S4 := hid (S3.out.same hk4)
    have T4 := hid (fresh_touch S3.out.ok.dec hg4)
    have hs4 := hs3.same hk4
    clear hk4 hs3
    go_wp2_with fail
    refine (takeEsc_at S4.out.ok Hval.out g3 g4 pKey _ (by decide) hs4 ht4 T3.out T4.out).mono ?_
    rintro e w5 ⟨v, n, f, s5, err, rfl, hst, htk, hn, hend, hsays, hor⟩
    have S5 := hid (S4.out.trans hst)
    have Htk := hid htk
    have b2 := S5.out.ok.dec.r1_le
    have b5 := hst.le
    have Hr0 := hid hst.r0
    have HL := hid hst.L
    have b13 : s5.L ≤ c.bs.length := S5.out.ok.dec.L_le
    have b8 := S5.out.ok.dec.r0_le
    have Hkey : Hid (s.skip = false → ∃ l : List Nat, n = l.length ∧ (∀ j, j < n → f j = l.getD j 0) ∧ s.r1 + escLen l ≤ s5.r1) := fun hs => by
      refine ⟨_, (hsays hs).1, (hsays hs).2, ?_⟩
      have := tokAt_escLen (b := c.b) (L := s.L) (p := pKey) (x := xOf [44, 61, 32]) ⟨rfl, rfl, rfl⟩ a2
      rw [hend]; omega
    clear hst htk hs4 ht4 hc4 hend hsays
    obtain ⟨A, cap, rfl⟩ := Htk.out.form0
    rcases hor with ⟨rfl, hsec⟩ | ⟨hbad, hsec⟩
    · have Hsec := hid (hsec.trans H0.out)
      clear hsec
      by_cases hn0 : n = 0
      · subst hn0
        by_cases hlt5 : s5.r1 < s5.L
        · go_wp2_with fail
          refine (ensure_yes c s5 1 _ S5.out.ok.dec hlt5).mono ?_
          rintro e w6 ⟨rfl, hk6⟩
          have S6 := hid (S5.out.same hk6)
          clear hk6
          go_wp2_with fail
          refine (errorsNew_any _ _).mono ?_
          rintro e wf1 ⟨gf, rfl, hgf, hgf', hkf⟩
          have SF1 := hid (S6.out.same hkf)
          clear hkf
          go_wp2_with fail
          refine (syntaxErrorf_at SF1.out.ok _ gf (by omega) (by rw [Hr0.out]; omega)).mono ?_
          rintro e wf2 ⟨err, rfl, sf, hbad⟩
          have SF2 := hid (SF1.out.trans sf)
          have Hbad := hid hbad
          clear sf hbad
          go_wp2_with fail
          refine bodyPost_ret (v := .tuple #[nilS, .int .u8 (0 : Nat), nilS, err]) ?_ rfl ⟨s, w, HR.out, H.out, .inl ⟨_, _, _, 0, _, rfl, SF2.out, .inr ⟨Hbad.out, rfl, rfl, by show faultSec _ = 4; rw [Hsec.out]; rfl⟩⟩⟩
          simp [results, Tryz.results76, go_sem, nilS]
        · go_wp2_with fail
          refine (ensure_no c s5 1 _ S5.out.ok.dec (by omega) (by omega)).mono ?_
          rintro e w6 ⟨rfl, hk6⟩
          have S6 := hid (S5.out.same hk6)
          clear hk6
          go_wp2_with fail
          refine (errorsNew_any _ _).mono ?_
          rintro e wf1 ⟨gf, rfl, hgf, hgf', hkf⟩
          have SF1 := hid (S6.out.same hkf)
          clear hkf
          go_wp2_with fail
          refine (syntaxErrorf_at SF1.out.ok _ gf (by omega) (by rw [Hr0.out]; omega)).mono ?_
          rintro e wf2 ⟨err, rfl, sf, hbad⟩
          have SF2 := hid (SF1.out.trans sf)
          have Hbad := hid hbad
          clear sf hbad
          go_wp2_with fail
          refine bodyPost_ret (v := .tuple #[nilS, .int .u8 (0 : Nat), nilS, err]) ?_ rfl ⟨s, w, HR.out, H.out, .inl ⟨_, _, _, 0, _, rfl, SF2.out, .inr ⟨Hbad.out, rfl, rfl, by show faultSec _ = 4; rw [Hsec.out]; rfl⟩⟩⟩
          simp [results, Tryz.results76, go_sem, nilS]
      · have hn1 : 0 < n := by omega
        have hnI : ((n : Int) == 0) = false := by simp; omega
        by_cases hlt5 : s5.r1 < s5.L
        · by_cases heq : c.b s5.r1 = 61
          · have heqb : ((c.b s5.r1 : Int) != 61) = false := by simp [heq]
            have Heq := hid heq
            clear heq
            go_wp2_with fail
            refine (ensure_yes c s5 1 _ S5.out.ok.dec hlt5).mono ?_
            rintro e w6 ⟨rfl, hk6⟩
            have S6 := hid (S5.out.same hk6)
            have T6 := hid (Htk.out.same hk6)
            clear hk6
            go_wp2_with fail
            refine (at_yes c s5 0 _ S6.out.ok.dec hlt5).mono ?_
            rintro e w7 ⟨rfl, hk7⟩
            have S7 := hid (S6.out.same hk7)
            have T7 := hid (T6.out.same hk7)
            clear hk7
            go_wp2_with fail
            refine (advance_any c s5 1 _ S7.out.ok.dec hlt5).mono ?_
            rintro e w8 ⟨rfl, hd8, hk8⟩
            have m8 : Mv c s5 { s5 with r1 := s5.r1 + 1 } w7 w8 := ⟨hd8, hk8, rfl, rfl, rfl, rfl, rfl, rfl⟩
            have S8 := hid (S7.out.mv m8 (Nat.le_succ _) S7.out.ok.sec)
            have T8 := hid (T7.out.far m8.far)
            clear hd8 hk8 m8
            have HL8 := hid (HL.out)
            generalize hs8 : ({ s5 with r1 := s5.r1 + 1 } : DS) = s8 at S8 T8
            have e8 : s8.r1 = s5.r1 + 1 := by rw [← hs8]
            have E8 := hid e8
            have L8 : s8.L = s5.L := by rw [← hs8]
            have Hsec8 := hid (show s8.sec = 2 by rw [← hs8]; exact Hsec.out)
            have b9 := S8.out.ok.dec.r0_le
            have b10 := S8.out.ok.dec.r1_le
            have b11 : s8.L ≤ c.bs.length := S8.out.ok.dec.L_le
            have b12 : s.r1 < s8.r1 := by omega
            clear hs8 e8 L8
            go_wp2_with fail
            by_cases hlt8 : s8.r1 < s8.L
            · refine (ensure_yes c s8 1 _ S8.out.ok.dec hlt8).mono ?_
              rintro e w9 ⟨rfl, hk9⟩
              have S9 := hid (S8.out.same hk9)
              have T9 := hid (T8.out.same hk9)
              clear hk9
              have Q9 := hid S8.out.step
              go_upto_block 0 with (go_at_call 124; refine (at_yes c s8 0 _ S9.out.ok.dec hlt8).mono ?_; rintro e w10 ⟨rfl, hk10⟩)
              have S10 := hid (S9.out.same hk10)
              have T10 := hid (T9.out.same hk10)
              clear hk10
              go_cut [11, 12] (fun V K wc => Hid (AtVal w0 c s s8 (.slice A n cap) V K n f w wc))
              case first =>
                by_cases hq34 : c.b s8.r1 = 34
                · as_aux_lemma =>
                    have hqb : ((c.b s8.r1 : Int) == 34) = true := by simp [hq34]
                    have Hq := hid hq34
                    clear hq34
                    go_wp2_with fail
                    refine (advance_any c s8 1 _ S10.out.ok.dec hlt8).mono ?_
                    rintro e w11 ⟨rfl, hd11, hk11⟩
                    have m11 : Mv c s8 { s8 with r1 := s8.r1 + 1 } w10 w11 := ⟨hd11, hk11, rfl, rfl, rfl, rfl, rfl, rfl⟩
                    have S11 := hid (S10.out.mv m11 (Nat.le_succ _) S10.out.ok.sec)
                    have T11 := hid (T10.out.far m11.far)
                    clear hd11 hk11 m11
                    go_wp2_with fail
                    refine (str_set _).mono ?_
                    rintro e w12 ⟨g12, rfl, hg12, hs12, hk12⟩
                    have S12 := hid (S11.out.same hk12)
                    have T12 := hid (T11.out.same hk12)
                    have V12 := hid (fresh_touch S11.out.ok.dec hg12)
                    clear hk12
                    go_wp2_with fail
                    refine (strEsc_any _).mono ?_
                    rintro e w13 ⟨g13, rfl, hg13, hgl13, ht13, hc13, hk13⟩
                    have S13 := hid (S12.out.same hk13)
                    have T13 := hid (T12.out.same hk13)
                    have V13 := hid (fresh_touch S12.out.ok.dec hg13)
                    have hs13 := hs12.same hk13
                    clear hk13 hs12
                    go_wp2_with fail
                    refine (takeEsc_at S13.out.ok Hval.out g12 g13 pStr _ (by decide) hs13 ht13 V12.out V13.out).mono ?_
                    rintro e w14 ⟨v2, n2, f2, s14, err2, rfl, hst2, htk2, hn2, -, -, hor2⟩
                    have S14 := hid (S13.out.trans hst2)
                    have T14 := hid (T13.out.far hst2.far)
                    have W14 := hid htk2
                    have d2 := S14.out.ok.dec.r1_le
                    have d5 : s8.r1 + 1 ≤ s14.r1 := hst2.le
                    have d7 := hid (hst2.r0 : s14.r0 = s8.r0)
                    clear hst2 htk2 hs13 ht13 hc13
                    obtain ⟨A2, cap2, rfl⟩ := W14.out.form0
                    rcases hor2 with ⟨rfl, hsec2⟩ | ⟨hbad, hsec2⟩
                    · have Hsec14 := hid (hsec2.trans Hsec8.out)
                      clear hsec2
                      by_cases hlt14 : s14.r1 < s14.L
                      · by_cases hz : c.b s14.r1 = 34
                        · have hzb : ((c.b s14.r1 : Int) != 34) = false := by simp [hz]
                          have Hz := hid hz
                          clear hz
                          go_wp2_with fail
                          refine (ensure_yes c s14 1 _ S14.out.ok.dec hlt14).mono ?_
                          rintro e w15 ⟨rfl, hk15⟩
                          have S15 := hid (S14.out.same hk15)
                          have T15 := hid (T14.out.same hk15)
                          have W15 := hid (W14.out.same hk15)
                          clear hk15
                          go_wp2_with fail
                          refine (at_yes c s14 0 _ S15.out.ok.dec hlt14).mono ?_
                          rintro e w16 ⟨rfl, hk16⟩
                          have S16 := hid (S15.out.same hk16)
                          have T16 := hid (T15.out.same hk16)
                          have W16 := hid (W15.out.same hk16)
                          clear hk16
                          go_wp2_with fail
                          refine (advance_any c s14 1 _ S16.out.ok.dec hlt14).mono ?_
                          rintro e w17 ⟨rfl, hd17, hk17⟩
                          have m17 : Mv c s14 { s14 with r1 := s14.r1 + 1 } w16 w17 := ⟨hd17, hk17, rfl, rfl, rfl, rfl, rfl, rfl⟩
                          have S17 := hid (S16.out.mv m17 (Nat.le_succ _) S16.out.ok.sec)
                          have T17 := hid (T16.out.far m17.far)
                          have W17 := hid (W16.out.far m17.far)
                          clear hd17 hk17 m17
                          go_wp2_with fail
                          go_meet
                          case rel => exact ⟨_, 1, n2, f2, S17.out, T17.out, W17.out, Hsec14.out, by show s8.r1 ≤ s14.r1 + 1; omega, rfl, by omega, by omega⟩
                        · have hzb : ((c.b s14.r1 : Int) != 34) = true := by rw [bne_iff_ne]; omega
                          have Hz := hid hz
                          clear hz
                          go_wp2_with fail
                          refine (ensure_yes c s14 1 _ S14.out.ok.dec hlt14).mono ?_
                          rintro e w15 ⟨rfl, hk15⟩
                          have S15 := hid (S14.out.same hk15)
                          clear hk15
                          go_wp2_with fail
                          refine (at_yes c s14 0 _ S15.out.ok.dec hlt14).mono ?_
                          rintro e w16 ⟨rfl, hk16⟩
                          have S16 := hid (S15.out.same hk16)
                          clear hk16
                          go_wp2_with fail
                          refine (errorsNew_any _ _).mono ?_
                          rintro e wf1 ⟨gf, rfl, hgf, hgf', hkf⟩
                          have SF1 := hid (S16.out.same hkf)
                          clear hkf
                          go_wp2_with fail
                          refine (syntaxErrorf_at SF1.out.ok _ gf (by omega) (by rw [d7.out]; omega)).mono ?_
                          rintro e wf2 ⟨err, rfl, sf, hbad⟩
                          have SF2 := hid (SF1.out.trans sf)
                          have Hbad := hid hbad
                          clear sf hbad
                          go_wp2_with fail
                          refine bodyPost_ret (v := .tuple #[nilS, .int .u8 (0 : Nat), nilS, err]) ?_ rfl ⟨s, w, HR.out, H.out, .inl ⟨_, _, _, 0, _, rfl, SF2.out, .inr ⟨Hbad.out, rfl, rfl, by show faultSec _ = 4; rw [Hsec14.out]; rfl⟩⟩⟩
                          simp [results, Tryz.results76, go_sem, nilS]
                      · go_wp2_with fail
                        refine (ensure_no c s14 1 _ S14.out.ok.dec (by omega) (by omega)).mono ?_
                        rintro e w15 ⟨rfl, hk15⟩
                        have S15 := hid (S14.out.same hk15)
                        clear hk15
                        go_wp2_with fail
                        refine (errorsNew_any _ _).mono ?_
                        rintro e wf1 ⟨gf, rfl, hgf, hgf', hkf⟩
                        have SF1 := hid (S15.out.same hkf)
                        clear hkf
                        go_wp2_with fail
                        refine (syntaxErrorf_at SF1.out.ok _ gf (by omega) (by rw [d7.out]; omega)).mono ?_
                        rintro e wf2 ⟨err, rfl, sf, hbad⟩
                        have SF2 := hid (SF1.out.trans sf)
                        have Hbad := hid hbad
                        clear sf hbad
                        go_wp2_with fail
                        refine bodyPost_ret (v := .tuple #[nilS, .int .u8 (0 : Nat), nilS, err]) ?_ rfl ⟨s, w, HR.out, H.out, .inl ⟨_, _, _, 0, _, rfl, SF2.out, .inr ⟨Hbad.out, rfl, rfl, by show faultSec _ = 4; rw [Hsec14.out]; rfl⟩⟩⟩
                        simp [results, Tryz.results76, go_sem, nilS]
                    · obtain ⟨gb, kb, rfl, hrow⟩ := hbad.iface
                      have Hbad := hid hbad
                      have Hsec14 := hid hsec2
                      clear hbad hsec2 hrow
                      go_wp2_with fail
                      refine bodyPost_ret (v := .tuple #[nilS, .int .u8 (0 : Nat), nilS, .iface 204 (.pointer (some ⟨gb, 0, none⟩))]) ?_ rfl ⟨s, w, HR.out, H.out, .inl ⟨_, _, _, 0, _, rfl, S14.out, .inr ⟨Hbad.out, rfl, rfl, by rw [Hsec14.out]; show faultSec s8.sec = 4; rw [Hsec8.out]; rfl⟩⟩⟩
                      simp [results, Tryz.results76, go_sem, nilS]
                · have hqb : ((c.b s8.r1 : Int) == 34) = false := by simp; omega
                  have Hq := hid hq34
                  clear hq34
                  go_upto_if 149 with fail
                  by_cases hB : c.b s8.r1 = 116 ∨ c.b s8.r1 = 84 ∨ c.b s8.r1 = 102 ∨ c.b s8.r1 = 70
                  · as_aux_lemma =>
                      go_cut [149] (fun T wd => T = .bool true ∧ Hid (w10 = wd))
                      case first => as_aux_lemma =>
                          rcases hB with h | h | h | h
                          · as_aux_lemma =>
                              have q116 : ((c.b s8.r1 : Int) == 116) = true := by simp [h]
                              clear h
                              go_wp2_with fail
                              go_meet
                              case rel => first | exact ⟨congrArg Value.bool q116, rfl⟩ | exact ⟨rfl, rfl⟩
                          · as_aux_lemma =>
                              have q116 : ((c.b s8.r1 : Int) == 116) = false := by simp [h]
                              have q84 : ((c.b s8.r1 : Int) == 84) = true := by simp [h]
                              clear h
                              go_wp2_with fail
                              go_meet
                              case rel => first | exact ⟨congrArg Value.bool q84, rfl⟩ | exact ⟨rfl, rfl⟩
                          · as_aux_lemma =>
                              have q116 : ((c.b s8.r1 : Int) == 116) = false := by simp [h]
                              have q84 : ((c.b s8.r1 : Int) == 84) = false := by simp [h]
                              have q102 : ((c.b s8.r1 : Int) == 102) = true := by simp [h]
                              clear h
                              go_wp2_with fail
                              go_meet
                              case rel => first | exact ⟨congrArg Value.bool q102, rfl⟩ | exact ⟨rfl, rfl⟩
                          · as_aux_lemma =>
                              have q116 : ((c.b s8.r1 : Int) == 116) = false := by simp [h]
                              have q84 : ((c.b s8.r1 : Int) == 84) = false := by simp [h]
                              have q102 : ((c.b s8.r1 : Int) == 102) = false := by simp [h]
                              have q70 : ((c.b s8.r1 : Int) == 70) = true := by simp [h]
                              clear h
                              go_wp2_with fail
                              go_meet
                              case rel => first | exact ⟨congrArg Value.bool q70, rfl⟩ | exact ⟨rfl, rfl⟩
                      case rest => as_aux_lemma =>
                          obtain ⟨rfl, hw⟩ := hcut
                          obtain rfl := hw.out
                          clear hB hw
                          go_wp2_with fail
                          refine (val_set _).mono ?_
                          rintro e w12 ⟨g12, rfl, hg12, hs12, hk12⟩
                          have S12 := hid (S10.out.same hk12)
                          have T12 := hid (T10.out.same hk12)
                          have hgD := hid (ne_D S10.out.ok hg12)
                          clear hk12
                          go_wp2_with fail
                          refine (take_in c s8 g12 pVal _ S12.out.ok.dec hs12 hgD.out hlt8).mono ?_
                          rintro e w13 ⟨q, hrun, rfl, hd13, hk13⟩
                          have m13 : Mv c s8 { s8 with r1 := q } w12 w13 := ⟨hd13, hk13, rfl, rfl, rfl, rfl, rfl, rfl⟩
                          have S13 := hid (S12.out.mv m13 hrun.le S12.out.ok.sec)
                          have T13 := hid (T12.out.far m13.far)
                          have hq1 := hrun.le
                          have hq2 := hrun.le'
                          have hcl := S13.out.ok.dec.cap_le
                          have hcl2 : s8.L ≤ s8.cap := hcl
                          clear hrun hd13 hk13 m13 hcl
                          go_wp2_with fail
                          go_meet
                          case rel => exact ⟨_, 5, q - s8.r1, _, S13.out, T13.out, Tk.text S13.out.ok (by show s8.r1 + (q - s8.r1) ≤ s8.L; omega) (by omega) (by show s8.cap - s8.r1 ≤ s8.cap; omega), Hsec8.out, hq1, rfl, by omega, by omega⟩
                  · go_cut [149] (fun T wd => T = .bool false ∧ Hid (w10 = wd))
                    case first => as_aux_lemma =>
                        have h1 : ((c.b s8.r1 : Int) == 116) = false := by simp; omega
                        have h2 : ((c.b s8.r1 : Int) == 84) = false := by simp; omega
                        have h3 : ((c.b s8.r1 : Int) == 102) = false := by simp; omega
                        have h4 : ((c.b s8.r1 : Int) == 70) = false := by simp; omega
                        clear hB
                        go_wp2_with fail
                        go_meet
                        case rel => first | exact ⟨rfl, rfl⟩ | rfl | trivial
                    case rest => as_aux_lemma =>
                        obtain ⟨rfl, hw⟩ := hcut
                        obtain rfl := hw.out
                        clear hB hw
                        go_upto_if 157 with fail
                        by_cases hN : c.b s8.r1 = 45 ∨ c.b s8.r1 = 46 ∨ (48 ≤ c.b s8.r1 ∧ c.b s8.r1 ≤ 57)
                        · as_aux_lemma =>
                            have hpv : Hid (pVal (c.b s8.r1) = true) := pVal_num hN
                            go_cut [157] (fun T wd => T = .bool true ∧ Hid (w10 = wd))
                            case first => as_aux_lemma =>
                                have h' : c.b s8.r1 = 45 ∨ c.b s8.r1 = 48 ∨ c.b s8.r1 = 49 ∨ c.b s8.r1 = 50 ∨ c.b s8.r1 = 51 ∨ c.b s8.r1 = 52 ∨ c.b s8.r1 = 53 ∨ c.b s8.r1 = 54 ∨ c.b s8.r1 = 55 ∨ c.b s8.r1 = 56 ∨ c.b s8.r1 = 57 ∨ c.b s8.r1 = 46 := by omega
                                clear hN
                                rcases h' with h | h | h | h | h | h | h | h | h | h | h | h
                                · as_aux_lemma =>
                                    have q45 : ((c.b s8.r1 : Int) == 45) = true := by simp [h]
                                    clear h
                                    go_wp2_with fail
                                    go_meet
                                    case rel => first | exact ⟨congrArg Value.bool q45, rfl⟩ | exact ⟨rfl, rfl⟩
                                · as_aux_lemma =>
                                    have q45 : ((c.b s8.r1 : Int) == 45) = false := by simp [h]
                                    have q48 : ((c.b s8.r1 : Int) == 48) = true := by simp [h]
                                    clear h
                                    go_wp2_with fail
                                    go_meet
                                    case rel => first | exact ⟨congrArg Value.bool q48, rfl⟩ | exact ⟨rfl, rfl⟩
                                · as_aux_lemma =>
                                    have q45 : ((c.b s8.r1 : Int) == 45) = false := by simp [h]
                                    have q48 : ((c.b s8.r1 : Int) == 48) = false := by simp [h]
                                    have q49 : ((c.b s8.r1 : Int) == 49) = true := by simp [h]
                                    clear h
                                    go_wp2_with fail
                                    go_meet
                                    case rel => first | exact ⟨congrArg Value.bool q49, rfl⟩ | exact ⟨rfl, rfl⟩
                                · as_aux_lemma =>
                                    have q45 : ((c.b s8.r1 : Int) == 45) = false := by simp [h]
                                    have q48 : ((c.b s8.r1 : Int) == 48) = false := by simp [h]
                                    have q49 : ((c.b s8.r1 : Int) == 49) = false := by simp [h]
                                    have q50 : ((c.b s8.r1 : Int) == 50) = true := by simp [h]
                                    clear h
                                    go_wp2_with fail
                                    go_meet
                                    case rel => first | exact ⟨congrArg Value.bool q50, rfl⟩ | exact ⟨rfl, rfl⟩
                                · as_aux_lemma =>
                                    have q45 : ((c.b s8.r1 : Int) == 45) = false := by simp [h]
                                    have q48 : ((c.b s8.r1 : Int) == 48) = false := by simp [h]
                                    have q49 : ((c.b s8.r1 : Int) == 49) = false := by simp [h]
                                    have q50 : ((c.b s8.r1 : Int) == 50) = false := by simp [h]
                                    have q51 : ((c.b s8.r1 : Int) == 51) = true := by simp [h]
                                    clear h
                                    go_wp2_with fail
                                    go_meet
                                    case rel => first | exact ⟨congrArg Value.bool q51, rfl⟩ | exact ⟨rfl, rfl⟩
                                · as_aux_lemma =>
                                    have q45 : ((c.b s8.r1 : Int) == 45) = false := by simp [h]
                                    have q48 : ((c.b s8.r1 : Int) == 48) = false := by simp [h]
                                    have q49 : ((c.b s8.r1 : Int) == 49) = false := by simp [h]
                                    have q50 : ((c.b s8.r1 : Int) == 50) = false := by simp [h]
                                    have q51 : ((c.b s8.r1 : Int) == 51) = false := by simp [h]
                                    have q52 : ((c.b s8.r1 : Int) == 52) = true := by simp [h]
                                    clear h
                                    go_wp2_with fail
                                    go_meet
                                    case rel => first | exact ⟨congrArg Value.bool q52, rfl⟩ | exact ⟨rfl, rfl⟩
                                · as_aux_lemma =>
                                    have q45 : ((c.b s8.r1 : Int) == 45) = false := by simp [h]
                                    have q48 : ((c.b s8.r1 : Int) == 48) = false := by simp [h]
                                    have q49 : ((c.b s8.r1 : Int) == 49) = false := by simp [h]
                                    have q50 : ((c.b s8.r1 : Int) == 50) = false := by simp [h]
                                    have q51 : ((c.b s8.r1 : Int) == 51) = false := by simp [h]
                                    have q52 : ((c.b s8.r1 : Int) == 52) = false := by simp [h]
                                    have q53 : ((c.b s8.r1 : Int) == 53) = true := by simp [h]
                                    clear h
                                    go_wp2_with fail
                                    go_meet
                                    case rel => first | exact ⟨congrArg Value.bool q53, rfl⟩ | exact ⟨rfl, rfl⟩
                                · as_aux_lemma =>
                                    have q45 : ((c.b s8.r1 : Int) == 45) = false := by simp [h]
                                    have q48 : ((c.b s8.r1 : Int) == 48) = false := by simp [h]
                                    have q49 : ((c.b s8.r1 : Int) == 49) = false := by simp [h]
                                    have q50 : ((c.b s8.r1 : Int) == 50) = false := by simp [h]
                                    have q51 : ((c.b s8.r1 : Int) == 51) = false := by simp [h]
                                    have q52 : ((c.b s8.r1 : Int) == 52) = false := by simp [h]
                                    have q53 : ((c.b s8.r1 : Int) == 53) = false := by simp [h]
                                    have q54 : ((c.b s8.r1 : Int) == 54) = true := by simp [h]
                                    clear h
                                    go_wp2_with fail
                                    go_meet
                                    case rel => first | exact ⟨congrArg Value.bool q54, rfl⟩ | exact ⟨rfl, rfl⟩
                                · as_aux_lemma =>
                                    have q45 : ((c.b s8.r1 : Int) == 45) = false := by simp [h]
                                    have q48 : ((c.b s8.r1 : Int) == 48) = false := by simp [h]
                                    have q49 : ((c.b s8.r1 : Int) == 49) = false := by simp [h]
                                    have q50 : ((c.b s8.r1 : Int) == 50) = false := by simp [h]
                                    have q51 : ((c.b s8.r1 : Int) == 51) = false := by simp [h]
                                    have q52 : ((c.b s8.r1 : Int) == 52) = false := by simp [h]
                                    have q53 : ((c.b s8.r1 : Int) == 53) = false := by simp [h]
                                    have q54 : ((c.b s8.r1 : Int) == 54) = false := by simp [h]
                                    have q55 : ((c.b s8.r1 : Int) == 55) = true := by simp [h]
                                    clear h
                                    go_wp2_with fail
                                    go_meet
                                    case rel => first | exact ⟨congrArg Value.bool q55, rfl⟩ | exact ⟨rfl, rfl⟩
                                · as_aux_lemma =>
                                    have q45 : ((c.b s8.r1 : Int) == 45) = false := by simp [h]
                                    have q48 : ((c.b s8.r1 : Int) == 48) = false := by simp [h]
                                    have q49 : ((c.b s8.r1 : Int) == 49) = false := by simp [h]
                                    have q50 : ((c.b s8.r1 : Int) == 50) = false := by simp [h]
                                    have q51 : ((c.b s8.r1 : Int) == 51) = false := by simp [h]
                                    have q52 : ((c.b s8.r1 : Int) == 52) = false := by simp [h]
                                    have q53 : ((c.b s8.r1 : Int) == 53) = false := by simp [h]
                                    have q54 : ((c.b s8.r1 : Int) == 54) = false := by simp [h]
                                    have q55 : ((c.b s8.r1 : Int) == 55) = false := by simp [h]
                                    have q56 : ((c.b s8.r1 : Int) == 56) = true := by simp [h]
                                    clear h
                                    go_wp2_with fail
                                    go_meet
                                    case rel => first | exact ⟨congrArg Value.bool q56, rfl⟩ | exact ⟨rfl, rfl⟩
                                · as_aux_lemma =>
                                    have q45 : ((c.b s8.r1 : Int) == 45) = false := by simp [h]
                                    have q48 : ((c.b s8.r1 : Int) == 48) = false := by simp [h]
                                    have q49 : ((c.b s8.r1 : Int) == 49) = false := by simp [h]
                                    have q50 : ((c.b s8.r1 : Int) == 50) = false := by simp [h]
                                    have q51 : ((c.b s8.r1 : Int) == 51) = false := by simp [h]
                                    have q52 : ((c.b s8.r1 : Int) == 52) = false := by simp [h]
                                    have q53 : ((c.b s8.r1 : Int) == 53) = false := by simp [h]
                                    have q54 : ((c.b s8.r1 : Int) == 54) = false := by simp [h]
                                    have q55 : ((c.b s8.r1 : Int) == 55) = false := by simp [h]
                                    have q56 : ((c.b s8.r1 : Int) == 56) = false := by simp [h]
                                    have q57 : ((c.b s8.r1 : Int) == 57) = true := by simp [h]
                                    clear h
                                    go_wp2_with fail
                                    go_meet
                                    case rel => first | exact ⟨congrArg Value.bool q57, rfl⟩ | exact ⟨rfl, rfl⟩
                                · as_aux_lemma =>
                                    have q45 : ((c.b s8.r1 : Int) == 45) = false := by simp [h]
                                    have q48 : ((c.b s8.r1 : Int) == 48) = false := by simp [h]
                                    have q49 : ((c.b s8.r1 : Int) == 49) = false := by simp [h]
                                    have q50 : ((c.b s8.r1 : Int) == 50) = false := by simp [h]
                                    have q51 : ((c.b s8.r1 : Int) == 51) = false := by simp [h]
                                    have q52 : ((c.b s8.r1 : Int) == 52) = false := by simp [h]
                                    have q53 : ((c.b s8.r1 : Int) == 53) = false := by simp [h]
                                    have q54 : ((c.b s8.r1 : Int) == 54) = false := by simp [h]
                                    have q55 : ((c.b s8.r1 : Int) == 55) = false := by simp [h]
                                    have q56 : ((c.b s8.r1 : Int) == 56) = false := by simp [h]
                                    have q57 : ((c.b s8.r1 : Int) == 57) = false := by simp [h]
                                    have q46 : ((c.b s8.r1 : Int) == 46) = true := by simp [h]
                                    clear h
                                    go_wp2_with fail
                                    go_meet
                                    case rel => first | exact ⟨congrArg Value.bool q46, rfl⟩ | exact ⟨rfl, rfl⟩
                            case rest => as_aux_lemma =>
                                obtain ⟨rfl, hw⟩ := hcut
                                obtain rfl := hw.out
                                clear hN hw
                                go_wp2_with fail
                                refine (val_set _).mono ?_
                                rintro e w12 ⟨g12, rfl, hg12, hs12, hk12⟩
                                have S12 := hid (S10.out.same hk12)
                                have T12 := hid (T10.out.same hk12)
                                have hgD := hid (ne_D S10.out.ok hg12)
                                clear hk12
                                go_wp2_with fail
                                refine (take_in c s8 g12 pVal _ S12.out.ok.dec hs12 hgD.out hlt8).mono ?_
                                rintro e w13 ⟨q, hrun, rfl, hd13, hk13⟩
                                have m13 : Mv c s8 { s8 with r1 := q } w12 w13 := ⟨hd13, hk13, rfl, rfl, rfl, rfl, rfl, rfl⟩
                                have S13 := hid (S12.out.mv m13 hrun.le S12.out.ok.sec)
                                have T13 := hid (T12.out.far m13.far)
                                have hq1 := hrun.le
                                have hq2 := hrun.le'
                                have hcl := S13.out.ok.dec.cap_le
                                have hcl2 : s8.L ≤ s8.cap := hcl
                                have hmore : s8.r1 < q := hrun.more hlt8 hpv.out
                                clear hrun hd13 hk13 m13 hcl
                                have hcell := S13.out.ok.dec.byte (i := s8.r1 + (q - s8.r1 - 1)) (by omega)
                                have e1 : ((q - s8.r1 : Nat) : Int) - 1 = ((q - s8.r1 - 1 : Nat) : Int) := by omega
                                have e2 : q - s8.r1 - 1 < q - s8.r1 := by omega
                                have hbl := c.b_lt (s8.r1 + (q - s8.r1 - 1))
                                have E1 := hid e1
                                clear e1
                                go_wp2_with fail
                                all_goals
                                  go_meet
                                  case rel =>
                                    first
                                      | exact ⟨_, 2, _, _, S13.out, T13.out, Tk.text S13.out.ok (by show s8.r1 + (q - s8.r1 - 1) ≤ s8.L; omega) (by omega) (by show s8.cap - s8.r1 ≤ s8.cap; omega), Hsec8.out, hq1, rfl, by omega, by omega⟩
                                      | exact ⟨_, 3, _, _, S13.out, T13.out, Tk.text S13.out.ok (by show s8.r1 + (q - s8.r1 - 1) ≤ s8.L; omega) (by omega) (by show s8.cap - s8.r1 ≤ s8.cap; omega), Hsec8.out, hq1, rfl, by omega, by omega⟩
                                      | exact ⟨_, 4, _, _, S13.out, T13.out, Tk.text S13.out.ok (by show s8.r1 + (q - s8.r1) ≤ s8.L; omega) (by omega) (by show s8.cap - s8.r1 ≤ s8.cap; omega), Hsec8.out, hq1, rfl, by omega, by omega⟩
                        · as_aux_lemma =>
                            go_cut [157] (fun T wd => T = .bool false ∧ Hid (w10 = wd))
                            case first => as_aux_lemma =>
                                have h45 : ((c.b s8.r1 : Int) == 45) = false := by simp; omega
                                have h48 : ((c.b s8.r1 : Int) == 48) = false := by simp; omega
                                have h49 : ((c.b s8.r1 : Int) == 49) = false := by simp; omega
                                have h50 : ((c.b s8.r1 : Int) == 50) = false := by simp; omega
                                have h51 : ((c.b s8.r1 : Int) == 51) = false := by simp; omega
                                have h52 : ((c.b s8.r1 : Int) == 52) = false := by simp; omega
                                have h53 : ((c.b s8.r1 : Int) == 53) = false := by simp; omega
                                have h54 : ((c.b s8.r1 : Int) == 54) = false := by simp; omega
                                have h55 : ((c.b s8.r1 : Int) == 55) = false := by simp; omega
                                have h56 : ((c.b s8.r1 : Int) == 56) = false := by simp; omega
                                have h57 : ((c.b s8.r1 : Int) == 57) = false := by simp; omega
                                have h46 : ((c.b s8.r1 : Int) == 46) = false := by simp; omega
                                clear hN
                                go_wp2_with fail
                                go_meet
                                case rel => first | exact ⟨rfl, rfl⟩ | rfl | trivial
                            case rest => as_aux_lemma =>
                                obtain ⟨rfl, hw⟩ := hcut
                                obtain rfl := hw.out
                                clear hN hw
                                go_wp2_with fail
                                have f2 := S10.out.ok.dec.f2
                                have f3 := S10.out.ok.dec.f3
                                have ew : IntKind.i64.wrap ((s8.r1 : Int) - (s8.r0 : Int)) = (s8.r1 : Int) - (s8.r0 : Int) := IntWalk.i64_in _ (by omega)
                                go_region_held3 (fun w' => w'.cell? ⟨c.D, 2, none⟩ = some (.int .i64 s8.r0) ∧ w'.cell? ⟨c.D, 3, none⟩ = some (.int .i64 s8.r1))
                                  (first | (refine ⟨?_, ?_⟩ <;> assumption) | go_keep)
                                  (first | (go_at_call 111; refine (errorsNew_any _ _).mono ?_; rintro e w8 ⟨g8, rfl, hg8, hg8', hk8⟩; have SF1 := hid ((S10.out.same (same_drew _)).same hk8); have b2 := SF1.out.ok.dec.f2; have b3 := SF1.out.ok.dec.f3; clear hk8) | (go_at_call 131; refine (syntaxErrorf_at SF1.out.ok _ g8 (by show (0 : Int) ≤ _; omega) (by show _ ≤ (s8.r1 : Int) - (s8.r0 : Int); omega)).mono ?_; rintro e w9 ⟨err, rfl, s9, hbad⟩; have SF2 := hid (SF1.out.trans s9); have Hbad := hid hbad; have d2 := SF2.out.ok.dec.f2; have d3 := SF2.out.ok.dec.f3; clear s9 hbad))
                                go_wp2_with fail
                                refine bodyPost_ret (v := .tuple #[nilS, .int .u8 (0 : Nat), nilS, err]) ?_ rfl ⟨s, w, HR.out, H.out, .inl ⟨_, _, _, 0, _, rfl, SF2.out, .inr ⟨Hbad.out, rfl, rfl, by show faultSec _ = 4; rw [Hsec8.out]; rfl⟩⟩⟩
                                simp [results, Tryz.results76, go_sem, nilS]
              case rest => as_aux_lemma =>
                  obtain ⟨s9, kd, m, hv, hst9, htk9, htv9, hsec9, hle9, hkd, hk1, hk5⟩ := hcut.out
                  subst hkd
                  obtain ⟨Av, capv, hvv⟩ := htv9.form0
                  subst hvv
                  have S20 := hid hst9
                  have T20 := hid htk9
                  have V20 := hid htv9
                  have Hsec9 := hid hsec9
                  clear hst9 htk9 htv9 hsec9 hcut S8 T8 S9 T9 S10 T10 Q9 Htk S5 S6 T6 S7 T7
                  have c1 := S20.out.ok.dec.r0_le
                  have c2 := S20.out.ok.dec.r1_le
                  have c3 := S20.out.ok.dec.L_le
                  have c4 := S20.out.ok.dec.big
                  by_cases hlt9 : s9.r1 < s9.L
                  · by_cases hcm : c.b s9.r1 = 44
                    · have hcb : ((c.b s9.r1 : Int) == 44) = true := by simp [hcm]
                      have Hcm := hid hcm
                      clear hcm
                      go_wp2_with fail
                      refine (ensure_yes c s9 1 _ S20.out.ok.dec hlt9).mono ?_
                      rintro e w21 ⟨rfl, hk21⟩
                      have S21 := hid (S20.out.same hk21)
                      have T21 := hid (T20.out.same hk21)
                      have V21 := hid (V20.out.same hk21)
                      clear hk21
                      go_wp2_with fail
                      refine (at_yes c s9 0 _ S21.out.ok.dec hlt9).mono ?_
                      rintro e w22 ⟨rfl, hk22⟩
                      have S22 := hid (S21.out.same hk22)
                      have T22 := hid (T21.out.same hk22)
                      have V22 := hid (V21.out.same hk22)
                      clear hk22
                      go_wp2_with fail
                      refine (advance_any c s9 1 _ S22.out.ok.dec hlt9).mono ?_
                      rintro e w23 ⟨rfl, hd23, hk23⟩
                      have m23 : Mv c s9 { s9 with r1 := s9.r1 + 1 } w22 w23 := ⟨hd23, hk23, rfl, rfl, rfl, rfl, rfl, rfl⟩
                      have S23 := hid (S22.out.mv m23 (Nat.le_succ _) S22.out.ok.sec)
                      have T23 := hid (T22.out.far m23.far)
                      have V23 := hid (V22.out.far m23.far)
                      clear hd23 hk23 m23
                      go_wp2_with fail
                      refine bodyPost_ret (v := .tuple #[.slice A n cap, .int .u8 (kd : Nat), .slice Av m capv, .nilIface]) ?_ rfl ⟨s, w, HR.out, H.out, .inl ⟨_, _, _, kd, _, rfl, S23.out, .inl ⟨rfl, .inl Hsec9.out, by show s.r1 < s9.r1 + 1; omega, ⟨hk1, hk5⟩, n, f, m, hv, hn1, T23.out, V23.out, fun hs => ?_⟩⟩⟩
                      · simp [results, Tryz.results76, go_sem]
                      · obtain ⟨l, h1, h2, h3⟩ := Hkey.out hs
                        refine ⟨l, h1, h2, ?_⟩
                        have := E8.out
                        show s.r1 + escLen l + 1 ≤ s9.r1 + 1; omega
                    · have hcb : ((c.b s9.r1 : Int) == 44) = false := by simp; omega
                      have Hcm := hid hcm
                      clear hcm
                      go_wp2_with fail
                      refine (ensure_yes c s9 1 _ S20.out.ok.dec hlt9).mono ?_
                      rintro e w21 ⟨rfl, hk21⟩
                      have S21 := hid (S20.out.same hk21)
                      have T21 := hid (T20.out.same hk21)
                      have V21 := hid (V20.out.same hk21)
                      clear hk21
                      go_wp2_with fail
                      refine (at_yes c s9 0 _ S21.out.ok.dec hlt9).mono ?_
                      rintro e w22 ⟨rfl, hk22⟩
                      have S22 := hid (S21.out.same hk22)
                      have T22 := hid (T21.out.same hk22)
                      have V22 := hid (V21.out.same hk22)
                      clear hk22
                      go_wp2_with fail
                      refine (white_set _).mono ?_
                      rintro e w23 ⟨g23, rfl, hg23, hs23, hk23⟩
                      have S23 := hid (S22.out.same hk23)
                      have T23 := hid (T22.out.same hk23)
                      have V23 := hid (V22.out.same hk23)
                      clear hk23
                      go_wp2_with fail
                      refine (get_any g23 _ pWhite _ (c.b_lt _) hs23).mono ?_
                      rintro e w24 ⟨rfl, rfl⟩
                      clear hs23
                      cases hp : pWhite (c.b s9.r1)
                      · go_wp2_with fail
                        have f2 := S23.out.ok.dec.f2
                        have f3 := S23.out.ok.dec.f3
                        have ew : IntKind.i64.wrap ((s9.r1 : Int) - (s9.r0 : Int)) = (s9.r1 : Int) - (s9.r0 : Int) := IntWalk.i64_in _ (by omega)
                        go_region_held3 (fun w' => w'.cell? ⟨c.D, 2, none⟩ = some (.int .i64 s9.r0) ∧ w'.cell? ⟨c.D, 3, none⟩ = some (.int .i64 s9.r1))
                          (first | (refine ⟨?_, ?_⟩ <;> assumption) | go_keep)
                          (first | (go_at_call 111; refine (errorsNew_any _ _).mono ?_; rintro e w8 ⟨g8, rfl, hg8, hg8', hk8⟩; have SF1 := hid ((S23.out.same (same_drew _)).same hk8); have b2 := SF1.out.ok.dec.f2; have b3 := SF1.out.ok.dec.f3; clear hk8) | (go_at_call 131; refine (syntaxErrorf_at SF1.out.ok _ g8 (by show (0 : Int) ≤ _; omega) (by show _ ≤ (s9.r1 : Int) - (s9.r0 : Int); omega)).mono ?_; rintro e w9 ⟨err, rfl, s9, hbad⟩; have SF2 := hid (SF1.out.trans s9); have Hbad := hid hbad; have d2 := SF2.out.ok.dec.f2; have d3 := SF2.out.ok.dec.f3; clear s9 hbad))
                        go_wp2_with fail
                        refine bodyPost_ret (v := .tuple #[nilS, .int .u8 (0 : Nat), nilS, err]) ?_ rfl ⟨s, w, HR.out, H.out, .inl ⟨_, _, _, 0, _, rfl, SF2.out, .inr ⟨Hbad.out, rfl, rfl, by show faultSec _ = 4; rw [Hsec9.out]; rfl⟩⟩⟩
                        simp [results, Tryz.results76, go_sem, nilS]
                      · go_wp2_with fail
                        refine (blank_set _).mono ?_
                        rintro e w25 ⟨g25, rfl, hg25, hs25, hk25⟩
                        have S25 := hid (S23.out.same hk25)
                        have T25 := hid (T23.out.same hk25)
                        have V25 := hid (V23.out.same hk25)
                        have hgD := hid (ne_D S23.out.ok hg25)
                        clear hk25
                        go_wp2_with fail
                        refine (take_any c s9 g25 _ _ S25.out.ok.dec hs25 hgD.out).mono ?_
                        rintro e w26 ⟨q, hrun, rfl, hd26, hk26⟩
                        have m26 : Mv c s9 { s9 with r1 := q } w25 w26 := ⟨hd26, hk26, rfl, rfl, rfl, rfl, rfl, rfl⟩
                        have S26 := hid (S25.out.mv m26 hrun.le S25.out.ok.sec)
                        have T26 := hid (T25.out.far m26.far)
                        have V26 := hid (V25.out.far m26.far)
                        have hq1 := hrun.le
                        clear hd26 hk26 m26 hrun hs25
                        go_wp2_with fail
                        refine (takeEOL_any c _ _ S26.out.ok.dec).mono ?_
                        rintro e w27 ⟨b, s27, rfl, m27, hsec27, hle27, -⟩
                        have S27 := hid (S26.out.mv m27 hle27 (by rw [hsec27]; exact S26.out.ok.sec))
                        have T27 := hid (T26.out.far m27.far)
                        have V27 := hid (V26.out.far m27.far)
                        have hle : q ≤ s27.r1 := hle27
                        have f5 := S27.out.ok.dec.f5
                        have fr5 := S27.out.ok.dec.fr 5
                        clear m27 hsec27 hle27
                        cases b
                        · go_wp2_with fail
                          refine bodyPost_ret (v := .tuple #[.slice A n cap, .int .u8 (kd : Nat), .slice Av m capv, .nilIface]) ?_ rfl ⟨s, w, HR.out, H.out, .inl ⟨_, _, _, kd, _, rfl, S27.out.sec 3 (by omega), .inl ⟨rfl, .inr (.inl rfl), by show s.r1 < s27.r1; omega, ⟨hk1, hk5⟩, n, f, m, hv, hn1, T27.out.far (Far1.of_D (keep_D _ _ _ _) rfl rfl), V27.out.far (Far1.of_D (keep_D _ _ _ _) rfl rfl), fun hs => ?_⟩⟩⟩
                          · simp [results, Tryz.results76, go_sem]
                          · obtain ⟨l, h1, h2, h3⟩ := Hkey.out hs
                            refine ⟨l, h1, h2, ?_⟩
                            have := E8.out
                            show s.r1 + escLen l + 1 ≤ s27.r1; omega
                        · go_wp2_with fail
                          refine bodyPost_ret (v := .tuple #[.slice A n cap, .int .u8 (kd : Nat), .slice Av m capv, .nilIface]) ?_ rfl ⟨s, w, HR.out, H.out, .inl ⟨_, _, _, kd, _, rfl, S27.out.sec 5 (by omega), .inl ⟨rfl, .inr (.inr rfl), by show s.r1 < s27.r1; omega, ⟨hk1, hk5⟩, n, f, m, hv, hn1, T27.out.far (Far1.of_D (keep_D _ _ _ _) rfl rfl), V27.out.far (Far1.of_D (keep_D _ _ _ _) rfl rfl), fun hs => ?_⟩⟩⟩
                          · simp [results, Tryz.results76, go_sem]
                          · obtain ⟨l, h1, h2, h3⟩ := Hkey.out hs
                            refine ⟨l, h1, h2, ?_⟩
                            have := E8.out
                            show s.r1 + escLen l + 1 ≤ s27.r1; omega
                  · go_wp2_with fail
                    refine (ensure_no c s9 1 _ S20.out.ok.dec (by omega) (by omega)).mono ?_
                    rintro e w21 ⟨rfl, hk21⟩
                    have S21 := hid (S20.out.same hk21)
                    have T21 := hid (T20.out.same hk21)
                    have V21 := hid (V20.out.same hk21)
                    have f5 := S21.out.ok.dec.f5
                    have fr5 := S21.out.ok.dec.fr 5
                    clear hk21
                    go_wp2_with fail
                    refine bodyPost_ret (v := .tuple #[.slice A n cap, .int .u8 (kd : Nat), .slice Av m capv, .nilIface]) ?_ rfl ⟨s, w, HR.out, H.out, .inl ⟨_, _, _, kd, _, rfl, S21.out.sec 5 (by omega), .inl ⟨rfl, .inr (.inr rfl), by show s.r1 < s9.r1; omega, ⟨hk1, hk5⟩, n, f, m, hv, hn1, T21.out.far (Far1.of_D (keep_D _ _ _ _) rfl rfl), V21.out.far (Far1.of_D (keep_D _ _ _ _) rfl rfl), fun hs => ?_⟩⟩⟩
                    · simp [results, Tryz.results76, go_sem]
                    · obtain ⟨l, h1, h2, h3⟩ := Hkey.out hs
                      refine ⟨l, h1, h2, ?_⟩
                      have := E8.out
                      show s.r1 + escLen l + 1 ≤ s9.r1; omega
            · as_aux_lemma =>
                refine (ensure_no c s8 1 _ S8.out.ok.dec (by omega) (by omega)).mono ?_
                rintro e w9 ⟨rfl, hk9⟩
                have S9 := hid (S8.out.same hk9)
                clear hk9
                go_wp2_with fail
                have f2 := S9.out.ok.dec.f2
                have f3 := S9.out.ok.dec.f3
                have ew : IntKind.i64.wrap ((s8.r1 : Int) - (s8.r0 : Int)) = (s8.r1 : Int) - (s8.r0 : Int) := IntWalk.i64_in _ (by omega)
                go_region_held3 (fun w' => w'.cell? ⟨c.D, 2, none⟩ = some (.int .i64 s8.r0) ∧ w'.cell? ⟨c.D, 3, none⟩ = some (.int .i64 s8.r1))
                  (first | (refine ⟨?_, ?_⟩ <;> assumption) | go_keep)
                  (first | (go_at_call 111; refine (errorsNew_any _ _).mono ?_; rintro e w8 ⟨g8, rfl, hg8, hg8', hk8⟩; have SF1 := hid ((S9.out.same (same_drew _)).same hk8); have b2 := SF1.out.ok.dec.f2; have b3 := SF1.out.ok.dec.f3; clear hk8) | (go_at_call 131; refine (syntaxErrorf_at SF1.out.ok _ g8 (by show (0 : Int) ≤ _; omega) (by show _ ≤ (s8.r1 : Int) - (s8.r0 : Int); omega)).mono ?_; rintro e w9 ⟨err, rfl, s9, hbad⟩; have SF2 := hid (SF1.out.trans s9); have Hbad := hid hbad; have d2 := SF2.out.ok.dec.f2; have d3 := SF2.out.ok.dec.f3; clear s9 hbad))
                go_wp2_with fail
                refine bodyPost_ret (v := .tuple #[nilS, .int .u8 (0 : Nat), nilS, err]) ?_ rfl ⟨s, w, HR.out, H.out, .inl ⟨_, _, _, 0, _, rfl, SF2.out, .inr ⟨Hbad.out, rfl, rfl, by show faultSec _ = 4; rw [Hsec8.out]; rfl⟩⟩⟩
                simp [results, Tryz.results76, go_sem, nilS]
          · as_aux_lemma =>
              have heqb : ((c.b s5.r1 : Int) != 61) = true := by rw [bne_iff_ne]; omega
              have Heq := hid heq
              clear heq
              go_wp2_with fail
              refine (ensure_yes c s5 1 _ S5.out.ok.dec hlt5).mono ?_
              rintro e w6 ⟨rfl, hk6⟩
              have S6 := hid (S5.out.same hk6)
              clear hk6
              go_wp2_with fail
              refine (at_yes c s5 0 _ S6.out.ok.dec hlt5).mono ?_
              rintro e w7 ⟨rfl, hk7⟩
              have S7 := hid (S6.out.same hk7)
              clear hk7
              go_wp2_with fail
              have f2 := S7.out.ok.dec.f2
              have f3 := S7.out.ok.dec.f3
              have ew : IntKind.i64.wrap ((s5.r1 : Int) - (s5.r0 : Int)) = (s5.r1 : Int) - (s5.r0 : Int) := IntWalk.i64_in _ (by omega)
              go_region_held3 (fun w' => w'.cell? ⟨c.D, 2, none⟩ = some (.int .i64 s5.r0) ∧ w'.cell? ⟨c.D, 3, none⟩ = some (.int .i64 s5.r1))
                (first | (refine ⟨?_, ?_⟩ <;> assumption) | go_keep)
                (first | (go_at_call 111; refine (errorsNew_any _ _).mono ?_; rintro e w8 ⟨g8, rfl, hg8, hg8', hk8⟩; have SF1 := hid ((S7.out.same (same_drew _)).same hk8); have b2 := SF1.out.ok.dec.f2; have b3 := SF1.out.ok.dec.f3; clear hk8) | (go_at_call 131; refine (syntaxErrorf_at SF1.out.ok _ g8 (by show (0 : Int) ≤ _; omega) (by show _ ≤ (s5.r1 : Int) - (s5.r0 : Int); omega)).mono ?_; rintro e w9 ⟨err, rfl, s9, hbad⟩; have SF2 := hid (SF1.out.trans s9); have Hbad := hid hbad; have d2 := SF2.out.ok.dec.f2; have d3 := SF2.out.ok.dec.f3; clear s9 hbad))
              go_wp2_with fail
              refine bodyPost_ret (v := .tuple #[nilS, .int .u8 (0 : Nat), nilS, err]) ?_ rfl ⟨s, w, HR.out, H.out, .inl ⟨_, _, _, 0, _, rfl, SF2.out, .inr ⟨Hbad.out, rfl, rfl, by show faultSec _ = 4; rw [Hsec.out]; rfl⟩⟩⟩
              simp [results, Tryz.results76, go_sem, nilS]
        · go_wp2_with fail
          refine (ensure_no c s5 1 _ S5.out.ok.dec (by omega) (by omega)).mono ?_
          rintro e w6 ⟨rfl, hk6⟩
          have S6 := hid (S5.out.same hk6)
          clear hk6
          go_wp2_with fail
          have f2 := S6.out.ok.dec.f2
          have f3 := S6.out.ok.dec.f3
          have ew : IntKind.i64.wrap ((s5.r1 : Int) - (s5.r0 : Int)) = (s5.r1 : Int) - (s5.r0 : Int) := IntWalk.i64_in _ (by omega)
          go_region_held3 (fun w' => w'.cell? ⟨c.D, 2, none⟩ = some (.int .i64 s5.r0) ∧ w'.cell? ⟨c.D, 3, none⟩ = some (.int .i64 s5.r1))
            (first | (refine ⟨?_, ?_⟩ <;> assumption) | go_keep)
            (first | (go_at_call 111; refine (errorsNew_any _ _).mono ?_; rintro e w8 ⟨g8, rfl, hg8, hg8', hk8⟩; have SF1 := hid ((S6.out.same (same_drew _)).same hk8); have b2 := SF1.out.ok.dec.f2; have b3 := SF1.out.ok.dec.f3; clear hk8) | (go_at_call 131; refine (syntaxErrorf_at SF1.out.ok _ g8 (by show (0 : Int) ≤ _; omega) (by show _ ≤ (s5.r1 : Int) - (s5.r0 : Int); omega)).mono ?_; rintro e w9 ⟨err, rfl, s9, hbad⟩; have SF2 := hid (SF1.out.trans s9); have Hbad := hid hbad; have d2 := SF2.out.ok.dec.f2; have d3 := SF2.out.ok.dec.f3; clear s9 hbad))
          go_wp2_with fail
          refine bodyPost_ret (v := .tuple #[nilS, .int .u8 (0 : Nat), nilS, err]) ?_ rfl ⟨s, w, HR.out, H.out, .inl ⟨_, _, _, 0, _, rfl, SF2.out, .inr ⟨Hbad.out, rfl, rfl, by show faultSec _ = 4; rw [Hsec.out]; rfl⟩⟩⟩
          simp [results, Tryz.results76, go_sem, nilS]
    · obtain ⟨gb, kb, rfl, hrow⟩ := hbad.iface
      have Hbad := hid hbad
      have Hsec := hid hsec
      clear hbad hsec hrow
      go_wp2_with fail
      refine bodyPost_ret (v := .tuple #[nilS, .int .u8 (0 : Nat), nilS, .iface 204 (.pointer (some ⟨gb, 0, none⟩))]) ?_ rfl ⟨s, w, HR.out, H.out, .inl ⟨_, _, _, 0, _, rfl, S5.out, .inr ⟨Hbad.out, rfl, rfl, by rw [Hsec.out, H0.out]; rfl⟩⟩⟩
      simp [results, Tryz.results76, go_sem, nilS]
  · have HR := hid hR
    have H := hid hok
    clear hR hok Hadv
    go_wp2_with fail
    refine bodyPost_ret (v := .tuple #[nilS, .int .u8 (0 : Nat), nilS, .nilIface]) ?_ rfl ⟨s, w, HR.out, H.out, .inr (.inl ⟨rfl, Keep.refl _ _, hsec⟩)⟩
    simp [results, Tryz.results76, go_sem, nilS]
  · obtain ⟨gb, kb, rfl, hrow⟩ := hbad.iface
    have HR := hid hR
    have H := hid hok
    have Hbad := hid hbad
    have Hsec := hid hsec
    clear hR hok hbad hrow hsec Hadv
    go_wp2_with fail
    refine bodyPost_ret (v := .tuple #[nilS, .int .u8 (0 : Nat), nilS, .iface 204 (.pointer (some ⟨gb, 0, none⟩))]) ?_ rfl ⟨s, w, HR.out, H.out, .inr (.inr ⟨_, rfl, Hbad.out, Keep.refl _ _, Hsec.out⟩)⟩
    simp [results, Tryz.results76, go_sem, nilS]

theorem nextField_2 (w0 : World) (hval : ValidOK w0) (c : DC) (s : DS) (w : World) (h : Ok w0 c w s) (h0 : s.sec = 2) : Calls Tryz.prog 76 #[.pointer (some ⟨c.D, 0, none⟩)] w (Flds w0 c s w) := by
  refine (nextField_of w0 hval c w _ (gate_eq h h0)).mono ?_
  rintro e w' ⟨s1, w1, ⟨rfl, hk⟩, hok, (⟨k, v, err, kd, s', rfl, hst, hor⟩ | ⟨_, _, h1⟩ | ⟨err, _, _, _, h1⟩)⟩
  · exact ⟨k, v, err, kd, s', rfl, hst.before h hk, hor⟩
  · omega
  · omega
end Go.Proofs.YticdagnbnmnidaaGreatDoor
