/- The decoder over bytes: Measurement. Conditions: none. The decoder over bytes: NextTag among the tags. Conditions: none. -/
import Derived.Test.YticdagnbnmnidaaGreatDoorSaEscr
set_option linter.unusedSimpArgs false
set_option linter.unusedVariables false
namespace Go.Proofs.YticdagnbnmnidaaGreatDoor
open Go.RowKit

/-- What Measurement gives at the beginning of an entry. -/
def Meas (w0 : World) (c : DC) (s : DS) (w : World) (e : Ending) (w' : World) : Prop :=
  ∃ (v err : Value) (s' : DS), e = .returned (.tuple #[v, err]) ∧ Step w0 c s s' w w' ∧
    ((err = .nilIface ∧ s'.sec = 1 ∧ ∃ n f, 0 < n ∧ Tk c s' w' v n f) ∨ (Bad w' err ∧ v = nilS ∧ s'.sec = 4))

theorem Tk.form {c : DC} {s : DS} {w : World} {v : Value} {n : Nat} {f : Nat → Nat} (h : Tk c s w v n f) (hn : 0 < n) :
    ∃ T off cap, v = .slice (some ⟨T, off, none⟩) n cap ∧ n ≤ cap ∧ cap ≤ 9223372036854775807 ∧ ∀ j, j < n → w.cell? ⟨T, off + j, none⟩ = some (.int .u8 (f j : Nat)) := by
  obtain ⟨A, cap, rfl, h1, h2, h3⟩ := h.rd.form
  obtain ⟨T, off, rfl, h4⟩ := h3 hn
  exact ⟨T, off, cap, rfl, h1, h2, h4⟩
theorem Tk.form0 {c : DC} {s : DS} {w : World} {v : Value} {n : Nat} {f : Nat → Nat} (h : Tk c s w v n f) :
    ∃ A cap, v = .slice A n cap := by
  obtain ⟨A, cap, rfl, h1, h2, h3⟩ := h.rd.form
  exact ⟨A, cap, rfl⟩

/-- the parts of a fault's way: a new error, and syntaxErrorf -/
theorem Bad.iface {w : World} {err : Value} (h : Bad w err) : ∃ g k, err = .iface 204 (.pointer (some ⟨g, 0, none⟩)) ∧ ErrRow w g (.iface 240 (.pointer (some ⟨k, 0, none⟩))) := by
  obtain ⟨g, k, rfl, hr, -⟩ := h
  exact ⟨g, k, rfl, hr⟩

set_option maxRecDepth 20000 in
set_option maxHeartbeats 3200000 in
theorem measurement_0 (w0 : World) (hval : ValidOK w0) (c : DC) (s : DS) (w : World) (h : Ok w0 c w s) (h0 : s.sec = 0) : Calls Tryz.prog 73 #[.pointer (some ⟨c.D, 0, none⟩)] w (Meas w0 c s w) := by
  have H := hid h
  have H0 := hid h0
  have Hval := hid hval
  clear h h0 hval
  go_enter Tryz.func73, Tryz.ntmps73
  go_wp2_with fail
  refine (advance_eq c s 0 _ H.out.dec H0.out).mono ?_
  rintro e w1 ⟨rfl, hk1⟩
  have S1 := hid ((Step.refl H.out).same hk1)
  clear hk1
  go_wp2_with fail
  refine (reset_any c s _ S1.out.ok.dec).mono ?_
  rintro e w2 ⟨v2, hv2, rfl, hd2, hk2⟩
  have S2 := hid (S1.out.trans (S1.out.ok.reset hv2 hd2 hk2))
  have Hs2 := hid ((reset_sec s v2).trans H0.out)
  clear hd2 hk2 hv2
  generalize s.reset v2 = s2 at *
  go_wp2_with fail
  refine (name_set _).mono ?_
  rintro e w3 ⟨g3, rfl, hg3, hs3, hk3⟩
  have S3 := hid (S2.out.same hk3)
  have T3 := hid (fresh_touch S2.out.ok.dec hg3)
  clear hk3
  go_wp2_with fail
  refine (nameEsc_any _).mono ?_
  rintro e w4 ⟨g4, rfl, hg4, hgl4, ht4, hc4, hk4⟩
  have S4 := hid (S3.out.same hk4)
  have T4 := hid (fresh_touch S3.out.ok.dec hg4)
  have hs4 := hs3.same hk4
  clear hk4 hs3
  go_wp2_with fail
  refine (takeEsc_at S4.out.ok Hval.out g3 g4 pName _ (by decide) hs4 ht4 T3.out T4.out).mono ?_
  rintro e w5 ⟨v, n, f, s5, err, rfl, hst, htk, hn, -, -, hor⟩
  have K5 := hid hst
  have S5 := hid (S4.out.trans hst.step)
  have Htk := hid htk
  have b1 := S4.out.ok.dec.r0_le
  have b2 := S5.out.ok.dec.r1_le
  have b3 := S5.out.ok.dec.L_le
  have b4 := S5.out.ok.dec.big
  have b5 := hst.le
  have Hr0 := hid hst.r0
  clear hst htk hs4 ht4 hc4
  rcases hor with ⟨rfl, hsec⟩ | ⟨hbad, hsec⟩
  · have Hsec := hid (hsec.trans Hs2.out)
    clear hsec
    obtain ⟨A, cap, hv⟩ := Htk.out.form0
    by_cases hn0 : n = 0
    · subst hn0
      subst hv
      by_cases hlt : s5.r1 < s5.L
      · go_wp2_with fail
        refine (ensure_yes c s5 1 _ S5.out.ok.dec hlt).mono ?_
        rintro e w6 ⟨rfl, hk6⟩
        have S6 := hid (S5.out.same hk6)
        clear hk6
        go_wp2_with fail
        refine (errorsNew_any _ _).mono ?_
        rintro e w7 ⟨g7, rfl, hg7, hg7', hk7⟩
        have S7 := hid (S6.out.same hk7)
        clear hk7
        go_wp2_with fail
        refine (syntaxErrorf_at S7.out.ok _ g7 (by omega) (by rw [Hr0.out]; omega)).mono ?_
        rintro e w8 ⟨err, rfl, s8, hbad⟩
        have S8 := hid (S7.out.trans s8.step)
        have Hbad := hid hbad
        clear s8 hbad
        go_wp2_with fail
        go_ret2
        exact ⟨_, _, _, rfl, S8.out, .inr ⟨Hbad.out, rfl, by show faultSec s5.sec = 4; rw [Hsec.out]; rfl⟩⟩
      · go_wp2_with fail
        refine (ensure_no c s5 1 _ S5.out.ok.dec (by omega) (by omega)).mono ?_
        rintro e w6 ⟨rfl, hk6⟩
        have S6 := hid (S5.out.same hk6)
        clear hk6
        go_wp2_with fail
        refine (errorsNew_any _ _).mono ?_
        rintro e w7 ⟨g7, rfl, hg7, hg7', hk7⟩
        have S7 := hid (S6.out.same hk7)
        clear hk7
        go_wp2_with fail
        refine (syntaxErrorf_at S7.out.ok _ g7 (by omega) (by rw [Hr0.out]; omega)).mono ?_
        rintro e w8 ⟨err, rfl, s8, hbad⟩
        have S8 := hid (S7.out.trans s8.step)
        have Hbad := hid hbad
        clear s8 hbad
        go_wp2_with fail
        go_ret2
        exact ⟨_, _, _, rfl, S8.out, .inr ⟨Hbad.out, rfl, by show faultSec s5.sec = 4; rw [Hsec.out]; rfl⟩⟩
    · have hn1 : 0 < n := by omega
      obtain ⟨T, off, cap', hv', -, -, hcell⟩ := Htk.out.form hn1
      clear hv
      subst hv'
      have hv0 := hcell 0 hn1
      rw [Nat.add_zero] at hv0
      have hf0 := Htk.out.rd.lt 0 hn1
      clear hcell
      have hnI : ((n : Int) == 0) = false := by simp; omega
      by_cases hf : f 0 = 35
      · have hfb : ((f 0 : Int) == 35) = true := by simp [hf]
        have Hf := hid hf
        clear hf
        have S6 := S5
        go_wp2_with fail
        refine (errorsNew_any _ _).mono ?_
        rintro e w7 ⟨g7, rfl, hg7, hg7', hk7⟩
        have S7 := hid (S6.out.same hk7)
        clear hk7
        go_wp2_with fail
        refine (syntaxErrorf_at S7.out.ok _ g7 (by omega) (by rw [Hr0.out]; omega)).mono ?_
        rintro e w8 ⟨err, rfl, s8, hbad⟩
        have S8 := hid (S7.out.trans s8.step)
        have Hbad := hid hbad
        clear s8 hbad
        go_wp2_with fail
        go_ret2
        exact ⟨_, _, _, rfl, S8.out, .inr ⟨Hbad.out, rfl, by show faultSec s5.sec = 4; rw [Hsec.out]; rfl⟩⟩
      · have hfb : ((f 0 : Int) == 35) = false := by simp; omega
        have Hf := hid hf
        clear hf
        go_wp2_with fail
        refine (advanceTagComma_any w0 c s5 _ S5.out.ok).mono ?_
        rintro e w6 ⟨err, s6, rfl, hst6, hor⟩
        have S6 := hid (S5.out.trans hst6.step)
        have Tk6 := hid (Htk.out.far hst6.far)
        clear hst6 hv0
        rcases hor with ⟨rfl, hsec⟩ | ⟨hbad, hsec⟩
        · have Hsec6 := hid hsec
          have f5 := S6.out.ok.dec.f5
          have fr5 := S6.out.ok.dec.fr 5
          clear hsec
          go_wp2_with fail
          go_ret2
          exact ⟨_, _, { s6 with sec := 1 }, rfl, S6.out.sec 1 (by omega), .inl ⟨rfl, rfl, n, f, hn1, Tk6.out.far (Far1.of_D (keep_D _ _ _ _) rfl rfl)⟩⟩
        · obtain ⟨gb, kb, rfl, hrow⟩ := hbad.iface
          have Hbad := hid hbad
          have Hsec6 := hid hsec
          clear hbad hsec hrow
          go_wp2_with fail
          go_ret2
          exact ⟨_, _, s6, rfl, S6.out, .inr ⟨Hbad.out, rfl, by rw [Hsec6.out, Hsec.out]; rfl⟩⟩
  · obtain ⟨gb, kb, rfl, hrow⟩ := hbad.iface
    have Hbad := hid hbad
    have Hsec := hid hsec
    clear hbad hsec hrow
    go_wp2_with fail
    go_ret2
    exact ⟨_, _, s5, rfl, S5.out, .inr ⟨Hbad.out, rfl, by rw [Hsec.out, Hs2.out]; rfl⟩⟩
end Go.Proofs.YticdagnbnmnidaaGreatDoor
namespace Go.Proofs.YticdagnbnmnidaaGreatDoor
open Go.RowKit

/-- What NextTag gives among the tags. -/
def Tags (w0 : World) (c : DC) (s : DS) (w : World) (e : Ending) (w' : World) : Prop :=
  ∃ (k v err : Value) (s' : DS), e = .returned (.tuple #[k, v, err]) ∧ Step1 w0 c s s' w w' ∧
    ((err = .nilIface ∧ k = nilS ∧ v = nilS ∧ s'.sec = 2) ∨
     (err = .nilIface ∧ (s'.sec = 1 ∨ s'.sec = 2) ∧ s.r1 < s'.r1 ∧ ∃ n f m h, 0 < n ∧ Tk c s' w' k n f ∧ Tk c s' w' v m h) ∨
     (Bad w' err ∧ k = nilS ∧ v = nilS ∧ s'.sec = 4))

/-- What advanceToSection hands a method. -/
def Gate (w0 : World) (c : DC) (k : Nat) (R : DS → World → Prop) (e : Ending) (w : World) : Prop :=
  ∃ (b : Bool) (err : Value) (s : DS), e = .returned (.tuple #[.bool b, err]) ∧ Ok w0 c w s ∧ R s w ∧
    ((err = .nilIface ∧ b = true ∧ s.sec = k) ∨ (err = .nilIface ∧ b = false ∧ k < s.sec) ∨ (Bad w err ∧ b = false ∧ (s.sec = 4 ∨ s.sec = 5)))

theorem gate_eq {w0 w : World} {c : DC} {s : DS} {k : Nat} (h : Ok w0 c w s) (hk : s.sec = k) :
    Calls Tryz.prog 70 #[.pointer (some ⟨c.D, 0, none⟩), .int .u8 k] w (Gate w0 c k (fun s' w' => s' = s ∧ Same w w')) := by
  refine (advance_eq c s k w h.dec hk).mono ?_
  rintro e w1 ⟨rfl, hk1⟩
  exact ⟨_, _, s, rfl, h.same hk1, ⟨rfl, hk1⟩, .inl ⟨rfl, rfl, hk⟩⟩

/-- What NextTag gives, whatever part it begins at. -/
def BehindT (w0 : World) (c : DC) (R : DS → World → Prop) (e : Ending) (w' : World) : Prop :=
  ∃ (s : DS) (w : World), R s w ∧ Ok w0 c w s ∧ (Tags w0 c s w e w' ∨ (e = .returned (.tuple #[nilS, nilS, .nilIface]) ∧ Same w w' ∧ 1 < s.sec) ∨
    (∃ err, e = .returned (.tuple #[nilS, nilS, err]) ∧ Bad w err ∧ Same w w' ∧ (s.sec = 4 ∨ s.sec = 5)))

set_option maxRecDepth 20000 in
set_option maxHeartbeats 6400000 in
theorem nextTag_of (w0 : World) (hval : ValidOK w0) (c : DC) (wI : World) (R : DS → World → Prop)
    (hadv : Calls Tryz.prog 70 #[.pointer (some ⟨c.D, 0, none⟩), .int .u8 (1 : Nat)] wI (Gate w0 c 1 R)) : Calls Tryz.prog 75 #[.pointer (some ⟨c.D, 0, none⟩)] wI (BehindT w0 c R) := by
  have Hval := hid hval
  have Hadv := hid hadv
  clear hval hadv
  go_enter Tryz.func75, Tryz.ntmps75
  go_wp2_with fail
  refine Hadv.out.mono ?_
  rintro e w ⟨b, err, s, rfl, hok, hR, (⟨rfl, rfl, hsec⟩ | ⟨rfl, rfl, hsec⟩ | ⟨hbad, rfl, hsec⟩)⟩
  · have H := hid hok
    have H0 := hid hsec
    have HR := hid hR
    have a1 := hok.dec.r0_le
    have a2 := hok.dec.r1_le
    have a3 := hok.dec.L_le
    have a4 := hok.dec.big
    clear hok hsec hR Hadv
    by_cases hlt : s.r1 < s.L
    · cases hp : pBlank (c.b s.r1)
      · have S1 := hid (Step1.refl H.out)
        go_wp2_with fail
        refine (ensure_yes c s 1 _ S1.out.ok.dec hlt).mono ?_
        rintro e w1a ⟨rfl, hk1⟩
        have S1a := hid (S1.out.same hk1)
        clear hk1
        go_wp2_with fail
        refine (blank_set _).mono ?_
        rintro e w1b ⟨g1, rfl, hg1, hs1, hk1⟩
        have S1b := hid (S1a.out.same hk1)
        clear hk1
        go_wp2_with fail
        refine (at_yes c s 0 _ S1b.out.ok.dec hlt).mono ?_
        rintro e w1c ⟨rfl, hk1⟩
        have S2 := hid (S1b.out.same hk1)
        have hs1c := hs1.same hk1
        clear hk1 hs1
        go_wp2_with fail
        refine (get_any g1 _ pBlank _ (c.b_lt _) hs1c).mono ?_
        rintro e w1d ⟨rfl, rfl⟩
        clear hs1c
        go_wp2_with fail
        refine (tagKey_set _).mono ?_
        rintro e w3 ⟨g3, rfl, hg3, hs3, hk3⟩
        have S3 := hid (S2.out.same hk3)
        have T3 := hid (fresh_touch S2.out.ok.dec hg3)
        clear hk3
        go_wp2_with fail
        refine (tagKeyEsc_any _).mono ?_
        rintro e w4 ⟨g4, rfl, hg4, hgl4, ht4, hc4, hk4⟩
        have S4 := hid (S3.out.same hk4)
        have T4 := hid (fresh_touch S3.out.ok.dec hg4)
        have hs4 := hs3.same hk4
        clear hk4 hs3
        go_wp2_with fail
        refine (takeEsc_at S4.out.ok Hval.out g3 g4 pKey _ (by decide) hs4 ht4 T3.out T4.out).mono ?_
        rintro e w5 ⟨v, n, f, s5, err, rfl, hst, htk, hn, -, -, hor⟩
        have S5 := hid (S4.out.trans hst)
        have Htk := hid htk
        have b2 := S5.out.ok.dec.r1_le
        have b5 := hst.le
        have Hr0 := hid hst.r0
        have HL := hid hst.L
        have b6 : s5.L = s.L := hst.L
        have b7 : s5.r0 = s.r0 := hst.r0
        clear hst htk hs4 ht4 hc4
        obtain ⟨A, cap, rfl⟩ := Htk.out.form0
        rcases hor with ⟨rfl, hsec⟩ | ⟨hbad, hsec⟩
        · have Hsec := hid (hsec.trans H0.out)
          clear hsec b6 b7
          by_cases hn0 : n = 0
          · subst hn0
            by_cases hlt5 : s5.r1 < s5.L
            · go_wp2_with fail
              refine (ensure_yes c s5 1 _ S5.out.ok.dec hlt5).mono ?_
              rintro e w6 ⟨rfl, hk6⟩
              have S6 := hid (S5.out.same hk6)
              clear hk6
              go_wp2_with fail
              refine (errorsNew_any _ _).mono ?_
              rintro e wf1 ⟨gf, rfl, hgf, hgf', hkf⟩
              have SF1 := hid (S6.out.same hkf)
              clear hkf
              go_wp2_with fail
              refine (syntaxErrorf_at SF1.out.ok _ gf (by omega) (by rw [Hr0.out]; omega)).mono ?_
              rintro e wf2 ⟨err, rfl, sf, hbad⟩
              have SF2 := hid (SF1.out.trans sf)
              have Hbad := hid hbad
              clear sf hbad
              go_wp2_with fail
              go_ret3
              exact ⟨s, w, HR.out, H.out, .inl ⟨_, _, _, _, rfl, SF2.out, .inr (.inr ⟨Hbad.out, rfl, rfl, by show faultSec _ = 4; rw [Hsec.out]; rfl⟩)⟩⟩
            · go_wp2_with fail
              refine (ensure_no c s5 1 _ S5.out.ok.dec (by omega) (by omega)).mono ?_
              rintro e w6 ⟨rfl, hk6⟩
              have S6 := hid (S5.out.same hk6)
              clear hk6
              go_wp2_with fail
              refine (errorsNew_any _ _).mono ?_
              rintro e wf1 ⟨gf, rfl, hgf, hgf', hkf⟩
              have SF1 := hid (S6.out.same hkf)
              clear hkf
              go_wp2_with fail
              refine (syntaxErrorf_at SF1.out.ok _ gf (by omega) (by rw [Hr0.out]; omega)).mono ?_
              rintro e wf2 ⟨err, rfl, sf, hbad⟩
              have SF2 := hid (SF1.out.trans sf)
              have Hbad := hid hbad
              clear sf hbad
              go_wp2_with fail
              go_ret3
              exact ⟨s, w, HR.out, H.out, .inl ⟨_, _, _, _, rfl, SF2.out, .inr (.inr ⟨Hbad.out, rfl, rfl, by show faultSec _ = 4; rw [Hsec.out]; rfl⟩)⟩⟩
          · have hn1 : 0 < n := by omega
            have hnI : ((n : Int) == 0) = false := by simp; omega
            have hnJ : (0 : Int) < (n : Int) := by omega
            by_cases hlt5 : s5.r1 < s5.L
            · by_cases heq : c.b s5.r1 = 61
              · have heqb : ((c.b s5.r1 : Int) != 61) = false := by simp [heq]
                have Heq := hid heq
                clear heq
                go_wp2_with fail
                refine (ensure_yes c s5 1 _ S5.out.ok.dec hlt5).mono ?_
                rintro e w6 ⟨rfl, hk6⟩
                have S6 := hid (S5.out.same hk6)
                have T6 := hid (Htk.out.same hk6)
                clear hk6
                go_wp2_with fail
                refine (at_yes c s5 0 _ S6.out.ok.dec hlt5).mono ?_
                rintro e w7 ⟨rfl, hk7⟩
                have S7 := hid (S6.out.same hk7)
                have T7 := hid (T6.out.same hk7)
                clear hk7
                go_wp2_with fail
                refine (advance_any c s5 1 _ S7.out.ok.dec hlt5).mono ?_
                rintro e w8 ⟨rfl, hd8, hk8⟩
                have m8 : Mv c s5 { s5 with r1 := s5.r1 + 1 } w7 w8 := ⟨hd8, hk8, rfl, rfl, rfl, rfl, rfl, rfl⟩
                have S8 := hid (S7.out.mv m8 (Nat.le_succ _) S7.out.ok.sec)
                have T8 := hid (T7.out.far m8.far)
                clear hd8 hk8 m8
                go_wp2_with fail
                refine (tagVal_set _).mono ?_
                rintro e w9 ⟨g9, rfl, hg9, hs9, hk9⟩
                have S9 := hid (S8.out.same hk9)
                have U9 := hid (T8.out.same hk9)
                have V9 := hid (fresh_touch S8.out.ok.dec hg9)
                clear hk9
                go_wp2_with fail
                refine (tagValEsc_any _).mono ?_
                rintro e w10 ⟨g10, rfl, hg10, hgl10, ht10, hc10, hk10⟩
                have S10 := hid (S9.out.same hk10)
                have U10 := hid (U9.out.same hk10)
                have V10 := hid (fresh_touch S9.out.ok.dec hg10)
                have hs10 := hs9.same hk10
                clear hk10 hs9
                go_wp2_with fail
                refine (takeEsc_at S10.out.ok Hval.out g9 g10 pKey _ (by decide) hs10 ht10 V9.out V10.out).mono ?_
                rintro e w11 ⟨v2, n2, f2, s11, err2, rfl, hst2, htk2, hn2, -, -, hor2⟩
                have S11 := hid (S10.out.trans hst2)
                have U11 := hid (U10.out.far hst2.far)
                have W11 := hid htk2
                have d2 := S11.out.ok.dec.r1_le
                have d5 : s5.r1 + 1 ≤ s11.r1 := hst2.le
                have d6 := hid S11.out.L
                have b8 := S5.out.ok.dec.r0_le
                have d7 := hid (hst2.r0 : s11.r0 = s5.r0)
                clear hst2 htk2 hs10 ht10 hc10
                obtain ⟨A2, cap2, rfl⟩ := W11.out.form0
                rcases hor2 with ⟨rfl, hsec2⟩ | ⟨hbad, hsec2⟩
                · have Hsec2 := hid (hsec2.trans Hsec.out)
                  clear hsec2
                  by_cases hm0 : n2 = 0
                  · subst hm0
                    go_wp2_with fail
                    refine (errorsNew_any _ _).mono ?_
                    rintro e wf1 ⟨gf, rfl, hgf, hgf', hkf⟩
                    have SF1 := hid (S11.out.same hkf)
                    clear hkf
                    go_wp2_with fail
                    refine (syntaxErrorf_at SF1.out.ok _ gf (by omega) (by rw [d7.out]; omega)).mono ?_
                    rintro e wf2 ⟨err, rfl, sf, hbad⟩
                    have SF2 := hid (SF1.out.trans sf)
                    have Hbad := hid hbad
                    clear sf hbad
                    go_wp2_with fail
                    go_ret3
                    exact ⟨s, w, HR.out, H.out, .inl ⟨_, _, _, _, rfl, SF2.out, .inr (.inr ⟨Hbad.out, rfl, rfl, by show faultSec _ = 4; rw [Hsec2.out]; rfl⟩)⟩⟩
                  · have hmI : ((n2 : Int) == 0) = false := by simp; omega
                    by_cases hlt11 : s11.r1 < s11.L
                    · go_wp2_with fail
                      refine (ensure_yes c s11 1 _ S11.out.ok.dec hlt11).mono ?_
                      rintro e w12 ⟨rfl, hk12⟩
                      have S12 := hid (S11.out.same hk12)
                      have U12 := hid (U11.out.same hk12)
                      have W12 := hid (W11.out.same hk12)
                      clear hk12
                      go_wp2_with fail
                      refine (advanceTagComma_any w0 c s11 _ S12.out.ok).mono ?_
                      rintro e w13 ⟨err3, s13, rfl, hst13, hor3⟩
                      have S13 := hid (S12.out.trans hst13)
                      have U13 := hid (U12.out.far hst13.far)
                      have W13 := hid (W12.out.far hst13.far)
                      have d13 := hst13.le
                      clear hst13
                      rcases hor3 with ⟨rfl, hsec3⟩ | ⟨hbad, hsec3⟩
                      · have Hsec3 := hid (hsec3.trans Hsec2.out)
                        clear hsec3
                        go_wp2_with fail
                        go_ret3
                        exact ⟨s, w, HR.out, H.out, .inl ⟨_, _, _, s13, rfl, S13.out, .inr (.inl ⟨rfl, .inl Hsec3.out, by omega, n, f, n2, f2, hn1, U13.out, W13.out⟩)⟩⟩
                      · obtain ⟨gb, kb, rfl, hrow⟩ := hbad.iface
                        have Hbad := hid hbad
                        have Hsec3 := hid hsec3
                        clear hbad hsec3 hrow
                        go_wp2_with fail
                        go_ret3
                        exact ⟨s, w, HR.out, H.out, .inl ⟨_, _, _, _, rfl, S13.out, .inr (.inr ⟨Hbad.out, rfl, rfl, by rw [Hsec3.out, Hsec2.out]; rfl⟩)⟩⟩
                    · go_wp2_with fail
                      refine (ensure_no c s11 1 _ S11.out.ok.dec (by omega) (by omega)).mono ?_
                      rintro e w12 ⟨rfl, hk12⟩
                      have S12 := hid (S11.out.same hk12)
                      have U12 := hid (U11.out.same hk12)
                      have W12 := hid (W11.out.same hk12)
                      have f5 := S12.out.ok.dec.f5
                      have fr5 := S12.out.ok.dec.fr 5
                      clear hk12
                      go_wp2_with fail
                      go_ret3
                      exact ⟨s, w, HR.out, H.out, .inl ⟨_, _, _, { s11 with sec := 2 }, rfl, S12.out.sec 2 (by omega), .inr (.inl ⟨rfl, .inr rfl, by show s.r1 < s11.r1; omega, n, f, n2, f2, hn1, U12.out.far (Far1.of_D (keep_D _ _ _ _) rfl rfl), W12.out.far (Far1.of_D (keep_D _ _ _ _) rfl rfl)⟩)⟩⟩
                · obtain ⟨gb, kb, rfl, hrow⟩ := hbad.iface
                  have Hbad := hid hbad
                  have Hsec2 := hid hsec2
                  clear hbad hsec2 hrow
                  go_wp2_with fail
                  go_ret3
                  exact ⟨s, w, HR.out, H.out, .inl ⟨_, _, _, _, rfl, S11.out, .inr (.inr ⟨Hbad.out, rfl, rfl, by rw [Hsec2.out]; show faultSec s5.sec = 4; rw [Hsec.out]; rfl⟩)⟩⟩
              · have heqb : ((c.b s5.r1 : Int) != 61) = true := by rw [bne_iff_ne]; omega
                have Heq := hid heq
                clear heq
                go_wp2_with fail
                refine (ensure_yes c s5 1 _ S5.out.ok.dec hlt5).mono ?_
                rintro e w6 ⟨rfl, hk6⟩
                have S6 := hid (S5.out.same hk6)
                clear hk6
                go_wp2_with fail
                refine (at_yes c s5 0 _ S6.out.ok.dec hlt5).mono ?_
                rintro e w7 ⟨rfl, hk7⟩
                have S7 := hid (S6.out.same hk7)
                clear hk7
                go_wp2_with fail
                refine (ensure_yes c s5 1 _ S7.out.ok.dec hlt5).mono ?_
                rintro e w8 ⟨rfl, hk8⟩
                have S8 := hid (S7.out.same hk8)
                clear hk8
                go_wp2_with fail
                refine (errorsNew_any _ _).mono ?_
                rintro e wf1 ⟨gf, rfl, hgf, hgf', hkf⟩
                have SF1 := hid (S8.out.same hkf)
                clear hkf
                go_wp2_with fail
                refine (syntaxErrorf_at SF1.out.ok _ gf (by omega) (by rw [Hr0.out]; omega)).mono ?_
                rintro e wf2 ⟨err, rfl, sf, hbad⟩
                have SF2 := hid (SF1.out.trans sf)
                have Hbad := hid hbad
                clear sf hbad
                go_wp2_with fail
                go_ret3
                exact ⟨s, w, HR.out, H.out, .inl ⟨_, _, _, _, rfl, SF2.out, .inr (.inr ⟨Hbad.out, rfl, rfl, by show faultSec _ = 4; rw [Hsec.out]; rfl⟩)⟩⟩
            · go_wp2_with fail
              refine (ensure_no c s5 1 _ S5.out.ok.dec (by omega) (by omega)).mono ?_
              rintro e w6 ⟨rfl, hk6⟩
              have S6 := hid (S5.out.same hk6)
              clear hk6
              go_wp2_with fail
              refine (ensure_no c s5 1 _ S6.out.ok.dec (by omega) (by omega)).mono ?_
              rintro e w7 ⟨rfl, hk7⟩
              have S7 := hid (S6.out.same hk7)
              clear hk7
              go_wp2_with fail
              refine (errorsNew_any _ _).mono ?_
              rintro e wf1 ⟨gf, rfl, hgf, hgf', hkf⟩
              have SF1 := hid (S7.out.same hkf)
              clear hkf
              go_wp2_with fail
              refine (syntaxErrorf_at SF1.out.ok _ gf (by omega) (by rw [Hr0.out]; omega)).mono ?_
              rintro e wf2 ⟨err, rfl, sf, hbad⟩
              have SF2 := hid (SF1.out.trans sf)
              have Hbad := hid hbad
              clear sf hbad
              go_wp2_with fail
              go_ret3
              exact ⟨s, w, HR.out, H.out, .inl ⟨_, _, _, _, rfl, SF2.out, .inr (.inr ⟨Hbad.out, rfl, rfl, by show faultSec _ = 4; rw [Hsec.out]; rfl⟩)⟩⟩
        · obtain ⟨gb, kb, rfl, hrow⟩ := hbad.iface
          have Hbad := hid hbad
          have Hsec := hid hsec
          clear hbad hsec hrow
          clear b6 b7
          go_wp2_with fail
          go_ret3
          exact ⟨s, w, HR.out, H.out, .inl ⟨_, _, _, _, rfl, S5.out, .inr (.inr ⟨Hbad.out, rfl, rfl, by rw [Hsec.out, H0.out]; rfl⟩)⟩⟩
      · have S1 := hid (Step1.refl H.out)
        go_wp2_with fail
        refine (ensure_yes c s 1 _ S1.out.ok.dec hlt).mono ?_
        rintro e w1a ⟨rfl, hk1⟩
        have S1a := hid (S1.out.same hk1)
        clear hk1
        go_wp2_with fail
        refine (blank_set _).mono ?_
        rintro e w1b ⟨g1, rfl, hg1, hs1, hk1⟩
        have S1b := hid (S1a.out.same hk1)
        clear hk1
        go_wp2_with fail
        refine (at_yes c s 0 _ S1b.out.ok.dec hlt).mono ?_
        rintro e w1c ⟨rfl, hk1⟩
        have S2 := hid (S1b.out.same hk1)
        have hs1c := hs1.same hk1
        clear hk1 hs1
        go_wp2_with fail
        refine (get_any g1 _ pBlank _ (c.b_lt _) hs1c).mono ?_
        rintro e w1d ⟨rfl, rfl⟩
        clear hs1c
        go_wp2_with fail
        refine (blank_set _).mono ?_
        rintro e w3 ⟨g3, rfl, hg3, hs3, hk3⟩
        have S3 := hid (S2.out.same hk3)
        have hgD := hid (ne_D S2.out.ok hg3)
        clear hk3
        go_wp2_with fail
        refine (take_any c s g3 _ _ S3.out.ok.dec hs3 hgD.out).mono ?_
        rintro e w4 ⟨q, hrun, rfl, hd4, hk4⟩
        have S4 := hid (S3.out.mv ⟨hd4, hk4, rfl, rfl, rfl, rfl, rfl, rfl⟩ hrun.le S3.out.ok.sec)
        have f5 := S4.out.ok.dec.f5
        have fr5 := S4.out.ok.dec.fr 5
        clear hd4 hk4 hrun
        go_wp2_with fail
        go_ret3
        exact ⟨s, w, HR.out, H.out, .inl ⟨_, _, _, { s with r1 := q, sec := 2 }, rfl, S4.out.sec 2 (by omega), .inl ⟨rfl, rfl, rfl, rfl⟩⟩⟩
    · have S1 := hid (Step1.refl H.out)
      go_wp2_with fail
      refine (ensure_no c s 1 _ S1.out.ok.dec (by omega) (by omega)).mono ?_
      rintro e w1a ⟨rfl, hk1⟩
      have S2 := hid (S1.out.same hk1)
      clear hk1
      go_wp2_with fail
      refine (tagKey_set _).mono ?_
      rintro e w3 ⟨g3, rfl, hg3, hs3, hk3⟩
      have S3 := hid (S2.out.same hk3)
      have T3 := hid (fresh_touch S2.out.ok.dec hg3)
      clear hk3
      go_wp2_with fail
      refine (tagKeyEsc_any _).mono ?_
      rintro e w4 ⟨g4, rfl, hg4, hgl4, ht4, hc4, hk4⟩
      have S4 := hid (S3.out.same hk4)
      have T4 := hid (fresh_touch S3.out.ok.dec hg4)
      have hs4 := hs3.same hk4
      clear hk4 hs3
      go_wp2_with fail
      refine (takeEsc_at S4.out.ok Hval.out g3 g4 pKey _ (by decide) hs4 ht4 T3.out T4.out).mono ?_
      rintro e w5 ⟨v, n, f, s5, err, rfl, hst, htk, hn, -, -, hor⟩
      have S5 := hid (S4.out.trans hst)
      have Htk := hid htk
      have b2 := S5.out.ok.dec.r1_le
      have b5 := hst.le
      have Hr0 := hid hst.r0
      have HL := hid hst.L
      have b6 : s5.L = s.L := hst.L
      have b7 : s5.r0 = s.r0 := hst.r0
      clear hst htk hs4 ht4 hc4
      obtain ⟨A, cap, rfl⟩ := Htk.out.form0
      rcases hor with ⟨rfl, hsec⟩ | ⟨hbad, hsec⟩
      · have Hsec := hid (hsec.trans H0.out)
        obtain rfl : n = 0 := by omega
        have hlt5 : ¬ s5.r1 < s5.L := by omega
        clear hsec b6 b7
        go_wp2_with fail
        refine (ensure_no c s5 1 _ S5.out.ok.dec (by omega) (by omega)).mono ?_
        rintro e w6 ⟨rfl, hk6⟩
        have S6 := hid (S5.out.same hk6)
        clear hk6
        go_wp2_with fail
        refine (errorsNew_any _ _).mono ?_
        rintro e wf1 ⟨gf, rfl, hgf, hgf', hkf⟩
        have SF1 := hid (S6.out.same hkf)
        clear hkf
        go_wp2_with fail
        refine (syntaxErrorf_at SF1.out.ok _ gf (by omega) (by rw [Hr0.out]; omega)).mono ?_
        rintro e wf2 ⟨err, rfl, sf, hbad⟩
        have SF2 := hid (SF1.out.trans sf)
        have Hbad := hid hbad
        clear sf hbad
        go_wp2_with fail
        go_ret3
        exact ⟨s, w, HR.out, H.out, .inl ⟨_, _, _, _, rfl, SF2.out, .inr (.inr ⟨Hbad.out, rfl, rfl, by show faultSec _ = 4; rw [Hsec.out]; rfl⟩)⟩⟩
      · obtain ⟨gb, kb, rfl, hrow⟩ := hbad.iface
        have Hbad := hid hbad
        have Hsec := hid hsec
        clear hbad hsec hrow
        clear b6 b7
        go_wp2_with fail
        go_ret3
        exact ⟨s, w, HR.out, H.out, .inl ⟨_, _, _, _, rfl, S5.out, .inr (.inr ⟨Hbad.out, rfl, rfl, by rw [Hsec.out, H0.out]; rfl⟩)⟩⟩
  · have HR := hid hR
    have H := hid hok
    clear hR hok Hadv
    go_wp2_with fail
    go_ret3
    exact ⟨s, w, HR.out, H.out, .inr (.inl ⟨rfl, Keep.refl _ _, hsec⟩)⟩
  · obtain ⟨gb, kb, rfl, hrow⟩ := hbad.iface
    have HR := hid hR
    have H := hid hok
    have Hbad := hid hbad
    have Hsec := hid hsec
    clear hR hok hbad hrow hsec Hadv
    go_wp2_with fail
    go_ret3
    exact ⟨s, w, HR.out, H.out, .inr (.inr ⟨_, rfl, Hbad.out, Keep.refl _ _, Hsec.out⟩)⟩

theorem Step1.before {w0 w w1 w2 : World} {c : DC} {s s' : DS} (h : Ok w0 c w s) (k : Same w w1) (st : Step1 w0 c s s' w1 w2) : Step1 w0 c s s' w w2 := ((Step1.refl h).same k).trans st

theorem nextTag_1 (w0 : World) (hval : ValidOK w0) (c : DC) (s : DS) (w : World) (h : Ok w0 c w s) (h0 : s.sec = 1) : Calls Tryz.prog 75 #[.pointer (some ⟨c.D, 0, none⟩)] w (Tags w0 c s w) := by
  refine (nextTag_of w0 hval c w _ (gate_eq h h0)).mono ?_
  rintro e w' ⟨s1, w1, ⟨rfl, hk⟩, hok, (⟨k, v, err, s', rfl, hst, hor⟩ | ⟨_, _, h1⟩ | ⟨err, _, _, _, h1⟩)⟩
  · exact ⟨k, v, err, s', rfl, hst.before h hk, hor⟩
  · omega
  · omega
end Go.Proofs.YticdagnbnmnidaaGreatDoor
