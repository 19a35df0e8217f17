/- The decoder over bytes: skipEmptyLines. Conditions: none. The decoder over bytes: steps within an entry; how a fault is handed back; advanceTagComma. Conditions: none. -/
import Derived.Test.YticdagnbnmnidaaGreatDoorSaMeth
set_option linter.unusedSimpArgs false
set_option linter.unusedVariables false
namespace Go.Proofs.YticdagnbnmnidaaGreatDoor
open Go.RowKit

theorem Step.back {w0 w w1 w2 : World} {c : DC} {s s1 s2 : DS} (h : Step w0 c s s1 w w1) (m : Mv c s1 s2 w1 w2) (hs : s2.sec = s1.sec) :
    Step w0 c s { s2 with r1 := s1.r1 } w (w2.setCell ⟨c.D, 3, none⟩ (.int .i64 s1.r1)) := by
  have h0 := h.ok.dec.r0_le
  have h1 := h.ok.dec.r1_le
  have hd := m.dec.set_r1 s1.r1 (by rw [m.r0]; exact h0) (by rw [m.L]; exact h1)
  refine h.trans ⟨h.ok.turn hd ?_ (by show s2.sec ≤ 5; rw [hs]; exact h.ok.sec) (m.keep.trans (keep_D _ _ _ _)), m.far.toFar.trans (Far.of_D (keep_D _ _ _ _) rfl), ?_, m.skip⟩
  · have := h.ok.ok
    unfold DS.ok at *
    show s2.r0 + s2.xs.length ≤ s1.r1
    rw [m.r0, m.xs]; exact this
  · unfold DS.left
    show s2.L - s1.r1 ≤ _
    rw [m.L]; exact Nat.le_refl _

/-- What skipEmptyLines does. -/
def Skips (w0 : World) (c : DC) (s : DS) (w : World) (e : Ending) (w' : World) : Prop := ∃ s', e = .returned (.tuple #[]) ∧ Step w0 c s s' w w' ∧ s'.sec = s.sec

theorem Run.more {c : DC} {s : DS} {p : Nat → Bool} {q : Nat} (h : Run c s p q) (hL : s.r1 < s.L) (hp : p (c.b s.r1) = true) : s.r1 < q := by
  rcases Nat.lt_or_ge s.r1 q with h1 | h1
  · exact h1
  · have e : q = s.r1 := Nat.le_antisymm h1 h.le
    rcases h.ends with h2 | h2
    · omega
    · rw [e, hp] at h2; cases h2

set_option maxRecDepth 20000 in
set_option maxHeartbeats 3200000 in
theorem skipEmptyLines_any (w0 : World) (c : DC) (s : DS) (w : World) (h : Ok w0 c w s) : Calls Tryz.prog 71 #[.pointer (some ⟨c.D, 0, none⟩)] w (Skips w0 c s w) := by
  have H := hid h
  clear h
  go_enter Tryz.func71, Tryz.ntmps71
  go_wp2_with fail
  go_loopg [] s.left (fun gk wr => ∃ s1 : DS, Hid (gk = s1.left) ∧ Hid (Step w0 c s s1 w wr) ∧ Hid (s1.sec = s.sec))
  case atStart => exact ⟨s, rfl, Step.refl H.out, rfl⟩
  case round =>
    obtain ⟨s1, Hgk, S1, Hsec⟩ := hrel
    have f2 := S1.out.ok.dec.f2
    have f3 := S1.out.ok.dec.f3
    have h0 := S1.out.ok.dec.r0_le
    have h1 := S1.out.ok.dec.r1_le
    have h2 := S1.out.ok.dec.L_le
    have h3 := S1.out.ok.dec.big
    have E0 : Hid ((s1.r0 : Int) + ((s1.r1 : Int) - (s1.r0 : Int)) = (s1.r1 : Int)) := by unfold Hid; omega
    go_wp2_with fail
    go_quiet (fail)
    go_wp2_with fail
    refine (blank_set _).mono ?_
    rintro e w1 ⟨g, rfl, hg, hs, hk1⟩
    have H1 := hid ((S1.out.ok.same (same_drewN _ _)).same hk1)
    have hgD := hid (show g ≠ c.D by have := S1.out.ok.dec.lt; have : wr.heap.size ≤ g := hg; omega)
    have M1 := hid (((Mv.refl S1.out.ok.dec).same (same_drewN _ _)).same hk1)
    clear f2 f3 hk1
    go_wp2_with fail
    refine (take_any c s1 g _ _ H1.out.dec hs hgD.out).mono ?_
    rintro e w2 ⟨q, hrun, rfl, hd2, hk2⟩
    have M2 := hid (M1.out.trans ⟨hd2, hk2, rfl, rfl, rfl, rfl, rfl, rfl⟩)
    have S2 := hid (S1.out.mv M2.out hrun.le rfl)
    have hq1 := hrun.le
    have hq2 := hrun.le'
    clear hd2 hk2 hs hrun
    by_cases hlt : q < s1.L
    · have f3 := M2.out.dec.f3
      by_cases hn : c.b q = 35
      · have hnb : ((c.b q : Int) == 35) = true := by simp [hn]
        have Hn := hid hn
        clear hn
        go_wp2_with fail
        refine (at_yes c { s1 with r1 := q } 0 _ S2.out.ok.dec hlt).mono ?_
        rintro e w3 ⟨rfl, hk3⟩
        have M3 := hid (M2.out.same hk3)
        have S3 := hid (S2.out.same hk3)
        clear hk3 f3
        go_wp2_with fail
        refine (comment_set _).mono ?_
        rintro e w4 ⟨g4, rfl, hg4, hs4, hk4⟩
        have M4 := hid (M3.out.same hk4)
        have S4 := hid (S3.out.same hk4)
        have hgD4 := hid (show g4 ≠ c.D by have := S3.out.ok.dec.lt; omega)
        clear hk4
        go_wp2_with fail
        refine (take_any c { s1 with r1 := q } g4 _ _ S4.out.ok.dec hs4 hgD4.out).mono ?_
        rintro e w5 ⟨q5, hrun5, rfl, hd5, hk5⟩
        have M5 := hid (M4.out.trans ⟨hd5, hk5, rfl, rfl, rfl, rfl, rfl, rfl⟩)
        have S5 := hid (S1.out.mv M5.out (Nat.le_trans hq1 hrun5.le) rfl)
        have hmore := hrun5.more hlt (by show pComment (c.b q) = true; rw [Hn.out]; rfl)
        have hmore' : q < q5 := hmore
        clear hmore hrun5 hd5 hk5 hs4
        go_wp2_with fail
        refine (takeEOL_any c _ _ S5.out.ok.dec).mono ?_
        rintro e w6 ⟨b, s6, rfl, m6, hsec6, hle6, hyes⟩
        have M6 := hid (M5.out.trans m6)
        have hsec6' := hid hsec6
        have hle6' : q5 ≤ s6.r1 := hle6
        clear hyes hle6 hsec6
        have f2 := m6.dec.f2
        have f3 := m6.dec.f3
        have fr3 := m6.dec.fr 3
        have hr0 := hid (show s6.r0 = s1.r0 from m6.r0)
        clear m6
        rw [hr0.out] at f2
        cases b
        · go_wp2_with fail
          go_end0
          rw [E0.out]
          exact ⟨_, rfl, S1.out.back M6.out hsec6'.out, (by show s6.sec = s.sec; rw [hsec6'.out]; exact Hsec.out)⟩
        · clear f2 f3 fr3
          go_wp2_with fail
          go_roundg s6.left
          case rel => exact ⟨s6, rfl, S1.out.mv M6.out (by omega) hsec6'.out, (by show s6.sec = s.sec; rw [hsec6'.out]; exact Hsec.out)⟩
          case measure =>
            have e := Hgk.out
            have e2 := M6.out.L
            unfold DS.left at *
            rw [e2]; omega
      · have hnb : ((c.b q : Int) == 35) = false := by simp; omega
        have Hn := hid hn
        clear hn
        by_cases hl : c.b q = 10
        · have hlb : ((c.b q : Int) == 10) = true := by simp [hl]
          have Hl := hid hl
          clear hl
          go_wp2_with fail
          refine (at_yes c { s1 with r1 := q } 0 _ S2.out.ok.dec hlt).mono ?_
          rintro e w3 ⟨rfl, hk3⟩
          have M3 := hid (M2.out.same hk3)
          have S3 := hid (S2.out.same hk3)
          have f8 := M3.out.dec.f8
          have fr8 := M3.out.dec.fr 8
          clear hk3 f3
          go_wp2_with fail
          refine (advance_any c _ 1 _ (S3.out.line _).ok.dec hlt).mono ?_
          rintro e w4 ⟨rfl, hd4, hk4⟩
          have S4 := hid ((S3.out.line _).mv (s2 := { ({ s1 with r1 := q } : DS).ln _ with r1 := q + 1 }) ⟨hd4, hk4, rfl, rfl, rfl, rfl, rfl, rfl⟩ (Nat.le_succ _) rfl)
          clear hd4 hk4 f8 fr8
          go_wp2_with fail
          go_roundg (s1.L - (q + 1))
          case rel =>
            refine ⟨_, ?_, S4.out, Hsec.out⟩
            rfl
          case measure =>
            have e := Hgk.out
            unfold DS.left at e
            omega
        · have hlb : ((c.b q : Int) == 10) = false := by simp; omega
          have Hl := hid hl
          clear hl
          by_cases hr : c.b q = 13
          · have hrb : ((c.b q : Int) == 13) = true := by simp [hr]
            have Hr := hid hr
            clear hr
            go_wp2_with fail
            refine (at_yes c { s1 with r1 := q } 0 _ S2.out.ok.dec hlt).mono ?_
            rintro e w3 ⟨rfl, hk3⟩
            have S3 := hid (S2.out.same hk3)
            clear hk3 f3
            go_wp2_with fail
            refine (takeEOL_any c _ _ S3.out.ok.dec).mono ?_
            rintro e w6 ⟨b, s6, rfl, m6, hsec6, hle6, hyes⟩
            have S6 := hid (S3.out.mv m6 hle6 hsec6)
            have hL := hid m6.L
            have Hsec6 := hid hsec6
            clear hle6 m6 hsec6
            cases b
            · clear hyes
              go_wp2_with fail
              go_end0
              exact ⟨s6, rfl, S6.out, Hsec6.out.trans Hsec.out⟩
            · have hy : q < s6.r1 := by
                rcases hyes rfl with h | h
                · exact h
                · have h' : s1.L ≤ q := h; omega
              clear hyes
              go_wp2_with fail
              go_roundg s6.left
              case rel => exact ⟨s6, rfl, S6.out, Hsec6.out.trans Hsec.out⟩
              case measure =>
                have e := Hgk.out
                have e2 : s6.L = s1.L := hL.out
                unfold DS.left at *
                rw [e2]; omega
          · have hrb : ((c.b q : Int) == 13) = false := by simp; omega
            have Hr := hid hr
            clear hr
            go_wp2_with fail
            refine (at_yes c { s1 with r1 := q } 0 _ S2.out.ok.dec hlt).mono ?_
            rintro e w3 ⟨rfl, hk3⟩
            go_wp2_with fail
            go_end0
            exact ⟨_, rfl, S2.out.same hk3, Hsec.out⟩
    · go_wp2_with fail
      refine (at_no c { s1 with r1 := q } 0 _ S2.out.ok.dec (by omega) hlt).mono ?_
      rintro e w3 ⟨rfl, hk3⟩
      go_wp2_with fail
      go_end0
      exact ⟨_, rfl, S2.out.same hk3, Hsec.out⟩
end Go.Proofs.YticdagnbnmnidaaGreatDoor
namespace Go.Proofs.YticdagnbnmnidaaGreatDoor
open Go.RowKit

/-- A step within an entry: no token is lost. -/
structure Step1 (w0 : World) (c : DC) (s s' : DS) (w w' : World) : Prop where
  ok : Ok w0 c w' s'
  far : Far1 c s s' w w'
  L : s'.L = s.L
  r0 : s'.r0 = s.r0
  skip : s'.skip = s.skip
  le : s.r1 ≤ s'.r1

namespace Step1
variable {w0 w w1 w2 : World} {c : DC} {s s1 s2 : DS}
theorem refl (h : Ok w0 c w s) : Step1 w0 c s s w w := ⟨h, Far1.refl _ _ _, rfl, rfl, rfl, Nat.le_refl _⟩
theorem trans (h : Step1 w0 c s s1 w w1) (k : Step1 w0 c s1 s2 w1 w2) : Step1 w0 c s s2 w w2 :=
  ⟨k.ok, h.far.trans k.far, k.L.trans h.L, k.r0.trans h.r0, k.skip.trans h.skip, Nat.le_trans h.le k.le⟩
theorem same (h : Step1 w0 c s s1 w w1) (k : Same w1 w2) : Step1 w0 c s s1 w w2 :=
  ⟨h.ok.same k, h.far.trans (Far1.same k), h.L, h.r0, h.skip, h.le⟩
theorem step (h : Step1 w0 c s s1 w w1) : Step w0 c s s1 w w1 := ⟨h.ok, h.far.toFar, by unfold DS.left; rw [h.L]; have := h.le; omega, h.skip⟩
theorem mv (h : Step1 w0 c s s1 w w1) (m : Mv c s1 s2 w1 w2) (hr : s1.r1 ≤ s2.r1) (hs : s2.sec ≤ 5) : Step1 w0 c s s2 w w2 :=
  h.trans ⟨(h.ok.mv m hr hs).ok, m.far, m.L, m.r0, m.skip, hr⟩
theorem sec (h : Step1 w0 c s s1 w w1) (x : Nat) (hx : x ≤ 5) : Step1 w0 c s { s1 with sec := x } w (w1.setCell ⟨c.D, 5, none⟩ (.int .u8 x)) :=
  h.mv ⟨h.ok.dec.set_sec x, keep_D _ _ _ _, rfl, rfl, rfl, rfl, rfl, rfl⟩ (Nat.le_refl _) hx
end Step1

theorem faultSec_le {x : Nat} : faultSec x ≤ 5 := by unfold faultSec; split <;> omega
theorem faultSec_lt {x : Nat} (h : x ≠ 5) : faultSec x = 4 := by unfold faultSec; rw [if_neg h]

/-- What syntaxErrorf gives, in words of steps. -/
def Faulty (w0 : World) (c : DC) (s : DS) (w : World) (e : Ending) (w' : World) : Prop :=
  ∃ (err : Value), e = .returned err ∧ Step1 w0 c s s.fault w w' ∧ Bad w' err

theorem syntaxErrorf_at {w0 w : World} {c : DC} {s : DS} (h : Ok w0 c w s) (oi : Int) (k : Nat) (h0 : 0 ≤ oi) (ho : oi ≤ (s.r1 : Int) - (s.r0 : Int)) (hc : ErrCell w k := by assumption) :
    Calls Tryz.prog 131 #[.pointer (some ⟨c.D, 0, none⟩), .int .i64 oi, .iface 240 (.pointer (some ⟨k, 0, none⟩))] w (Faulty w0 c s w) := by
  obtain ⟨o, rfl⟩ := Int.eq_ofNat_of_zero_le h0
  refine (syntaxErrorf_any c s o 240 _ w h.dec (by omega)).mono ?_
  rintro e w1 ⟨g, hg, herr, rfl, hd, hk⟩
  refine ⟨_, rfl, (Step1.refl h).mv ⟨hd, hk, rfl, rfl, rfl, rfl, rfl, rfl⟩ (Nat.le_refl _) faultSec_le, g, k, rfl, herr, hc.keep hk (hc.ne h.dec.row)⟩

/-- What a call gives that hands back an error alone. -/
def Errs (w0 : World) (c : DC) (s : DS) (w : World) (e : Ending) (w' : World) : Prop :=
  ∃ (err : Value) (s' : DS), e = .returned err ∧ Step1 w0 c s s' w w' ∧ ((err = .nilIface ∧ s'.sec = s.sec) ∨ (Bad w' err ∧ s'.sec = faultSec s.sec))

theorem Same.cellD {w0 w w' : World} {c : DC} {s : DS} {i : Nat} {v : Value} (hk : Same w w') (h : Ok w0 c w s) (f : w.cell? ⟨c.D, i, none⟩ = some v) : w'.cell? ⟨c.D, i, none⟩ = some v :=
  (hk.cell (p := ⟨c.D, i, none⟩) h.dec.lt id).trans f

set_option maxRecDepth 20000 in
set_option maxHeartbeats 1600000 in
theorem advanceTagComma_any (w0 : World) (c : DC) (s : DS) (w : World) (h : Ok w0 c w s) : Calls Tryz.prog 132 #[.pointer (some ⟨c.D, 0, none⟩)] w (Errs w0 c s w) := by
  have H := hid h
  have h0 := h.dec.r0_le
  have h1 := h.dec.r1_le
  have h2 := h.dec.L_le
  have h3 := h.dec.big
  clear h
  by_cases hlt : s.r1 < s.L
  · by_cases hn : c.b s.r1 = 44
    · have hnb : ((c.b s.r1 : Int) != 44) = false := by simp [hn]
      have Hn := hid hn
      clear hn
      go_enter Tryz.func132, Tryz.ntmps132
      go_wp2_with fail
      refine (ensure_yes c s 1 _ H.out.dec hlt).mono ?_
      rintro e w1 ⟨rfl, hk1⟩
      have S1 := hid ((Step1.refl H.out).same hk1)
      clear hk1
      go_wp2_with fail
      refine (at_yes c s 0 _ S1.out.ok.dec hlt).mono ?_
      rintro e w2 ⟨rfl, hk2⟩
      have S2 := hid (S1.out.same hk2)
      clear hk2
      go_wp2_with fail
      refine (advance_any c s 1 _ S2.out.ok.dec hlt).mono ?_
      rintro e w3 ⟨rfl, hd3, hk3⟩
      have S3 := hid (S2.out.mv ⟨hd3, hk3, rfl, rfl, rfl, rfl, rfl, rfl⟩ (Nat.le_succ _) S2.out.ok.sec)
      clear hd3 hk3
      go_wp2_with fail
      by_cases hlt2 : s.r1 + 1 < s.L
      · refine (ensure_yes c { s with r1 := s.r1 + 1 } 1 _ S3.out.ok.dec hlt2).mono ?_
        rintro e w4 ⟨rfl, hk4⟩
        have S4 := hid (S3.out.same hk4)
        clear hk4
        go_wp2_with fail
        refine (white_set _).mono ?_
        rintro e w5 ⟨g, rfl, hg, hs, hk5⟩
        have S5 := hid (S4.out.same hk5)
        clear hk5
        go_wp2_with fail
        refine (at_yes c { s with r1 := s.r1 + 1 } 0 _ S5.out.ok.dec hlt2).mono ?_
        rintro e w6 ⟨rfl, hk6⟩
        have S6 := hid (S5.out.same hk6)
        have hs6 := hs.same hk6
        clear hk6 hs
        go_wp2_with fail
        refine (get_any g _ pWhite _ (c.b_lt _) hs6).mono ?_
        rintro e w7 ⟨rfl, rfl⟩
        cases hp : pWhite (c.b (s.r1 + 1 + 0))
        · go_wp2_with fail
          go_ret
          exact ⟨_, _, rfl, S6.out, .inl ⟨rfl, rfl⟩⟩
        · go_wp2_with fail
          have f2 : w6.cell? ⟨c.D, 2, none⟩ = some (.int .i64 s.r0) := S6.out.ok.dec.f2
          have f3 : w6.cell? ⟨c.D, 3, none⟩ = some (.int .i64 (s.r1 + 1 : Nat)) := S6.out.ok.dec.f3
          have ew : IntKind.i64.wrap ((s.r1 : Int) + 1 - (s.r0 : Int)) = (s.r1 : Int) + 1 - (s.r0 : Int) := IntWalk.i64_in _ (by omega)
          go_region_held3 (fun w' => w'.cell? ⟨c.D, 2, none⟩ = some (.int .i64 s.r0) ∧ w'.cell? ⟨c.D, 3, none⟩ = some (.int .i64 (s.r1 + 1 : Nat)))
            (first | (refine ⟨?_, ?_⟩ <;> assumption) | go_keep)
            (first | (go_at_call 111; refine (errorsNew_any _ _).mono ?_; rintro e w8 ⟨g8, rfl, hg8, hg8', hk8⟩; have S8 := hid ((S6.out.same (same_drew _)).same hk8); have b2 := S8.out.ok.dec.f2; have b3 := S8.out.ok.dec.f3; clear hk8) | (go_at_call 131; refine (syntaxErrorf_at S8.out.ok _ g8 (by show (0 : Int) ≤ _; omega) (by show _ ≤ ((s.r1 + 1 : Nat) : Int) - (s.r0 : Int); omega)).mono ?_; rintro e w9 ⟨err, rfl, s9, hbad⟩; have S9 := hid (S8.out.trans s9); have Hbad := hid hbad; have d2 := S9.out.ok.dec.f2; have d3 := S9.out.ok.dec.f3; clear s9 hbad))
          go_wp2_with fail
          go_ret
          exact ⟨_, _, rfl, S9.out, .inr ⟨Hbad.out, rfl⟩⟩
      · refine (ensure_no c { s with r1 := s.r1 + 1 } 1 _ S3.out.ok.dec (by show s.L < s.r1 + 1 + 1; omega) (by omega)).mono ?_
        rintro e w4 ⟨rfl, hk4⟩
        have S4 := hid (S3.out.same hk4)
        clear hk4
        go_wp2_with fail
        have f2 : w4.cell? ⟨c.D, 2, none⟩ = some (.int .i64 s.r0) := S4.out.ok.dec.f2
        have f3 : w4.cell? ⟨c.D, 3, none⟩ = some (.int .i64 (s.r1 + 1 : Nat)) := S4.out.ok.dec.f3
        have ew : IntKind.i64.wrap ((s.r1 : Int) + 1 - (s.r0 : Int)) = (s.r1 : Int) + 1 - (s.r0 : Int) := IntWalk.i64_in _ (by omega)
        go_region_held3 (fun w' => w'.cell? ⟨c.D, 2, none⟩ = some (.int .i64 s.r0) ∧ w'.cell? ⟨c.D, 3, none⟩ = some (.int .i64 (s.r1 + 1 : Nat)))
          (first | (refine ⟨?_, ?_⟩ <;> assumption) | go_keep)
          (first | (go_at_call 111; refine (errorsNew_any _ _).mono ?_; rintro e w8 ⟨g8, rfl, hg8, hg8', hk8⟩; have S8 := hid ((S4.out.same (same_drew _)).same hk8); have b2 := S8.out.ok.dec.f2; have b3 := S8.out.ok.dec.f3; clear hk8) | (go_at_call 131; refine (syntaxErrorf_at S8.out.ok _ g8 (by show (0 : Int) ≤ _; omega) (by show _ ≤ ((s.r1 + 1 : Nat) : Int) - (s.r0 : Int); omega)).mono ?_; rintro e w9 ⟨err, rfl, s9, hbad⟩; have S9 := hid (S8.out.trans s9); have Hbad := hid hbad; have d2 := S9.out.ok.dec.f2; have d3 := S9.out.ok.dec.f3; clear s9 hbad))
        go_wp2_with fail
        go_ret
        exact ⟨_, _, rfl, S9.out, .inr ⟨Hbad.out, rfl⟩⟩
    · have hnb : ((c.b s.r1 : Int) != 44) = true := by rw [bne_iff_ne]; omega
      have Hn := hid hn
      clear hn
      go_enter Tryz.func132, Tryz.ntmps132
      go_wp2_with fail
      refine (ensure_yes c s 1 _ H.out.dec hlt).mono ?_
      rintro e w1 ⟨rfl, hk1⟩
      have S1 := hid ((Step1.refl H.out).same hk1)
      clear hk1
      go_wp2_with fail
      refine (at_yes c s 0 _ S1.out.ok.dec hlt).mono ?_
      rintro e w2 ⟨rfl, hk2⟩
      go_wp2_with fail
      go_ret
      exact ⟨_, s, rfl, S1.out.same hk2, .inl ⟨rfl, rfl⟩⟩
  · go_enter Tryz.func132, Tryz.ntmps132
    go_wp2_with fail
    refine (ensure_no c s 1 _ H.out.dec (by omega) (by omega)).mono ?_
    rintro e w1 ⟨rfl, hk1⟩
    go_wp2_with fail
    go_ret
    exact ⟨_, s, rfl, (Step1.refl H.out).same hk1, .inl ⟨rfl, rfl⟩⟩
end Go.Proofs.YticdagnbnmnidaaGreatDoor
