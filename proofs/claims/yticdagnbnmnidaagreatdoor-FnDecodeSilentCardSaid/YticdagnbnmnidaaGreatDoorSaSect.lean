/- The decoder over bytes: advanceToSection; Measurement, NextTag, NextFieldBytes and TimeBytes at any part of an entry; Next. Conditions: none. The decoder over bytes: Measurement, NextTag, NextFieldBytes and TimeBytes at any part of an entry; Next, Err. Conditions: none. -/
import Derived.Test.YticdagnbnmnidaaGreatDoorSaTime
set_option linter.unusedSimpArgs false
set_option linter.unusedVariables false
namespace Go.Proofs.YticdagnbnmnidaaGreatDoor
open Go.RowKit

/-- A step, whatever becomes of the mark that skips. -/
structure Trek (w0 : World) (c : DC) (s s' : DS) (w w' : World) : Prop where
  ok : Ok w0 c w' s'
  far : Far c s s' w w'
  left : s'.left ≤ s.left
namespace Trek
variable {w0 w w1 w2 : World} {c : DC} {s s1 s2 : DS}
theorem refl (h : Ok w0 c w s) : Trek w0 c s s w w := ⟨h, Far.refl _ _ _, Nat.le_refl _⟩
theorem trans (h : Trek w0 c s s1 w w1) (k : Trek w0 c s1 s2 w1 w2) : Trek w0 c s s2 w w2 := ⟨k.ok, h.far.trans k.far, Nat.le_trans k.left h.left⟩
theorem of (h : Step w0 c s s1 w w1) : Trek w0 c s s1 w w1 := ⟨h.ok, h.far, h.left⟩
theorem step (h : Trek w0 c s s1 w w1) (k : s1.skip = s.skip) : Step w0 c s s1 w w1 := ⟨h.ok, h.far, h.left, k⟩
theorem skips (h : Trek w0 c s s1 w w1) (b : Bool) : Trek w0 c s { s1 with skip := b } w (w1.setCell ⟨c.D, 6, none⟩ (.bool b)) :=
  h.trans ⟨h.ok.turn (h.ok.dec.set_skip b) h.ok.ok h.ok.sec (keep_D _ _ _ _), Far.of_D (keep_D _ _ _ _) rfl, Nat.le_refl _⟩
end Trek

/-- What advanceToSection gives where something is to be gone by. -/
def Advs (w0 : World) (c : DC) (s : DS) (k : Nat) (w : World) (e : Ending) (w' : World) : Prop :=
  ∃ (b : Bool) (err : Value) (s' : DS), e = .returned (.tuple #[.bool b, err]) ∧ Step w0 c s s' w w' ∧
    ((err = .nilIface ∧ k ≤ s'.sec ∧ b = (s'.sec == k)) ∨ (Bad w' err ∧ b = false ∧ (s'.sec = 4 ∨ s'.sec = 5)))

set_option maxRecDepth 20000 in
set_option maxHeartbeats 3200000 in
theorem advance_lt (w0 : World) (hval : ValidOK w0) (c : DC) (s : DS) (k : Nat) (w : World) (h : Ok w0 c w s) (hk : s.sec < k) (hk5 : k ≤ 5) (hs : s.skip = false) :
    Calls Tryz.prog 70 #[.pointer (some ⟨c.D, 0, none⟩), .int .u8 k] w (Advs w0 c s k w) := by
  have f5 := h.dec.f5
  have f6 := h.dec.f6
  have fr6 := h.dec.fr 6
  have hb : ((s.sec : Int) == (k : Int)) = false := by simp; omega
  have hlt : ¬ (k : Int) < (s.sec : Int) := by omega
  have H := hid h
  have Hs := hid hs
  have Hval := hid hval
  clear h hs hval
  go_enter Tryz.func70, Tryz.ntmps70
  go_wp2_with fail
  clear f5 f6 fr6 hb hlt
  go_loopg [] (5 - s.sec) (fun gk wr => ∃ s1 : DS, Hid (gk = 5 - s1.sec) ∧ Hid (Trek w0 c s s1 w wr) ∧ Hid (s1.skip = true))
  case atStart => exact ⟨{ s with skip := true }, rfl, (Trek.refl H.out).skips true, rfl⟩
  case round =>
    obtain ⟨s1, Hgk, S1, Hsk⟩ := hrel
    have f5 := S1.out.ok.dec.f5
    by_cases hlt : s1.sec < k
    · go_wp2_with fail
      refine (consumeSection_any w0 Hval.out c s1 _ S1.out.ok (by omega)).mono ?_
      rintro e w2 ⟨err, s2, rfl, hst, hor⟩
      have S2 := hid (S1.out.trans (Trek.of hst))
      have Hsk2 := hid (hst.skip.trans Hsk.out)
      have b5 := hst.ok.sec
      clear hst f5
      rcases hor with ⟨rfl, hsec⟩ | ⟨hbad, hsec⟩
      · go_wp2_with fail
        go_roundg (5 - s2.sec)
        case rel => exact ⟨s2, rfl, S2.out, Hsk2.out⟩
        case measure => have := Hgk.out; omega
      · obtain ⟨gb, kb, rfl, hrow, hcell⟩ : ∃ g k, err = .iface 204 (.pointer (some ⟨g, 0, none⟩)) ∧ ErrRow w2 g (.iface 240 (.pointer (some ⟨k, 0, none⟩))) ∧ ErrCell w2 k := by
          obtain ⟨g, k, rfl, h1, h2⟩ := hbad
          exact ⟨g, k, rfl, h1, h2⟩
        have hcne := hcell.ne S2.out.ok.dec.row
        have Hcell := hid hcell
        have Hcne := hid hcne
        clear hcell hcne
        have Hbad := hid hbad
        have Hsec := hid hsec
        have f6 := S2.out.ok.dec.f6
        have fr6 := S2.out.ok.dec.fr 6
        clear hbad hsec
        have hne : gb ≠ c.D := fun e => by
          obtain ⟨ln, col, hr⟩ := hrow
          have h2 := S2.out.ok.dec.row
          subst e
          unfold Row at hr h2
          rw [hr] at h2
          injection h2 with h3
          injection h3 with h4 h5
          exact absurd h5 (by decide)
        have Hne := hid hne
        have Hrow := hid hrow
        clear hne hrow
        go_wp2_with fail
        go_ret2
        refine ⟨_, _, { s2 with skip := false }, rfl, (S2.out.skips false).step Hs.out.symm, .inr ⟨⟨gb, kb, rfl, ?_⟩, rfl, Hsec.out⟩⟩
        obtain ⟨ln, col, hr⟩ := Hrow.out
        obtain ⟨sc, hs⟩ := Hcell.out
        exact ⟨⟨ln, col, hr.far Hne.out _⟩, sc, hs.far Hcne.out _⟩
    · have f6 := S1.out.ok.dec.f6
      have fr6 := S1.out.ok.dec.fr 6
      go_wp2_with fail
      go_ret2
      refine ⟨_, _, { s1 with skip := false }, rfl, (S1.out.skips false).step Hs.out.symm, .inl ⟨rfl, by show k ≤ s1.sec; omega, ?_⟩⟩
      show ((s1.sec : Int) == (k : Int)) = (s1.sec == k)
      rw [Bool.eq_iff_iff]; simp; omega
end Go.Proofs.YticdagnbnmnidaaGreatDoor
namespace Go.Proofs.YticdagnbnmnidaaGreatDoor
open Go.RowKit

theorem gate_lt {w0 w : World} (hval : ValidOK w0) {c : DC} {s : DS} {k : Nat} (h : Ok w0 c w s) (hk : s.sec < k) (hk5 : k ≤ 5) (hs : s.skip = false) :
    Calls Tryz.prog 70 #[.pointer (some ⟨c.D, 0, none⟩), .int .u8 k] w (Gate w0 c k (fun s' w' => Step w0 c s s' w w')) := by
  refine (advance_lt w0 hval c s k w h hk hk5 hs).mono ?_
  rintro e w1 ⟨b, err, s', rfl, hst, (⟨rfl, hle, rfl⟩ | ⟨hbad, rfl, hsec⟩)⟩
  · refine ⟨_, _, s', rfl, hst.ok, hst, ?_⟩
    by_cases he : s'.sec = k
    · exact .inl ⟨rfl, by simpa using he, he⟩
    · exact .inr (.inl ⟨rfl, by simpa using he, by omega⟩)
  · exact ⟨_, _, s', rfl, hst.ok, hst, .inr (.inr ⟨hbad, rfl, hsec⟩)⟩

/-- a token, or none -/
def Maybe (c : DC) (s : DS) (w : World) (v : Value) : Prop := v = nilS ∨ ∃ n f, 0 < n ∧ Tk c s w v n f
/-- how a method that may fail ends: well, or by a fault that ends the entry -/
def Ends (w' : World) (s' : DS) (err : Value) : Prop := err = .nilIface ∨ (Bad w' err ∧ (s'.sec = 4 ∨ s'.sec = 5))

/-- What Measurement gives. -/
def MeasT (w0 : World) (c : DC) (s : DS) (w : World) (e : Ending) (w' : World) : Prop :=
  ∃ (v err : Value) (s' : DS), e = .returned (.tuple #[v, err]) ∧ Step w0 c s s' w w' ∧ Maybe c s' w' v ∧ Ends w' s' err ∧ (4 ≤ s.sec → v = nilS ∧ err = .nilIface ∧ s'.sec = s.sec)
theorem measurement_any (w0 : World) (hval : ValidOK w0) (c : DC) (s : DS) (w : World) (h : Ok w0 c w s) : Calls Tryz.prog 73 #[.pointer (some ⟨c.D, 0, none⟩)] w (MeasT w0 c s w) := by
  by_cases h0 : s.sec = 0
  · refine (measurement_0 w0 hval c s w h h0).mono ?_
    rintro e w' ⟨v, err, s', rfl, hst, (⟨rfl, hsec, hv⟩ | ⟨hbad, rfl, hsec⟩)⟩
    · exact ⟨_, _, s', rfl, hst, .inr hv, .inl rfl, fun h => by omega⟩
    · exact ⟨_, _, s', rfl, hst, .inl rfl, .inr ⟨hbad, .inl hsec⟩, fun h => by omega⟩
  · refine (measurement_gt c s w h.dec (by omega)).mono ?_
    rintro e w' ⟨rfl, hk⟩
    exact ⟨_, _, s, rfl, (Step.refl h).same hk, .inl rfl, .inl rfl, fun _ => ⟨rfl, rfl, rfl⟩⟩

/-- What NextTag gives. -/
def TagT (w0 : World) (c : DC) (s : DS) (w : World) (e : Ending) (w' : World) : Prop :=
  ∃ (k v err : Value) (s' : DS), e = .returned (.tuple #[k, v, err]) ∧ Step w0 c s s' w w' ∧ Maybe c s' w' k ∧ (v = nilS ∨ ∃ m f, Tk c s' w' v m f) ∧ Ends w' s' err ∧ (4 ≤ s.sec → k = nilS ∧ err = .nilIface ∧ s'.sec = s.sec)
theorem tags_T {w0 : World} {c : DC} {s s1 : DS} {w w1 w' : World} {e : Ending} (hs : ¬ 4 ≤ s.sec) (hst1 : Step w0 c s s1 w w1) (h : Tags w0 c s1 w1 e w') : TagT w0 c s w e w' := by
  obtain ⟨k, v, err, s', rfl, hst, (⟨rfl, rfl, rfl, hsec⟩ | ⟨rfl, hsec, hlt, n, f, m, g, hn, hk, hv⟩ | ⟨hbad, rfl, rfl, hsec⟩)⟩ := h
  · exact ⟨_, _, _, s', rfl, hst1.trans hst.step, .inl rfl, .inl rfl, .inl rfl, fun h => absurd h hs⟩
  · exact ⟨_, _, _, s', rfl, hst1.trans hst.step, .inr ⟨n, f, hn, hk⟩, .inr ⟨m, g, hv⟩, .inl rfl, fun h => absurd h hs⟩
  · exact ⟨_, _, _, s', rfl, hst1.trans hst.step, .inl rfl, .inl rfl, .inr ⟨hbad, .inl hsec⟩, fun h => absurd h hs⟩
theorem nextTag_any (w0 : World) (hval : ValidOK w0) (c : DC) (s : DS) (w : World) (h : Ok w0 c w s) (hs : s.skip = false) : Calls Tryz.prog 75 #[.pointer (some ⟨c.D, 0, none⟩)] w (TagT w0 c s w) := by
  rcases Nat.lt_trichotomy s.sec 1 with h0 | h0 | h0
  · refine (nextTag_of w0 hval c w _ (gate_lt hval h h0 (by omega) hs)).mono ?_
    rintro e w' ⟨s1, w1, hst, hok, (ht | ⟨rfl, hk, h1⟩ | ⟨err, rfl, hbad, hk, h1⟩)⟩
    · exact tags_T (by omega) hst ht
    · exact ⟨_, _, _, s1, rfl, hst.same hk, .inl rfl, .inl rfl, .inl rfl, fun h => by omega⟩
    · exact ⟨_, _, _, s1, rfl, hst.same hk, .inl rfl, .inl rfl, .inr ⟨hbad.same hk, h1⟩, fun h => by omega⟩
  · exact (nextTag_1 w0 hval c s w h h0).mono fun e w' ht => tags_T (by omega) (Step.refl h) ht
  · refine (nextTag_gt c s w h.dec h0).mono ?_
    rintro e w' ⟨rfl, hk⟩
    exact ⟨_, _, _, s, rfl, (Step.refl h).same hk, .inl rfl, .inl rfl, .inl rfl, fun _ => ⟨rfl, rfl, rfl⟩⟩

/-- What NextFieldBytes gives. -/
def FieldT (w0 : World) (c : DC) (s : DS) (w : World) (e : Ending) (w' : World) : Prop :=
  ∃ (k v err : Value) (kd : Nat) (s' : DS), e = .returned (.tuple #[k, .int .u8 kd, v, err]) ∧ Step w0 c s s' w w' ∧ Maybe c s' w' k ∧ (v = nilS ∨ ∃ m f, Tk c s' w' v m f) ∧ Ends w' s' err ∧ (4 ≤ s.sec → k = nilS ∧ err = .nilIface ∧ s'.sec = s.sec)
theorem flds_T {w0 : World} {c : DC} {s s1 : DS} {w w1 w' : World} {e : Ending} (hs : ¬ 4 ≤ s.sec) (hst1 : Step w0 c s s1 w w1) (h : Flds w0 c s1 w1 e w') : FieldT w0 c s w e w' := by
  obtain ⟨k, v, err, kd, s', rfl, hst, (⟨rfl, hsec, hlt, hkd, n, f, m, g, hn, hk, hv, -⟩ | ⟨hbad, rfl, rfl, hsec⟩)⟩ := h
  · exact ⟨_, _, _, kd, s', rfl, hst1.trans hst.step, .inr ⟨n, f, hn, hk⟩, .inr ⟨m, g, hv⟩, .inl rfl, fun h => absurd h hs⟩
  · exact ⟨_, _, _, kd, s', rfl, hst1.trans hst.step, .inl rfl, .inl rfl, .inr ⟨hbad, .inl hsec⟩, fun h => absurd h hs⟩
theorem nextField_any (w0 : World) (hval : ValidOK w0) (c : DC) (s : DS) (w : World) (h : Ok w0 c w s) (hs : s.skip = false) : Calls Tryz.prog 76 #[.pointer (some ⟨c.D, 0, none⟩)] w (FieldT w0 c s w) := by
  rcases Nat.lt_trichotomy s.sec 2 with h0 | h0 | h0
  · refine (nextField_of w0 hval c w _ (gate_lt hval h h0 (by omega) hs)).mono ?_
    rintro e w' ⟨s1, w1, hst, hok, (ht | ⟨rfl, hk, h1⟩ | ⟨err, rfl, hbad, hk, h1⟩)⟩
    · exact flds_T (by omega) hst ht
    · exact ⟨_, _, _, 0, s1, rfl, hst.same hk, .inl rfl, .inl rfl, .inl rfl, fun h => by omega⟩
    · exact ⟨_, _, _, 0, s1, rfl, hst.same hk, .inl rfl, .inl rfl, .inr ⟨hbad.same hk, h1⟩, fun h => by omega⟩
  · exact (nextField_2 w0 hval c s w h h0).mono fun e w' ht => flds_T (by omega) (Step.refl h) ht
  · refine (nextField_gt c s w h.dec h0).mono ?_
    rintro e w' ⟨rfl, hk⟩
    exact ⟨_, _, _, 0, s, rfl, (Step.refl h).same hk, .inl rfl, .inl rfl, .inl rfl, fun _ => ⟨rfl, rfl, rfl⟩⟩

/-- What TimeBytes gives. -/
def TimeT (w0 : World) (c : DC) (s : DS) (w : World) (e : Ending) (w' : World) : Prop :=
  ∃ (v err : Value) (s' : DS), e = .returned (.tuple #[v, err]) ∧ Step w0 c s s' w w' ∧ Maybe c s' w' v ∧ ((err = .nilIface ∧ (s'.sec = 4 ∨ s'.sec = 5)) ∨ (Bad w' err ∧ v = nilS ∧ (s'.sec = 4 ∨ s'.sec = 5))) ∧ (4 ≤ s.sec → v = nilS ∧ err = .nilIface ∧ s'.sec = s.sec)
theorem times_T {w0 : World} {c : DC} {s s1 : DS} {w w1 w' : World} {e : Ending} (hs : ¬ 4 ≤ s.sec) (hst1 : Step w0 c s s1 w w1) (h : Times w0 c s1 w1 e w') : TimeT w0 c s w e w' := by
  obtain ⟨v, err, s', rfl, hst, (⟨rfl, hsec, hv⟩ | ⟨hbad, rfl, hsec⟩)⟩ := h
  · exact ⟨_, _, s', rfl, hst1.trans hst.step, hv, .inl ⟨rfl, .inr hsec⟩, fun h => absurd h hs⟩
  · exact ⟨_, _, s', rfl, hst1.trans hst.step, .inl rfl, .inr ⟨hbad, rfl, hsec⟩, fun h => absurd h hs⟩
theorem timeBytes_any (w0 : World) (hval : ValidOK w0) (c : DC) (s : DS) (w : World) (h : Ok w0 c w s) (hs : s.skip = false) : Calls Tryz.prog 77 #[.pointer (some ⟨c.D, 0, none⟩)] w (TimeT w0 c s w) := by
  have h5 := h.sec
  rcases Nat.lt_trichotomy s.sec 3 with h0 | h0 | h0
  · refine (timeBytes_of w0 c w _ (gate_lt hval h h0 (by omega) hs)).mono ?_
    rintro e w' ⟨s1, w1, hst, hok, (ht | ⟨rfl, hk, h1⟩ | ⟨err, rfl, hbad, hk, h1⟩)⟩
    · exact times_T (by omega) hst ht
    · have h6 := hok.sec
      exact ⟨_, _, s1, rfl, hst.same hk, .inl rfl, .inl ⟨rfl, by omega⟩, fun h => by omega⟩
    · exact ⟨_, _, s1, rfl, hst.same hk, .inl rfl, .inr ⟨hbad.same hk, rfl, h1⟩, fun h => by omega⟩
  · exact (timeBytes_3 w0 c s w h h0).mono fun e w' ht => times_T (by omega) (Step.refl h) ht
  · refine (timeBytes_gt c s w h.dec h0).mono ?_
    rintro e w' ⟨rfl, hk⟩
    exact ⟨_, _, s, rfl, (Step.refl h).same hk, .inl rfl, .inl ⟨rfl, by omega⟩, fun _ => ⟨rfl, rfl, rfl⟩⟩

/-- What Next does. -/
def NextT (w0 : World) (c : DC) (s : DS) (w : World) (e : Ending) (w' : World) : Prop := ∃ (b : Bool) (s' : DS), e = .returned (.bool b) ∧ Step w0 c s s' w w'

/-- How it stands behind the old entry. -/
def Gone (w0 : World) (c : DC) (s : DS) (w : World) (e : Ending) (w' : World) : Prop :=
  ∃ (b : Bool) (err : Value) (s' : DS), e = .returned (.tuple #[.bool b, err]) ∧ Step w0 c s s' w w' ∧ (err = .nilIface ∨ (Bad w' err ∧ (s'.sec = 4 ∨ s'.sec = 5)))
theorem advance_5 (w0 : World) (hval : ValidOK w0) (c : DC) (s : DS) (w : World) (h : Ok w0 c w s) (hs : s.skip = false) :
    Calls Tryz.prog 70 #[.pointer (some ⟨c.D, 0, none⟩), .int .u8 (5 : Nat)] w (Gone w0 c s w) := by
  have h5 := h.sec
  by_cases h0 : s.sec = 5
  · refine (advance_eq c s 5 w h.dec h0).mono ?_
    rintro e w1 ⟨rfl, hk⟩
    exact ⟨_, _, s, rfl, (Step.refl h).same hk, .inl rfl⟩
  · refine (advance_lt w0 hval c s 5 w h (by omega) (by omega) hs).mono ?_
    rintro e w1 ⟨b, err, s', rfl, hst, (⟨rfl, hle, rfl⟩ | ⟨hbad, rfl, hsec⟩)⟩
    · exact ⟨_, _, s', rfl, hst, .inl rfl⟩
    · exact ⟨_, _, s', rfl, hst, .inr ⟨hbad, hsec⟩⟩

/-- what ensure(1) answers -/
theorem ensure_1 {w0 w : World} {c : DC} {s : DS} (h : Ok w0 c w s) : Calls Tryz.prog 72 #[.pointer (some ⟨c.D, 0, none⟩), .int .i64 (1 : Nat)] w (fun e w' => ∃ b, e = .returned (.bool b) ∧ Same w w') := by
  by_cases hlt : s.r1 < s.L
  · exact (ensure_yes c s 1 w h.dec hlt).mono fun e w' ⟨he, hk⟩ => ⟨_, he, hk⟩
  · exact (ensure_no c s 1 w h.dec (by omega) (by omega)).mono fun e w' ⟨he, hk⟩ => ⟨_, he, hk⟩

set_option maxRecDepth 20000 in
set_option maxHeartbeats 3200000 in
theorem next_any (w0 : World) (hval : ValidOK w0) (c : DC) (s : DS) (w : World) (h : Ok w0 c w s) (hs : s.skip = false) : Calls Tryz.prog 34 #[.pointer (some ⟨c.D, 0, none⟩)] w (NextT w0 c s w) := by
  have H := hid h
  have Hs := hid hs
  have Hval := hid hval
  clear h hs hval
  go_enter Tryz.func34, Tryz.ntmps34
  go_wp2_with fail
  refine (advance_5 w0 Hval.out c s _ H.out Hs.out).mono ?_
  rintro e w1 ⟨b, err, s1, rfl, hst, hor⟩
  have S1 := hid hst
  have Hs1 := hid (hst.skip.trans Hs.out)
  clear hst
  rcases hor with rfl | ⟨hbad, hsec⟩
  · go_wp2_with fail
    refine (skipEmptyLines_any w0 c s1 _ S1.out.ok).mono ?_
    rintro e w2 ⟨s2, rfl, hst2, -⟩
    have S2 := hid (S1.out.trans hst2)
    have f5 := hst2.ok.dec.f5
    have fr5 := hst2.ok.dec.fr 5
    clear hst2
    go_wp2_with fail
    refine (ensure_1 (S2.out.sec 0 (by omega)).ok).mono ?_
    rintro e w3 ⟨b3, rfl, hk3⟩
    clear f5 fr5
    go_wp2_with fail
    go_ret
    exact ⟨b3, _, rfl, (S2.out.sec 0 (by omega)).same hk3⟩
  · obtain ⟨gb, kb, rfl, hrow⟩ := hbad.iface
    clear hbad hrow hsec
    go_wp2_with fail
    refine (advance_5 w0 Hval.out c s1 _ S1.out.ok Hs1.out).mono ?_
    rintro e w1' ⟨b', err', s1', rfl, hst', -⟩
    have S1' := hid (S1.out.trans hst')
    clear hst'
    go_wp2_with fail
    refine (skipEmptyLines_any w0 c s1' _ S1'.out.ok).mono ?_
    rintro e w2 ⟨s2, rfl, hst2, -⟩
    have S2 := hid (S1'.out.trans hst2)
    have f5 := hst2.ok.dec.f5
    have fr5 := hst2.ok.dec.fr 5
    clear hst2
    go_wp2_with fail
    refine (ensure_1 (S2.out.sec 0 (by omega)).ok).mono ?_
    rintro e w3 ⟨b3, rfl, hk3⟩
    clear f5 fr5
    go_wp2_with fail
    go_ret
    exact ⟨b3, _, rfl, (S2.out.sec 0 (by omega)).same hk3⟩

set_option maxRecDepth 20000 in
theorem err_any (c : DC) (s : DS) (w : World) (h : Dec w c s) : Calls Tryz.prog 38 #[.pointer (some ⟨c.D, 0, none⟩)] w (Looks .nilIface w) := by
  have f9 := h.f9
  clear h
  go_enter Tryz.func38, Tryz.ntmps38
  go_wp2_with fail
  go_ret
  exact ⟨rfl, Keep.refl _ _⟩
end Go.Proofs.YticdagnbnmnidaaGreatDoor
