/- The decoder over bytes: take: the bytes of a set from the place on. Conditions: none. Counting and finding a byte in a slice; how the decoder tells a syntax fault. Conditions: none. -/
import Derived.Test.YticdagnbnmnidaaGreatDoorSaDec
import Derived.Deep.LoopGhost
set_option linter.unusedSimpArgs false
set_option linter.unusedVariables false
namespace Go.Proofs.YticdagnbnmnidaaGreatDoor
open Go.RowKit

/-- the place that a decoder's block holds -/
def r1Of (c : DC) (w : World) : Nat := match w.cell? ⟨c.D, 3, none⟩ with | some v => (intOf v).toNat | none => 0
theorem r1Of_eq {w : World} {c : DC} {s : DS} (h : Dec w c s) : r1Of c w = s.r1 := by
  unfold r1Of
  rw [h.f3]
  simp [intOf]

/-- the bytes of the text from place a on, up to b, are in the set -/
def AllIn (c : DC) (p : Nat → Bool) (a b : Nat) : Prop := ∀ i, a ≤ i → i < b → p (c.b i) = true
/-- the run of a set's bytes from the place on ends at q -/
structure Run (c : DC) (s : DS) (p : Nat → Bool) (q : Nat) : Prop where
  le : s.r1 ≤ q
  le' : q ≤ s.L
  all : AllIn c p s.r1 q
  ends : q = s.L ∨ p (c.b q) = false

/-- the slice of the text from place r on, m bytes -/
def DS.cut (c : DC) (s : DS) (r m : Nat) : Value := .slice (some (if s.cap = r then ⟨c.T, 0, none⟩ else ⟨c.T, r, none⟩)) m (s.cap - r)

theorem cut_at {c : DC} {s : DS} {r m : Nat} (h : s.cap = r) : s.cut c r m = .slice (some ⟨c.T, 0, none⟩) m 0 := by
  unfold DS.cut; rw [if_pos h, h, Nat.sub_self]
theorem cut_far {c : DC} {s : DS} {r m : Nat} (h : ¬ s.cap = r) : s.cut c r m = .slice (some ⟨c.T, r, none⟩) m (s.cap - r) := by
  unfold DS.cut; rw [if_neg h]

/-- What take does. -/
def Takes (c : DC) (s : DS) (p : Nat → Bool) (w : World) (e : Ending) (w' : World) : Prop :=
  ∃ q, Run c s p q ∧ Turns c (s.cut c s.r1 (q - s.r1)) { s with r1 := q } w e w'

set_option maxRecDepth 20000 in
set_option maxHeartbeats 1600000 in
theorem take_any (c : DC) (s : DS) (g : Nat) (p : Nat → Bool) (w : World) (h : Dec w c s) (hs : SetAt w g p) (hg : g ≠ c.D) :
    Calls Tryz.prog 122 #[.pointer (some ⟨c.D, 0, none⟩), .pointer (some ⟨g, 0, none⟩)] w (Takes c s p w) := by
  have f2 := h.f2
  have f3 := h.f3
  have h0 := h.r0_le
  have h1 := h.L_le
  have h2 := h.big
  have h3 := h.r1_le
  have h4 := h.capBig
  have h5 := h.cap_le
  have E0 : Hid (s.r0 + (s.r1 - s.r0) = s.r1) := by unfold Hid; omega
  have H := hid h
  clear h
  go_enter Tryz.func122, Tryz.ntmps122
  go_wp2_with fail
  go_step3
  go_wp2_with fail
  go_quiet (fail)
  go_wp2_with fail
  go_step3
  go_wp2_with fail
  clear f2 f3
  go_loopg [] (s.L - s.r1) (fun gk wr => ∃ q, s.r1 ≤ q ∧ q ≤ s.L ∧ Hid (gk = s.L - q) ∧ AllIn c p s.r1 q ∧ Dec wr c { s with r1 := q } ∧ Keep (fun b => b = c.D) w wr)
  case atStart => exact ⟨s.r1, Nat.le_refl _, h3, rfl, fun i hi hi' => absurd hi' (by omega), H.out.same (same_drewN _ _), (Keep.refl _ _).drewN _⟩
  case round =>
    obtain ⟨q, hq0, hq, Hgk, hall, hd, hkeep⟩ := hrel
    by_cases hlt : q < s.L
    · have hcq : q < s.cap := by omega
      have hset := hs.keep hkeep hg
      go_wp2_with (go_at_call 72; refine (ensure_yes c _ 1 _ hd hlt).mono ?_; rintro e w1 ⟨rfl, hk1⟩)
      have hd1 := hd.same hk1
      have f1 : w1.cell? ⟨c.D, 1, none⟩ = some (.slice (some ⟨c.T, 0, none⟩) s.L s.cap) := hd1.f1
      have f3 : w1.cell? ⟨c.D, 3, none⟩ = some (.int .i64 q) := hd1.f3
      have fr3 := hd1.fr 3
      have Hset1 := hid (hset.same hk1)
      have Hd1 := hid hd1
      have Hk1 := hid (hkeep.trans' hk1 (fun _ _ h => h.elim))
      clear hd hset hk1 hd1 hkeep
      have Htx : Hid (∀ i, i < c.bs.length → w1.cell? ⟨c.T, i, none⟩ = some (.int .u8 (c.b i : Nat))) := fun i hi => Hd1.out.byte hi
      go_wp2_with fail
      go_quiet (fail)
      go_wp2_with fail
      have f2 : w1.cell? ⟨c.D, 2, none⟩ = some (.int .i64 s.r0) := Hd1.out.f2
      go_loop [32] (fun i => ∃ j : Nat, q + j ≤ s.L ∧ i = .int .i64 j ∧ AllIn c p q (q + j)) (fun i => s.L - q - (intOf i).toNat)
      case atStart => exact ⟨0, by omega, rfl, fun i hi hi' => absurd hi' (by omega)⟩
      case round =>
        obtain ⟨j, hj, rfl, hallj⟩ := hrel
        by_cases hlt2 : q + j < s.L
        · have hv := Htx.out (q + j) (by omega)
          have hx : j < s.L - q := by omega
          cases hp : p (c.b (q + j))
          · have Hp := hid hp
            go_wp2_with (go_at_call 133; refine (get_any g _ p _ (c.b_lt _) (Hset1.out.drewN _)).mono ?_; rintro e w2 ⟨rfl, rfl⟩)
            go_quiet (fail)
            go_wp2_with fail
            all_goals
              go_ret
              have e0 := E0.out
              refine ⟨q + j, ⟨by omega, hj, fun i hi hi' => ?_, Or.inr Hp.out⟩, ?_, (((Hd1.out.same (same_drewN _ _)).set_r1 (q + j) (by show s.r0 ≤ q + j; omega) hj).same (same_drewN _ _)), ((Hk1.out.drewN _).setCell (fun _ => rfl) _).drewN _⟩
              · by_cases h : i < q
                · exact hall i hi h
                · exact hallj i (by omega) hi'
              · rw [cut_far (by omega)]; simp only [e0]; rfl
          · have Hp := hid hp
            go_wp2_with (go_at_call 133; refine (get_any g _ p _ (c.b_lt _) (Hset1.out.drewN _)).mono ?_; rintro e w2 ⟨rfl, rfl⟩)
            go_round
            case rel =>
              refine ⟨j + 1, by omega, by go_num, fun i hi hi' => ?_⟩
              by_cases h : i = q + j
              · subst h; exact Hp.out
              · exact hallj i hi (by omega)
            case measure => simp [intOf]; omega
        · have hx : j = s.L - q := by omega
          have Hx := hid hx
          clear hx
          go_wp2_with fail
          go_roundg 0
          case measure => have := Hgk.out; omega
          case rel =>
            refine ⟨s.L, h3, Nat.le_refl _, (Nat.sub_self _).symm, fun i hi hi' => ?_, ?_, (Hk1.out.drewN _).setCell (fun _ => rfl) _⟩
            · by_cases h : i < q
              · exact hall i hi h
              · exact hallj i (by omega) (by omega)
            · have e : ((q : Int) + ((s.L - q : Nat) : Int)) = ((s.L : Nat) : Int) := by omega
              rw [e]
              exact (Hd1.out.same (same_drewN _ _)).set_r1 s.L (Nat.le_trans h0 h3) (Nat.le_refl _)
    · go_wp2_with (go_at_call 72; refine (ensure_no c _ 1 _ hd (by show s.L < q + 1; omega) (by omega)).mono ?_; rintro e w1 ⟨rfl, hk1⟩)
      have hd1 := hd.same hk1
      have f1 : w1.cell? ⟨c.D, 1, none⟩ = some (.slice (some ⟨c.T, 0, none⟩) s.L s.cap) := hd1.f1
      have f2 : w1.cell? ⟨c.D, 2, none⟩ = some (.int .i64 s.r0) := hd1.f2
      have f3 : w1.cell? ⟨c.D, 3, none⟩ = some (.int .i64 q) := hd1.f3
      have Hd1 := hid hd1
      have Hk1 := hid (hkeep.trans' hk1 (fun _ _ h => h.elim))
      clear hd hk1 hd1 hkeep
      go_wp2_with fail
      go_quiet (fail)
      go_wp2_with fail
      all_goals
        go_ret
        have e0 := E0.out
        refine ⟨q, ⟨hq0, hq, hall, Or.inl (by omega)⟩, ?_, Hd1.out.same (same_drewN _ _), Hk1.out.drewN _⟩
        first | (rw [cut_far (by omega)]; simp only [e0]; rfl) | (rw [cut_at (by omega)]; simp only [e0]; rfl) | (rw [cut_at (by omega)]; rfl) | (trace_state; rw [cut_at (by omega)])
end Go.Proofs.YticdagnbnmnidaaGreatDoor
namespace Go.Proofs.YticdagnbnmnidaaGreatDoor
open Go.RowKit

/-- how many of the first n are c -/
def cnt (f : Nat → Nat) (c : Nat) : Nat → Nat
  | 0 => 0
  | k + 1 => cnt f c k + if f k = c then 1 else 0
theorem cnt_le (f : Nat → Nat) (c : Nat) : ∀ n, cnt f c n ≤ n := by
  intro n
  induction n with
  | zero => exact Nat.le_refl _
  | succ n ih => simp only [cnt]; split <;> omega

/-- A slice value reads as the bytes f 0, .., f (n-1). -/
structure Rd (w : World) (v : Value) (n : Nat) (f : Nat → Nat) : Prop where
  form : ∃ A cap, v = .slice A n cap ∧ n ≤ cap ∧ cap ≤ 9223372036854775807 ∧ (0 < n → ∃ T off, A = some ⟨T, off, none⟩ ∧ ∀ j, j < n → w.cell? ⟨T, off + j, none⟩ = some (.int .u8 (f j : Nat)))
  lt : ∀ j, j < n → f j < 256

theorem Rd.same {w w' : World} {v : Value} {n : Nat} {f : Nat → Nat} (h : Rd w v n f) (hk : Same w w') : Rd w' v n f := by
  obtain ⟨⟨A, cap, rfl, h1, h2, h3⟩, h4⟩ := h
  refine ⟨⟨A, cap, rfl, h1, h2, fun hn => ?_⟩, h4⟩
  obtain ⟨T, off, rfl, hc⟩ := h3 hn
  refine ⟨T, off, rfl, fun j hj => ?_⟩
  have := hc j hj
  rw [← this]
  exact hk.cell (p := ⟨T, off + j, none⟩) (lt_of_cell this) id

set_option maxRecDepth 20000 in
set_option maxHeartbeats 400000 in
theorem zzCount_any (v : Value) (n c : Nat) (f : Nat → Nat) (w : World) (h : Rd w v n f) (hn : n ≤ 1000000000) :
    Calls Tryz.prog 168 #[v, .int .u8 c] w fun e w' => e = .returned (.int .i64 (cnt f c n : Nat)) ∧ w' = w := by
  obtain ⟨⟨A, cap, rfl, hc, hcb, hr⟩, hlt⟩ := h
  have Hr := hid hr
  have Hlt := hid hlt
  clear hr hlt
  go_enter Tryz.func168, Tryz.ntmps168
  go_wp2_with fail
  go_loop [5, 10] (fun t i => ∃ k : Nat, k ≤ n ∧ i = .int .i64 k ∧ t = .int .i64 (cnt f c k : Nat)) (fun _ i => n - (intOf i).toNat)
  case atStart => exact ⟨0, Nat.zero_le _, rfl, rfl⟩
  case round =>
    obtain ⟨k, hk, rfl, rfl⟩ := hrel
    have hcl := cnt_le f c k
    by_cases hkn : k < n
    · obtain ⟨T, off, rfl, hcell⟩ := Hr.out (by omega)
      have hv := hcell k hkn
      have Hcnt : Hid (cnt f c (k + 1) = cnt f c k + if f k = c then 1 else 0) := rfl
      clear hcell
      by_cases hfc : f k = c
      · have hfb : ((f k : Int) == (c : Int)) = true := by simp [hfc]
        have Hfc := hid hfc
        clear hfc
        go_wp2
        go_round
        case rel => exact ⟨k + 1, by omega, by go_num, by rw [Hcnt.out, if_pos Hfc.out]; go_num⟩
        case measure => simp [intOf]; omega
      · have hfb : ((f k : Int) == (c : Int)) = false := by simp; omega
        have Hfc := hid hfc
        clear hfc
        go_wp2
        go_round
        case rel => exact ⟨k + 1, by omega, by go_num, by rw [Hcnt.out, if_neg Hfc.out]; simp⟩
        case measure => simp [intOf]; omega
    · obtain rfl : k = n := by omega
      go_wp2
      go_ret
      exact ⟨rfl, rfl⟩

/-- the place of the last c among the first n, or -1 -/
def LastIs (f : Nat → Nat) (c n : Nat) (i : Int) : Prop := (i = -1 ∧ ∀ j, j < n → f j ≠ c) ∨ (∃ k, k < n ∧ i = (k : Nat) ∧ f k = c ∧ ∀ j, k < j → j < n → f j ≠ c)
def GivesLast (f : Nat → Nat) (c n : Nat) (w : World) (e : Ending) (w' : World) : Prop := ∃ i : Int, LastIs f c n i ∧ e = .returned (.int .i64 i) ∧ w' = w

set_option maxRecDepth 20000 in
set_option maxHeartbeats 400000 in
theorem lastIndex_any (v : Value) (n c : Nat) (f : Nat → Nat) (w : World) (h : Rd w v n f) (hn : n ≤ 1000000000) :
    Calls Tryz.prog 221 #[v, .int .u8 c] w (GivesLast f c n w) := by
  obtain ⟨⟨A, cap, rfl, hc, hcb, hr⟩, hlt⟩ := h
  have Hr := hid hr
  clear hr hlt
  go_enter Tryz.func221, Tryz.ntmps221
  go_wp2_with fail
  go_loop [5] (fun i => ∃ k : Nat, k ≤ n ∧ i = .int .i64 ((k : Int) - 1) ∧ Hid (∀ j, k ≤ j → j < n → f j ≠ c)) (fun i => (intOf i + 1).toNat)
  case atStart => exact ⟨n, Nat.le_refl _, rfl, fun j h1 h2 => by omega⟩
  case round =>
    obtain ⟨k, hk, rfl, Hall⟩ := hrel
    by_cases hk0 : 0 < k
    · obtain ⟨q, rfl⟩ : ∃ q, k = q + 1 := ⟨k - 1, by omega⟩
      have e0 : ((q + 1 : Nat) : Int) - 1 = (q : Int) := by omega
      rw [e0]
      clear e0
      obtain ⟨T, off, rfl, hcell⟩ := Hr.out (by omega)
      have hv := hcell q (by omega)
      clear hcell
      by_cases hfc : f q = c
      · have hfb : ((f q : Int) == (c : Int)) = true := by simp [hfc]
        have Hfc := hid hfc
        clear hfc
        go_wp2
        go_ret
        exact ⟨_, .inr ⟨q, by omega, rfl, Hfc.out, fun j h1 h2 => Hall.out j (by omega) h2⟩, rfl, rfl⟩
      · have hfb : ((f q : Int) == (c : Int)) = false := by simp; omega
        have Hfc := hid hfc
        clear hfc
        go_wp2
        go_round
        case rel =>
          refine ⟨q, by omega, rfl, fun j h1 h2 => ?_⟩
          by_cases e : j = q
          · subst e; exact Hfc.out
          · exact Hall.out j (by omega) h2
        case measure => simp [intOf]
    · obtain rfl : k = 0 := by omega
      go_wp2
      go_ret
      exact ⟨_, .inl ⟨rfl, fun j h => Hall.out j (by omega) h⟩, rfl, rfl⟩

theorem lastIndexB_any (v : Value) (n c : Nat) (f : Nat → Nat) (w : World) (h : Rd w v n f) (hn : n ≤ 1000000000) :
    Calls Tryz.prog 194 #[v, .int .u8 c] w (GivesLast f c n w) := by
  go_enter Tryz.func194, Tryz.ntmps194
  go_wp2_with fail
  refine (lastIndex_any v n c f _ h hn).mono ?_
  rintro e w1 ⟨i, hi, rfl, rfl⟩
  go_wp2_with fail
  go_ret
  exact ⟨i, hi, rfl, rfl⟩

/-- an error of errors.New stands there -/
def ErrCell (w : World) (g : Nat) : Prop := ∃ s : ByteArray, Row w g 242 #[.string s]
theorem ErrCell.keep {w w' : World} {g : Nat} {S : Nat → Prop} (h : ErrCell w g) (hk : Keep S w w') (hn : ¬ S g) : ErrCell w' g := let ⟨s, h⟩ := h; ⟨s, h.keep hk hn⟩
theorem ErrCell.same {w w' : World} {g : Nat} (h : ErrCell w g) (hk : Same w w') : ErrCell w' g := h.keep hk id
theorem ErrCell.ne {w : World} {g d : Nat} {cs : Array Value} (h : ErrCell w g) (hd : Row w d 134 cs) : g ≠ d := fun e => by
  obtain ⟨s, h⟩ := h
  subst e
  have := Option.some.inj (h.symm.trans hd)
  injection this with _ h2
  cases h2
/-- errors.New -/
def GivesNew (w : World) (e : Ending) (w' : World) : Prop := ∃ g, e = .returned (.iface 240 (.pointer (some ⟨g, 0, none⟩))) ∧ w.heap.size ≤ g ∧ ErrCell w' g ∧ Same w w'
theorem errorsNew_any (s : ByteArray) (w : World) : Calls Tryz.prog 111 #[.string s] w (GivesNew w) := by
  go_enter Tryz.func111, Tryz.ntmps111
  go_wp2_with fail
  go_ret
  exact ⟨_, rfl, Nat.le_refl _, ⟨_, Row.new _ _ _⟩, (Keep.refl _ _).alloc _⟩
end Go.Proofs.YticdagnbnmnidaaGreatDoor
