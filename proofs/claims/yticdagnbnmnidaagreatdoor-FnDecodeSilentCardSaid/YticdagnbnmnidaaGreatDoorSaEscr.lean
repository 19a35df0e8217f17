/- Escapers: what the functions that make one hand back. Conditions: none. The decoder over bytes: what takeEsc gives, in words of steps; advanceToSection where nothing is to be gone by. Conditions: none. -/
import Derived.Test.YticdagnbnmnidaaGreatDoorSaSkip
import Derived.Test.YticdagnbnmnidaaGreatDoorSaQr
set_option linter.unusedSimpArgs false
set_option linter.unusedVariables false
namespace Go.Proofs.YticdagnbnmnidaaGreatDoor
open Go.RowKit

/-- what the letter c behind a backslash says, by an escaper of these bytes; 0: nothing -/
def xOf : List Nat → Nat → Nat
  | [], _ => 0
  | b :: l, c => if unq b = c then b else xOf l c
/-- A call that makes an escaper of these bytes. -/
def GivesEsc (l : List Nat) (t : Array UInt8) (w : World) (e : Ending) (w' : World) : Prop :=
  ∃ g, e = .returned (.pointer (some ⟨g, 0, none⟩)) ∧ w.heap.size ≤ g ∧ g < w'.heap.size ∧ TabAt w' g 256 (xOf l) ∧ w'.cell? ⟨g, 512, none⟩ = some (.string ⟨t⟩) ∧ Same w w'

theorem xOf_lt {l : List Nat} (h : ∀ b ∈ l, b < 256) (c : Nat) : xOf l c < 256 := by
  induction l with
  | nil => simp [xOf]
  | cons b l ih =>
    simp only [xOf]
    split
    · exact h b (by simp)
    · exact ih fun b hb => h b (by simp [hb])

set_option maxRecDepth 20000 in
theorem nameEsc_any (w : World) : Calls Tryz.prog 113 #[] w (GivesEsc [32, 44] #[32, 44] w) := by
  have hb : ∀ k, (h : k < (⟨#[32, 44]⟩ : ByteArray).size) → EscB (((⟨#[32, 44]⟩ : ByteArray)[k]'h).toNat : Int) := fun k h => match k, h with
    | 0, _ => by show EscB ((32 : Nat) : Int); unfold EscB; decide
    | 1, _ => by show EscB ((44 : Nat) : Int); unfold EscB; decide
    | k + 2, h => absurd h (by simp [ByteArray.size])
  have hx : ∀ c, tR ⟨#[32, 44]⟩ 2 c = xOf [32, 44] c := fun c => by
    show (if c = unq 44 then 44 else (if c = unq 32 then 32 else 0)) = xOf [32, 44] c
    simp only [xOf, show unq 32 = 32 from rfl, show unq 44 = 44 from rfl]
    repeat' split
    all_goals omega
  have HX := hid hx
  have HB := hid hb
  clear hx hb
  go_enter Tryz.func113, Tryz.ntmps113
  go_wp2_with fail
  refine (newEscaper_any ⟨#[32, 44]⟩ _ (by decide) HB.out).mono ?_
  rintro e w1 ⟨g, rfl, hg, hE, hk⟩
  have HE := hid hE
  have HK := hid hk
  clear hE hk
  go_wp2_with fail
  go_ret
  exact ⟨g, rfl, hg, HE.out.lt, fun i hi => by rw [← HX.out]; exact HE.out.cellR hi, HE.out.cellS, HK.out⟩
set_option maxRecDepth 20000 in
theorem tagKeyEsc_any (w : World) : Calls Tryz.prog 114 #[] w (GivesEsc [44, 61, 32] #[44, 61, 32] w) := by
  have hb : ∀ k, (h : k < (⟨#[44, 61, 32]⟩ : ByteArray).size) → EscB (((⟨#[44, 61, 32]⟩ : ByteArray)[k]'h).toNat : Int) := fun k h => match k, h with
    | 0, _ => by show EscB ((44 : Nat) : Int); unfold EscB; decide
    | 1, _ => by show EscB ((61 : Nat) : Int); unfold EscB; decide
    | 2, _ => by show EscB ((32 : Nat) : Int); unfold EscB; decide
    | k + 3, h => absurd h (by simp [ByteArray.size])
  have hx : ∀ c, tR ⟨#[44, 61, 32]⟩ 3 c = xOf [44, 61, 32] c := fun c => by
    show (if c = unq 32 then 32 else (if c = unq 61 then 61 else (if c = unq 44 then 44 else 0))) = xOf [44, 61, 32] c
    simp only [xOf, show unq 44 = 44 from rfl, show unq 61 = 61 from rfl, show unq 32 = 32 from rfl]
    repeat' split
    all_goals omega
  have HX := hid hx
  have HB := hid hb
  clear hx hb
  go_enter Tryz.func114, Tryz.ntmps114
  go_wp2_with fail
  refine (newEscaper_any ⟨#[44, 61, 32]⟩ _ (by decide) HB.out).mono ?_
  rintro e w1 ⟨g, rfl, hg, hE, hk⟩
  have HE := hid hE
  have HK := hid hk
  clear hE hk
  go_wp2_with fail
  go_ret
  exact ⟨g, rfl, hg, HE.out.lt, fun i hi => by rw [← HX.out]; exact HE.out.cellR hi, HE.out.cellS, HK.out⟩
set_option maxRecDepth 20000 in
theorem tagValEsc_any (w : World) : Calls Tryz.prog 115 #[] w (GivesEsc [44, 32, 61] #[44, 32, 61] w) := by
  have hb : ∀ k, (h : k < (⟨#[44, 32, 61]⟩ : ByteArray).size) → EscB (((⟨#[44, 32, 61]⟩ : ByteArray)[k]'h).toNat : Int) := fun k h => match k, h with
    | 0, _ => by show EscB ((44 : Nat) : Int); unfold EscB; decide
    | 1, _ => by show EscB ((32 : Nat) : Int); unfold EscB; decide
    | 2, _ => by show EscB ((61 : Nat) : Int); unfold EscB; decide
    | k + 3, h => absurd h (by simp [ByteArray.size])
  have hx : ∀ c, tR ⟨#[44, 32, 61]⟩ 3 c = xOf [44, 32, 61] c := fun c => by
    show (if c = unq 61 then 61 else (if c = unq 32 then 32 else (if c = unq 44 then 44 else 0))) = xOf [44, 32, 61] c
    simp only [xOf, show unq 44 = 44 from rfl, show unq 32 = 32 from rfl, show unq 61 = 61 from rfl]
    repeat' split
    all_goals omega
  have HX := hid hx
  have HB := hid hb
  clear hx hb
  go_enter Tryz.func115, Tryz.ntmps115
  go_wp2_with fail
  refine (newEscaper_any ⟨#[44, 32, 61]⟩ _ (by decide) HB.out).mono ?_
  rintro e w1 ⟨g, rfl, hg, hE, hk⟩
  have HE := hid hE
  have HK := hid hk
  clear hE hk
  go_wp2_with fail
  go_ret
  exact ⟨g, rfl, hg, HE.out.lt, fun i hi => by rw [← HX.out]; exact HE.out.cellR hi, HE.out.cellS, HK.out⟩
set_option maxRecDepth 20000 in
theorem fieldKeyEsc_any (w : World) : Calls Tryz.prog 116 #[] w (GivesEsc [44, 61, 32] #[44, 61, 32] w) := by
  go_enter Tryz.func116, Tryz.ntmps116
  go_wp2_with fail
  refine (tagKeyEsc_any _).mono ?_
  rintro e w1 ⟨g, rfl, h⟩
  have H := hid h
  clear h
  go_wp2_with fail
  go_ret
  exact ⟨g, rfl, H.out⟩
set_option maxRecDepth 20000 in
theorem strEsc_any (w : World) : Calls Tryz.prog 101 #[] w (GivesEsc [92, 34, 10, 13, 9] #[92, 34, 10, 13, 9] w) := by
  have hb : ∀ k, (h : k < (⟨#[92, 34, 10, 13, 9]⟩ : ByteArray).size) → EscB (((⟨#[92, 34, 10, 13, 9]⟩ : ByteArray)[k]'h).toNat : Int) := fun k h => match k, h with
    | 0, _ => by show EscB ((92 : Nat) : Int); unfold EscB; decide
    | 1, _ => by show EscB ((34 : Nat) : Int); unfold EscB; decide
    | 2, _ => by show EscB ((10 : Nat) : Int); unfold EscB; decide
    | 3, _ => by show EscB ((13 : Nat) : Int); unfold EscB; decide
    | 4, _ => by show EscB ((9 : Nat) : Int); unfold EscB; decide
    | k + 5, h => absurd h (by simp [ByteArray.size])
  have hx : ∀ c, tR ⟨#[92, 34, 10, 13, 9]⟩ 5 c = xOf [92, 34, 10, 13, 9] c := fun c => by
    show (if c = unq 9 then 9 else (if c = unq 13 then 13 else (if c = unq 10 then 10 else (if c = unq 34 then 34 else (if c = unq 92 then 92 else 0))))) = xOf [92, 34, 10, 13, 9] c
    simp only [xOf, show unq 92 = 92 from rfl, show unq 34 = 34 from rfl, show unq 10 = 110 from rfl, show unq 13 = 114 from rfl, show unq 9 = 116 from rfl]
    repeat' split
    all_goals omega
  have HX := hid hx
  have HB := hid hb
  clear hx hb
  go_enter Tryz.func101, Tryz.ntmps101
  go_wp2_with fail
  refine (newEscaper_any ⟨#[92, 34, 10, 13, 9]⟩ _ (by decide) HB.out).mono ?_
  rintro e w1 ⟨g, rfl, hg, hE, hk⟩
  have HE := hid hE
  have HK := hid hk
  clear hE hk
  go_wp2_with fail
  go_ret
  exact ⟨g, rfl, hg, HE.out.lt, fun i hi => by rw [← HX.out]; exact HE.out.cellR hi, HE.out.cellS, HK.out⟩
end Go.Proofs.YticdagnbnmnidaaGreatDoor
namespace Go.Proofs.YticdagnbnmnidaaGreatDoor
open Go.RowKit

theorem tok_len {b : Nat → Nat} {L : Nat} {p : Nat → Bool} {x : Nat → Nat} : ∀ n i, i ≤ L → (tok b L p x n i).1.length + i ≤ (tok b L p x n i).2 := by
  intro n
  induction n with
  | zero => intro i h; simp [tok]
  | succ n ih =>
    intro i h
    simp only [tok]
    split
    · split
      · split
        · have := ih (i + 2) (by omega); simp only [List.length_cons]; omega
        · have := ih (i + 1) (by omega); simp only [List.length_cons]; omega
      · split
        · have := ih (i + 1) (by omega); simp only [List.length_cons]; omega
        · simp
    · simp

theorem EscOut.n_le {c : DC} {s : DS} {p : Nat → Bool} {x : Nat → Nat} {v : Value} {n : Nat} {f : Nat → Nat} {s' : DS} {w0 w w' : World} (h : EscOut c s p x v n f s' w w') (h0 : Ok w0 c w s) : s.r1 + n ≤ s'.r1 := by
  have h1 := h0.dec.r1_le
  cases hs : s.skip
  · have h2 := h.says hs
    have h3 := tok_len (b := c.b) (L := s.L) (p := p) (x := x) (s.L - s.r1) s.r1 h1
    have h4 := h.r1
    unfold tokAt at h4 h2
    rw [h4, h2.1]
    omega
  · have h2 := h.skips hs
    have h3 := h.le
    omega

theorem EscOut.step {c : DC} {s : DS} {p : Nat → Bool} {x : Nat → Nat} {v : Value} {n : Nat} {f : Nat → Nat} {s' : DS} {w0 w w' : World} (h : EscOut c s p x v n f s' w w') (h0 : Ok w0 c w s) (hs : s'.sec ≤ 5) : Step1 w0 c s s' w w' :=
  ⟨h0.far h.dec h.ok hs h.far.toFar, h.far, h.L, h.r0, h.skip, h.le⟩
theorem EscOut.tk {c : DC} {s : DS} {p : Nat → Bool} {x : Nat → Nat} {v : Value} {n : Nat} {f : Nat → Nat} {s' : DS} {w0 w w' : World} (h : EscOut c s p x v n f s' w w') (h0 : Ok w0 c w s) : Tk c s' w' v n f := by
  refine ⟨h.rd, h.loc, ?_⟩
  have h1 := h.n_le h0
  have h2 := h.dec.r1_le
  have h3 := h.dec.L_le
  have h4 := h.dec.big
  omega

/-- What takeEsc gives, in words of steps. -/
def Toks (w0 : World) (c : DC) (s : DS) (p : Nat → Bool) (x : Nat → Nat) (w : World) (e : Ending) (w' : World) : Prop :=
  ∃ (v : Value) (n : Nat) (f : Nat → Nat) (s' : DS) (err : Value), e = .returned (.tuple #[v, .int .i64 ((s.r1 : Int) - (s.r0 : Int)), err]) ∧ Step1 w0 c s s' w w' ∧ Tk c s' w' v n f ∧ s.r1 + n ≤ s'.r1 ∧
    s'.r1 = (tokAt c.b s.L p x s.r1).2 ∧ (s.skip = false → n = (tokAt c.b s.L p x s.r1).1.length ∧ ∀ j, j < n → f j = (tokAt c.b s.L p x s.r1).1.getD j 0) ∧
    ((err = .nilIface ∧ s'.sec = s.sec) ∨ (Bad w' err ∧ s'.sec = faultSec s.sec))

theorem fresh_touch {w : World} {c : DC} {s : DS} {g : Nat} (h : Dec w c s) (hg : w.heap.size ≤ g) : ¬ Touch c s.esc g := by
  rintro (e | e)
  · have := h.lt; omega
  · have := (h.own_ge e).2; omega

theorem takeEsc_at {w0 w : World} {c : DC} {s : DS} (h : Ok w0 c w s) (hval : ValidOK w0) (g G : Nat) (p : Nat → Bool) (l : List Nat) (hl : ∀ b ∈ l, b < 256) (hs : SetAt w g p) (hT : TabAt w G 256 (xOf l))
    (hg : ¬ Touch c s.esc g) (hG : ¬ Touch c s.esc G) :
    Calls Tryz.prog 103 #[.pointer (some ⟨c.D, 0, none⟩), .pointer (some ⟨g, 0, none⟩), .pointer (some ⟨G, 256, none⟩)] w (Toks w0 c s p (xOf l) w) := by
  refine (takeEsc_any c s g G 256 p (xOf l) w h.dec h.ok hs hT (xOf_lt hl) hg hG w0 hval h.lay h.D).mono ?_
  rintro e w1 ⟨v, n, f, s', err, rfl, hE, hor⟩
  have hsec : s'.sec ≤ 5 := by
    rcases hor with ⟨_, h2⟩ | ⟨_, h2⟩
    · rw [h2]; exact h.sec
    · rw [h2]; exact faultSec_le
  exact ⟨v, n, f, s', err, rfl, hE.step h hsec, hE.tk h, hE.n_le h, hE.r1, hE.says, hor⟩

set_option maxRecDepth 20000 in
theorem advance_eq (c : DC) (s : DS) (k : Nat) (w : World) (h : Dec w c s) (hk : s.sec = k) :
    Calls Tryz.prog 70 #[.pointer (some ⟨c.D, 0, none⟩), .int .u8 k] w (Looks (.tuple #[.bool true, .nilIface]) w) := by
  have f5 := h.f5
  rw [hk] at f5
  clear h hk
  go_enter Tryz.func70, Tryz.ntmps70
  go_wp2_with fail
  go_ret2
  exact ⟨rfl, Keep.refl _ _⟩

set_option maxRecDepth 20000 in
theorem advance_gt (c : DC) (s : DS) (k : Nat) (w : World) (h : Dec w c s) (hk : k < s.sec) :
    Calls Tryz.prog 70 #[.pointer (some ⟨c.D, 0, none⟩), .int .u8 k] w (Looks (.tuple #[.bool false, .nilIface]) w) := by
  have f5 := h.f5
  have hb : ((s.sec : Int) == (k : Int)) = false := by simp; omega
  have hlt : (k : Int) < (s.sec : Int) := by omega
  clear h
  go_enter Tryz.func70, Tryz.ntmps70
  go_wp2_with fail
  go_ret2
  exact ⟨rfl, Keep.refl _ _⟩
end Go.Proofs.YticdagnbnmnidaaGreatDoor
