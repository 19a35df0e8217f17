/- Tokens with escapes, plainly: what a token of a text says, and where it ends; how the decoder's loop comes to it. No program in sight. What a call of the decoder leaves as it was: all but its own block and its slice of unescaped bytes; what was told of older tokens stays. Conditions: none. -/
import Derived.Below
import Derived.Test.YticdagnbnmnidaaGreatDoorSaSyn
set_option linter.unusedSimpArgs false
set_option linter.unusedVariables false
namespace Go.Proofs.YticdagnbnmnidaaGreatDoor

/-- A token from place i on: what it says, and where it ends. b: the text's bytes; L: its end; p: the set; x: what is escaped by a backslash and this byte (0: it is none). -/
def tok (b : Nat → Nat) (L : Nat) (p : Nat → Bool) (x : Nat → Nat) : Nat → Nat → List Nat × Nat
  | 0, i => ([], i)
  | n + 1, i =>
    if i < L then
      if b i = 92 then
        if i + 1 < L ∧ x (b (i + 1)) ≠ 0 then (x (b (i + 1)) :: (tok b L p x n (i + 2)).1, (tok b L p x n (i + 2)).2)
        else (92 :: (tok b L p x n (i + 1)).1, (tok b L p x n (i + 1)).2)
      else if p (b i) = true then (b i :: (tok b L p x n (i + 1)).1, (tok b L p x n (i + 1)).2)
      else ([], i)
    else ([], i)

variable {b : Nat → Nat} {L : Nat} {p : Nat → Bool} {x : Nat → Nat}

theorem tok_fuel : ∀ (n m i : Nat), L - i ≤ n → L - i ≤ m → tok b L p x n i = tok b L p x m i := by
  intro n
  induction n with
  | zero =>
    intro m i hn hm
    cases m with
    | zero => rfl
    | succ m => simp only [tok]; rw [if_neg (by omega)]
  | succ n ih =>
    intro m i hn hm
    cases m with
    | zero => simp only [tok]; rw [if_neg (by omega)]
    | succ m =>
      simp only [tok]
      by_cases h : i < L
      · rw [if_pos h, if_pos h, ih m (i + 1) (by omega) (by omega), ih m (i + 2) (by omega) (by omega)]
      · rw [if_neg h, if_neg h]

/-- The token at i. -/
def tokAt (b : Nat → Nat) (L : Nat) (p : Nat → Bool) (x : Nat → Nat) (i : Nat) : List Nat × Nat := tok b L p x (L - i) i

theorem tokAt_end {i : Nat} (h : L ≤ i) : tokAt b L p x i = ([], i) := by
  unfold tokAt
  rw [show L - i = 0 by omega]; rfl
theorem tokAt_eq {i : Nat} (h : i < L) : tokAt b L p x i =
    if b i = 92 then
      if i + 1 < L ∧ x (b (i + 1)) ≠ 0 then (x (b (i + 1)) :: (tokAt b L p x (i + 2)).1, (tokAt b L p x (i + 2)).2)
      else (92 :: (tokAt b L p x (i + 1)).1, (tokAt b L p x (i + 1)).2)
    else if p (b i) = true then (b i :: (tokAt b L p x (i + 1)).1, (tokAt b L p x (i + 1)).2)
    else ([], i) := by
  unfold tokAt
  obtain ⟨n, hn⟩ : ∃ n, L - i = n + 1 := ⟨L - i - 1, by omega⟩
  rw [hn]
  conv => lhs; simp only [tok]
  rw [if_pos h, tok_fuel n (L - (i + 1)) (i + 1) (by omega) (by omega), tok_fuel n (L - (i + 2)) (i + 2) (by omega) (by omega)]
theorem tokAt_stop {i : Nat} (h : i < L) (h1 : ¬ b i = 92) (h2 : p (b i) = false) : tokAt b L p x i = ([], i) := by
  rw [tokAt_eq h, if_neg h1, if_neg (by simp [h2])]
theorem tokAt_one {i : Nat} (h : i < L) (h1 : ¬ b i = 92) (h2 : p (b i) = true) : tokAt b L p x i = (b i :: (tokAt b L p x (i + 1)).1, (tokAt b L p x (i + 1)).2) := by
  rw [tokAt_eq h, if_neg h1, if_pos h2]
theorem tokAt_esc {i : Nat} (h : i + 1 < L) (h1 : b i = 92) (h2 : ¬ x (b (i + 1)) = 0) : tokAt b L p x i = (x (b (i + 1)) :: (tokAt b L p x (i + 2)).1, (tokAt b L p x (i + 2)).2) := by
  rw [tokAt_eq (by omega), if_pos h1, if_pos ⟨h, h2⟩]
theorem tokAt_back {i : Nat} (h : i < L) (h1 : b i = 92) (h2 : ¬ (i + 1 < L ∧ x (b (i + 1)) ≠ 0)) : tokAt b L p x i = (b i :: (tokAt b L p x (i + 1)).1, (tokAt b L p x (i + 1)).2) := by
  rw [tokAt_eq h, if_pos h1, if_neg h2, h1]

theorem tok_bounds : ∀ n i, L - i ≤ n → i ≤ L → i ≤ (tok b L p x n i).2 ∧ (tok b L p x n i).2 ≤ L := by
  intro n
  induction n with
  | zero => intro i h h'; simp only [tok]; omega
  | succ n ih =>
    intro i h h'
    simp only [tok]
    by_cases hi : i < L
    · rw [if_pos hi]
      have h1 := ih (i + 1) (by omega) (by omega)
      by_cases hb : b i = 92
      · rw [if_pos hb]
        by_cases he : i + 1 < L ∧ x (b (i + 1)) ≠ 0
        · rw [if_pos he]
          have h2 := ih (i + 2) (by omega) (by omega)
          simp only; omega
        · rw [if_neg he]; simp only; omega
      · rw [if_neg hb]
        by_cases hp : p (b i) = true
        · rw [if_pos hp]; simp only; omega
        · rw [if_neg hp]; simp only; omega
    · rw [if_neg hi]; simp only; omega
theorem tokAt_bounds {i : Nat} (h : i ≤ L) : i ≤ (tokAt b L p x i).2 ∧ (tokAt b L p x i).2 ≤ L := tok_bounds _ i (Nat.le_refl _) h

/-- the bytes from a on, up to e -/
def raw (b : Nat → Nat) (a e : Nat) : List Nat := (List.range (e - a)).map fun k => b (a + k)
theorem raw_length (b : Nat → Nat) (a e : Nat) : (raw b a e).length = e - a := by simp [raw]
theorem raw_nil (b : Nat → Nat) (a : Nat) : raw b a a = [] := by simp [raw]
theorem raw_snoc (b : Nat → Nat) {a e : Nat} (h : a ≤ e) : raw b a (e + 1) = raw b a e ++ [b e] := by
  unfold raw
  rw [show e + 1 - a = (e - a) + 1 by omega, List.range_succ, List.map_append]
  simp [show a + (e - a) = e by omega]

/-- How the loop stands at place i: su: from where on nothing is unescaped yet; O: what is. -/
structure TS (b : Nat → Nat) (L : Nat) (p : Nat → Bool) (x : Nat → Nat) (r1 : Nat) (skip : Bool) (i su : Nat) (O : List Nat) : Prop where
  le : r1 ≤ su
  le' : su ≤ i
  leL : i ≤ L
  nil_ : O = [] → su = r1
  len : O.length ≤ su - r1
  skips : skip = true → O = []
  ends : (tokAt b L p x r1).2 = (tokAt b L p x i).2
  says : skip = false → (tokAt b L p x r1).1 = O ++ raw b su i ++ (tokAt b L p x i).1

namespace TS
variable {r1 i su : Nat} {skip : Bool} {O : List Nat}
theorem init (h : r1 ≤ L) : TS b L p x r1 skip r1 r1 [] :=
  ⟨Nat.le_refl _, Nat.le_refl _, h, fun _ => rfl, by simp, fun _ => rfl, rfl, fun _ => by simp [raw_nil]⟩
theorem one (t : TS b L p x r1 skip i su O) (h : i < L) (h1 : ¬ b i = 92) (h2 : p (b i) = true) : TS b L p x r1 skip (i + 1) su O :=
  ⟨t.le, Nat.le_succ_of_le t.le', h, t.nil_, t.len, t.skips, by rw [t.ends, tokAt_one h h1 h2], fun hs => by rw [t.says hs, tokAt_one h h1 h2, raw_snoc b t.le']; simp⟩
theorem back (t : TS b L p x r1 skip i su O) (h : i < L) (h1 : b i = 92) (h2 : ¬ (i + 1 < L ∧ x (b (i + 1)) ≠ 0)) : TS b L p x r1 skip (i + 1) su O :=
  ⟨t.le, Nat.le_succ_of_le t.le', h, t.nil_, t.len, t.skips, by rw [t.ends, tokAt_back h h1 h2], fun hs => by rw [t.says hs, tokAt_back h h1 h2, raw_snoc b t.le']; simp⟩
theorem esc (t : TS b L p x r1 false i su O) (h : i + 1 < L) (h1 : b i = 92) (h2 : ¬ x (b (i + 1)) = 0) : TS b L p x r1 false (i + 2) (i + 2) (O ++ raw b su i ++ [x (b (i + 1))]) := by
  have hl := t.le
  have hl' := t.le'
  have hn := t.len
  refine ⟨by omega, Nat.le_refl _, h, fun e => absurd e (by simp), ?_, fun e => (by cases e), by rw [t.ends, tokAt_esc h h1 h2], fun hs => by rw [t.says hs, tokAt_esc h h1 h2, raw_nil]; simp⟩
  simp only [List.length_append, raw_length, List.length_singleton]
  omega
theorem escSkip (t : TS b L p x r1 true i su O) (h : i + 1 < L) (h1 : b i = 92) (h2 : ¬ x (b (i + 1)) = 0) : TS b L p x r1 true (i + 2) su O :=
  ⟨t.le, Nat.le_trans t.le' (by omega), h, t.nil_, t.len, t.skips, by rw [t.ends, tokAt_esc h h1 h2], fun hs => by cases hs⟩
theorem fin_end (t : TS b L p x r1 skip L su O) : (tokAt b L p x r1).2 = L ∧ (skip = false → (tokAt b L p x r1).1 = O ++ raw b su L) := by
  have e := tokAt_end (b := b) (p := p) (x := x) (Nat.le_refl L)
  exact ⟨by rw [t.ends, e], fun hs => by rw [t.says hs, e]; simp⟩
theorem fin_stop (t : TS b L p x r1 skip i su O) (h : i < L) (h1 : ¬ b i = 92) (h2 : p (b i) = false) : (tokAt b L p x r1).2 = i ∧ (skip = false → (tokAt b L p x r1).1 = O ++ raw b su i) := by
  have e := tokAt_stop (x := x) h h1 h2
  exact ⟨by rw [t.ends, e], fun hs => by rw [t.says hs, e]; simp⟩
end TS

/-- how long a key is when it is escaped -/
def escLen : List Nat → Nat
  | [] => 0
  | c :: r => (if c = 44 ∨ c = 61 ∨ c = 32 then 2 else 1) + escLen r

theorem tok_escLen (hp : p 44 = false ∧ p 61 = false ∧ p 32 = false) : ∀ n i, L - i ≤ n → i ≤ L → escLen (tok b L p x n i).1 + i ≤ (tok b L p x n i).2 := by
  intro n
  induction n with
  | zero => intro i h h'; simp only [tok, escLen]; omega
  | succ n ih =>
    intro i h h'
    simp only [tok]
    by_cases hi : i < L
    · rw [if_pos hi]
      have h1 := ih (i + 1) (by omega) (by omega)
      by_cases hb : b i = 92
      · rw [if_pos hb]
        by_cases he : i + 1 < L ∧ x (b (i + 1)) ≠ 0
        · rw [if_pos he]
          have h2 := ih (i + 2) (by omega) (by omega)
          simp only [escLen]; split <;> omega
        · rw [if_neg he]; simp only [escLen]; rw [if_neg (by omega)]; omega
      · rw [if_neg hb]
        by_cases hpb : p (b i) = true
        · rw [if_pos hpb]
          simp only [escLen]
          rw [if_neg (by
            rintro (e | e | e) <;> rw [e] at hpb
            · rw [hp.1] at hpb; cases hpb
            · rw [hp.2.1] at hpb; cases hpb
            · rw [hp.2.2] at hpb; cases hpb)]
          omega
        · rw [if_neg hpb]; simp only [escLen]; omega
    · rw [if_neg hi]; simp only [escLen]; omega
theorem tokAt_escLen (hp : p 44 = false ∧ p 61 = false ∧ p 32 = false) {i : Nat} (h : i ≤ L) : escLen (tokAt b L p x i).1 + i ≤ (tokAt b L p x i).2 := tok_escLen hp _ i (Nat.le_refl _) h

end Go.Proofs.YticdagnbnmnidaaGreatDoor
namespace Go.Proofs.YticdagnbnmnidaaGreatDoor
open Go.RowKit

/-- the blocks that a decoder may turn -/
def Touch (c : DC) (v : Value) (k : Nat) : Prop := k = c.D ∨ v.ownBlock = some k

/-- From s in w the decoder came to s' in w'. -/
structure Far (c : DC) (s s' : DS) (w w' : World) : Prop where
  keep : Keep (Touch c s.esc) w w'
  grow : ∀ k, s'.esc.ownBlock = some k → k < w.heap.size → s.esc.ownBlock = some k

/-- .. and nothing that was unescaped before is lost. -/
structure Far1 (c : DC) (s s' : DS) (w w' : World) : Prop extends Far c s s' w w' where
  old : ∀ b j u, b ≠ c.D → w.cell? ⟨b, j, none⟩ = some u → (s.esc.ownBlock = some b → j < s.xs.length) → w'.cell? ⟨b, j, none⟩ = some u
  len : s.xs.length ≤ s'.xs.length

theorem Far.refl (c : DC) (s : DS) (w : World) : Far c s s w w := ⟨Keep.refl _ _, fun _ h _ => h⟩
theorem Far.trans {c : DC} {s s1 s2 : DS} {w w1 w2 : World} (h : Far c s s1 w w1) (k : Far c s1 s2 w1 w2) : Far c s s2 w w2 :=
  ⟨h.keep.trans' k.keep (fun i hi ht => by
      rcases ht with e | e
      · exact .inl e
      · exact .inr (h.grow i e hi)),
   fun i hi hlt => h.grow i (k.grow i hi (Nat.lt_of_lt_of_le hlt h.keep.size)) hlt⟩
theorem Far1.refl (c : DC) (s : DS) (w : World) : Far1 c s s w w := ⟨Far.refl c s w, fun _ _ _ _ h _ => h, Nat.le_refl _⟩
theorem Far1.trans {c : DC} {s s1 s2 : DS} {w w1 w2 : World} (h : Far1 c s s1 w w1) (k : Far1 c s1 s2 w1 w2) : Far1 c s s2 w w2 :=
  ⟨h.toFar.trans k.toFar, fun b j u hb hu hj => k.old b j u hb (h.old b j u hb hu hj) (fun e => Nat.lt_of_lt_of_le (hj (h.grow b e (lt_of_cell hu))) h.len), Nat.le_trans h.len k.len⟩
/-- a step that turns the decoder's own block alone, and not what is unescaped -/
theorem Far1.of_D {c : DC} {s s' : DS} {w w' : World} (h : Keep (fun k => k = c.D) w w') (he : s'.esc = s.esc) (hx : s'.xs = s.xs) : Far1 c s s' w w' :=
  ⟨⟨h.mono fun _ _ e => .inl e, fun k hk _ => by rw [he] at hk; exact hk⟩, fun b j u hb hu _ => by rw [← hu]; exact h.cell (p := ⟨b, j, none⟩) (lt_of_cell hu) hb, by rw [hx]; exact Nat.le_refl _⟩
theorem Far1.same {c : DC} {s : DS} {w w' : World} (h : Same w w') : Far1 c s s w w' := Far1.of_D h.wide rfl rfl

/-- A slice of bytes that lies in the text, or in what is unescaped. -/
structure Loc (c : DC) (s : DS) (v : Value) : Prop where
  at_ : ∀ T off n cap, v = .slice (some ⟨T, off, none⟩) n cap → 0 < n → T ≠ c.D ∧ (s.esc.ownBlock = some T → off + n ≤ s.xs.length)

theorem Loc.far {c : DC} {s s' : DS} {w w' : World} {v : Value} {n : Nat} {f : Nat → Nat} (h : Loc c s v) (hr : Rd w v n f) (hf : Far1 c s s' w w') : Loc c s' v := by
  refine ⟨fun T off m cap e hm => ?_⟩
  obtain ⟨h1, h2⟩ := h.at_ T off m cap e hm
  refine ⟨h1, fun e2 => ?_⟩
  obtain ⟨A, k, e3, _, _, h4⟩ := hr.form
  rw [e] at e3
  injection e3 with e4 e5 e6
  obtain ⟨T', off', e7, h5⟩ := h4 (by omega)
  rw [← e4] at e7
  injection e7 with e8
  injection e8 with e9 e10
  subst e9 e10 e5
  exact Nat.le_trans (h2 (hf.grow T e2 (lt_of_cell (h5 0 hm)))) hf.len

theorem Rd.far {c : DC} {s s' : DS} {w w' : World} {v : Value} {n : Nat} {f : Nat → Nat} (hr : Rd w v n f) (h : Loc c s v) (hf : Far1 c s s' w w') : Rd w' v n f := by
  obtain ⟨⟨A, cap, rfl, h1, h2, h3⟩, h4⟩ := hr
  refine ⟨⟨A, cap, rfl, h1, h2, fun hn => ?_⟩, h4⟩
  obtain ⟨T, off, rfl, hc⟩ := h3 hn
  obtain ⟨hd, he⟩ := h.at_ T off n cap rfl hn
  exact ⟨T, off, rfl, fun j hj => hf.old T (off + j) _ hd (hc j hj) (fun e => by have := he e; omega)⟩

/-- An array of 256 bytes at a place. -/
def TabAt (w : World) (G off : Nat) (x : Nat → Nat) : Prop := ∀ i, i < 256 → w.cell? ⟨G, off + i, none⟩ = some (.int .u8 (x i : Nat))
theorem TabAt.keep {S : Nat → Prop} {w w' : World} {G off : Nat} {x : Nat → Nat} (h : TabAt w G off x) (hk : Keep S w w') (hn : ¬ S G) : TabAt w' G off x := fun i hi => by
  have := h i hi
  rw [← this]
  exact hk.cell (p := ⟨G, off + i, none⟩) (lt_of_cell this) hn
theorem TabAt.same {w w' : World} {G off : Nat} {x : Nat → Nat} (h : TabAt w G off x) (hk : Same w w') : TabAt w' G off x := h.keep hk id
end Go.Proofs.YticdagnbnmnidaaGreatDoor
