/- append of bytes as a step of a region that draws its order; and what it leaves of a decoder. Conditions: none. The laid memory stays as it was; what the decoder needs of unicode/utf8. Conditions: none. -/
import Derived.Test.YticdagnbnmnidaaGreatDoorSaTok
import Derived.StillTailTactics
import Derived.Deep.RegionLaw
import Derived.Deep.RegionHeld3
import Derived.Deep.AppendLies
set_option linter.unusedSimpArgs false
set_option linter.unusedVariables false
namespace Go.Proofs.YticdagnbnmnidaaGreatDoor
open Go.RowKit

theorem still_tail_all {P : Program} {id : Nat} {Q : Exit → Act → World → Prop} {a : Act} {w : World} {l : List Oper} (n : Nat) (hm : P.follows .mixedOrders = true) (hB : Region.lexTailB .any l.toArray n = true)
    (h : ∀ W : World, Same w W → wpStill P l.toArray W (fun a' => wpList P l.toArray Q (l.drop n) a' W) (l.take n) a) : (Code.region id l.toArray true).wp P Q a w :=
  wp_region_still_tail n hm hB (h _ (same_drew w))

/-- what must be known of an append of bytes, in any world like w -/
structure AppFit (w : World) (base : Nat) (v : Value) (xs : List Nat) (T off m : Nat) (news : List Nat) : Prop where
  own : w.ownsRow base 5 1 v xs.length (xs.map fun b : Nat => Value.int .u8 b)
  len : news.length = m
  cell : ∀ j, j < m → w.cell? ⟨T, off + j, none⟩ = some (.int .u8 (news.getD j 0 : Nat))
  small : xs.length + m ≤ 1000000000000
  base_le : base ≤ w.heap.size

theorem AppFit.same {w w' : World} {base : Nat} {v : Value} {xs : List Nat} {T off m : Nat} {news : List Nat} (h : AppFit w base v xs T off m news) (hk : Same w w') : AppFit w' base v xs T off m news :=
  { h with
    own := h.own.kept (row := none) ⟨hk.os, hk.tape, hk.output, hk.size, fun k hk' _ => hk.block k hk' id⟩ (by cases v.ownBlock <;> simp)
    cell := fun j hj => by
      have := h.cell j hj
      rw [← this]
      exact hk.cell (p := ⟨T, off + j, none⟩) (lt_of_cell this) id
    base_le := Nat.le_trans h.base_le hk.size }

theorem addr_add (T off j : Nat) : (⟨T, off, none⟩ : Addr).add j = ⟨T, off + j, none⟩ := by unfold Addr.add; split <;> simp_all

/-- append of bytes onto a slice of the call's own, as one step of a region that draws -/
theorem step_append_bytes {ops : Array Oper} {o : Oper} {a : Act} {w : World} {K : Act → World → Prop} {Q : Exit → Act → World → Prop} {E : Prop}
    (hgd : o.guard = none) (s x : Operand) (ho : o.op = .call { callee := .builtin .append, args := #[s, x], argTypes := #[75, 75] })
    (base : Nat) (v : Value) (xs : List Nat) (T off m c : Nat) (news : List Nat) (hf : AppFit w base v xs T off m news)
    (hs : a.eval s = v) (hx : a.eval x = .slice (some ⟨T, off, none⟩) m c)
    (h : ∀ v' w', Grow w w' base 5 1 v v' xs.length m (xs.map fun b : Nat => Value.int .u8 b) (news.map fun b : Nat => Value.int .u8 b) → K (a.put o.dst v') w') :
    if Region.wanted o (yielded ops a.tmps) = true then Oper.wp Tryz.prog o a w K Q else E := by
  have hw : Region.wanted o (yielded ops a.tmps) = true := by simp [Region.wanted, hgd]
  rw [if_pos hw]
  obtain ⟨i5, hi, hz0, hz1, hz2⟩ := info_parts info5
  have hsm := hf.small
  obtain ⟨v', w', hr, hg⟩ := run_append_all (P := Tryz.prog) w base 75 o.type 5 i5 (.int .u8 0) 1 1 Tryz.underlying75 hi hz0 hz1 hz2 rfl (by decide) v xs.length _ hf.own ⟨T, off, none⟩ m c (news.map fun b : Nat => Value.int .u8 b) (by rw [List.length_map, hf.len, Nat.mul_one]) (by
      intro j u hj
      rw [List.getElem?_map] at hj
      by_cases hlt : j < m
      · have e : news[j]? = some (news.getD j 0) := by rw [List.getD_eq_getElem?_getD, List.getElem?_eq_getElem (by rw [hf.len]; exact hlt)]; rfl
        rw [e] at hj
        obtain rfl := Option.some.inj hj
        rw [addr_add T off j]
        exact hf.cell j hlt
      · rw [List.getElem?_eq_none (by rw [hf.len]; omega)] at hj; cases hj) (by
      intro u hu
      obtain ⟨b, _, rfl⟩ := List.mem_map.1 hu
      rfl) (by unfold maxLen; omega) (by omega) hf.base_le
  unfold Oper.wp execOp
  simp only [ho, resolve, invoke, builtin, Sem.run_bind, Sem.run_pure, Result.andThen_ok, List.map_toArray, List.map_cons, List.map_nil, hs, hx, hr]
  exact h v' w' hg

theorem Dec.own_ge {w : World} {c : DC} {s : DS} (h : Dec w c s) {k : Nat} (hk : s.esc.ownBlock = some k) : c.base ≤ k ∧ k < w.heap.size := by
  rcases h.esc.2 with ⟨e, _⟩ | ⟨g, cap, cur, e, hb, hg, _⟩
  · rw [e] at hk; cases hk
  · rw [e] at hk
    injection hk with hk
    subst hk
    exact ⟨hb, (Array.getElem?_eq_some_iff.1 hg).1⟩

/-- the decoder with more that is unescaped -/
def DS.more (s : DS) (v : Value) (news : List Nat) : DS := { s with esc := v, xs := s.xs ++ news }

/-- What an append onto the slice of unescaped bytes leaves of the decoder. -/
structure Grew (c : DC) (s : DS) (v : Value) (news : List Nat) (w w' : World) : Prop where
  cell : ∀ i, w'.cell? ⟨c.D, i, none⟩ = w.cell? ⟨c.D, i, none⟩
  frozen : ∀ i, w'.frozen? ⟨c.D, i, none⟩ = false
  dec : Dec (w'.setCell ⟨c.D, 7, none⟩ v) c (s.more v news)
  far : Far1 c s (s.more v news) w (w'.setCell ⟨c.D, 7, none⟩ v)

theorem Dec.grew {w w' : World} {c : DC} {s : DS} {v : Value} {m : Nat} {news : List Nat} (h : Dec w c s) (hm : news.length = m)
    (hg : Grow w w' c.base 5 1 s.esc v s.xs.length m (s.xs.map fun b : Nat => Value.int .u8 b) (news.map fun b : Nat => Value.int .u8 b)) : Grew c s v news w w' := by
  have hne : s.esc.ownBlock ≠ some c.D := own_ne h.esc h.row
  have hnT : s.esc.ownBlock ≠ some c.T := fun e => by have := (h.own_ge e).1; have := h.base_T; omega
  have hk1 : Keep (fun k => s.esc.ownBlock = some k) w w' := (Keep.refl _ w).grown hg.keep (fun k e _ => e)
  have hrow : Row w' c.D 134 (s.cells c) := h.row.keep hk1 hne
  have htx : Bs w' c.T 0 c.bs := h.text.keep hk1 hnT
  have hb : c.base ≤ w'.heap.size := Nat.le_trans h.base_le hg.keep.size
  have hown := hg.own
  rw [← List.map_append, ← hm, ← List.length_append] at hown
  refine ⟨fun i => by rw [hrow.cell, h.row.cell], fun i => hrow.frozen i, ?_, ?_⟩
  · exact { h with
      row := hrow.set 7 _
      text := htx.setCell h.D_T _
      esc := ownsRow_set_ne hown (own_ne hown hrow) _
      base_le := by simpa [World.setCell] using hb }
  · refine ⟨⟨(hk1.mono fun k _ e => (.inr e : Touch c s.esc k)).setCell (fun _ => .inl rfl) _, fun k e hlt => ?_⟩, fun b j u hbD hu hj => ?_, ?_⟩
    · rcases hg.place with e2 | e2
      · rw [← e2]; exact e
      · have e3 : v.ownBlock = some k := e
        rw [e2] at e3
        injection e3 with e3
        omega
    · rw [World.cell?_setCell_other _ _ _ _ (fun e => hbD (by first | (injection e with e1; exact e1) | (injection e with e1; exact e1.symm)))]
      exact hg.old b j u hu (fun e => by have := hj e; omega)
    · simp [DS.more]
end Go.Proofs.YticdagnbnmnidaaGreatDoor
namespace Go.Proofs.YticdagnbnmnidaaGreatDoor
open Go.RowKit

/-- The blocks of w0 are in w as they were. -/
def Lay (w0 w : World) : Prop := ∀ k, k < w0.heap.size → w.heap[k]? = w0.heap[k]?
theorem Lay.keep {w0 w w' : World} {S : Nat → Prop} (h : Lay w0 w) (hk : Keep S w w') (hs : ∀ k, k < w0.heap.size → ¬ S k) : Lay w0 w' := fun k hl => by
  rw [hk.block k ?_ (hs k hl), h k hl]
  have e := h k hl
  rcases Nat.lt_or_ge k w.heap.size with h1 | h1
  · exact h1
  · rw [Array.getElem?_eq_none h1, Array.getElem?_eq_getElem hl] at e; cases e
theorem Lay.same {w0 w w' : World} (h : Lay w0 w) (hk : Same w w') : Lay w0 w' := h.keep hk (fun _ _ h => h)
theorem Lay.far {w0 w w' : World} {c : DC} {s s' : DS} (h : Lay w0 w) (hd : Dec w c s) (hD : w0.heap.size ≤ c.base) (hf : Far c s s' w w') : Lay w0 w' :=
  h.keep hf.keep (fun k hk ht => by
    have hb := hd.base_D
    rcases ht with e | e
    · omega
    · have := (hd.own_ge e).1; omega)

/-- a call that answers yes or no, and turns nothing -/
def GivesBool (w : World) (e : Ending) (w' : World) : Prop := ∃ b : Bool, e = .returned (.bool b) ∧ Same w w'
/-- utf8.Valid answers, in any world that bears the laid memory. -/
def ValidOK (w0 : World) : Prop := ∀ (v : Value) (n : Nat) (f : Nat → Nat) (w : World), Lay w0 w → Rd w v n f → n ≤ 3000000 → Calls Tryz.prog 169 #[v] w (GivesBool w)
end Go.Proofs.YticdagnbnmnidaaGreatDoor
