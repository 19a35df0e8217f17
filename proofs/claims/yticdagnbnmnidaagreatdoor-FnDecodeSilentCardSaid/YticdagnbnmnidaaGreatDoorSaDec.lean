/- The decoder over bytes: what it holds, and its small methods. Conditions: none. The decoder over bytes: the methods that turn its fields (at, advance, reset). Conditions: none. -/
import Derived.Test.YticdagnbnmnidaaGreatDoorSaBase
import Derived.Test.YticdagnbnmnidaaGreatDoorSaSets
set_option linter.unusedSimpArgs false
set_option linter.unusedVariables false
namespace Go.Proofs.YticdagnbnmnidaaGreatDoor
open Go.RowKit

/-- What a decoder over bytes holds: how many bytes of the text its buffer has, the two places, the part, whether it skips, the slice of unescaped bytes, the line. -/
structure DS where
  L : Nat
  cap : Nat
  r0 : Nat
  r1 : Nat
  sec : Nat
  skip : Bool
  esc : Value
  xs : List Nat
  line : Int

/-- Where a decoder lies: its own block, its text's block, the text. -/
structure DC where
  D : Nat
  T : Nat
  base : Nat
  bs : List UInt8

/-- the text's byte at a place, or 0 -/
def DC.b (c : DC) (i : Nat) : Nat := (c.bs.getD i 0).toNat
theorem DC.b_lt (c : DC) (i : Nat) : c.b i < 256 := UInt8.toNat_lt _

def DS.cells (c : DC) (s : DS) : Array Value :=
  #[.nilIface, .slice (some ⟨c.T, 0, none⟩) s.L s.cap, .int .i64 s.r0, .int .i64 s.r1, .bool true, .int .u8 s.sec, .bool s.skip, s.esc, .int .i64 s.line, .nilIface]

/-- The decoder stands so in this world. -/
structure Dec (w : World) (c : DC) (s : DS) : Prop where
  row : Row w c.D 134 (s.cells c)
  text : Bs w c.T 0 c.bs
  esc : w.ownsRow c.base 5 1 s.esc s.xs.length (s.xs.map fun b : Nat => Value.int .u8 b)
  base_le : c.base ≤ w.heap.size
  L_le : s.L ≤ c.bs.length
  cap_le : s.L ≤ s.cap
  r0_le : s.r0 ≤ s.r1
  r1_le : s.r1 ≤ s.L
  big : c.bs.length ≤ 1000000
  capBig : s.cap ≤ 9223372036854775807
  D_T : c.D ≠ c.T
  base_D : c.base ≤ c.D
  base_T : c.T < c.base

theorem own_ne {w : World} {base : Nat} {v : Value} {n : Nat} {xs : List Value} {D : Nat} {cs : Array Value} (h : w.ownsRow base 5 1 v n xs) (hr : Row w D 134 cs) : v.ownBlock ≠ some D := fun e => by
  rcases h.2 with ⟨h1, -⟩ | ⟨g, cap, cur, h1, -, h2, -⟩
  · rw [h1] at e; cases e
  · rw [h1] at e
    have e' : g = D := Option.some.inj e
    subst e'
    have := Option.some.inj (hr.symm.trans h2)
    injection this with _ h3
    cases h3
theorem ownsRow_set_ne {w : World} {base : Nat} {e : TypeId} {size : Nat} {v : Value} {n : Nat} {xs : List Value} (h : w.ownsRow base e size v n xs) {a : Addr} (ha : v.ownBlock ≠ some a.block) (u : Value) : (w.setCell a u).ownsRow base e size v n xs := by
  obtain ⟨h1, h2⟩ := h
  refine ⟨h1, ?_⟩
  rcases h2 with h2 | ⟨g, cap, cur, hv, hg, hh, r⟩
  · exact Or.inl h2
  · have hne : g ≠ a.block := fun e => ha (by rw [hv]; exact congrArg some e)
    exact Or.inr ⟨g, cap, cur, hv, hg, by rw [Below.heap_setCell _ _ _ _ (by first | exact hne | exact hne.symm)]; exact hh, r⟩

/-- what is unescaped has no more bytes than are gone by in this entry -/
def DS.ok (s : DS) : Prop := s.r0 + s.xs.length ≤ s.r1

namespace Dec
variable {w w' : World} {c : DC} {s : DS} {S : Nat → Prop}
theorem lt (h : Dec w c s) : c.D < w.heap.size := h.row.lt
theorem f1 (h : Dec w c s) : w.cell? ⟨c.D, 1, none⟩ = some (.slice (some ⟨c.T, 0, none⟩) s.L s.cap) := h.row.cell 1
theorem f2 (h : Dec w c s) : w.cell? ⟨c.D, 2, none⟩ = some (.int .i64 s.r0) := h.row.cell 2
theorem f3 (h : Dec w c s) : w.cell? ⟨c.D, 3, none⟩ = some (.int .i64 s.r1) := h.row.cell 3
theorem f4 (h : Dec w c s) : w.cell? ⟨c.D, 4, none⟩ = some (.bool true) := h.row.cell 4
theorem f5 (h : Dec w c s) : w.cell? ⟨c.D, 5, none⟩ = some (.int .u8 s.sec) := h.row.cell 5
theorem f6 (h : Dec w c s) : w.cell? ⟨c.D, 6, none⟩ = some (.bool s.skip) := h.row.cell 6
theorem f7 (h : Dec w c s) : w.cell? ⟨c.D, 7, none⟩ = some s.esc := h.row.cell 7
theorem f8 (h : Dec w c s) : w.cell? ⟨c.D, 8, none⟩ = some (.int .i64 s.line) := h.row.cell 8
theorem f9 (h : Dec w c s) : w.cell? ⟨c.D, 9, none⟩ = some .nilIface := h.row.cell 9
theorem fr (h : Dec w c s) (i : Nat) : w.frozen? ⟨c.D, i, none⟩ = false := h.row.frozen i
/-- the text's byte at a place -/
theorem byte (h : Dec w c s) {i : Nat} (hi : i < c.bs.length) : w.cell? ⟨c.T, i, none⟩ = some (.int .u8 (c.b i : Nat)) := by
  have := h.text i hi
  rw [Nat.zero_add] at this
  exact this
/-- steps that leave the decoder's blocks alone -/
theorem same (h : Dec w c s) (hk : Same w w') : Dec w' c s := by
  exact { h with
    row := h.row.same hk
    text := h.text.same hk
    esc := h.esc.kept (row := none) ⟨hk.os, hk.tape, hk.output, hk.size, fun k hk' _ => hk.block k hk' id⟩ (by cases s.esc.ownBlock <;> simp)
    base_le := Nat.le_trans h.base_le hk.size }
end Dec

/-- A call that only looks: a value, and nothing is turned. -/
def Looks (v : Value) (w : World) (e : Ending) (w' : World) : Prop := e = .returned v ∧ Same w w'

theorem same_drewN (w : World) (n : Nat) : Same w (w.drewN n) := (Keep.refl _ w).drewN n
theorem same_drew (w : World) : Same w w.drew := (Keep.refl _ w).drew

set_option maxRecDepth 20000 in
theorem ensure1_any (c : DC) (s : DS) (n : Nat) (w : World) (h : Dec w c s) :
    Calls Tryz.prog 128 #[.pointer (some ⟨c.D, 0, none⟩), .int .i64 n] w (Looks (.bool false) w) := by
  have f4 := h.f4
  clear h
  go_enter Tryz.func128, Tryz.ntmps128
  go_wp2_with fail
  refine wp_loop_rounds 1 ?_
  rw [rounds_succ]
  go_wp2_with fail
  go_ret
  exact ⟨rfl, Keep.refl _ _⟩

set_option maxRecDepth 20000 in
theorem ensure_yes (c : DC) (s : DS) (n : Nat) (w : World) (h : Dec w c s) (hn : s.r1 + n ≤ s.L) :
    Calls Tryz.prog 72 #[.pointer (some ⟨c.D, 0, none⟩), .int .i64 n] w (Looks (.bool true) w) := by
  have f1 := h.f1
  have f3 := h.f3
  have h1 := h.L_le
  have h2 := h.big
  clear h
  go_enter Tryz.func72, Tryz.ntmps72
  go_wp2_with fail
  go_quiet (fail)
  go_wp2_with fail
  go_ret
  exact ⟨rfl, same_drewN _ _⟩

set_option maxRecDepth 20000 in
theorem ensure_no (c : DC) (s : DS) (n : Nat) (w : World) (h : Dec w c s) (hn : s.L < s.r1 + n) (hb : n ≤ 1000000) :
    Calls Tryz.prog 72 #[.pointer (some ⟨c.D, 0, none⟩), .int .i64 n] w (Looks (.bool false) w) := by
  have f1 := h.f1
  have f3 := h.f3
  have h1 := h.L_le
  have h2 := h.big
  have h3 := h.r1_le
  have H := hid h
  clear h
  go_enter Tryz.func72, Tryz.ntmps72
  go_wp2_with fail
  go_quiet (fail)
  go_wp2_with fail
  refine (ensure1_any c s n _ (H.out.same (same_drewN _ _))).mono ?_
  rintro e w1 ⟨rfl, hk⟩
  go_wp2_with fail
  go_ret
  exact ⟨rfl, (same_drewN _ _).trans hk⟩
end Go.Proofs.YticdagnbnmnidaaGreatDoor
namespace Go.Proofs.YticdagnbnmnidaaGreatDoor
open Go.RowKit

theorem keep_D (w : World) (D i : Nat) (v : Value) : Keep (fun k => k = D) w (w.setCell ⟨D, i, none⟩ v) := (Keep.refl (fun k => k = D) w).setCell (fun _ => rfl) _

namespace Dec
variable {w w' : World} {c : DC} {s : DS}
theorem esc_set (h : Dec w c s) (i : Nat) (v : Value) : (w.setCell ⟨c.D, i, none⟩ v).ownsRow c.base 5 1 s.esc s.xs.length (s.xs.map fun b : Nat => Value.int .u8 b) := ownsRow_set_ne h.esc (own_ne h.esc h.row) _
theorem base_set (h : Dec w c s) (i : Nat) (v : Value) : c.base ≤ (w.setCell ⟨c.D, i, none⟩ v).heap.size := by simpa [World.setCell] using h.base_le
theorem text_set (h : Dec w c s) (i : Nat) (v : Value) : Bs (w.setCell ⟨c.D, i, none⟩ v) c.T 0 c.bs := h.text.setCell h.D_T _
theorem set_r1 (h : Dec w c s) (r : Nat) (h0 : s.r0 ≤ r) (h1 : r ≤ s.L) : Dec (w.setCell ⟨c.D, 3, none⟩ (.int .i64 r)) c { s with r1 := r } :=
  { h with row := h.row.set 3 _, text := h.text_set _ _, esc := h.esc_set _ _, base_le := h.base_set _ _, r0_le := h0, r1_le := h1 }
theorem set_sec (h : Dec w c s) (x : Nat) : Dec (w.setCell ⟨c.D, 5, none⟩ (.int .u8 x)) c { s with sec := x } :=
  { h with row := h.row.set 5 _, text := h.text_set _ _, esc := h.esc_set _ _, base_le := h.base_set _ _ }
theorem set_skip (h : Dec w c s) (x : Bool) : Dec (w.setCell ⟨c.D, 6, none⟩ (.bool x)) c { s with skip := x } :=
  { h with row := h.row.set 6 _, text := h.text_set _ _, esc := h.esc_set _ _, base_le := h.base_set _ _ }
theorem set_line (h : Dec w c s) (x : Int) : Dec (w.setCell ⟨c.D, 8, none⟩ (.int .i64 x)) c { s with line := x } :=
  { h with row := h.row.set 8 _, text := h.text_set _ _, esc := h.esc_set _ _, base_le := h.base_set _ _ }
end Dec

/-- A call that turns the decoder alone: it hands back v, and the decoder stands as s. -/
def Turns (c : DC) (v : Value) (s : DS) (w : World) (e : Ending) (w' : World) : Prop := e = .returned v ∧ Dec w' c s ∧ Keep (fun k => k = c.D) w w'

set_option maxRecDepth 20000 in
theorem advance_any (c : DC) (s : DS) (n : Nat) (w : World) (h : Dec w c s) (hn : s.r1 + n ≤ s.L) :
    Calls Tryz.prog 127 #[.pointer (some ⟨c.D, 0, none⟩), .int .i64 n] w (Turns c (.tuple #[]) { s with r1 := s.r1 + n } w) := by
  have f3 := h.f3
  have fr := h.fr 3
  have h1 := h.L_le
  have h2 := h.big
  have hd := h.set_r1 (s.r1 + n) (Nat.le_trans h.r0_le (Nat.le_add_right _ _)) hn
  have hk := keep_D w c.D 3 (.int .i64 (s.r1 + n : Nat))
  have Hd := hid hd
  clear h hd
  go_enter Tryz.func127, Tryz.ntmps127
  go_wp2_with fail
  go_end0
  exact ⟨rfl, Hd.out, hk⟩

/-- The byte at a place, or 0. -/
def DS.at_ (c : DC) (s : DS) (i : Nat) : Nat := if s.r1 + i < s.L then c.b (s.r1 + i) else 0

set_option maxRecDepth 20000 in
theorem at_any (c : DC) (s : DS) (n : Nat) (w : World) (h : Dec w c s) (hb : n ≤ 1000000) :
    Calls Tryz.prog 124 #[.pointer (some ⟨c.D, 0, none⟩), .int .i64 n] w (Looks (.int .u8 (s.at_ c n : Nat)) w) := by
  have f1 := h.f1
  have f3 := h.f3
  have h1 := h.L_le
  have h2 := h.big
  have h3 := h.r1_le
  by_cases hlt : s.r1 + n < s.L
  · have hv := h.byte (i := s.r1 + n) (by omega)
    have Hx : Hid (s.at_ c n = c.b (s.r1 + n)) := by unfold DS.at_; rw [if_pos hlt]; rfl
    clear h
    go_enter Tryz.func124, Tryz.ntmps124
    go_wp2_with fail
    go_quiet (fail)
    go_wp2_with fail
    go_quiet (fail)
    go_wp2_with fail
    go_ret
    rw [Hx.out]
    exact ⟨rfl, (same_drewN _ _).trans (same_drewN _ _)⟩
  · have Hx : Hid (s.at_ c n = 0) := by unfold DS.at_; rw [if_neg hlt]; rfl
    clear h
    go_enter Tryz.func124, Tryz.ntmps124
    go_wp2_with fail
    go_quiet (fail)
    go_wp2_with fail
    go_ret
    rw [Hx.out]
    exact ⟨rfl, same_drewN _ _⟩

/-- An empty row of the call's own is one still, cut to nothing. -/
theorem own_cut0 {w : World} {base : Nat} {v : Value} {n : Nat} {xs : List Value} (h : w.ownsRow base 5 1 v n xs) :
    ∃ A cap, v = .slice A n cap ∧ (A = none → n = 0 ∧ cap = 0) ∧ (∀ a, A = some a → a.off = 0 ∧ a.spot = none) ∧ n ≤ cap ∧ cap ≤ maxLen ∧ w.ownsRow base 5 1 (.slice A 0 cap) 0 [] := by
  rcases h.2 with ⟨rfl, rfl⟩ | ⟨g, cap, cur, rfl, hb, hh, hnc, hm, hs, ht⟩
  · exact ⟨none, 0, rfl, fun _ => ⟨rfl, rfl⟩, fun a h => (by cases h), Nat.le_refl _, Nat.zero_le _, World.ownsRow_nil w base 5 1⟩
  · exact ⟨some ⟨g, 0, none⟩, cap, rfl, fun h => (by cases h), fun a h => (by cases h; exact ⟨rfl, rfl⟩), hnc, hm, rfl, .inr ⟨g, cap, cur, rfl, hb, hh, Nat.zero_le _, hm, hs, by simp⟩⟩

/-- What reset does: all that is gone by is forgotten. -/
def DS.reset (s : DS) (v : Value) : DS := if s.r1 = s.L then { s with L := 0, r0 := 0, r1 := 0, esc := v, xs := [] } else { s with r0 := s.r1, esc := v, xs := [] }
def Resets (c : DC) (s : DS) (w : World) (e : Ending) (w' : World) : Prop := ∃ v, v.ownBlock = s.esc.ownBlock ∧ Turns c (.tuple #[]) (s.reset v) w e w'

theorem reset_no {s : DS} (h : ¬ s.r1 = s.L) (v : Value) : s.reset v = { s with r0 := s.r1, esc := v, xs := [] } := if_neg h
theorem reset_yes {s : DS} (h : s.r1 = s.L) (v : Value) : s.reset v = { s with L := 0, r0 := 0, r1 := 0, esc := v, xs := [] } := if_pos h

set_option maxRecDepth 20000 in
set_option maxHeartbeats 800000 in
theorem reset_any (c : DC) (s : DS) (w : World) (h : Dec w c s) :
    Calls Tryz.prog 129 #[.pointer (some ⟨c.D, 0, none⟩)] w (Resets c s w) := by
  have f1 := h.f1
  have f2 := h.f2
  have f3 := h.f3
  have f4 := h.f4
  have f7 := h.f7
  have h1 := h.L_le
  have h2 := h.big
  have h3 := h.r1_le
  have h4 := h.capBig
  have fr1 := h.fr 1
  have fr2 := h.fr 2
  have fr3 := h.fr 3
  have fr7 := h.fr 7
  have ho := h.esc
  obtain ⟨A, cap, hv, hn0, ha0, hnc, hcm, ho0⟩ := own_cut0 ho
  rw [hv] at f7
  unfold maxLen at hcm
  have H := hid h
  have Hv := hid hv
  have Ho := hid ho0
  have Ha := hid ha0
  have Hn := hid hn0
  clear h hv ho ho0 hn0 ha0
  by_cases hlt : s.r1 = s.L
  · have hb : (((s.L : Int) - (s.r1 : Int)) == 0) = true := by simp; omega
    have Hlt := hid hlt
    clear hlt
    go_enter Tryz.func129, Tryz.ntmps129
    go_wp2_with fail
    go_quiet (fail)
    go_wp2_with fail
    go_end0
    refine ⟨.slice A 0 cap, by rw [Hv.out]; cases A <;> rfl, rfl, ?_, ?_⟩
    · rw [reset_yes Hlt.out]
      have hw := H.out.same (same_drewN w nq)
      exact { hw with
        row := (((hw.row.set 1 (.slice (some ⟨c.T, 0, none⟩) 0 s.cap)).set 3 (.int .i64 (0 : Nat))).set 2 (.int .i64 (0 : Nat))).set 7 (.slice A 0 cap)
        text := (((hw.text.setCell hw.D_T _).setCell hw.D_T _).setCell hw.D_T _).setCell hw.D_T _
        esc := ownsRow_set_ne (ownsRow_set_ne (ownsRow_set_ne (ownsRow_set_ne (show (w.drewN nq).ownsRow c.base 5 1 (.slice A 0 cap) 0 [] from Ho.out) (own_ne Ho.out H.out.row) _) (own_ne Ho.out H.out.row) _) (own_ne Ho.out H.out.row) _) (own_ne Ho.out H.out.row) _
        base_le := by simpa [World.setCell] using hw.base_le
        L_le := Nat.zero_le _
        cap_le := Nat.zero_le _
        r0_le := Nat.le_refl _
        r1_le := Nat.le_refl _ }
    · exact ((((((Keep.refl (fun k => k = c.D) w).drewN nq).setCell (fun _ => rfl) _).setCell (fun _ => rfl) _).setCell (fun _ => rfl) _).setCell (fun _ => rfl) _)
  · have hb : (((s.L : Int) - (s.r1 : Int)) == 0) = false := by simp; omega
    have hlt2 : s.r1 < s.L := by omega
    have Hlt := hid hlt
    clear hlt
    go_enter Tryz.func129, Tryz.ntmps129
    go_wp2_with fail
    go_quiet (fail)
    go_wp2_with fail
    go_end0
    refine ⟨.slice A 0 cap, by rw [Hv.out]; cases A <;> rfl, rfl, ?_, ?_⟩
    · rw [reset_no Hlt.out]
      have hw := H.out.same (same_drewN w nq)
      exact { hw with
        row := (hw.row.set 2 (.int .i64 (s.r1 : Nat))).set 7 (.slice A 0 cap)
        text := (hw.text.setCell hw.D_T _).setCell hw.D_T _
        esc := ownsRow_set_ne (ownsRow_set_ne (show (w.drewN nq).ownsRow c.base 5 1 (.slice A 0 cap) 0 [] from Ho.out) (own_ne Ho.out H.out.row) _) (own_ne Ho.out H.out.row) _
        base_le := by simpa [World.setCell] using hw.base_le
        r0_le := Nat.le_refl _ }
    · exact ((((Keep.refl (fun k => k = c.D) w).drewN nq).setCell (fun _ => rfl) _).setCell (fun _ => rfl) _)
end Go.Proofs.YticdagnbnmnidaaGreatDoor
