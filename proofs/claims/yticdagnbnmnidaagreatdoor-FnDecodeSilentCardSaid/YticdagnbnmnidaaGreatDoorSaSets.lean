/- The sets of bytes: each function that makes one hands back a new block of 256 truths, which are those of a plain predicate; nothing that was there is turned. Conditions: none. -/
import Derived.Test.YticdagnbnmnidaaGreatDoorSaBase
import Derived.Deep.QuietTactic
import Derived.BigQuiet
set_option linter.unusedSimpArgs false
set_option linter.unusedVariables false
namespace Go.Proofs.YticdagnbnmnidaaGreatDoor
open Go.RowKit

/-- Block g is a set of bytes: those that p has. -/
def SetAt (w : World) (g : Nat) (p : Nat → Bool) : Prop := ∃ cs, Row w g 282 cs ∧ cs.size = 256 ∧ ∀ i, i < 256 → cs[i]? = some (.bool (p i))

namespace SetAt
variable {w w' : World} {g : Nat} {p : Nat → Bool} {S : Nat → Prop}
theorem lt (h : SetAt w g p) : g < w.heap.size := let ⟨_, h, _⟩ := h; h.lt
theorem cell (h : SetAt w g p) {i : Nat} (hi : i < 256) : w.cell? ⟨g, i, none⟩ = some (.bool (p i)) := let ⟨_, h, _, hc⟩ := h; (h.cell i).trans (hc i hi)
theorem frozen (h : SetAt w g p) (i : Nat) : w.frozen? ⟨g, i, none⟩ = false := let ⟨_, h, _⟩ := h; h.frozen i
theorem keep (h : SetAt w g p) (hk : Keep S w w') (hn : ¬ S g) : SetAt w' g p := let ⟨cs, h, r⟩ := h; ⟨cs, h.keep hk hn, r⟩
theorem same (h : SetAt w g p) (hk : Same w w') : SetAt w' g p := h.keep hk id
theorem set (h : SetAt w g p) {x : Nat} (hx : x < 256) (b : Bool) : SetAt (w.setCell ⟨g, x, none⟩ (.bool b)) g (fun c => if c = x then b else p c) := by
  obtain ⟨cs, h, hs, hc⟩ := h
  refine ⟨_, h.set x _, by simpa using hs, fun i hi => ?_⟩
  rw [Array.getElem?_setIfInBounds]
  by_cases e : x = i
  · subst e; simp [hs, hx]
  · rw [if_neg e]
    show cs[i]? = some (.bool (if i = x then b else p i))
    rw [if_neg (fun e' => e e'.symm)]; exact hc i hi
theorem ext (h : SetAt w g p) {q : Nat → Bool} (hq : ∀ i, i < 256 → p i = q i) : SetAt w g q := by
  obtain ⟨cs, h, hs, hc⟩ := h
  exact ⟨cs, h, hs, fun i hi => by rw [hc i hi, hq i hi]⟩
theorem alloc (h : SetAt w g p) (o : Obj) : SetAt (w.alloc o) g p := let ⟨cs, h, r⟩ := h; ⟨cs, h.alloc o, r⟩
theorem drewN (h : SetAt w g p) (n : Nat) : SetAt (w.drewN n) g p := h
end SetAt

theorem set_new (w : World) : SetAt (w.alloc (.cells Tryz.zeroCells282 282)) w.heap.size (fun _ => false) := by
  refine ⟨_, Row.new w _ _, by kernel_rfl, fun i hi => ?_⟩
  have e : Tryz.zeroCells282 = Array.replicate 256 (.bool false) := by kernel_rfl
  rw [e, Array.getElem?_replicate, if_pos hi]

/-- (*byteSet).set -/
theorem set_any (g x : Nat) (p : Nat → Bool) (w : World) (hx : x < 256) (h : SetAt w g p) :
    Calls Tryz.prog 219 #[.pointer (some ⟨g, 0, none⟩), .int .u8 x] w fun e w' => e = .returned (.tuple #[]) ∧ w.setCell ⟨g, x, none⟩ (.bool true) = w' := by
  have hv := h.cell hx
  have hf := h.frozen x
  clear h
  go_enter Tryz.func219, Tryz.ntmps219
  go_wp2
  go_end0
  exact ⟨rfl, rfl⟩

/-- What a call that makes a set hands back. -/
def GivesSet (p : Nat → Bool) (w : World) (e : Ending) (w' : World) : Prop := ∃ g, e = .returned (.pointer (some ⟨g, 0, none⟩)) ∧ w.heap.size ≤ g ∧ SetAt w' g p ∧ Same w w'

/-- the byte c is among these -/
def inB (l : List UInt8) (c : Nat) : Bool := l.any fun b => b.toNat == c

theorem inB_snoc (s : ByteArray) (k : Nat) (h : k < s.size) (c : Nat) : inB (s.data.toList.take (k + 1)) c = (if c = s[k].toNat then true else inB (s.data.toList.take k) c) := by
  have e : s.data.toList.take (k + 1) = s.data.toList.take k ++ [s[k]] := by
    rw [List.take_succ_eq_append_getElem (by simpa using h)]; rfl
  rw [e]
  by_cases hc : c = s[k].toNat
  · simp [inB, hc]
  · simp [inB, hc]
    intro h'; exact absurd h'.symm hc

set_option maxRecDepth 20000 in
set_option maxHeartbeats 400000 in
theorem newByteSet_any (s : ByteArray) (w : World) (hs : s.size ≤ maxLen) :
    Calls Tryz.prog 189 #[.string s] w (GivesSet (inB s.data.toList) w) := by
  unfold maxLen at hs
  go_enter Tryz.func189, Tryz.ntmps189
  go_wp2_with fail
  go_loopw [4] (fun i wr => ∃ k : Nat, k ≤ s.size ∧ i = .int .i64 k ∧ SetAt wr w.heap.size (inB (s.data.toList.take k)) ∧ Same w wr) (fun i _ => s.size - (intOf i).toNat)
  case atStart => exact ⟨0, Nat.zero_le _, rfl, set_new w, (Keep.refl _ w).alloc _⟩
  case round =>
    obtain ⟨k, hk, rfl, hset, hsame⟩ := hrel
    have hb : s[k]!.toNat < 256 := UInt8.toNat_lt _
    by_cases hlt : k < s.size
    · go_wp2_with (go_at_call 219; refine (set_any _ _ _ _ (UInt8.toNat_lt _) hset).mono ?_; rintro e w' ⟨rfl, rfl⟩)
      go_roundw
      case rel => exact ⟨k + 1, by omega, by go_num, (hset.set (UInt8.toNat_lt _) true).ext (fun c _ => (inB_snoc s k hlt c).symm), hsame.setCell (fun h => absurd h (by simp)) _⟩
      case measure => simp [intOf]; omega
    · go_wp2
      go_ret
      exact ⟨_, rfl, Nat.le_refl _, by rw [show s.data.toList = s.data.toList.take k from by rw [List.take_of_length_le (by simp; omega)]]; exact hset, hsame⟩

/-- 256, kept from the walk's reckoning -/
def n256 : Nat := 256

/-- A new set that is a copy of another one. -/
theorem set_copy {w : World} {g : Nat} {p : Nat → Bool} {cs : Array Value} (_h : Row w g 282 cs) (hs : cs.size = 256) (hc : ∀ i, i < 256 → cs[i]? = some (.bool (p i))) :
    SetAt ((w.alloc (.cells Tryz.zeroCells282 282)).setRow w.heap.size cs) w.heap.size p :=
  ⟨cs, setRow_heap _ _ _ cs 282 (0, 0) (Row.new w 282 Tryz.zeroCells282), hs, hc⟩
theorem same_copy (w : World) (cs : Array Value) : Same w ((w.alloc (.cells Tryz.zeroCells282 282)).setRow w.heap.size cs) :=
  ⟨rfl, rfl, rfl, by simp, fun k hk _ => by rw [setRow_other _ _ _ _ (by omega)]; exact Below.heap_alloc _ _ _ hk⟩
theorem one_cells {p : Nat → Bool} {cs : Array Value} (hs : cs.size = 256) (hc : ∀ i, i < 256 → cs[i]? = some (.bool (p i))) : cs.all (·.oneCell') = true := by
  rw [Array.all_eq_true]
  intro i hi
  have := hc i (by omega)
  rw [Array.getElem?_eq_getElem hi] at this
  rw [Option.some.inj this]; rfl
theorem size_zero282 : Tryz.zeroCells282.size = 256 := by kernel_rfl
theorem info282 : (Tryz.prog.info? 282).map (·.size) = some 256 := by kernel_rfl

set_option maxRecDepth 20000 in
set_option maxHeartbeats 400000 in
theorem invert_any (g : Nat) (p : Nat → Bool) (w : World) (h : SetAt w g p) :
    Calls Tryz.prog 190 #[.pointer (some ⟨g, 0, none⟩)] w (GivesSet (fun c => !p c) w) := by
  obtain ⟨cs, hr, hs, hc⟩ := h
  have hset := set_copy hr hs hc
  have h1 := one_cells hs hc
  have hinfo : (Tryz.prog.info? 282).map (·.size) = some cs.size := by rw [hs]; exact info282
  have hold : Tryz.zeroCells282.size = cs.size := by rw [hs]; exact size_zero282
  have hnew := Row.new w 282 Tryz.zeroCells282
  have Hs := hid hs
  have Hc := hid hc
  have Hset := hid hset
  clear hs hc hset
  unfold Row at hr hnew
  go_enter Tryz.func190, Tryz.ntmps190
  go_wp2_with (first | (refine wpList_load_row rfl 282 _ rfl g rfl 282 cs (0, 0) _ hr Tryz.underlying282 rfl hinfo ?_) | (refine wpList_store_row rfl 282 _ _ rfl w.heap.size cs rfl rfl 282 Tryz.zeroCells282 hnew hinfo hold h1 ?_))
  go_loopw [8] (fun i wr => ∃ k : Nat, k ≤ 256 ∧ i = .int .i64 k ∧ SetAt wr w.heap.size (fun c => if c < k then !p c else p c) ∧ Same w wr) (fun i _ => n256 - (intOf i).toNat)
  case atStart => exact ⟨0, by omega, rfl, Hset.out.ext (fun i _ => by simp), same_copy w cs⟩
  case round =>
    obtain ⟨k, hk, rfl, hset, hsame⟩ := hrel
    clear hr hnew hinfo hold h1 Hs Hc Hset
    by_cases hlt : k < 256
    · have hv := hset.cell hlt
      have hf := hset.frozen k
      rw [if_neg (Nat.lt_irrefl k)] at hv
      go_wp2
      go_roundw
      case rel =>
        refine ⟨k + 1, by omega, by go_num, (hset.set hlt (!p k)).ext (fun c _ => ?_), hsame.setCell (fun h => absurd h (by simp)) _⟩
        by_cases e : c = k
        · subst e; simp
        · rw [if_neg e]
          by_cases e2 : c < k
          · rw [if_pos e2, if_pos (by omega)]
          · rw [if_neg e2, if_neg (by omega)]
      case measure => simp [intOf, n256]; omega
    · go_wp2
      go_ret
      exact ⟨_, rfl, Nat.le_refl _, hset.ext (fun c hc => by rw [if_pos (by omega)]), hsame⟩

set_option maxRecDepth 20000 in
set_option maxHeartbeats 800000 in
theorem union_any (g g1 : Nat) (p q : Nat → Bool) (w : World) (h : SetAt w g p) (h' : SetAt w g1 q) :
    Calls Tryz.prog 193 #[.pointer (some ⟨g, 0, none⟩), .pointer (some ⟨g1, 0, none⟩)] w (GivesSet (fun c => p c || q c) w) := by
  obtain ⟨cs, hr, hs, hc⟩ := h
  have hset := set_copy hr hs hc
  have h1 := one_cells hs hc
  have hinfo : (Tryz.prog.info? 282).map (·.size) = some cs.size := by rw [hs]; exact info282
  have hold : Tryz.zeroCells282.size = cs.size := by rw [hs]; exact size_zero282
  have hnew := Row.new w 282 Tryz.zeroCells282
  have Hs := hid hs
  have Hc := hid hc
  have Hset := hid hset
  clear hs hc hset
  unfold Row at hr hnew
  go_enter Tryz.func193, Tryz.ntmps193
  go_wp2_with (first | (refine wpList_load_row rfl 282 _ rfl g rfl 282 cs (0, 0) _ hr Tryz.underlying282 rfl hinfo ?_) | (refine wpList_store_row rfl 282 _ _ rfl w.heap.size cs rfl rfl 282 Tryz.zeroCells282 hnew hinfo hold h1 ?_))
  go_loopw [10] (fun i wr => ∃ k : Nat, k ≤ 256 ∧ i = .int .i64 k ∧ SetAt wr w.heap.size (fun c => if c < k then (p c || q c) else p c) ∧ Same w wr) (fun i _ => n256 - (intOf i).toNat)
  case atStart => exact ⟨0, by omega, rfl, Hset.out.ext (fun i _ => by simp), same_copy w cs⟩
  case round =>
    obtain ⟨k, hk, rfl, hset, hsame⟩ := hrel
    clear hr hnew hinfo hold h1 Hs Hc Hset
    by_cases hlt : k < 256
    · have hv := hset.cell hlt
      have hf := hset.frozen k
      have hq := (h'.same hsame).cell hlt
      rw [if_neg (Nat.lt_irrefl k)] at hv
      cases hp : p k
      all_goals
        rw [hp] at hv
        go_wp2
        go_roundw
        case rel =>
          refine ⟨k + 1, by omega, by go_num, (hset.set hlt _).ext (fun c _ => ?_), hsame.setCell (fun h => absurd h (by simp)) _⟩
          by_cases e : c = k
          · subst e; simp [hp]
          · rw [if_neg e]
            by_cases e2 : c < k
            · rw [if_pos e2, if_pos (by omega)]
            · rw [if_neg e2, if_neg (by omega)]
        case measure => simp [intOf, n256]; omega
    · go_wp2
      go_ret
      exact ⟨_, rfl, Nat.le_refl _, hset.ext (fun c hc => by rw [if_pos (by omega)]), hsame⟩

set_option maxRecDepth 20000 in
set_option maxHeartbeats 800000 in
theorem intersect_any (g g1 : Nat) (p q : Nat → Bool) (w : World) (h : SetAt w g p) (h' : SetAt w g1 q) :
    Calls Tryz.prog 220 #[.pointer (some ⟨g, 0, none⟩), .pointer (some ⟨g1, 0, none⟩)] w (GivesSet (fun c => p c && q c) w) := by
  obtain ⟨cs, hr, hs, hc⟩ := h
  have hset := set_copy hr hs hc
  have h1 := one_cells hs hc
  have hinfo : (Tryz.prog.info? 282).map (·.size) = some cs.size := by rw [hs]; exact info282
  have hold : Tryz.zeroCells282.size = cs.size := by rw [hs]; exact size_zero282
  have hnew := Row.new w 282 Tryz.zeroCells282
  have Hs := hid hs
  have Hc := hid hc
  have Hset := hid hset
  clear hs hc hset
  unfold Row at hr hnew
  go_enter Tryz.func220, Tryz.ntmps220
  go_wp2_with (first | (refine wpList_load_row rfl 282 _ rfl g rfl 282 cs (0, 0) _ hr Tryz.underlying282 rfl hinfo ?_) | (refine wpList_store_row rfl 282 _ _ rfl w.heap.size cs rfl rfl 282 Tryz.zeroCells282 hnew hinfo hold h1 ?_))
  go_loopw [10] (fun i wr => ∃ k : Nat, k ≤ 256 ∧ i = .int .i64 k ∧ SetAt wr w.heap.size (fun c => if c < k then (p c && q c) else p c) ∧ Same w wr) (fun i _ => n256 - (intOf i).toNat)
  case atStart => exact ⟨0, by omega, rfl, Hset.out.ext (fun i _ => by simp), same_copy w cs⟩
  case round =>
    obtain ⟨k, hk, rfl, hset, hsame⟩ := hrel
    clear hr hnew hinfo hold h1 Hs Hc Hset
    by_cases hlt : k < 256
    · have hv := hset.cell hlt
      have hf := hset.frozen k
      have hq := (h'.same hsame).cell hlt
      rw [if_neg (Nat.lt_irrefl k)] at hv
      cases hp : p k
      all_goals
        rw [hp] at hv
        go_wp2
        go_roundw
        case rel =>
          refine ⟨k + 1, by omega, by go_num, (hset.set hlt _).ext (fun c _ => ?_), hsame.setCell (fun h => absurd h (by simp)) _⟩
          by_cases e : c = k
          · subst e; simp [hp]
          · rw [if_neg e]
            by_cases e2 : c < k
            · rw [if_pos e2, if_pos (by omega)]
            · rw [if_neg e2, if_neg (by omega)]
        case measure => simp [intOf, n256]; omega
    · go_wp2
      go_ret
      exact ⟨_, rfl, Nat.le_refl _, hset.ext (fun c hc => by rw [if_pos (by omega)]), hsame⟩


theorem inRange_step (i0 k : Nat) (c : Nat) (h : i0 ≤ k) : (decide (i0 ≤ c) && decide (c < k + 1)) = (if c = k then true else (decide (i0 ≤ c) && decide (c < k))) := by
  by_cases e : c = k
  · subst e; simp [h]
  · rw [if_neg e]
    congr 1
    rw [decide_eq_decide]; omega

set_option maxRecDepth 20000 in
set_option maxHeartbeats 400000 in
theorem newByteSetRange_any (i0 i1 : Nat) (w : World) (h0 : i0 ≤ i1) (h1 : i1 < 255) :
    Calls Tryz.prog 215 #[.int .u8 i0, .int .u8 i1] w (GivesSet (fun c => decide (i0 ≤ c) && decide (c < i1 + 1)) w) := by
  go_enter Tryz.func215, Tryz.ntmps215
  go_wp2_with fail
  go_loopw [6] (fun i wr => ∃ k : Nat, i0 ≤ k ∧ k ≤ i1 + 1 ∧ i = .int .u8 k ∧ SetAt wr w.heap.size (fun c => decide (i0 ≤ c) && decide (c < k)) ∧ Same w wr) (fun i _ => n256 - (intOf i).toNat)
  case atStart => exact ⟨i0, Nat.le_refl _, by omega, rfl, (set_new w).ext (fun c _ => by rw [eq_comm, Bool.and_eq_false_iff]; simp; omega), (Keep.refl _ w).alloc _⟩
  case round =>
    obtain ⟨k, hk0, hk, rfl, hset, hsame⟩ := hrel
    by_cases hlt : k ≤ i1
    · go_wp2_with (go_at_call 219; refine (set_any _ _ _ _ (by omega) hset).mono ?_; rintro e w' ⟨rfl, rfl⟩)
      go_roundw
      case rel => exact ⟨k + 1, by omega, by omega, by go_num, (hset.set (by omega) true).ext (fun c _ => (inRange_step i0 k c hk0).symm), hsame.setCell (fun h => absurd h (by simp)) _⟩
      case measure => simp [intOf, n256]; omega
    · go_wp2
      go_ret
      obtain rfl : k = i1 + 1 := by omega
      exact ⟨_, rfl, Nat.le_refl _, hset, hsame⟩

/-- (*byteSet).get -/
theorem get_any (g x : Nat) (p : Nat → Bool) (w : World) (hx : x < 256) (h : SetAt w g p) :
    Calls Tryz.prog 133 #[.pointer (some ⟨g, 0, none⟩), .int .u8 x] w fun e w' => e = .returned (.bool (p x)) ∧ w = w' := by
  have hv := h.cell hx
  clear h
  go_enter Tryz.func133, Tryz.ntmps133
  go_wp2
  go_ret
  exact ⟨rfl, rfl⟩

set_option maxHeartbeats 400000 in
theorem without_any (g g1 : Nat) (p q : Nat → Bool) (w : World) (h : SetAt w g p) (h' : SetAt w g1 q) :
    Calls Tryz.prog 191 #[.pointer (some ⟨g, 0, none⟩), .pointer (some ⟨g1, 0, none⟩)] w (GivesSet (fun c => p c && !q c) w) := by
  go_enter Tryz.func191, Tryz.ntmps191
  go_wp2_with fail
  refine (invert_any _ _ _ h').mono ?_
  rintro e w1 ⟨g2, rfl, hg2, hs2, hk2⟩
  go_wp2_with fail
  refine (intersect_any _ _ _ _ _ (h.same hk2) hs2).mono ?_
  rintro e w2 ⟨g3, rfl, hg3, hs3, hk3⟩
  go_wp2_with fail
  go_ret
  exact ⟨_, rfl, Nat.le_trans hk2.size hg3, hs3, hk2.trans hk3⟩

/-! The named sets. -/
def pBlank (c : Nat) : Bool := c == 32
def pWhite (c : Nat) : Bool := c == 32 || c == 13 || c == 10
def pOdd (c : Nat) : Bool := decide (c < 32) || c == 127
def pEol (c : Nat) : Bool := c == 13 || c == 10
def pKey (c : Nat) : Bool := !(c == 44 || c == 61 || pWhite c || pOdd c)
def pName (c : Nat) : Bool := !(c == 44 || c == 32 || pOdd c)
def pStr (c : Nat) : Bool := !(c == 34)
def pVal (c : Nat) : Bool := !(c == 44 || pWhite c)
def pTime (c : Nat) : Bool := inB [45, 48, 49, 50, 51, 52, 53, 54, 55, 56, 57] c
def pComment (c : Nat) : Bool := !pOdd c && !pEol c
def pNotEol (c : Nat) : Bool := !pEol c
def pNotNl (c : Nat) : Bool := !(c == 10)

theorem GivesSet.ext {p q : Nat → Bool} {w : World} {e : Ending} {w' : World} (h : GivesSet p w e w') (hq : ∀ i, i < 256 → p i = q i) : GivesSet q w e w' := by
  obtain ⟨g, he, hg, hs, hk⟩ := h
  exact ⟨g, he, hg, hs.ext hq, hk⟩
theorem forall256 {p q : Nat → Bool} (h : (List.range 256).all (fun i => p i == q i) = true) : ∀ i, i < 256 → p i = q i := by
  intro i hi
  have := List.all_eq_true.1 h i (List.mem_range.2 hi)
  simpa using this

theorem blank_set (w : World) : Calls Tryz.prog 123 #[] w (GivesSet pBlank w) := by
  go_enter Tryz.func123, Tryz.ntmps123
  go_wp2_with fail
  refine (newByteSet_any _ _ (by decide)).mono ?_
  rintro e w1 ⟨g2, rfl, hg2, hs2, hk2⟩
  go_wp2_with fail
  go_ret
  exact ⟨_, rfl, hg2, hs2.ext (forall256 (by decide +kernel)), hk2⟩

theorem white_set (w : World) : Calls Tryz.prog 139 #[] w (GivesSet pWhite w) := by
  go_enter Tryz.func139, Tryz.ntmps139
  go_wp2_with fail
  refine (blank_set _).mono ?_
  rintro e w1 ⟨g1, rfl, hg1, hs1, hk1⟩
  go_wp2_with fail
  refine (newByteSet_any _ _ (by decide)).mono ?_
  rintro e w2 ⟨g2, rfl, hg2, hs2, hk2⟩
  go_wp2_with fail
  refine (union_any _ _ _ _ _ (hs1.same hk2) hs2).mono ?_
  rintro e w3 ⟨g3, rfl, hg3, hs3, hk3⟩
  go_wp2_with fail
  go_ret
  exact ⟨_, rfl, Nat.le_trans (hk1.trans hk2).size hg3, hs3.ext (forall256 (by decide +kernel)), (hk1.trans hk2).trans hk3⟩

theorem odd_set (w : World) : Calls Tryz.prog 170 #[] w (GivesSet pOdd w) := by
  go_enter Tryz.func170, Tryz.ntmps170
  go_wp2_with fail
  refine (newByteSetRange_any 0 31 _ (by decide) (by decide)).mono ?_
  rintro e w1 ⟨g1, rfl, hg1, hs1, hk1⟩
  go_wp2_with fail
  refine (newByteSet_any _ _ (by decide)).mono ?_
  rintro e w2 ⟨g2, rfl, hg2, hs2, hk2⟩
  go_wp2_with fail
  refine (union_any _ _ _ _ _ (hs1.same hk2) hs2).mono ?_
  rintro e w3 ⟨g3, rfl, hg3, hs3, hk3⟩
  go_wp2_with fail
  go_ret
  exact ⟨_, rfl, Nat.le_trans (hk1.trans hk2).size hg3, hs3.ext (forall256 (by decide +kernel)), (hk1.trans hk2).trans hk3⟩

theorem eol_set (w : World) : Calls Tryz.prog 171 #[] w (GivesSet pEol w) := by
  go_enter Tryz.func171, Tryz.ntmps171
  go_wp2_with fail
  refine (newByteSet_any _ _ (by decide)).mono ?_
  rintro e w1 ⟨g2, rfl, hg2, hs2, hk2⟩
  go_wp2_with fail
  go_ret
  exact ⟨_, rfl, hg2, hs2.ext (forall256 (by decide +kernel)), hk2⟩

theorem str_set (w : World) : Calls Tryz.prog 137 #[] w (GivesSet pStr w) := by
  go_enter Tryz.func137, Tryz.ntmps137
  go_wp2_with fail
  refine (newByteSet_any _ _ (by decide)).mono ?_
  rintro e w1 ⟨g1, rfl, hg1, hs1, hk1⟩
  go_wp2_with fail
  refine (invert_any _ _ _ hs1).mono ?_
  rintro e w2 ⟨g2, rfl, hg2, hs2, hk2⟩
  go_wp2_with fail
  go_ret
  exact ⟨_, rfl, Nat.le_trans hk1.size hg2, hs2.ext (forall256 (by decide +kernel)), hk1.trans hk2⟩

theorem notNl_set (w : World) : Calls Tryz.prog 172 #[] w (GivesSet pNotNl w) := by
  go_enter Tryz.func172, Tryz.ntmps172
  go_wp2_with fail
  refine (newByteSet_any _ _ (by decide)).mono ?_
  rintro e w1 ⟨g1, rfl, hg1, hs1, hk1⟩
  go_wp2_with fail
  refine (invert_any _ _ _ hs1).mono ?_
  rintro e w2 ⟨g2, rfl, hg2, hs2, hk2⟩
  go_wp2_with fail
  go_ret
  exact ⟨_, rfl, Nat.le_trans hk1.size hg2, hs2.ext (forall256 (by decide +kernel)), hk1.trans hk2⟩

theorem tagKey_set (w : World) : Calls Tryz.prog 134 #[] w (GivesSet pKey w) := by
  go_enter Tryz.func134, Tryz.ntmps134
  go_wp2_with fail
  refine (newByteSet_any _ _ (by decide)).mono ?_
  rintro e w1 ⟨g1, rfl, hg1, hs1, hk1⟩
  go_wp2_with fail
  refine (white_set _).mono ?_
  rintro e w2 ⟨g2, rfl, hg2, hs2, hk2⟩
  go_wp2_with fail
  refine (union_any _ _ _ _ _ (hs1.same hk2) hs2).mono ?_
  rintro e w3 ⟨g3, rfl, hg3, hs3, hk3⟩
  go_wp2_with fail
  refine (odd_set _).mono ?_
  rintro e w4 ⟨g4, rfl, hg4, hs4, hk4⟩
  go_wp2_with fail
  refine (union_any _ _ _ _ _ (hs3.same hk4) hs4).mono ?_
  rintro e w5 ⟨g5, rfl, hg5, hs5, hk5⟩
  go_wp2_with fail
  refine (invert_any _ _ _ hs5).mono ?_
  rintro e w6 ⟨g6, rfl, hg6, hs6, hk6⟩
  go_wp2_with fail
  go_ret
  have hk := ((((hk1.trans hk2).trans hk3).trans hk4).trans hk5)
  exact ⟨_, rfl, Nat.le_trans hk.size hg6, hs6.ext (forall256 (by decide +kernel)), hk.trans hk6⟩

theorem tagVal_set (w : World) : Calls Tryz.prog 135 #[] w (GivesSet pKey w) := by
  go_enter Tryz.func135, Tryz.ntmps135
  go_wp2_with fail
  refine (newByteSet_any _ _ (by decide)).mono ?_
  rintro e w1 ⟨g1, rfl, hg1, hs1, hk1⟩
  go_wp2_with fail
  refine (white_set _).mono ?_
  rintro e w2 ⟨g2, rfl, hg2, hs2, hk2⟩
  go_wp2_with fail
  refine (union_any _ _ _ _ _ (hs1.same hk2) hs2).mono ?_
  rintro e w3 ⟨g3, rfl, hg3, hs3, hk3⟩
  go_wp2_with fail
  refine (odd_set _).mono ?_
  rintro e w4 ⟨g4, rfl, hg4, hs4, hk4⟩
  go_wp2_with fail
  refine (union_any _ _ _ _ _ (hs3.same hk4) hs4).mono ?_
  rintro e w5 ⟨g5, rfl, hg5, hs5, hk5⟩
  go_wp2_with fail
  refine (invert_any _ _ _ hs5).mono ?_
  rintro e w6 ⟨g6, rfl, hg6, hs6, hk6⟩
  go_wp2_with fail
  go_ret
  have hk := ((((hk1.trans hk2).trans hk3).trans hk4).trans hk5)
  exact ⟨_, rfl, Nat.le_trans hk.size hg6, hs6.ext (forall256 (by decide +kernel)), hk.trans hk6⟩

theorem fieldKey_set (w : World) : Calls Tryz.prog 136 #[] w (GivesSet pKey w) := by
  go_enter Tryz.func136, Tryz.ntmps136
  go_wp2_with fail
  refine (tagKey_set _).mono ?_
  rintro e w1 ⟨g1, rfl, hg1, hs1, hk1⟩
  go_wp2_with fail
  go_ret
  exact ⟨_, rfl, hg1, hs1, hk1⟩

theorem notEol_set (w : World) : Calls Tryz.prog 141 #[] w (GivesSet pNotEol w) := by
  go_enter Tryz.func141, Tryz.ntmps141
  go_wp2_with fail
  refine (eol_set _).mono ?_
  rintro e w1 ⟨g1, rfl, hg1, hs1, hk1⟩
  go_wp2_with fail
  refine (invert_any _ _ _ hs1).mono ?_
  rintro e w2 ⟨g2, rfl, hg2, hs2, hk2⟩
  go_wp2_with fail
  go_ret
  exact ⟨_, rfl, Nat.le_trans hk1.size hg2, hs2.ext (forall256 (by decide +kernel)), hk1.trans hk2⟩

theorem time_set (w : World) : Calls Tryz.prog 140 #[] w (GivesSet pTime w) := by
  go_enter Tryz.func140, Tryz.ntmps140
  go_wp2_with fail
  refine (newByteSet_any _ _ (by decide)).mono ?_
  rintro e w1 ⟨g2, rfl, hg2, hs2, hk2⟩
  go_wp2_with fail
  go_ret
  exact ⟨_, rfl, hg2, hs2.ext (forall256 (by decide +kernel)), hk2⟩

theorem name_set (w : World) : Calls Tryz.prog 130 #[] w (GivesSet pName w) := by
  go_enter Tryz.func130, Tryz.ntmps130
  go_wp2_with fail
  refine (newByteSet_any _ _ (by decide)).mono ?_
  rintro e w1 ⟨g1, rfl, hg1, hs1, hk1⟩
  go_wp2_with fail
  refine (odd_set _).mono ?_
  rintro e w2 ⟨g2, rfl, hg2, hs2, hk2⟩
  go_wp2_with fail
  refine (union_any _ _ _ _ _ (hs1.same hk2) hs2).mono ?_
  rintro e w3 ⟨g3, rfl, hg3, hs3, hk3⟩
  go_wp2_with fail
  refine (invert_any _ _ _ hs3).mono ?_
  rintro e w4 ⟨g4, rfl, hg4, hs4, hk4⟩
  go_wp2_with fail
  go_ret
  have hk := (hk1.trans hk2).trans hk3
  exact ⟨_, rfl, Nat.le_trans hk.size hg4, hs4.ext (forall256 (by decide +kernel)), hk.trans hk4⟩

theorem val_set (w : World) : Calls Tryz.prog 138 #[] w (GivesSet pVal w) := by
  go_enter Tryz.func138, Tryz.ntmps138
  go_wp2_with fail
  refine (newByteSet_any _ _ (by decide)).mono ?_
  rintro e w1 ⟨g1, rfl, hg1, hs1, hk1⟩
  go_wp2_with fail
  refine (white_set _).mono ?_
  rintro e w2 ⟨g2, rfl, hg2, hs2, hk2⟩
  go_wp2_with fail
  refine (union_any _ _ _ _ _ (hs1.same hk2) hs2).mono ?_
  rintro e w3 ⟨g3, rfl, hg3, hs3, hk3⟩
  go_wp2_with fail
  refine (invert_any _ _ _ hs3).mono ?_
  rintro e w4 ⟨g4, rfl, hg4, hs4, hk4⟩
  go_wp2_with fail
  go_ret
  have hk := (hk1.trans hk2).trans hk3
  exact ⟨_, rfl, Nat.le_trans hk.size hg4, hs4.ext (forall256 (by decide +kernel)), hk.trans hk4⟩

theorem comment_set (w : World) : Calls Tryz.prog 125 #[] w (GivesSet pComment w) := by
  go_enter Tryz.func125, Tryz.ntmps125
  go_wp2_with fail
  refine (odd_set _).mono ?_
  rintro e w1 ⟨g1, rfl, hg1, hs1, hk1⟩
  go_wp2_with fail
  refine (invert_any _ _ _ hs1).mono ?_
  rintro e w2 ⟨g2, rfl, hg2, hs2, hk2⟩
  go_wp2_with fail
  refine (eol_set _).mono ?_
  rintro e w3 ⟨g3, rfl, hg3, hs3, hk3⟩
  go_wp2_with fail
  refine (without_any _ _ _ _ _ (hs2.same hk3) hs3).mono ?_
  rintro e w4 ⟨g4, rfl, hg4, hs4, hk4⟩
  go_wp2_with fail
  go_ret
  have hk := (hk1.trans hk2).trans hk3
  exact ⟨_, rfl, Nat.le_trans hk.size hg4, hs4.ext (forall256 (by decide +kernel)), hk.trans hk4⟩

end Go.Proofs.YticdagnbnmnidaaGreatDoor
