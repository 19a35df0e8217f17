/- strconv.QuoteRune at the runes that the escapers know. Conditions: none. newEscaper: what it lays. Conditions: none. -/
import Derived.Test.YticdagnbnmnidaaGreatDoorSaSyn
import Derived.Test.YticdagnbnmnidaaGreatDoorSaShelf
import Derived.Lib.BufSteps
import Derived.Laws.BytesArg
import Derived.BigGuardPart
import Derived.Test.YticdagnbnmnidaaGreatDoorSaTok
import Derived.Laws.RangeString
import Derived.Lib.Strings
import Derived.Deep.QuietTactic
import Derived.BigQuiet
set_option linter.unusedSimpArgs false
set_option linter.unusedVariables false
namespace Go.Proofs.YticdagnbnmnidaaGreatDoor
open Go.RowKit

/-- a rune that an escaper knows -/
def EscB (b : Int) : Prop := b = 9 ∨ b = 10 ∨ b = 13 ∨ b = 32 ∨ b = 34 ∨ b = 44 ∨ b = 61 ∨ b = 92
/-- what strconv.QuoteRune writes of it -/
def escQ (b : Int) : List Int := if b = 92 then [92, 92] else if b = 10 then [92, 110] else if b = 13 then [92, 114] else if b = 9 then [92, 116] else [b]

def u8s (l : List Int) : List Value := l.map fun x => .int .u8 x

set_option maxRecDepth 100000 in
set_option maxHeartbeats 1600000 in
theorem isPrint_esc (b : Int) (w : World) (hb : EscB b) : Calls Tryz.prog 300 #[.int .i32 b] w fun e w' => e = .returned (.bool (decide (32 ≤ b))) ∧ w = w' := by
  rcases hb with rfl | rfl | rfl | rfl | rfl | rfl | rfl | rfl
  all_goals (
    go_enter Tryz.func300, Tryz.ntmps300
    go_big_wp2_with fail
    go_ret
    exact ⟨rfl, rfl⟩)

set_option maxRecDepth 100000 in
set_option maxHeartbeats 1600000 in
theorem appendRune_esc (B : Nat) (v : Value) (n : Nat) (xs : List Value) (b : Int) (W0 w : World) (hb : EscB b) (ho : Lib.OwnBuf B 5 v n xs W0 w) (hn : n ≤ 1000) :
    Calls Tryz.prog 302 #[v, .int .i32 b] w fun e w' => ∃ v', e = .returned v' ∧ Lib.OwnBuf B 5 v' (n + 1) (xs ++ [.int .u8 b]) W0 w' := by
  obtain ⟨i0, hi, hz0, hz1, hz2⟩ := info_parts info5
  rcases hb with rfl | rfl | rfl | rfl | rfl | rfl | rfl | rfl
  all_goals (
    go_enter Tryz.func302, Tryz.ntmps302
    go_wp2_with (at_builtin; refine Lib.wpList_append_byte rfl _ _ 75 rfl B 5 i0 Tryz.underlying75 hi hz0 hz1 hz2 _ _ _ rfl W0 _ _ (by assumption) rfl (by omega) ?_; intro v1 w1 hb1)
    go_ret
    exact ⟨_, rfl, hb1⟩)

set_option maxRecDepth 100000 in
set_option maxHeartbeats 3200000 in
theorem escapedRune_esc (B : Nat) (v : Value) (n : Nat) (xs : List Value) (b : Int) (W0 w : World) (hb : EscB b) (ho : Lib.OwnBuf B 5 v n xs W0 w) (hn : n ≤ 900) :
    Calls Tryz.prog 286 #[v, .int .i32 b, .int .u8 39, .bool false, .bool false] w fun e w' => ∃ v', e = .returned v' ∧ Lib.OwnBuf B 5 v' (n + (escQ b).length) (xs ++ u8s (escQ b)) W0 w' := by
  obtain ⟨i0, hi, hz0, hz1, hz2⟩ := info_parts info5
  have hP := isPrint_esc b w hb
  have hA := appendRune_esc B v n xs b W0 w hb ho (by omega)
  rcases hb with rfl | rfl | rfl | rfl | rfl | rfl | rfl | rfl
  all_goals (
    go_enter Tryz.func286, Tryz.ntmps286
    go_big_wp2_with (first
      | (go_at_call 300; refine hP.mono ?_; rintro e w1 ⟨rfl, rfl⟩)
      | (go_at_call 302; refine hA.mono ?_; rintro e w1 ⟨v1, rfl, hb1⟩)
      | (at_builtin; first
        | (refine Lib.wpList_append_byte rfl _ _ 75 rfl B 5 i0 Tryz.underlying75 hi hz0 hz1 hz2 _ _ _ rfl W0 _ _ (by assumption) rfl (by omega) ?_; intro _ _ hb1)
        | (refine Lib.wpList_append_text rfl _ _ 75 9 rfl B 5 i0 Tryz.underlying75 Tryz.underlying9 hi hz0 hz1 hz2 _ _ _ rfl W0 (by assumption) _ rfl (by first | omega | (simp only [Lib.size_two]; omega)) ?_; intro _ _ hb1)))
    go_ret
    refine ⟨_, rfl, ?_⟩
    simpa [escQ, u8s, Lib.strCells, ByteArray.size] using hb1)

set_option maxRecDepth 100000 in
set_option maxHeartbeats 3200000 in
theorem quotedRune_esc (b : Int) (w : World) (hb : EscB b) :
    Calls Tryz.prog 274 #[.slice none 0 0, .int .i32 b, .int .u8 39, .bool false, .bool false] w fun e w' => ∃ v', e = .returned v' ∧ Lib.OwnBuf w.heap.size 5 v' ((escQ b).length + 2) (u8s (39 :: escQ b ++ [39])) w w' := by
  obtain ⟨i0, hi, hz0, hz1, hz2⟩ := info_parts info5
  have hv : ∀ w, Calls Tryz.prog 285 #[.int .i32 b] w fun e w' => e = .returned (.bool true) ∧ w' = w := fun w => by
    refine (Tryz.utf8_ValidRune b w).mono ?_
    rintro e w' ⟨rfl, rfl⟩
    refine ⟨?_, rfl⟩
    rcases hb with rfl | rfl | rfl | rfl | rfl | rfl | rfl | rfl <;> rfl
  have hE : (escQ b).length ≤ 2 := by rcases hb with rfl | rfl | rfl | rfl | rfl | rfl | rfl | rfl <;> decide
  have h0 : Lib.OwnBuf w.heap.size 5 (.slice none 0 0) 0 [] w w := ⟨World.ownsRowF_nil _ _ _ _, Below.refl _ _, Nat.le_refl _⟩
  have hR := fun v w1 (h : Lib.OwnBuf w.heap.size 5 v 1 [.int .u8 39] w w1) => escapedRune_esc w.heap.size v 1 _ b w w1 hb h (by omega)
  obtain ⟨l, hl⟩ : ∃ l, l = escQ b := ⟨_, rfl⟩
  rw [← hl] at hR hE ⊢
  clear hl hb
  obtain ⟨B, hB⟩ : ∃ B, B = w.heap.size := ⟨_, rfl⟩
  obtain ⟨W0, hW⟩ : ∃ W, W = w := ⟨_, rfl⟩
  have h0' : Lib.OwnBuf B 5 (.slice none 0 0) 0 [] W0 w := by rw [hB, hW]; exact h0
  have hR' : ∀ v w1, Lib.OwnBuf B 5 v (0 + 1) ([] ++ [.int .u8 39]) W0 w1 → Calls Tryz.prog 286 #[v, .int .i32 b, .int .u8 39, .bool false, .bool false] w1 fun e w' => ∃ v', e = .returned v' ∧ Lib.OwnBuf B 5 v' (1 + l.length) ([.int .u8 39] ++ u8s l) W0 w' := by
    rw [hB, hW]; exact hR
  have hgoal : ∀ v' w', Lib.OwnBuf B 5 v' (1 + l.length + 1) ([.int .u8 39] ++ u8s l ++ [.int .u8 39]) W0 w' → Lib.OwnBuf w.heap.size 5 v' (l.length + 2) (u8s (39 :: l ++ [39])) w w' := by
    intro v' w' h
    rw [← hB, ← hW, show l.length + 2 = 1 + l.length + 1 by omega]
    simpa [u8s] using h
  have HG := hid hgoal
  clear hR h0 hB hgoal
  have HW := hid hW
  clear hW
  go_enter Tryz.func274, Tryz.ntmps274
  go_wp2_with (first
      | (go_at_call 285; refine (hv _).mono ?_; rintro e w1 ⟨rfl, rfl⟩)
      | (go_at_call 286; refine (hR' _ _ (by assumption)).mono ?_; rintro e w1 ⟨v1, rfl, hb1⟩)
      | (at_builtin; (refine Lib.wpList_append_byte rfl _ _ 75 rfl B 5 i0 Tryz.underlying75 hi hz0 hz1 hz2 _ _ _ rfl W0 _ _ (by assumption) rfl (by omega) ?_; intro _ _ hb2)))
  go_ret
  exact ⟨_, rfl, HG.out _ _ hb2⟩

/-- What a buffer of at least one byte is: a slice whose cells are those bytes. -/
theorem own_cells {B : Nat} {v : Value} {n : Nat} {l : List Int} {W0 w : World} (h : Lib.OwnBuf B 5 v n (u8s l) W0 w) (hn : n = l.length) (hl : 0 < n) :
    ∃ g cap, v = .slice (some ⟨g, 0, none⟩) n cap ∧ ∀ i, i < n → w.cell? ⟨g, 0 + i, none⟩ = some (.int .u8 (l.getD i 0)) := by
  rcases h.1.2 with ⟨_, h0⟩ | ⟨g, cap, cur, fz, rfl, _⟩
  · omega
  · refine ⟨g, cap, rfl, fun i hi => ?_⟩
    have := h.1.cells (g := g) (by simp [Value.ownBlock]) i (.int .u8 (l.getD i 0)) (by rw [hn] at hi; simp [u8s, List.getD, List.getElem?_eq_getElem hi])
    by_cases hi0 : i = 0 <;> simpa [Addr.add, hi0] using this

set_option maxRecDepth 20000 in
set_option maxHeartbeats 1600000 in
theorem quoteRune_esc (b : Int) (w : World) (hb : EscB b) :
    Calls Tryz.prog 212 #[.int .i32 b] w fun e w' => e = .returned (.string (strOfNums (39 :: escQ b ++ [39]))) ∧ Same w w' := by
  have h274 : ∀ w, Calls Tryz.prog 274 #[.slice none 0 0, .int .i32 b, .int .u8 39, .bool false, .bool false] w fun e w' => ∃ v, e = .returned v ∧ (convert 75 9 v).run Tryz.prog w' = .ok (.string (strOfNums (39 :: escQ b ++ [39]))) w' ∧ Same w w' := fun w => by
    refine (quotedRune_esc b w hb).mono ?_
    rintro e w' ⟨v, rfl, h⟩
    obtain ⟨g, cap, rfl, hc⟩ := own_cells h (by simp) (by omega)
    exact ⟨_, rfl, run_convert_bytes_arg w' 75 5 Tryz.underlying75 Tryz.underlying5 g 0 _ cap _ (by simp) hc 9 Tryz.underlying9, Keep.of_below h.2.1⟩
  have h246 : ∀ w, Calls Tryz.prog 246 #[.int .i32 b, .int .u8 39, .bool false, .bool false] w fun e w' => e = .returned (.string (strOfNums (39 :: escQ b ++ [39]))) ∧ Same w w' := fun w => by
    obtain ⟨s, hs⟩ : ∃ s, s = strOfNums (39 :: escQ b ++ [39]) := ⟨_, rfl⟩
    rw [← hs] at h274 ⊢
    clear hs
    go_enter Tryz.func246, Tryz.ntmps246
    go_wp2_with fail
    refine (h274 _).mono ?_
    rintro e w1 ⟨v, rfl, hc, hk⟩
    have Hk := hid hk
    clear hk
    go_wp2_with fail
    go_ret
    exact ⟨rfl, Hk.out⟩
  obtain ⟨s, hs⟩ : ∃ s, s = strOfNums (39 :: escQ b ++ [39]) := ⟨_, rfl⟩
  rw [← hs] at h246 ⊢
  clear hs h274
  go_enter Tryz.func212, Tryz.ntmps212
  go_wp2_with fail
  refine (h246 _).mono ?_
  rintro e w1 ⟨rfl, hk⟩
  have Hk := hid hk
  clear hk
  go_wp2_with fail
  go_ret
  exact ⟨rfl, Hk.out⟩
end Go.Proofs.YticdagnbnmnidaaGreatDoor
namespace Go.Proofs.YticdagnbnmnidaaGreatDoor
open Go.RowKit

/-- the letter that stands for a byte behind a backslash -/
def unq (b : Nat) : Nat := if b = 10 then 110 else if b = 13 then 114 else if b = 9 then 116 else b

/-- An escaper's block: its two tables and its bytes. -/
def EscBlk (w : World) (g : Nat) (T R : Nat → Nat) (t : ByteArray) : Prop :=
  ∃ cs, Row w g 181 cs ∧ cs.size = 513 ∧ (∀ i, i < 256 → cs[i]? = some (.int .u8 (T i : Nat))) ∧ (∀ i, i < 256 → cs[256 + i]? = some (.int .u8 (R i : Nat))) ∧ cs[512]? = some (.string t)

namespace EscBlk
variable {w w' : World} {g : Nat} {T R : Nat → Nat} {t : ByteArray} {S : Nat → Prop}
theorem lt (h : EscBlk w g T R t) : g < w.heap.size := let ⟨_, h, _⟩ := h; h.lt
theorem keep (h : EscBlk w g T R t) (hk : Keep S w w') (hn : ¬ S g) : EscBlk w' g T R t := let ⟨cs, h, r⟩ := h; ⟨cs, h.keep hk hn, r⟩
theorem same (h : EscBlk w g T R t) (hk : Same w w') : EscBlk w' g T R t := h.keep hk id
theorem frozen (h : EscBlk w g T R t) (i : Nat) : w.frozen? ⟨g, i, none⟩ = false := let ⟨_, h, _⟩ := h; h.frozen i
theorem cellT (h : EscBlk w g T R t) {i : Nat} (hi : i < 256) : w.cell? ⟨g, i, none⟩ = some (.int .u8 (T i : Nat)) := let ⟨_, h, _, hc, _⟩ := h; (h.cell i).trans (hc i hi)
theorem cellR (h : EscBlk w g T R t) {i : Nat} (hi : i < 256) : w.cell? ⟨g, 256 + i, none⟩ = some (.int .u8 (R i : Nat)) := let ⟨_, h, _, _, hc, _⟩ := h; (h.cell _).trans (hc i hi)
theorem cellS (h : EscBlk w g T R t) : w.cell? ⟨g, 512, none⟩ = some (.string t) := let ⟨_, h, _, _, _, hc⟩ := h; (h.cell _).trans hc
theorem setT (h : EscBlk w g T R t) {x : Nat} (hx : x < 256) (b : Nat) : EscBlk (w.setCell ⟨g, x, none⟩ (.int .u8 (b : Nat))) g (fun c => if c = x then b else T c) R t := by
  obtain ⟨cs, h, hs, hc, hr, ht⟩ := h
  refine ⟨_, h.set x _, by simpa using hs, fun i hi => ?_, fun i hi => ?_, ?_⟩
  · rw [Array.getElem?_setIfInBounds]
    by_cases e : x = i
    · subst e; simp [hs]; omega
    · rw [if_neg e, hc i hi]; show _ = some (Value.int .u8 ((if i = x then b else T i : Nat) : Int)); rw [if_neg (fun e' : i = x => e e'.symm)]
  · rw [Array.getElem?_setIfInBounds, if_neg (by omega)]; exact hr i hi
  · rw [Array.getElem?_setIfInBounds, if_neg (by omega)]; exact ht
theorem setR (h : EscBlk w g T R t) {x : Nat} (hx : x < 256) (b : Nat) : EscBlk (w.setCell ⟨g, 256 + x, none⟩ (.int .u8 (b : Nat))) g T (fun c => if c = x then b else R c) t := by
  obtain ⟨cs, h, hs, hc, hr, ht⟩ := h
  refine ⟨_, h.set (256 + x) _, by simpa using hs, fun i hi => ?_, fun i hi => ?_, ?_⟩
  · rw [Array.getElem?_setIfInBounds, if_neg (by omega)]; exact hc i hi
  · rw [Array.getElem?_setIfInBounds]
    by_cases e : x = i
    · subst e; simp [hs]; omega
    · rw [if_neg (by omega), hr i hi]; show _ = some (Value.int .u8 ((if i = x then b else R i : Nat) : Int)); rw [if_neg (fun e' : i = x => e e'.symm)]
  · rw [Array.getElem?_setIfInBounds, if_neg (by omega)]; exact ht
theorem setS (h : EscBlk w g T R t) (u : ByteArray) : EscBlk (w.setCell ⟨g, 512, none⟩ (.string u)) g T R u := by
  obtain ⟨cs, h, hs, hc, hr, ht⟩ := h
  refine ⟨_, h.set 512 _, by simpa using hs, fun i hi => ?_, fun i hi => ?_, ?_⟩
  · rw [Array.getElem?_setIfInBounds, if_neg (by omega)]; exact hc i hi
  · rw [Array.getElem?_setIfInBounds, if_neg (by omega)]; exact hr i hi
  · rw [Array.getElem?_setIfInBounds]; simp [hs]
end EscBlk

theorem esc_new (w : World) : EscBlk (w.alloc (.cells Tryz.zeroCells181 181)) w.heap.size (fun _ => 0) (fun _ => 0) ByteArray.empty := by
  have e : Tryz.zeroCells181 = Array.replicate 512 (.int .u8 0) ++ #[.string ByteArray.empty] := by kernel_rfl
  refine ⟨_, Row.new w _ _, by rw [e]; simp, fun i hi => ?_, fun i hi => ?_, ?_⟩
  · rw [e, Array.getElem?_append_left (by simp; omega), Array.getElem?_replicate, if_pos (by omega)]; rfl
  · rw [e, Array.getElem?_append_left (by simp; omega), Array.getElem?_replicate, if_pos (by omega)]; rfl
  · rw [e, Array.getElem?_append_right (by simp)]; simp

/-- where a string's iterator stands -/
def iterPos (w : World) (gi : Nat) : Nat := match w.heap[gi]? with | some (.stringIter _ p) => p | _ => 0
def IterAt (w : World) (gi : Nat) (s : ByteArray) (k : Nat) : Prop := w.heap[gi]? = some (.stringIter s k)
theorem IterAt.pos {w : World} {gi : Nat} {s : ByteArray} {k : Nat} (h : IterAt w gi s k) : iterPos w gi = k := by unfold iterPos; rw [h]
theorem IterAt.keep {S : Nat → Prop} {w w' : World} {gi : Nat} {s : ByteArray} {k : Nat} (h : IterAt w gi s k) (hk : Keep S w w') (hn : ¬ S gi) : IterAt w' gi s k :=
  (hk.block gi (Array.getElem?_eq_some_iff.1 h).1 hn).trans h

theorem iter_next {w : World} {gi : Nat} {s : ByteArray} {k : Nat} (hi : IterAt w gi s k) (h : k < s.size) (ha : (s[k]'h).toNat < 128) :
    ∃ w', (∀ ty, (Instr.next (.pointer (some ⟨gi, 0, none⟩)) true ty).run Tryz.prog w = .ok (.tuple #[.bool true, .int .i64 k, .int .i32 (s[k]'h).toNat]) w') ∧ IterAt w' gi s (k + 1) ∧ Keep (fun j => j = gi) w w' := by
  have hlt := (Array.getElem?_eq_some_iff.1 hi).1
  refine ⟨{ w with heap := w.heap.setIfInBounds gi (.stringIter s (k + 1)) }, fun ty => ?_, ?_, ?_⟩
  · have hi' : w.heap[gi]? = some (.stringIter s k) := hi
    simp only [Instr.next, getObj, setObj, Sem.run_bind, Sem.run, hi', Result.andThen, h, if_true, decode_ascii s k h ha]
    simp [goInt, Sem.run, hi']
  · show (w.heap.setIfInBounds gi _)[gi]? = _
    simp [hlt]
  · refine ⟨rfl, rfl, rfl, by simp, fun j _ hj => ?_⟩
    show (w.heap.setIfInBounds gi _)[j]? = _
    rw [Array.getElem?_setIfInBounds_ne (fun e => hj e.symm)]
theorem iter_end {w : World} {gi : Nat} {s : ByteArray} {k : Nat} (hi : IterAt w gi s k) (h : ¬ k < s.size) (ty : TypeId) :
    (Instr.next (.pointer (some ⟨gi, 0, none⟩)) true ty).run Tryz.prog w = .ok (.tuple #[.bool false]) w := by
  have hi' : w.heap[gi]? = some (.stringIter s k) := hi
  simp [Instr.next, getObj, Sem.run, hi', h]

theorem quote_facts (b : Nat) (hb : EscB b) : ∃ q q1 q2 : ByteArray, strOfNums (39 :: escQ b ++ [39]) = q ∧ 3 ≤ q.size ∧ q.size ≤ 4 ∧ q.extract 1 (q.size - 1) = q1 ∧
    (⟨(Lib.trimPrefix q1.data.toList [92]).toArray⟩ : ByteArray) = q2 ∧ q2.size = 1 ∧ q2[0]!.toNat = unq b ∧ unq b < 128 := by
  have hb' : b = 9 ∨ b = 10 ∨ b = 13 ∨ b = 32 ∨ b = 34 ∨ b = 44 ∨ b = 61 ∨ b = 92 := by unfold EscB at hb; omega
  rcases hb' with rfl | rfl | rfl | rfl | rfl | rfl | rfl | rfl <;> exact ⟨_, _, _, rfl, by decide, by decide, rfl, rfl, by decide +kernel, by decide +kernel, by decide⟩

/-- the tables behind these bytes -/
def tT (s : ByteArray) : Nat → Nat → Nat
  | 0, _ => 0
  | k + 1, c => if c = s[k]!.toNat then unq s[k]!.toNat else tT s k c
def tR (s : ByteArray) : Nat → Nat → Nat
  | 0, _ => 0
  | k + 1, c => if c = unq s[k]!.toNat then s[k]!.toNat else tR s k c

/-- What newEscaper hands back. -/
def GivesBlk (s : ByteArray) (w : World) (e : Ending) (w' : World) : Prop :=
  ∃ g, e = .returned (.pointer (some ⟨g, 0, none⟩)) ∧ w.heap.size ≤ g ∧ EscBlk w' g (tT s s.size) (tR s s.size) s ∧ Same w w'

theorem wrap8 {b : Nat} (h : b < 256) : IntKind.u8.wrap (b : Int) = (b : Int) := by
  have e : (b : Int) % 256 = b := Int.emod_eq_of_lt (by omega) (by omega)
  simp [IntKind.wrap, IntKind.bits, IntKind.signed, e]

set_option maxRecDepth 20000 in
set_option maxHeartbeats 1600000 in
theorem newEscaper_any (s : ByteArray) (w : World) (hs : s.size ≤ 1000) (hb : ∀ k, (h : k < s.size) → EscB (s[k].toNat : Int)) :
    Calls Tryz.prog 166 #[.string s] w (GivesBlk s w) := by
  have HB := hid hb
  clear hb
  go_enter Tryz.func166, Tryz.ntmps166
  go_wp2_with fail
  go_loopw [5] (fun _ wr => ∃ k : Nat, k ≤ s.size ∧ EscBlk wr w.heap.size (tT s k) (tR s k) ByteArray.empty ∧ IterAt wr (w.heap.size + 1) s k ∧ Same w wr) (fun _ wr => s.size - iterPos wr (w.heap.size + 1))
  case atStart => exact ⟨0, Nat.zero_le _, (esc_new w).same ((Keep.refl _ _).alloc _), (by have h := World.iter_heap (w.alloc (.cells Tryz.zeroCells181 181)) s 0; rw [show (w.alloc (Obj.cells Tryz.zeroCells181 181)).heap.size = w.heap.size + 1 by simp] at h; exact h), ((Keep.refl _ w).alloc _).alloc _⟩
  case round =>
    obtain ⟨k, hk, hE, hI, hS⟩ := hrel
    by_cases hlt : k < s.size
    · have hEb : EscB (s[k].toNat : Int) := HB.out k hlt
      have e1 : s[k]! = s[k] := getElem!_pos s k hlt
      obtain ⟨q, q1, q2, hq, hq3, hq4, hq5, hq6, hq7, hq8, hq9⟩ := quote_facts s[k].toNat hEb
      have h128 : s[k].toNat < 128 := by unfold EscB at hEb; omega
      obtain ⟨W1, hn, hI1, hk1⟩ := iter_next hI hlt h128
      have hE1 := hE.keep hk1 (fun e => by have e' : w.heap.size = w.heap.size + 1 := e; omega)
      have hS1 : Same w W1 := hS.trans' hk1 (fun i hi e => by have e' : i = w.heap.size + 1 := e; omega)
      have hQ : ∀ w, Calls Tryz.prog 212 #[.int .i32 s[k].toNat] w fun e w' => e = .returned (.string q) ∧ Same w w' := fun w => by rw [← hq]; exact quoteRune_esc _ w hEb
      have hT : ∀ w, Calls Tryz.prog 213 #[.string q1, .string ⟨#[92]⟩] w fun e w' => e = .returned (.string q2) ∧ w' = w := fun w => by rw [← hq6]; exact Tryz.strings_TrimPrefix q1 ⟨#[92]⟩ w
      have fT : tT s (k + 1) = fun c => if c = s[k].toNat then unq s[k].toNat else tT s k c := by funext c; simp only [tT, e1]
      have fR : tR s (k + 1) = fun c => if c = unq s[k].toNat then s[k].toNat else tR s k c := by funext c; simp only [tR, e1]
      obtain ⟨b, hb⟩ : ∃ b, b = s[k].toNat := ⟨_, rfl⟩
      rw [← hb] at hn hQ fT fR hq8 hq9 h128
      obtain ⟨u, hu⟩ : ∃ u, u = unq b := ⟨_, rfl⟩
      rw [← hu] at fT fR hq8 hq9
      have FT := hid fT
      have FR := hid fR
      have HS := hid hS1
      have HE := hid hE1
      have HI := hid hI1
      have hw8 := wrap8 (b := b) (by omega)
      obtain ⟨m, hm⟩ : ∃ m, m = q.size - 1 := ⟨_, rfl⟩
      rw [← hm] at hq5
      have hm1 : (q.size : Int) - 1 = (m : Int) := by omega
      have hm2 : 1 ≤ m := by omega
      have hm3 : m ≤ q.size := by omega
      have h0q : 0 < q2.size := by omega
      have hq8' : (q2[0]'h0q).toNat = u := by rw [← hq8, getElem!_pos q2 0 h0q]
      clear hq8
      have hsl : ∀ w, (Instr.slice 9 (.string q) (some (.int .i64 1)) (some (.int .i64 (m : Nat))) none).run Tryz.prog w = .ok (.string q1) w := fun w => by
        rw [run_slice_string w 9 q .i64 .i64 1 m Tryz.underlying9 (by omega) (by omega) (by omega), ← hq5]; rfl
      have hp := hI.pos
      clear hE hI hS hk1 hS1 hI1 hEb e1 hq fT fR hb hu hE1 hq6 hq5 hm
      go_wp2_with fail
      refine (hQ _).mono ?_
      rintro e W2 ⟨rfl, hk2⟩
      have HE2 := hid (HE.out.same hk2)
      have HI2 := hid (HI.out.keep hk2 id)
      have HS2 := hid (HS.out.trans hk2)
      clear HE HI HS hk2 hQ
      go_wp2_with fail
      refine (hT _).mono ?_
      rintro e W3 ⟨rfl, rfl⟩
      clear hT
      have hf := HE2.out.frozen
      have HP := hid hp
      clear hp
      have hc0 := HE2.out.cellT (i := b) (by omega)
      have hc1 := (HE2.out.setT (x := b) (by omega) u).cellR (i := u) (by omega)
      go_wp2_with fail
      have K1 := fun (W : World) (x : Nat) (y : Value) => (Keep.refl (fun j => j = w.heap.size) W).setCell (p := ⟨w.heap.size, x, none⟩) (fun _ => rfl) y
      have HI3 := (HI2.out.keep (K1 _ b (.int .u8 (u : Nat))) (fun e => by omega)).keep (K1 _ (256 + u) (.int .u8 (b : Nat))) (fun e => by omega)
      go_roundw
      case rel => exact ⟨k + 1, by omega, by rw [FT.out, FR.out]; exact (HE2.out.setT (by omega) u).setR (by omega) b, HI3, (HS2.out.setCell (fun h => absurd h (by simp)) _).setCell (fun h => absurd h (by simp)) _⟩
      case measure => rw [HI3.pos, HP.out]; omega
    · obtain rfl : k = s.size := by omega
      have hn := iter_end hI hlt
      have hf := hE.frozen
      have hc := hE.cellS
      have HE := hid hE
      have HS := hid hS
      clear hE hI hS
      go_wp2_with fail
      go_ret
      exact ⟨_, rfl, Nat.le_refl _, HE.out.setS s, HS.out.setCell (fun h => absurd h (by simp)) _⟩
end Go.Proofs.YticdagnbnmnidaaGreatDoor
