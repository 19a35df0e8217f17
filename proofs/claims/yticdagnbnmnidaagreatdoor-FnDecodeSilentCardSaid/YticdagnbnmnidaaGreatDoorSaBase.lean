/- Words for memory that the walks of this claim share: which blocks a call leaves as they were, and what a block holds. Conditions: none; plain lemmas on worlds. Slices of bytes that read as lists. Conditions: none; plain lemmas on worlds. -/
import Derived.Test.YticdagnbnmnidaaGreatDoorProg
import Derived.Tactics
import Derived.Tactics2
import Derived.WalkKit
import Derived.KernelRfl
import Derived.WalkLawsBesides
set_option linter.unusedSimpArgs false
set_option linter.unusedVariables false
namespace Go.Proofs.YticdagnbnmnidaaGreatDoor
open Go.RowKit

/-- All blocks of w but those that S names are in w' as they were; nothing is gone; the streams are as they were. -/
structure Keep (S : Nat → Prop) (w w' : World) : Prop where
  os : w'.os = w.os
  tape : w'.tape = w.tape
  output : w'.output = w.output
  size : w.heap.size ≤ w'.heap.size
  block : ∀ k, k < w.heap.size → ¬ S k → w'.heap[k]? = w.heap[k]?

/-- All blocks are as they were. -/
abbrev Same (w w' : World) : Prop := Keep (fun _ => False) w w'

namespace Keep
variable {S T : Nat → Prop} {a b c w w' : World}
theorem refl (S : Nat → Prop) (w : World) : Keep S w w := ⟨rfl, rfl, rfl, Nat.le_refl _, fun _ _ _ => rfl⟩
theorem mono (h : Keep S a b) (hs : ∀ k, k < a.heap.size → S k → T k) : Keep T a b := ⟨h.os, h.tape, h.output, h.size, fun k hk ht => h.block k hk fun h' => ht (hs k hk h')⟩
theorem wide (h : Same a b) : Keep S a b := h.mono fun _ _ h => h.elim
theorem trans (h : Keep S a b) (k : Keep S b c) : Keep S a c :=
  ⟨k.os.trans h.os, k.tape.trans h.tape, k.output.trans h.output, Nat.le_trans h.size k.size, fun i hi hn => (k.block i (Nat.lt_of_lt_of_le hi h.size) hn).trans (h.block i hi hn)⟩
/-- what the second step may turn is new, or S lets it -/
theorem trans' (h : Keep S a b) (k : Keep T b c) (hs : ∀ i, i < a.heap.size → T i → S i) : Keep S a c :=
  ⟨k.os.trans h.os, k.tape.trans h.tape, k.output.trans h.output, Nat.le_trans h.size k.size, fun i hi hn => (k.block i (Nat.lt_of_lt_of_le hi h.size) fun h' => hn (hs i hi h')).trans (h.block i hi hn)⟩
theorem drew (h : Keep S a w) : Keep S a w.drew := ⟨h.os, h.tape, h.output, h.size, h.block⟩
theorem drewN (h : Keep S a w) (n : Nat) : Keep S a (w.drewN n) := ⟨h.os, h.tape, h.output, h.size, h.block⟩
theorem alloc (h : Keep S a w) (o : Obj) : Keep S a (w.alloc o) :=
  h.trans ⟨rfl, rfl, rfl, by simp, fun k hk _ => Below.heap_alloc _ _ _ hk⟩
theorem setCell (h : Keep S a w) {p : Addr} (hp : p.block < a.heap.size → S p.block) (u : Value) : Keep S a (w.setCell p u) :=
  ⟨h.os, h.tape, h.output, by simpa [World.setCell] using h.size, fun k hk hn => by
    rw [Below.heap_setCell _ _ _ _ (fun e => hn (by subst e; exact hp hk))]
    exact h.block k hk hn⟩
theorem grown (h : Keep S a w) {row : Option Nat} (hg : w.grownBy w' row) (hr : ∀ k, row = some k → k < a.heap.size → S k) : Keep S a w' :=
  ⟨hg.os.trans h.os, hg.tape.trans h.tape, hg.output.trans h.output, Nat.le_trans h.size hg.size, fun k hk hn => by
    rw [hg.block k (Nat.lt_of_lt_of_le hk h.size) (fun e => hn (hr k e.symm hk))]
    exact h.block k hk hn⟩
theorem cell (h : Keep S w w') {p : Addr} (hp : p.block < w.heap.size) (hn : ¬ S p.block) : w'.cell? p = w.cell? p := World.cell?_of_block (h.block _ hp hn)
theorem frozen (h : Keep S w w') {p : Addr} (hp : p.block < w.heap.size) (hn : ¬ S p.block) : w'.frozen? p = w.frozen? p := World.frozen?_of_block (h.block _ hp hn)
theorem below (h : Keep S w w') {B : Nat} (hB : B ≤ w.heap.size) (hn : ∀ k, k < B → ¬ S k) : Below B w w' :=
  ⟨h.os, h.tape, h.output, h.size, fun k hk => h.block k (Nat.lt_of_lt_of_le hk hB) (hn k hk)⟩
theorem of_below (h : Below w.heap.size w w') : Keep S w w' := ⟨h.os, h.tape, h.output, h.size, fun k hk _ => h.block k hk⟩
end Keep

/-- Block g is just these cells, and none is frozen. -/
def Row (w : World) (g : Nat) (t : TypeId) (cs : Array Value) : Prop := w.heap[g]? = some (.cells cs t (0, 0))

namespace Row
variable {w w' : World} {g : Nat} {t : TypeId} {cs : Array Value} {S : Nat → Prop}
theorem lt (h : Row w g t cs) : g < w.heap.size := (Array.getElem?_eq_some_iff.1 h).1
theorem cell (h : Row w g t cs) (i : Nat) : w.cell? ⟨g, i, none⟩ = cs[i]? := cell_of_row w g i cs t (0, 0) h
theorem frozen (h : Row w g t cs) (i : Nat) : w.frozen? ⟨g, i, none⟩ = false := frozen_of_row w g i cs t h
theorem new (w : World) (t : TypeId) (cs : Array Value) : Row (w.alloc (.cells cs t)) w.heap.size t cs := heap_alloc_new w _
theorem keep (h : Row w g t cs) (hk : Keep S w w') (hn : ¬ S g) : Row w' g t cs := (hk.block g h.lt hn).trans h
theorem same (h : Row w g t cs) (hk : Same w w') : Row w' g t cs := h.keep hk id
theorem set (h : Row w g t cs) (i : Nat) (u : Value) : Row (w.setCell ⟨g, i, none⟩ u) g t (cs.setIfInBounds i u) := heap_setCell_same w g i cs t u h
theorem alloc (h : Row w g t cs) (o : Obj) : Row (w.alloc o) g t cs := (Below.heap_alloc w o g h.lt).trans h
theorem far (h : Row w g t cs) {p : Addr} (hp : g ≠ p.block) (u : Value) : Row (w.setCell p u) g t cs := (heap_setCell_other w p g u hp).trans h
theorem drew (h : Row w g t cs) : Row w.drew g t cs := h
theorem drewN (h : Row w g t cs) (n : Nat) : Row (w.drewN n) g t cs := h
end Row

theorem hid {p : Prop} (h : p) : Hid p := h

theorem lt_of_cell {w : World} {b o : Nat} {s : Option Nat} {v : Value} (h : w.cell? ⟨b, o, s⟩ = some v) : b < w.heap.size := block_lt_of_cell h

end Go.Proofs.YticdagnbnmnidaaGreatDoor
namespace Go.Proofs.YticdagnbnmnidaaGreatDoor
open Go.RowKit

/-- From place off of block T on stand these bytes. -/
def Bs (w : World) (T off : Nat) (l : List UInt8) : Prop := ∀ i, i < l.length → w.cell? ⟨T, off + i, none⟩ = some (.int .u8 ((l.getD i 0).toNat : Nat))

namespace Bs
variable {w w' : World} {T off : Nat} {l : List UInt8} {S : Nat → Prop}
theorem lt (h : Bs w T off l) (hl : 0 < l.length) : T < w.heap.size := lt_of_cell (h 0 hl)
theorem keep (h : Bs w T off l) (hk : Keep S w w') (hn : ¬ S T) : Bs w' T off l := fun i hi => by
  have := h i hi
  rw [← this]
  exact hk.cell (p := ⟨T, off + i, none⟩) (lt_of_cell this) hn
theorem same (h : Bs w T off l) (hk : Same w w') : Bs w' T off l := h.keep hk id
theorem drop (h : Bs w T off l) (k : Nat) : Bs w T (off + k) (l.drop k) := fun i hi => by
  rw [List.length_drop] at hi
  have := h (k + i) (by omega)
  rw [show off + k + i = off + (k + i) by omega, this]
  simp [List.getD, List.getElem?_drop]
theorem take (h : Bs w T off l) (k : Nat) : Bs w T off (l.take k) := fun i hi => by
  rw [List.length_take] at hi
  have := h i (by omega)
  rw [this]
  simp [List.getD, show i < k by omega]
theorem setCell (h : Bs w T off l) {p : Addr} (hp : p.block ≠ T) (u : Value) : Bs (w.setCell p u) T off l := fun i hi => by
  rw [← h i hi]
  exact World.cell?_setCell_other w p _ u (fun e => hp (by rw [e]))
theorem drewN (h : Bs w T off l) (n : Nat) : Bs (w.drewN n) T off l := h
theorem alloc (h : Bs w T off l) (o : Obj) : Bs (w.alloc o) T off l := h.same ((Keep.refl _ w).alloc o)
end Bs

/-- A slice value that reads as these bytes. -/
def SlB (w : World) (v : Value) (l : List UInt8) : Prop :=
  ∃ A cap, v = .slice A l.length cap ∧ l.length ≤ cap ∧ (0 < l.length → ∃ T off, A = some ⟨T, off, none⟩ ∧ Bs w T off l)

namespace SlB
variable {w w' : World} {v : Value} {l : List UInt8} {S : Nat → Prop}
theorem same (h : SlB w v l) (hk : Same w w') : SlB w' v l := by
  obtain ⟨A, cap, rfl, hc, hr⟩ := h
  exact ⟨A, cap, rfl, hc, fun hl => let ⟨T, off, e, hb⟩ := hr hl; ⟨T, off, e, hb.same hk⟩⟩
theorem nil (w : World) : SlB w (.slice none 0 0) [] := ⟨none, 0, rfl, Nat.le_refl _, fun h => absurd h (by simp)⟩
/-- which block it lies in, if it has a byte -/
def inBlock (v : Value) (S : Nat → Prop) : Prop := ∀ a n c, v = .slice (some a) n c → 0 < n → S a.block
theorem keep (h : SlB w v l) (hk : Keep S w w') (hn : inBlock v (fun b => ¬ S b)) : SlB w' v l := by
  obtain ⟨A, cap, rfl, hc, hr⟩ := h
  refine ⟨A, cap, rfl, hc, fun hl => ?_⟩
  obtain ⟨T, off, rfl, hb⟩ := hr hl
  exact ⟨T, off, rfl, hb.keep hk (hn _ _ _ rfl hl)⟩
end SlB
end Go.Proofs.YticdagnbnmnidaaGreatDoor
