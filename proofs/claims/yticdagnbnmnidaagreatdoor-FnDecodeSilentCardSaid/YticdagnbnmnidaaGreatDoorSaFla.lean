/- strconv.ParseFloat: what its small functions hand back; the tables that it reads. Conditions: none. -/
import Derived.Test.YticdagnbnmnidaaGreatDoorSaTail
import Derived.Deep.QuietTactic
import Derived.BigQuiet
import Derived.Laws.Externs
import Derived.Outline
set_option linter.unusedSimpArgs false
set_option linter.unusedVariables false
namespace Go.Proofs.YticdagnbnmnidaaGreatDoor
open Go.RowKit

theorem Lay.cell {w0 w : World} (h : Lay w0 w) {b o : Nat} {v : Value} (hc : w0.cell? ⟨b, o, none⟩ = some v) : w.cell? ⟨b, o, none⟩ = some v := by
  rw [← hc]; exact World.cell?_of_block (h b (lt_of_cell hc))

/-- a call that hands back a whole number of a kind, the world as it was -/
def GivesI (k : IntKind) (w : World) (e : Ending) (w' : World) : Prop := (∃ n : Int, e = .returned (.int k n)) ∧ w = w'
/-- two of them -/
def GivesII (k l : IntKind) (w : World) (e : Ending) (w' : World) : Prop := (∃ n m : Int, e = .returned (.tuple #[.int k n, .int l m])) ∧ w = w'

theorem mul64_any (a b : Int) (w : World) : Calls Tryz.prog 281 #[.int .u64 a, .int .u64 b] w (GivesII .u64 .u64 w) := by
  go_enter Tryz.func281, Tryz.ntmps281
  go_wp2_with fail
  go_ret2
  exact ⟨⟨_, _, rfl⟩, rfl⟩

theorem bool2i_any (b : Bool) (w : World) : Calls Tryz.prog 243 #[.bool b] w fun e w' => e = .returned (.int .i64 (b.toNat : Nat)) ∧ w = w' := by
  cases b
  all_goals
    go_enter Tryz.func243, Tryz.ntmps243
    go_wp2_with fail
    go_ret
    exact ⟨rfl, rfl⟩
theorem bool2u_any (b : Bool) (w : World) : Calls Tryz.prog 282 #[.bool b] w fun e w' => e = .returned (.int .u64 (b.toNat : Nat)) ∧ w = w' := by
  cases b
  all_goals
    go_enter Tryz.func282, Tryz.ntmps282
    go_wp2_with fail
    go_ret
    exact ⟨rfl, rfl⟩
theorem log2Pow10_any (x : Int) (w : World) : Calls Tryz.prog 258 #[.int .i64 x] w (GivesI .i64 w) := by
  go_enter Tryz.func258, Tryz.ntmps258
  go_wp2_with fail
  go_ret
  exact ⟨⟨_, rfl⟩, rfl⟩
theorem round_any (x : Int) (w : World) : Calls Tryz.prog 263 #[.int .u64 x] w (GivesI .u64 w) := by
  go_enter Tryz.func263, Tryz.ntmps263
  go_wp2_with fail
  go_ret
  exact ⟨⟨_, rfl⟩, rfl⟩
theorem unmin_any (x : Int) (w : World) : Calls Tryz.prog 264 #[.int .u64 x] w (GivesI .u64 w) := by
  go_enter Tryz.func264, Tryz.ntmps264
  go_wp2_with fail
  go_ret
  exact ⟨⟨_, rfl⟩, rfl⟩
/-- a call that hands back a float, the world as it was -/
def GivesF (w : World) (e : Ending) (w' : World) : Prop := (∃ n : Nat, e = .returned (.float .f64 n)) ∧ w = w'
/-- internal/strconv.float64frombits -/
theorem frombits_run (n : Int) (w : World) : (callFunc 296 #[.int .u64 n]).run Tryz.prog w = .ok (.value (.float .f64 n.toNat)) w := by
  rw [run_callFunc_extern Tryz.func296 (by kernel_rfl) (by kernel_rfl) (by kernel_rfl) (e := Extern.MathFloatBits.float64frombits) (by kernel_rfl)]
  rfl
/-- math.Float64frombits -/
theorem frombits_math_run (n : Int) (w : World) : (callFunc 163 #[.int .u64 n]).run Tryz.prog w = .ok (.value (.float .f64 n.toNat)) w := by
  rw [run_callFunc_extern Tryz.func163 (by kernel_rfl) (by kernel_rfl) (by kernel_rfl) (e := Extern.MathFloatBits.float64frombits) (by kernel_rfl)]
  rfl
/-- math.Float64bits -/
theorem bits_math_run (n : Nat) (w : World) : (callFunc 160 #[.float .f64 n]).run Tryz.prog w = .ok (.value (.int .u64 n)) w := by
  rw [run_callFunc_extern Tryz.func160 (by kernel_rfl) (by kernel_rfl) (by kernel_rfl) (e := Extern.MathFloatBits.float64bits) (by kernel_rfl)]
  rfl

/-- a call that hands back a float and an error, or none, the world as it was -/
def GivesFE (w : World) (e : Ending) (w' : World) : Prop := (∃ n : Nat, e = .returned (.tuple #[.float .f64 n, .nilIface]) ∨ e = .returned (.tuple #[.float .f64 n, .iface 315 (.int .i64 1)]) ∨ e = .returned (.tuple #[.float .f64 n, .iface 315 (.int .i64 2)])) ∧ Same w w'
theorem pack64_any (m x : Int) (w : World) : Calls Tryz.prog 308 #[.int .u64 m, .int .i64 x] w (GivesFE w) := by
  have hb := frombits_run
  go_enter Tryz.func308, Tryz.ntmps308
  go_wp2_with fail
  all_goals
    go_ret2
    first
      | exact ⟨⟨_, .inl rfl⟩, Keep.refl _ _⟩
      | exact ⟨⟨_, .inr (.inl rfl)⟩, Keep.refl _ _⟩

theorem and63 (x : Int) : 0 ≤ bits .and .i64 x 63 ∧ bits .and .i64 x 63 ≤ 63 := by
  show 0 ≤ IntKind.i64.wrap ((BitVec.ofInt 64 x &&& BitVec.ofInt 64 63).toNat : Int) ∧ IntKind.i64.wrap ((BitVec.ofInt 64 x &&& BitVec.ofInt 64 63).toNat : Int) ≤ 63
  rw [BitVec.toNat_and]
  have h : (BitVec.ofInt 64 x).toNat &&& (BitVec.ofInt 64 63).toNat ≤ 63 := Nat.and_le_right
  generalize (BitVec.ofInt 64 x).toNat &&& (BitVec.ofInt 64 63).toNat = n at h
  rw [IntKind.wrap_i64]
  omega

/-- a scaler stands in block g -/
def ScAt (w : World) (g : Nat) (a b s : Int) : Prop := Row w g 320 #[.int .u64 a, .int .u64 b, .int .i64 s]

set_option maxRecDepth 20000 in
theorem uscale_any (x a b s : Int) (g : Nat) (w : World) (h : ScAt w g a b s) : Calls Tryz.prog 259 #[.int .u64 x, .pointer (some ⟨g, 0, none⟩)] w (fun e w' => (∃ n : Int, e = .returned (.int .u64 n)) ∧ Same w w') := by
  have f0 : w.cell? ⟨g, 0, none⟩ = some (.int .u64 a) := h.cell 0
  have f1 : w.cell? ⟨g, 1, none⟩ = some (.int .u64 b) := h.cell 1
  have f2 : w.cell? ⟨g, 2, none⟩ = some (.int .i64 s) := h.cell 2
  have h0 := (and63 s).1
  clear h
  go_enter Tryz.func259, Tryz.ntmps259
  go_wp2_with fail
  refine (mul64_any _ _ _).mono ?_
  rintro e w1 ⟨⟨hi, mid, rfl⟩, rfl⟩
  go_wp2_with fail
  · go_ret
    exact ⟨⟨_, rfl⟩, Keep.refl _ _⟩
  · refine (mul64_any _ _ _).mono ?_
    rintro e w1 ⟨⟨hi2, mid2, rfl⟩, rfl⟩
    go_wp2_with fail
    refine (bool2u_any _ _).mono ?_
    rintro e w1 ⟨rfl, rfl⟩
    go_wp2_with fail
    go_quiet ((go_at_call 282; refine (bool2u_any _ _).mono ?_; rintro e w1 ⟨rfl, rfl⟩; exact ⟨rfl, _, rfl⟩))
    go_wp2_with fail
    go_ret
    exact ⟨⟨_, rfl⟩, (Keep.refl _ _).drewN _⟩

/-- the powers of ten, as pairs -/
def PowTab (w : World) : Prop := ∀ i, i < 1392 → ∃ n : Int, w.cell? ⟨11, i, none⟩ = some (.int .u64 n)
theorem PowTab.lay {w0 w : World} (h : PowTab w0) (hl : Lay w0 w) : PowTab w := fun i hi => let ⟨n, hn⟩ := h i hi; ⟨n, hl.cell hn⟩

set_option maxRecDepth 20000 in
theorem prescale_any (e lp : Int) (q g : Nat) (w : World) (hq : q < 696) (ht : PowTab w) (h : ∃ a b s, ScAt w g a b s) (hg : 25 < g) :
    Calls Tryz.prog 257 #[.pointer (some ⟨g, 0, none⟩), .int .i64 e, .int .i64 ((q : Int) - 348), .int .i64 lp] w (fun e w' => e = .returned (.tuple #[]) ∧ (∃ a b s, ScAt w' g a b s) ∧ Keep (fun k => k = g) w w') := by
  obtain ⟨a, b, s, h⟩ := h
  have f0 : w.cell? ⟨g, 0, none⟩ = some (.int .u64 a) := h.cell 0
  have f1 : w.cell? ⟨g, 1, none⟩ = some (.int .u64 b) := h.cell 1
  have f2 : w.cell? ⟨g, 2, none⟩ = some (.int .i64 s) := h.cell 2
  have e0 := h.frozen 0
  have e1 := h.frozen 1
  have e2 := h.frozen 2
  obtain ⟨n0, t0⟩ := ht (q * 2) (by omega)
  obtain ⟨n1, t1⟩ := ht (q * 2 + 1) (by omega)
  have H := hid h
  clear h ht
  have hne : ¬ g = 11 := by omega
  have hne' : ¬ 11 = g := by omega
  go_enter Tryz.func257, Tryz.ntmps257
  go_wp2_with fail
  go_end0
  exact ⟨rfl, ⟨_, _, _, ((H.out.set 0 _).set 1 _).set 2 _⟩, (((Keep.refl (fun k => k = g) w).setCell (fun _ => rfl) _).setCell (fun _ => rfl) _).setCell (fun _ => rfl) _⟩
end Go.Proofs.YticdagnbnmnidaaGreatDoor
