/- strconv.ParseFloat: rounding a whole number times a power of ten. Conditions: none. Floats that are numbers or infinities: what is made of such by whole numbers, signs, products and quotients is one again. No program in sight. Conditions: none. strconv.ParseFloat: the exact way. Conditions: none. -/
import Derived.Test.YticdagnbnmnidaaGreatDoorSaFla
import Derived.Test.YticdagnbnmnidaaGreatDoorSaShelf
import Derived.Laws.FloatArith
set_option linter.unusedSimpArgs false
set_option linter.unusedVariables false
namespace Go.Proofs.YticdagnbnmnidaaGreatDoor
open Go.RowKit

theorem bitLenAux_le : ∀ f n : Nat, Lib.bitLenAux f n ≤ f := by
  intro f
  induction f with
  | zero => intro n; simp [Lib.bitLenAux]
  | succ f ih => intro n; have := ih (n / 2); simp only [Lib.bitLenAux]; split <;> omega
theorem bitLen_le64 (n : Nat) : Lib.bitLen n ≤ 64 := bitLenAux_le 64 n
/-- Len64 -/
theorem len64_any (d : Int) (w : World) (h0 : 0 ≤ d) (h1 : d < 18446744073709551616) : Calls Tryz.prog 234 #[.int .u64 d] w fun e w' => (∃ b : Nat, b ≤ 64 ∧ e = .returned (.int .i64 b)) ∧ w = w' := by
  refine (Tryz.bits_Len64 d w h0 (by omega)).mono ?_
  rintro e w' ⟨rfl, rfl⟩
  exact ⟨⟨_, bitLen_le64 _, rfl⟩, rfl⟩

theorem PowTab.same {w w' : World} (h : PowTab w) (hk : Same w w') : PowTab w' := fun i hi => let ⟨n, hn⟩ := h i hi; ⟨n, by rw [← hn]; exact hk.cell (p := ⟨11, i, none⟩) (lt_of_cell hn) id⟩

theorem pow_lt {w : World} (h : PowTab w) : 11 < w.heap.size := let ⟨_, hn⟩ := h 0 (by omega); lt_of_cell hn

set_option maxRecDepth 20000 in
set_option maxHeartbeats 800000 in
theorem parse64_any (d sg : Int) (q : Nat) (w : World) (h0 : 0 ≤ d) (h1 : d < 18446744073709551616) (hq : q < 696) (ht : PowTab w) (hz : 25 < w.heap.size) :
    Calls Tryz.prog 298 #[.int .u64 d, .int .i64 ((q : Int) - 348), .int .u64 sg] w (GivesFE w) := by
  have hfb := frombits_run
  have hsc : ScAt (w.alloc (.cells #[.int .u64 0, .int .u64 0, .int .i64 0] 320)) w.heap.size 0 0 0 := Row.new w 320 _
  have hk0 : Same w (w.alloc (.cells #[.int .u64 0, .int .u64 0, .int .i64 0] 320)) := (Keep.refl _ w).alloc _
  have Hsc := hid hsc
  have Hk := hid hk0
  have Ht := hid (ht.same hk0)
  clear hsc hk0 ht
  go_enter Tryz.func298, Tryz.ntmps298
  go_wp2_with fail
  refine (len64_any d _ h0 h1).mono ?_
  rintro e w1 ⟨⟨b, hb, rfl⟩, rfl⟩
  go_wp2_with fail
  refine (log2Pow10_any _ _).mono ?_
  rintro e w1 ⟨⟨lp, rfl⟩, rfl⟩
  go_wp2_with fail
  refine (prescale_any _ lp q w.heap.size _ hq Ht.out ⟨_, _, _, Hsc.out⟩ hz).mono ?_
  rintro e w1 ⟨rfl, ⟨a0, b0, s0, hs⟩, hk⟩
  have Hs := hid hs
  have f2 : w1.cell? ⟨w.heap.size, 2, none⟩ = some (.int .i64 s0) := hs.cell 2
  have Hw := hid (Hk.out.trans' hk (fun i hi e => by omega))
  clear hs hk
  go_wp2_with fail
  · go_ret2
    exact ⟨⟨_, .inl rfl⟩, Hw.out⟩
  · refine (uscale_any _ a0 b0 s0 w.heap.size _ Hs.out).mono ?_
    rintro e w2 ⟨⟨u, rfl⟩, hk2⟩
    have Hw2 := hid (Hw.out.trans hk2)
    clear hk2 Hw f2
    go_wp2_with fail
    refine (unmin_any _ _).mono ?_
    rintro e w3 ⟨⟨m, rfl⟩, rfl⟩
    go_wp2_with fail
    refine (bool2i_any _ _).mono ?_
    rintro e w3 ⟨rfl, rfl⟩
    go_wp2_with fail
    refine (round_any _ _).mono ?_
    rintro e w3 ⟨⟨r, rfl⟩, rfl⟩
    go_wp2_with fail
    refine (pack64_any _ _ _).mono ?_
    rintro e w4 ⟨⟨f, hor⟩, hk4⟩
    have Hw4 := hid (Hw2.out.trans hk4)
    clear hk4
    rcases hor with rfl | rfl | rfl
    all_goals
      go_wp2_with fail
      go_ret2
    · exact ⟨⟨_, .inl rfl⟩, Hw4.out⟩
    · exact ⟨⟨_, .inr (.inl rfl)⟩, Hw4.out⟩
    · exact ⟨⟨_, .inr (.inr rfl)⟩, Hw4.out⟩
end Go.Proofs.YticdagnbnmnidaaGreatDoor
namespace Go.Proofs.YticdagnbnmnidaaGreatDoor
open Ieee

/-- not a NaN's word -/
def NN (x : Nat) : Prop := x % double.signWeight ≤ double.infRung

theorem read_nn {x : Nat} (h : NN x) : (∃ s m e, double.read x = .number s m e) ∨ ∃ s, double.read x = .infinity s := by
  unfold NN at h
  unfold Format.read
  simp only
  split
  · exact .inl ⟨_, _, _, rfl⟩
  · split
    · exact .inl ⟨_, _, _, rfl⟩
    · rw [if_pos (by omega)]; exact .inr ⟨_, rfl⟩

theorem word_nn (neg : Bool) {r : Nat} (h : r ≤ double.infRung) : NN (double.word neg r) := by
  unfold NN
  have := double.infRung_lt
  unfold Format.word
  split
  · rw [Nat.add_mod_left, Nat.mod_eq_of_lt (by omega)]; exact h
  · rw [Nat.mod_eq_of_lt (by omega)]; exact h

theorem nearest_nn (neg : Bool) (m : Nat) (e : Int) : NN (double.nearest neg m e) := by
  unfold Format.nearest
  split
  · exact word_nn _ (Nat.zero_le _)
  · exact word_nn _ (Nat.min_le_right _ _)
theorem write_nn {d : Datum} (h : (∃ s m e, d = .number s m e) ∨ ∃ s, d = .infinity s) : NN (double.write d) := by
  rcases h with ⟨s, m, e, rfl⟩ | ⟨s, rfl⟩
  · exact nearest_nn s m e
  · exact word_nn s (Nat.le_refl _)

theorem ofInt_nn (n : Int) : NN (floatOfInt .f64 n) := nearest_nn _ _ _
theorem neg_nn {x : Nat} (h : NN x) : NN (Op.negFloat .f64 x) := by
  have e : Op.negFloat .f64 x % double.signWeight = x % double.signWeight := by
    show (x ^^^ 2 ^ 63) % 2 ^ 63 = x % 2 ^ 63
    rw [Nat.xor_mod_two_pow, Nat.mod_self, Nat.xor_zero]
  unfold NN
  rw [e]
  exact h

/-- a number that is not 0 -/
def NZ (y : Nat) : Prop := ∃ s m e, double.read y = .number s m e ∧ m ≠ 0

theorem mul_nn {x y : Nat} (hx : NN x) (hy : NZ y) : ∃ r, floatBits .mul .f64 x y = some r ∧ NN r := by
  obtain ⟨t, n, j, hr, hn⟩ := hy
  show ∃ r, double.mul x y = some r ∧ NN r
  unfold Format.mul
  rw [hr]
  rcases read_nn hx with ⟨s, m, e, h⟩ | ⟨s, h⟩
  · rw [h]; exact ⟨_, rfl, nearest_nn _ _ _⟩
  · rw [h]
    simp only [Datum.product, if_neg hn]
    exact ⟨_, rfl, word_nn _ (Nat.le_refl _)⟩
theorem quo_nn {x y : Nat} (hx : NN x) (hy : NZ y) : ∃ r, floatBits .quo .f64 x y = some r ∧ NN r := by
  obtain ⟨t, n, j, hr, hn⟩ := hy
  show ∃ r, double.div x y = some r ∧ NN r
  unfold Format.div
  rw [hr]
  rcases read_nn hx with ⟨s, m, e, h⟩ | ⟨s, h⟩
  · rw [h]
    simp only [Datum.quotient, if_neg hn]
    exact ⟨_, rfl, nearest_nn _ _ _⟩
  · rw [h]; exact ⟨_, rfl, word_nn _ (Nat.le_refl _)⟩

/-- the powers of ten that are floats -/
def tenB : List Nat := [4607182418800017408, 4621819117588971520, 4636737291354636288, 4652007308841189376, 4666723172467343360, 4681608360884174848, 4696837146684686336, 4711630319722168320, 4726483295884279808, 4741671816366391296, 4756540486875873280, 4771362005757984768, 4786511204640096256, 4801453603149578240, 4816244402031689728, 4831355200913801216, 4846369599423283200, 4861130398305394688, 4876203697187506176, 4891288408196988160, 4906019910204099648, 4921056587992461136, 4936209963552724370]
def isNZ (y : Nat) : Bool := match double.read y with
  | .number _ m _ => m != 0
  | _ => false
theorem nz_of {y : Nat} (h : isNZ y = true) : NZ y := by
  unfold isNZ at h
  split at h
  · rename_i s m e hr; exact ⟨s, m, e, hr, by simpa using h⟩
  · cases h
/-- the i-th of them -/
def tenF (i : Nat) : Nat := tenB.getD i 0
theorem ten_nz {i : Nat} (h : i < 23) : NZ (tenF i) := by
  have all : ∀ j : Fin 23, isNZ (tenF j.val) = true := by decide +kernel
  exact nz_of (all ⟨i, h⟩)
end Go.Proofs.YticdagnbnmnidaaGreatDoor
namespace Go.Proofs.YticdagnbnmnidaaGreatDoor
open Go.RowKit

/-- the powers of ten that are floats -/
def TenTab (w : World) : Prop := ∃ b off cap, w.cell? ⟨19, 0, none⟩ = some (.slice (some ⟨b, off, none⟩) 23 cap) ∧ ∀ i, i < 23 → w.cell? ⟨b, off + i, none⟩ = some (.float .f64 (tenF i))
theorem TenTab.lay {w0 w : World} (h : TenTab w0) (hl : Lay w0 w) : TenTab w := by
  obtain ⟨b, off, cap, h0, h1⟩ := h
  exact ⟨b, off, cap, hl.cell h0, fun i hi => hl.cell (h1 i hi)⟩
/-- what is told of the format float64 -/
structure InfoTab (w : World) : Prop where
  mant : w.cell? ⟨16, 0, none⟩ = some (.int .u64 52)
  exp : w.cell? ⟨16, 1, none⟩ = some (.int .u64 11)
  bias : w.cell? ⟨16, 2, none⟩ = some (.int .i64 (-1023))
theorem InfoTab.lay {w0 w : World} (h : InfoTab w0) (hl : Lay w0 w) : InfoTab w := ⟨hl.cell h.mant, hl.cell h.exp, hl.cell h.bias⟩

/-- a float and a bool, the world as it was -/
def GivesFB (w : World) (e : Ending) (w' : World) : Prop := (∃ (n : Nat) (b : Bool), e = .returned (.tuple #[.float .f64 n, .bool b])) ∧ w = w'

theorem mul_run {x y r : Nat} (h : floatBits .mul .f64 x y = some r) : ∀ t w, (binOp .mul t (.float .f64 x) (.float .f64 y)).run Tryz.prog w = .ok (.float .f64 r) w := fun t w => run_float_arith w .mul t .f64 x y r h
theorem quo_run {x y r : Nat} (h : floatBits .quo .f64 x y = some r) : ∀ t w, (binOp .quo t (.float .f64 x) (.float .f64 y)).run Tryz.prog w = .ok (.float .f64 r) w := fun t w => run_float_arith w .quo t .f64 x y r h

set_option maxRecDepth 20000 in
set_option maxHeartbeats 1600000 in
theorem exact64_any (d x : Int) (neg : Bool) (w : World) (ht : TenTab w) (hi : InfoTab w) :
    Calls Tryz.prog 297 #[.int .u64 d, .int .i64 x, .bool neg] w (GivesFB w) := by
  obtain ⟨b, off, cap, h0, h1⟩ := ht
  have i0 := hi.mant
  have hn := ofInt_nn d
  have hm := neg_nn hn
  have hneg : ∀ n : Nat, Op.unary .neg (.float .f64 n) = pure (.float .f64 (Op.negFloat .f64 n)) := fun _ => rfl
  have H1 := hid h1
  have Hn := hid hn
  have Hm := hid hm
  clear h1 hi hn hm
  by_cases hx0 : x = 0
  · subst hx0
    cases neg
    all_goals
      go_enter Tryz.func297, Tryz.ntmps297
      go_wp2_with fail
      all_goals
        go_ret2
        exact ⟨⟨_, _, rfl⟩, rfl⟩
  · by_cases hpos : 0 < x
    · obtain ⟨k, rfl⟩ : ∃ k : Nat, x = k := ⟨x.toNat, by omega⟩
      have hk0 : 0 < k := by omega
      clear hpos hx0
      by_cases hk : k ≤ 22
      · have c1 := H1.out k (by omega)
        have hz := ten_nz (i := k) (by omega)
        cases neg
        · obtain ⟨r, hr, -⟩ := mul_nn Hn.out hz
          have hop := mul_run hr
          clear hr hz
          go_enter Tryz.func297, Tryz.ntmps297
          go_wp2_with fail
          all_goals
            go_ret2
            exact ⟨⟨_, _, rfl⟩, rfl⟩
        · obtain ⟨r, hr, -⟩ := mul_nn Hm.out hz
          have hop := mul_run hr
          clear hr hz
          go_enter Tryz.func297, Tryz.ntmps297
          go_wp2_with fail
          all_goals
            go_ret2
            exact ⟨⟨_, _, rfl⟩, rfl⟩
      · by_cases hk2 : k ≤ 37
        · obtain ⟨q, rfl⟩ : ∃ q, k = q + 22 := ⟨k - 22, by omega⟩
          have c1 := H1.out q (by omega)
          have c2 := H1.out 22 (by omega)
          have hz := ten_nz (i := q) (by omega)
          have hz2 := ten_nz (i := 22) (by omega)
          have e22 : ((q + 22 : Nat) : Int) - 22 = (q : Int) := by omega
          cases neg
          · obtain ⟨r, hr, hnr⟩ := mul_nn Hn.out hz
            obtain ⟨r2, hr2, -⟩ := mul_nn hnr hz2
            have hop := mul_run hr
            have hop2 := mul_run hr2
            clear hr hr2 hz hz2 hnr
            go_enter Tryz.func297, Tryz.ntmps297
            go_wp2_with fail
            all_goals
              go_ret2
              exact ⟨⟨_, _, rfl⟩, rfl⟩
          · obtain ⟨r, hr, hnr⟩ := mul_nn Hm.out hz
            obtain ⟨r2, hr2, -⟩ := mul_nn hnr hz2
            have hop := mul_run hr
            have hop2 := mul_run hr2
            clear hr hr2 hz hz2 hnr
            go_enter Tryz.func297, Tryz.ntmps297
            go_wp2_with fail
            all_goals
              go_ret2
              exact ⟨⟨_, _, rfl⟩, rfl⟩
        · cases neg
          all_goals
            go_enter Tryz.func297, Tryz.ntmps297
            go_wp2_with fail
            all_goals
              go_ret2
              exact ⟨⟨_, _, rfl⟩, rfl⟩
    · by_cases hlo : -22 ≤ x
      · obtain ⟨k, rfl⟩ : ∃ k : Nat, x = -(k : Int) := ⟨(-x).toNat, by omega⟩
        have hk0 : 0 < k := by omega
        have hk : k ≤ 22 := by omega
        clear hpos hx0 hlo
        have c1 := H1.out k (by omega)
        have hz := ten_nz (i := k) (by omega)
        cases neg
        · obtain ⟨r, hr, -⟩ := quo_nn Hn.out hz
          have hop := quo_run hr
          clear hr hz
          go_enter Tryz.func297, Tryz.ntmps297
          go_wp2_with fail
          all_goals
            go_ret2
            exact ⟨⟨_, _, rfl⟩, rfl⟩
        · obtain ⟨r, hr, -⟩ := quo_nn Hm.out hz
          have hop := quo_run hr
          clear hr hz
          go_enter Tryz.func297, Tryz.ntmps297
          go_wp2_with fail
          all_goals
            go_ret2
            exact ⟨⟨_, _, rfl⟩, rfl⟩
      · cases neg
        all_goals
          go_enter Tryz.func297, Tryz.ntmps297
          go_wp2_with fail
          all_goals
            go_ret2
            exact ⟨⟨_, _, rfl⟩, rfl⟩
end Go.Proofs.YticdagnbnmnidaaGreatDoor
