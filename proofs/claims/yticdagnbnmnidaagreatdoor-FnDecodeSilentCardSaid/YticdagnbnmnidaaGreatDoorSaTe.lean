/- impl.plain: a value of the line protocol as data. Conditions: none. impl.told at NextField. Conditions: none. -/
import Derived.Test.YticdagnbnmnidaaGreatDoorSaTd
set_option linter.unusedSimpArgs false
set_option linter.unusedVariables false
namespace Go.Proofs.YticdagnbnmnidaaGreatDoor
open Go.RowKit

/-- a value -/
def vv (z : Int) (A : Option Addr) (n k : Nat) (kk : Nat) : Value := .agg #[.int .u64 z, .slice A n k, .int .u8 kk]
def kOf (k : Nat) : Nat := if k = 0 then 1 else k

set_option maxRecDepth 20000 in
set_option maxHeartbeats 1600000 in
theorem kind_any (z : Int) (A : Option Addr) (n k kk : Nat) (w : World) : Calls Tryz.prog 93 #[vv z A n k kk] w fun e w' => e = .returned (.int .u8 (kOf kk : Nat)) ∧ Same w w' := by
  unfold vv kOf
  by_cases h : kk = 0
  · subst h
    go_enter Tryz.func93, Tryz.ntmps93
    go_wp2_with fail
    go_ret
    exact ⟨rfl, (Keep.refl _ _).alloc _⟩
  · have hb : ((kk : Int) == 0) = false := by simp; omega
    rw [if_neg h]
    clear h
    go_enter Tryz.func93, Tryz.ntmps93
    go_wp2_with fail
    go_ret
    exact ⟨rfl, (Keep.refl _ _).alloc _⟩

set_option maxRecDepth 20000 in
set_option maxHeartbeats 1600000 in
theorem mustBe_any (z : Int) (A : Option Addr) (n k kk : Nat) (w : World) : Calls Tryz.prog 162 #[vv z A n k kk, .int .u8 (kOf kk : Nat)] w fun e w' => e = .returned (.tuple #[]) ∧ Same w w' := by
  obtain ⟨K, hK⟩ : ∃ K, K = kOf kk := ⟨_, rfl⟩
  have hc : ∀ w, Calls Tryz.prog 93 #[vv z A n k kk] w fun e w' => e = .returned (.int .u8 (K : Nat)) ∧ Same w w' := fun w => by rw [hK]; exact kind_any z A n k kk w
  rw [← hK]
  clear hK
  unfold vv at *
  have hb : ((K : Int) != (K : Int)) = false := by simp
  go_enter Tryz.func162, Tryz.ntmps162
  go_wp2_with fail
  refine (hc _).mono ?_
  rintro e w1 ⟨rfl, hk1⟩
  have Hk := hid (((Keep.refl (fun _ => False) w).alloc (.cells #[.int .u64 z, .slice A n k, .int .u8 kk] 102)).trans hk1)
  clear hk1 hc
  go_wp2_with fail
  go_end0
  exact ⟨rfl, Hk.out⟩

/-- the block of a value, behind a call -/
theorem vrow {w w1 : World} {cs : Array Value} (hk : Same (w.alloc (.cells cs 102)) w1) : Row w1 w.heap.size 102 cs := (Row.new w 102 cs).same hk

set_option maxRecDepth 20000 in
set_option maxHeartbeats 1600000 in
theorem intV_any (z : Int) (A : Option Addr) (n k : Nat) (w : World) : Calls Tryz.prog 97 #[vv z A n k 2] w (GivesInt .i64 w) := by
  have hm := mustBe_any z A n k 2
  unfold vv at *
  go_enter Tryz.func97, Tryz.ntmps97
  go_wp2_with fail
  refine (hm _).mono ?_
  rintro e w1 ⟨rfl, hk1⟩
  have Hk := hid (((Keep.refl (fun _ => False) w).alloc (.cells #[.int .u64 z, .slice A n k, .int .u8 (2 : Nat)] 102)).trans hk1)
  have hr := vrow hk1
  have c0 : w1.cell? ⟨w.heap.size, 0, none⟩ = some (.int .u64 z) := hr.cell 0
  clear hk1 hm hr
  go_wp2_with fail
  go_ret
  exact ⟨_, rfl, Hk.out⟩

set_option maxRecDepth 20000 in
set_option maxHeartbeats 1600000 in
theorem uintV_any (z : Int) (A : Option Addr) (n k : Nat) (w : World) : Calls Tryz.prog 99 #[vv z A n k 3] w (GivesInt .u64 w) := by
  have hm := mustBe_any z A n k 3
  unfold vv at *
  go_enter Tryz.func99, Tryz.ntmps99
  go_wp2_with fail
  refine (hm _).mono ?_
  rintro e w1 ⟨rfl, hk1⟩
  have Hk := hid (((Keep.refl (fun _ => False) w).alloc (.cells #[.int .u64 z, .slice A n k, .int .u8 (3 : Nat)] 102)).trans hk1)
  have hr := vrow hk1
  have c0 : w1.cell? ⟨w.heap.size, 0, none⟩ = some (.int .u64 z) := hr.cell 0
  clear hk1 hm hr
  go_wp2_with fail
  go_ret
  exact ⟨_, rfl, Hk.out⟩

set_option maxRecDepth 20000 in
set_option maxHeartbeats 1600000 in
theorem floatV_any (z : Int) (A : Option Addr) (n k : Nat) (w : World) : Calls Tryz.prog 95 #[vv z A n k 4] w fun e w' => (∃ m : Nat, e = .returned (.float .f64 m)) ∧ Same w w' := by
  have hm := mustBe_any z A n k 4
  have hf := frombits_math_run
  unfold vv at *
  go_enter Tryz.func95, Tryz.ntmps95
  go_wp2_with fail
  refine (hm _).mono ?_
  rintro e w1 ⟨rfl, hk1⟩
  have Hk := hid (((Keep.refl (fun _ => False) w).alloc (.cells #[.int .u64 z, .slice A n k, .int .u8 (4 : Nat)] 102)).trans hk1)
  have hr := vrow hk1
  have c0 : w1.cell? ⟨w.heap.size, 0, none⟩ = some (.int .u64 z) := hr.cell 0
  clear hk1 hm hr
  go_wp2_with fail
  go_ret
  exact ⟨⟨_, rfl⟩, Hk.out⟩

set_option maxRecDepth 20000 in
set_option maxHeartbeats 1600000 in
theorem boolV_any (z : Int) (A : Option Addr) (n k : Nat) (w : World) : Calls Tryz.prog 100 #[vv z A n k 5] w (GivesBool w) := by
  have hm := mustBe_any z A n k 5
  unfold vv at *
  go_enter Tryz.func100, Tryz.ntmps100
  go_wp2_with fail
  refine (hm _).mono ?_
  rintro e w1 ⟨rfl, hk1⟩
  have Hk := hid (((Keep.refl (fun _ => False) w).alloc (.cells #[.int .u64 z, .slice A n k, .int .u8 (5 : Nat)] 102)).trans hk1)
  have hr := vrow hk1
  have c0 : w1.cell? ⟨w.heap.size, 0, none⟩ = some (.int .u64 z) := hr.cell 0
  clear hk1 hm hr
  go_wp2_with fail
  go_ret
  exact ⟨_, rfl, Hk.out⟩

set_option maxRecDepth 20000 in
set_option maxHeartbeats 1600000 in
theorem strV_any (z : Int) (A : Option Addr) (n k : Nat) (sK : ByteArray) (w : World) (hs : ∀ W, Same w W → (convert 75 9 (.slice A n k)).run Tryz.prog W = .ok (.string sK) W) :
    Calls Tryz.prog 178 #[vv z A n k 0] w fun e w' => e = .returned (.string sK) ∧ Same w w' := by
  have hm : ∀ W, Calls Tryz.prog 162 #[vv z A n k 0, .int .u8 (1 : Nat)] W fun e w' => e = .returned (.tuple #[]) ∧ Same W w' := mustBe_any z A n k 0
  have HS := hid hs
  clear hs
  unfold vv at *
  go_enter Tryz.func178, Tryz.ntmps178
  go_wp2_with fail
  refine (hm _).mono ?_
  rintro e w1 ⟨rfl, hk1⟩
  have Hk := hid (((Keep.refl (fun _ => False) w).alloc (.cells #[.int .u64 z, .slice A n k, .int .u8 (0 : Nat)] 102)).trans hk1)
  have hr := vrow hk1
  have c1 : w1.cell? ⟨w.heap.size, 1, none⟩ = some (.slice A n k) := hr.cell 1
  have hcv := HS.out _ Hk.out
  clear hk1 hm hr
  go_wp2_with fail
  go_ret
  exact ⟨rfl, Hk.out⟩
theorem info35 : (Tryz.prog.info? 35).map (·.size) = some 6 := by kernel_rfl
/-- a value as data -/
def GivesPlain (w : World) (e : Ending) (w' : World) : Prop := ∃ (k : Int) (s : ByteArray) (n u : Int) (f : Nat) (b : Bool), e = .returned (.agg #[.int .i64 k, .string s, .int .i64 n, .int .u64 u, .float .f64 f, .bool b]) ∧ Same w w'
theorem ret107 {Q : Ending → World → Prop} {a : Act} {W : World} {g : Nat} {cs : Array Value} (h2 : a.tmps.getD 4 undef = .pointer (some ⟨g, 0, none⟩)) (hd : a.defers = []) (hr : Row W g 35 cs) (hs : cs.size = 6)
    (hQ : Q (.returned (.agg cs)) W) : bodyPost Tryz.prog Tryz.f107 Q Exit.ret a W := by
  refine bodyPost_ret (v := .agg cs) ?_ hd hQ
  exact results_cell_row Tryz.results107 a.tmps W g 35 cs (0, 0) _ h2 hr Tryz.underlying35 rfl (by rw [hs]; exact info35)
theorem ret51 {Q : Ending → World → Prop} {a : Act} {W : World} {g : Nat} {cs : Array Value} (h2 : a.tmps.getD 2 undef = .pointer (some ⟨g, 0, none⟩)) (hd : a.defers = []) (hr : Row W g 35 cs) (hs : cs.size = 6)
    (hQ : Q (.returned (.agg cs)) W) : bodyPost Tryz.prog Tryz.f51 Q Exit.ret a W := by
  refine bodyPost_ret (v := .agg cs) ?_ hd hQ
  exact results_cell_row Tryz.results51 a.tmps W g 35 cs (0, 0) _ h2 hr Tryz.underlying35 rfl (by rw [hs]; exact info35)
theorem same_row {w w1 : World} {g : Nat} (h : Same w w1) (hg : w.heap.size ≤ g) (cs : Array Value) : Same w (w1.setRow g cs) :=
  h.trans' (T := fun k => k = g) ⟨rfl, rfl, rfl, by simp, fun k _ hn => setRow_other _ _ _ _ (fun e => hn (by omega))⟩ (fun i hi e => by have e' : i = g := e; omega)

set_option maxRecDepth 20000 in
set_option maxHeartbeats 1600000 in
theorem acc_0 (z : Int) (A : Option Addr) (n k : Nat) (sK : ByteArray) (w : World) (hs : ∀ W, Same w W → (convert 75 9 (.slice A n k)).run Tryz.prog W = .ok (.string sK) W) : Calls Tryz.prog 107 #[vv z A n k 0, .int .i64 1] w (GivesPlain w) := by
  have HS0 : Hid (Same w ((w.alloc (.cells #[.int .u64 z, .slice A n k, .int .u8 (0 : Nat)] 102)).alloc (.cells #[.int .i64 0, .string { data := #[] }, .int .i64 0, .int .u64 0, .float .f64 0, .bool false] 35))) := ((Keep.refl _ _).alloc _).alloc _
  have HR4 : Hid (Row ((w.alloc (.cells #[.int .u64 z, .slice A n k, .int .u8 (0 : Nat)] 102)).alloc (.cells #[.int .i64 0, .string { data := #[] }, .int .i64 0, .int .u64 0, .float .f64 0, .bool false] 35)) (w.heap.size + 1) 35 #[.int .i64 0, .string { data := #[] }, .int .i64 0, .int .u64 0, .float .f64 0, .bool false]) := by
    have h1 := Row.new (w.alloc (.cells #[.int .u64 z, .slice A n k, .int .u8 (0 : Nat)] 102)) 35 #[.int .i64 0, .string { data := #[] }, .int .i64 0, .int .u64 0, .float .f64 0, .bool false]
    rw [show (w.alloc (Obj.cells #[.int .u64 z, .slice A n k, .int .u8 (0 : Nat)] 102)).heap.size = w.heap.size + 1 by simp] at h1
    exact h1
  have HSS := hid hs
  clear hs
  have hm := fun W => strV_any z A n k sK W
  unfold vv at *
  go_enter Tryz.func107, Tryz.ntmps107
  go_wp2_with fail
  refine (hm _ (fun W hW => HSS.out W (HS0.out.trans hW))).mono ?_
  rintro e w1 ⟨rfl, hk1⟩
  have R4 := hid (HR4.out.same hk1)
  have HS := hid (HS0.out.trans hk1)
  clear hk1 hm HS0 HR4
  go_wp2_with (refine wpList_store_row rfl 35 (.tmp 4) (.tmp 10) rfl (w.heap.size + 1) _ rfl rfl 35 _ R4.out info35 rfl (by simp [Value.oneCell']) ?_)
  exact ret107 rfl rfl (setRow_heap _ _ _ #[.int .i64 1, .string sK, .int .i64 0, .int .u64 0, .float .f64 0, .bool false] 35 (0, 0) R4.out) rfl ⟨_, _, _, _, _, _, rfl, same_row HS.out (Nat.le_succ _) _⟩

set_option maxRecDepth 20000 in
set_option maxHeartbeats 1600000 in
theorem acc_2 (z : Int) (A : Option Addr) (n k : Nat) (w : World) : Calls Tryz.prog 107 #[vv z A n k 2, .int .i64 2] w (GivesPlain w) := by
  have HS0 : Hid (Same w ((w.alloc (.cells #[.int .u64 z, .slice A n k, .int .u8 (2 : Nat)] 102)).alloc (.cells #[.int .i64 0, .string { data := #[] }, .int .i64 0, .int .u64 0, .float .f64 0, .bool false] 35))) := ((Keep.refl _ _).alloc _).alloc _
  have HR4 : Hid (Row ((w.alloc (.cells #[.int .u64 z, .slice A n k, .int .u8 (2 : Nat)] 102)).alloc (.cells #[.int .i64 0, .string { data := #[] }, .int .i64 0, .int .u64 0, .float .f64 0, .bool false] 35)) (w.heap.size + 1) 35 #[.int .i64 0, .string { data := #[] }, .int .i64 0, .int .u64 0, .float .f64 0, .bool false]) := by
    have h1 := Row.new (w.alloc (.cells #[.int .u64 z, .slice A n k, .int .u8 (2 : Nat)] 102)) 35 #[.int .i64 0, .string { data := #[] }, .int .i64 0, .int .u64 0, .float .f64 0, .bool false]
    rw [show (w.alloc (Obj.cells #[.int .u64 z, .slice A n k, .int .u8 (2 : Nat)] 102)).heap.size = w.heap.size + 1 by simp] at h1
    exact h1
  skip
  skip
  have hm := fun W => intV_any z A n k W
  unfold vv at *
  go_enter Tryz.func107, Tryz.ntmps107
  go_wp2_with fail
  refine (hm _).mono ?_
  rintro e w1 ⟨m, rfl, hk1⟩
  have R4 := hid (HR4.out.same hk1)
  have HS := hid (HS0.out.trans hk1)
  clear hk1 hm HS0 HR4
  go_wp2_with (refine wpList_store_row rfl 35 (.tmp 4) (.tmp 15) rfl (w.heap.size + 1) _ rfl rfl 35 _ R4.out info35 rfl (by simp [Value.oneCell']) ?_)
  exact ret107 rfl rfl (setRow_heap _ _ _ #[.int .i64 2, .string { data := #[] }, .int .i64 m, .int .u64 0, .float .f64 0, .bool false] 35 (0, 0) R4.out) rfl ⟨_, _, _, _, _, _, rfl, same_row HS.out (Nat.le_succ _) _⟩

set_option maxRecDepth 20000 in
set_option maxHeartbeats 1600000 in
theorem acc_3 (z : Int) (A : Option Addr) (n k : Nat) (w : World) : Calls Tryz.prog 107 #[vv z A n k 3, .int .i64 3] w (GivesPlain w) := by
  have HS0 : Hid (Same w ((w.alloc (.cells #[.int .u64 z, .slice A n k, .int .u8 (3 : Nat)] 102)).alloc (.cells #[.int .i64 0, .string { data := #[] }, .int .i64 0, .int .u64 0, .float .f64 0, .bool false] 35))) := ((Keep.refl _ _).alloc _).alloc _
  have HR4 : Hid (Row ((w.alloc (.cells #[.int .u64 z, .slice A n k, .int .u8 (3 : Nat)] 102)).alloc (.cells #[.int .i64 0, .string { data := #[] }, .int .i64 0, .int .u64 0, .float .f64 0, .bool false] 35)) (w.heap.size + 1) 35 #[.int .i64 0, .string { data := #[] }, .int .i64 0, .int .u64 0, .float .f64 0, .bool false]) := by
    have h1 := Row.new (w.alloc (.cells #[.int .u64 z, .slice A n k, .int .u8 (3 : Nat)] 102)) 35 #[.int .i64 0, .string { data := #[] }, .int .i64 0, .int .u64 0, .float .f64 0, .bool false]
    rw [show (w.alloc (Obj.cells #[.int .u64 z, .slice A n k, .int .u8 (3 : Nat)] 102)).heap.size = w.heap.size + 1 by simp] at h1
    exact h1
  skip
  skip
  have hm := fun W => uintV_any z A n k W
  unfold vv at *
  go_enter Tryz.func107, Tryz.ntmps107
  go_wp2_with fail
  refine (hm _).mono ?_
  rintro e w1 ⟨m, rfl, hk1⟩
  have R4 := hid (HR4.out.same hk1)
  have HS := hid (HS0.out.trans hk1)
  clear hk1 hm HS0 HR4
  go_wp2_with (refine wpList_store_row rfl 35 (.tmp 4) (.tmp 20) rfl (w.heap.size + 1) _ rfl rfl 35 _ R4.out info35 rfl (by simp [Value.oneCell']) ?_)
  exact ret107 rfl rfl (setRow_heap _ _ _ #[.int .i64 3, .string { data := #[] }, .int .i64 0, .int .u64 m, .float .f64 0, .bool false] 35 (0, 0) R4.out) rfl ⟨_, _, _, _, _, _, rfl, same_row HS.out (Nat.le_succ _) _⟩

set_option maxRecDepth 20000 in
set_option maxHeartbeats 1600000 in
theorem acc_4 (z : Int) (A : Option Addr) (n k : Nat) (w : World) : Calls Tryz.prog 107 #[vv z A n k 4, .int .i64 4] w (GivesPlain w) := by
  have HS0 : Hid (Same w ((w.alloc (.cells #[.int .u64 z, .slice A n k, .int .u8 (4 : Nat)] 102)).alloc (.cells #[.int .i64 0, .string { data := #[] }, .int .i64 0, .int .u64 0, .float .f64 0, .bool false] 35))) := ((Keep.refl _ _).alloc _).alloc _
  have HR4 : Hid (Row ((w.alloc (.cells #[.int .u64 z, .slice A n k, .int .u8 (4 : Nat)] 102)).alloc (.cells #[.int .i64 0, .string { data := #[] }, .int .i64 0, .int .u64 0, .float .f64 0, .bool false] 35)) (w.heap.size + 1) 35 #[.int .i64 0, .string { data := #[] }, .int .i64 0, .int .u64 0, .float .f64 0, .bool false]) := by
    have h1 := Row.new (w.alloc (.cells #[.int .u64 z, .slice A n k, .int .u8 (4 : Nat)] 102)) 35 #[.int .i64 0, .string { data := #[] }, .int .i64 0, .int .u64 0, .float .f64 0, .bool false]
    rw [show (w.alloc (Obj.cells #[.int .u64 z, .slice A n k, .int .u8 (4 : Nat)] 102)).heap.size = w.heap.size + 1 by simp] at h1
    exact h1
  skip
  skip
  have hm := fun W => floatV_any z A n k W
  unfold vv at *
  go_enter Tryz.func107, Tryz.ntmps107
  go_wp2_with fail
  refine (hm _).mono ?_
  rintro e w1 ⟨⟨m, rfl⟩, hk1⟩
  have R4 := hid (HR4.out.same hk1)
  have HS := hid (HS0.out.trans hk1)
  clear hk1 hm HS0 HR4
  go_wp2_with (refine wpList_store_row rfl 35 (.tmp 4) (.tmp 25) rfl (w.heap.size + 1) _ rfl rfl 35 _ R4.out info35 rfl (by simp [Value.oneCell']) ?_)
  exact ret107 rfl rfl (setRow_heap _ _ _ #[.int .i64 4, .string { data := #[] }, .int .i64 0, .int .u64 0, .float .f64 m, .bool false] 35 (0, 0) R4.out) rfl ⟨_, _, _, _, _, _, rfl, same_row HS.out (Nat.le_succ _) _⟩

set_option maxRecDepth 20000 in
set_option maxHeartbeats 1600000 in
theorem acc_5 (z : Int) (A : Option Addr) (n k : Nat) (w : World) : Calls Tryz.prog 107 #[vv z A n k 5, .int .i64 5] w (GivesPlain w) := by
  have HS0 : Hid (Same w ((w.alloc (.cells #[.int .u64 z, .slice A n k, .int .u8 (5 : Nat)] 102)).alloc (.cells #[.int .i64 0, .string { data := #[] }, .int .i64 0, .int .u64 0, .float .f64 0, .bool false] 35))) := ((Keep.refl _ _).alloc _).alloc _
  have HR4 : Hid (Row ((w.alloc (.cells #[.int .u64 z, .slice A n k, .int .u8 (5 : Nat)] 102)).alloc (.cells #[.int .i64 0, .string { data := #[] }, .int .i64 0, .int .u64 0, .float .f64 0, .bool false] 35)) (w.heap.size + 1) 35 #[.int .i64 0, .string { data := #[] }, .int .i64 0, .int .u64 0, .float .f64 0, .bool false]) := by
    have h1 := Row.new (w.alloc (.cells #[.int .u64 z, .slice A n k, .int .u8 (5 : Nat)] 102)) 35 #[.int .i64 0, .string { data := #[] }, .int .i64 0, .int .u64 0, .float .f64 0, .bool false]
    rw [show (w.alloc (Obj.cells #[.int .u64 z, .slice A n k, .int .u8 (5 : Nat)] 102)).heap.size = w.heap.size + 1 by simp] at h1
    exact h1
  skip
  skip
  have hm := fun W => boolV_any z A n k W
  unfold vv at *
  go_enter Tryz.func107, Tryz.ntmps107
  go_wp2_with fail
  refine (hm _).mono ?_
  rintro e w1 ⟨m, rfl, hk1⟩
  have R4 := hid (HR4.out.same hk1)
  have HS := hid (HS0.out.trans hk1)
  clear hk1 hm HS0 HR4
  go_wp2_with (refine wpList_store_row rfl 35 (.tmp 4) (.tmp 30) rfl (w.heap.size + 1) _ rfl rfl 35 _ R4.out info35 rfl (by simp [Value.oneCell']) ?_)
  exact ret107 rfl rfl (setRow_heap _ _ _ #[.int .i64 5, .string { data := #[] }, .int .i64 0, .int .u64 0, .float .f64 0, .bool m] 35 (0, 0) R4.out) rfl ⟨_, _, _, _, _, _, rfl, same_row HS.out (Nat.le_succ _) _⟩

theorem acc_any (z : Int) (A : Option Addr) (n k kk : Nat) (sK : ByteArray) (w : World) (hs : ∀ W, Same w W → (convert 75 9 (.slice A n k)).run Tryz.prog W = .ok (.string sK) W) (hk : kk = 0 ∨ kk = 2 ∨ kk = 3 ∨ kk = 4 ∨ kk = 5) :
    Calls Tryz.prog 107 #[vv z A n k kk, .int .i64 (kOf kk : Nat)] w (GivesPlain w) := by
  rcases hk with rfl | rfl | rfl | rfl | rfl
  · exact acc_0 z A n k sK w hs
  · exact acc_2 z A n k w
  · exact acc_3 z A n k w
  · exact acc_4 z A n k w
  · exact acc_5 z A n k w

set_option maxRecDepth 20000 in
set_option maxHeartbeats 1600000 in
theorem plain_any (z : Int) (A : Option Addr) (n k kk : Nat) (sK : ByteArray) (w : World) (hs : ∀ W, Same w W → (convert 75 9 (.slice A n k)).run Tryz.prog W = .ok (.string sK) W) (hk : kk = 0 ∨ kk = 2 ∨ kk = 3 ∨ kk = 4 ∨ kk = 5) :
    Calls Tryz.prog 51 #[vv z A n k kk] w (GivesPlain w) := by
  obtain ⟨K, hK⟩ : ∃ K, K = kOf kk := ⟨_, rfl⟩
  have hK8 : K < 256 := by rw [hK]; unfold kOf; split <;> omega
  have hw : IntKind.i64.wrap (K : Int) = (K : Int) := IntWalk.i64_in _ (by omega)
  have h93 : ∀ W, Calls Tryz.prog 93 #[vv z A n k kk] W fun e w' => e = .returned (.int .u8 (K : Nat)) ∧ Same W w' := fun W => by rw [hK]; exact kind_any z A n k kk W
  have h107 : ∀ W, Same w W → Calls Tryz.prog 107 #[vv z A n k kk, .int .i64 (K : Nat)] W (GivesPlain W) := fun W hW => by rw [hK]; exact acc_any z A n k kk sK W (fun V hV => hs V (hW.trans hV)) hk
  have H107 := hid h107
  have HS0 : Hid (Same w ((w.alloc (.cells #[.int .u64 z, .slice A n k, .int .u8 (kk : Nat)] 102)).alloc (.cells #[.int .i64 0, .string { data := #[] }, .int .i64 0, .int .u64 0, .float .f64 0, .bool false] 35))) := ((Keep.refl _ _).alloc _).alloc _
  have HR1 : Hid (Row ((w.alloc (.cells #[.int .u64 z, .slice A n k, .int .u8 (kk : Nat)] 102)).alloc (.cells #[.int .i64 0, .string { data := #[] }, .int .i64 0, .int .u64 0, .float .f64 0, .bool false] 35)) w.heap.size 102 #[.int .u64 z, .slice A n k, .int .u8 (kk : Nat)]) := (Row.new w 102 _).alloc _
  have HR4 : Hid (Row ((w.alloc (.cells #[.int .u64 z, .slice A n k, .int .u8 (kk : Nat)] 102)).alloc (.cells #[.int .i64 0, .string { data := #[] }, .int .i64 0, .int .u64 0, .float .f64 0, .bool false] 35)) (w.heap.size + 1) 35 #[.int .i64 0, .string { data := #[] }, .int .i64 0, .int .u64 0, .float .f64 0, .bool false]) := by
    have h1 := Row.new (w.alloc (.cells #[.int .u64 z, .slice A n k, .int .u8 (kk : Nat)] 102)) 35 #[.int .i64 0, .string { data := #[] }, .int .i64 0, .int .u64 0, .float .f64 0, .bool false]
    rw [show (w.alloc (Obj.cells #[.int .u64 z, .slice A n k, .int .u8 (kk : Nat)] 102)).heap.size = w.heap.size + 1 by simp] at h1
    exact h1
  clear hK hs h107 hk
  unfold vv at *
  go_enter Tryz.func51, Tryz.ntmps51
  go_wp2_with fail
  generalize ((w.alloc (.cells #[.int .u64 z, .slice A n k, .int .u8 (kk : Nat)] 102)).alloc (.cells #[.int .i64 0, .string { data := #[] }, .int .i64 0, .int .u64 0, .float .f64 0, .bool false] 35)) = w1 at *
  refine wp_region_till 5 (fun w' : World => w'.cell? ⟨w.heap.size, 0, none⟩ = some (.int .u64 z) ∧ w'.cell? ⟨w.heap.size, 1, none⟩ = some (.slice A n k) ∧ w'.cell? ⟨w.heap.size, 2, none⟩ = some (.int .u8 (kk : Nat))) (by kernel_rfl) ?_
  have hS0 : Hid ((fun w' : World => w'.cell? ⟨w.heap.size, 0, none⟩ = some (.int .u64 z) ∧ w'.cell? ⟨w.heap.size, 1, none⟩ = some (.slice A n k) ∧ w'.cell? ⟨w.heap.size, 2, none⟩ = some (.int .u8 (kk : Nat))) w1.drew) := ⟨HR1.out.cell 0, HR1.out.cell 1, HR1.out.cell 2⟩
  refine wpTill_take (i := 0) (oi := ⟨_, _, _, _, _, _⟩) (v := ?_) rfl (by kernel_rfl) (by decide) (by kernel_rfl) (by kernel_rfl) (by kernel_rfl) (fun _ _ _ h => h) (Or.inl ⟨by rfl, ?_⟩) hS0.out ?_
  rotate_left
  · (intro w' hSw; (try dsimp only at hSw); obtain ⟨q0, q1, q2⟩ := hSw; go_simp; (try with_reducible rfl))
  simp only [Act.put, List.setIfInBounds_toArray, List.set_cons_zero, List.set_cons_succ]
  refine wpTill_take (i := 1) (oi := ⟨_, _, _, _, _, _⟩) (v := ?_) rfl (by kernel_rfl) (by decide) (by kernel_rfl) (by kernel_rfl) (by kernel_rfl) (fun _ _ _ h => h) (Or.inl ⟨by rfl, ?_⟩) hS0.out ?_
  rotate_left
  · (intro w' hSw; (try dsimp only at hSw); obtain ⟨q0, q1, q2⟩ := hSw; go_simp; (try with_reducible rfl))
  simp only [Act.put, List.setIfInBounds_toArray, List.set_cons_zero, List.set_cons_succ]
  refine wpTill_one (i := 2) (o := ⟨_, _, _, _, _, _⟩) rfl (by kernel_rfl) (fun K' hK' => ?_)
  go_simp
  refine (h93 _).mono ?_
  rintro e w8 ⟨rfl, hk8⟩
  have HS8 := hid ((HS0.out.trans (same_drew w1)).trans hk8)
  have R8 := hid (HR4.out.same ((same_drew w1).trans hk8))
  have R1 := hid (HR1.out.same ((same_drew w1).trans hk8))
  have hS8 : Hid ((fun w' : World => w'.cell? ⟨w.heap.size, 0, none⟩ = some (.int .u64 z) ∧ w'.cell? ⟨w.heap.size, 1, none⟩ = some (.slice A n k) ∧ w'.cell? ⟨w.heap.size, 2, none⟩ = some (.int .u8 (kk : Nat))) w8) := ⟨R1.out.cell 0, R1.out.cell 1, R1.out.cell 2⟩
  clear hk8
  refine hK'.out _ _ (fun _ => hS8.out) ?_
  clear hK' K'
  try simp only [Act.put, List.setIfInBounds_toArray, List.set_cons_zero, List.set_cons_succ]
  refine wpTill_one (i := 3) (o := ⟨_, _, _, _, _, _⟩) rfl (by kernel_rfl) (fun K' hK' => ?_)
  go_simp
  refine hK'.out _ _ (fun _ => hS8.out) ?_
  clear hK' K'
  try simp only [Act.put, List.setIfInBounds_toArray, List.set_cons_zero, List.set_cons_succ]
  refine wpTill_one (i := 4) (o := ⟨_, _, _, _, _, _⟩) rfl (by kernel_rfl) (fun K' hK' => ?_)
  go_simp
  refine (H107.out _ HS8.out).mono ?_
  rintro e w9 ⟨k9, s9, n9, u9, f9, b9, rfl, hk9⟩
  have HS9 := hid (HS8.out.trans hk9)
  have R9 := hid (R8.out.same hk9)
  have R19 := hid (R1.out.same hk9)
  have hS9 : Hid ((fun w' : World => w'.cell? ⟨w.heap.size, 0, none⟩ = some (.int .u64 z) ∧ w'.cell? ⟨w.heap.size, 1, none⟩ = some (.slice A n k) ∧ w'.cell? ⟨w.heap.size, 2, none⟩ = some (.int .u8 (kk : Nat))) w9) := ⟨R19.out.cell 0, R19.out.cell 1, R19.out.cell 2⟩
  clear hk9
  refine hK'.out _ _ (fun _ => hS9.out) ?_
  clear hK' K'
  try simp only [Act.put, List.setIfInBounds_toArray, List.set_cons_zero, List.set_cons_succ]
  refine wpTill_one (i := 5) (o := ⟨_, _, _, _, _, _⟩) rfl (by kernel_rfl) (fun K' hK' => ?_)
  rw [if_pos (by rfl)]
  refine wp_store_row 35 (.tmp 2) (.tmp 7) rfl (w.heap.size + 1) _ rfl rfl 35 _ R9.out info35 rfl (by simp [Value.oneCell']) ?_
  refine hK'.out _ _ (fun h => absurd rfl h) ?_
  clear hK' K'
  refine wpTill_done (by kernel_rfl) ?_ _
  go_wp2_with fail
  exact ret51 rfl rfl (setRow_heap _ _ _ _ 35 (0, 0) R9.out) rfl ⟨_, _, _, _, _, _, rfl, same_row HS9.out (Nat.le_succ _) _⟩
end Go.Proofs.YticdagnbnmnidaaGreatDoor
namespace Go.Proofs.YticdagnbnmnidaaGreatDoor
open Go.RowKit

section
variable {P : Program} {ops : Array Oper} {Q : Exit → Act → World → Prop} {md : Region.Mode} {b : Nat} {S : World → Prop}
/-- just two can come up -/
theorem wpTill_two {i j : Nat} {oi oj : Oper} {n : Nat} {l : Array Bool} {a : Act} {w : World} (hoi : ops[i]? = some oi) (hoj : ops[j]? = some oj) (hr : Region.ready md ops l = [i, j])
    (h1 : ∀ K' : Act → World → Prop, Shut (∀ a w, (i ≠ b → S w) → wpTill P md ops Q b S n (l.setIfInBounds i true) a w → K' a w) →
      if Region.wanted oi (yielded ops a.tmps) = true then Oper.wp P oi a w K' Q else K' (a.put oi.dst undef) w)
    (h2 : ∀ K' : Act → World → Prop, Shut (∀ a w, (j ≠ b → S w) → wpTill P md ops Q b S n (l.setIfInBounds j true) a w → K' a w) →
      if Region.wanted oj (yielded ops a.tmps) = true then Oper.wp P oj a w K' Q else K' (a.put oj.dst undef) w) : wpTill P md ops Q b S (n + 1) l a w := by
  refine ⟨fun h0 => (by rw [hr] at h0; cases h0), fun k hk => ?_⟩
  rw [hr] at hk
  rcases List.mem_cons.1 hk with rfl | hk
  · exact wpOp_step hoi (fun K' hK => h1 K' (fun a w hS hW => hK a w ⟨hS, hW⟩))
  · obtain rfl := List.mem_singleton.1 hk
    exact wpOp_step hoj (fun K' hK => h2 K' (fun a w hS hW => hK a w ⟨hS, hW⟩))
end

/-- the answer lies in a block of its own -/
def AnsAt (w1 : World) (b : Bool) (sK : ByteArray) (f : Bool) (y : Value) (wc : World) : Prop :=
  ∃ (g : Nat) (fl fc : Int) (frr : Bool), y = .pointer (some ⟨g, 0, none⟩) ∧ w1.heap.size ≤ g ∧ Same w1 wc ∧ Row wc g 63 #[.bool b, .string sK, .string { data := #[] }, .int .i64 0, .int .i64 0, .string { data := #[] }, .int .i64 0, .int .u64 0, .float .f64 0, .bool false, .int .i64 0, .bool f, .int .i64 fl, .int .i64 fc, .bool frr]

set_option maxRecDepth 100000 in
set_option maxHeartbeats 12800000 in
theorem told_3 (w0 : World) (hval : ValidOK w0) (ht : FTabs w0) (hz : 25 < w0.heap.size) (a0 a4 a5 a10 : Addr) (hv : EVars w0 a0 a4 a5 a10) (pr df : Int) (c : DC) (s : DS) (w : World) (h : Ok w0 c w s) (hs : s.skip = false) :
    Calls Tryz.prog 37 #[.pointer (some ⟨c.D, 0, none⟩), .agg #[.int .i64 3, .int .i64 pr, .int .i64 df]] w (GivesT w0 c s 3 w) := by
  have Hval := hid hval
  have HT := hid ht
  have HV := hid hv
  have H := hid h
  have Hs := hid hs
  have HB : Hid (c.base ≤ w.heap.size) := h.dec.base_le
  have HB0 : Hid (w0.heap.size ≤ w.heap.size) := Nat.le_trans h.D h.dec.base_le
  have HS0 : Hid (Same w ((w.alloc (.cells #[.int .i64 3, .int .i64 pr, .int .i64 df] 61)).alloc (.cells #[.bool false, .string { data := #[] }, .string { data := #[] }, .int .i64 0, .int .i64 0, .string { data := #[] }, .int .i64 0, .int .u64 0, .float .f64 0, .bool false, .int .i64 0, .bool false, .int .i64 0, .int .i64 0, .bool false] 63))) := ((Keep.refl _ _).alloc _).alloc _
  have HR4 : Hid (Row ((w.alloc (.cells #[.int .i64 3, .int .i64 pr, .int .i64 df] 61)).alloc (.cells #[.bool false, .string { data := #[] }, .string { data := #[] }, .int .i64 0, .int .i64 0, .string { data := #[] }, .int .i64 0, .int .u64 0, .float .f64 0, .bool false, .int .i64 0, .bool false, .int .i64 0, .int .i64 0, .bool false] 63)) (w.heap.size + 1) 63 #[.bool false, .string { data := #[] }, .string { data := #[] }, .int .i64 0, .int .i64 0, .string { data := #[] }, .int .i64 0, .int .u64 0, .float .f64 0, .bool false, .int .i64 0, .bool false, .int .i64 0, .int .i64 0, .bool false]) := by
    have h1 := Row.new (w.alloc (.cells #[.int .i64 3, .int .i64 pr, .int .i64 df] 61)) 63 #[.bool false, .string { data := #[] }, .string { data := #[] }, .int .i64 0, .int .i64 0, .string { data := #[] }, .int .i64 0, .int .u64 0, .float .f64 0, .bool false, .int .i64 0, .bool false, .int .i64 0, .int .i64 0, .bool false]
    rw [show (w.alloc (Obj.cells #[.int .i64 3, .int .i64 pr, .int .i64 df] 61)).heap.size = w.heap.size + 1 by simp] at h1
    exact h1
  clear hval hv h hs ht
  go_enter Tryz.func37, Tryz.ntmps37
  go_big_wp2_with fail
  refine (nextVal_any w0 Hval.out HT.out hz a0 a4 a5 a10 HV.out c s _ (H.out.same HS0.out) Hs.out).mono ?_
  rintro e w1 ⟨k, err, vz, vA, vn, vk, kk, s1, rfl, hst, hmay, hvok, hend, h4⟩
  have S1 := hid (((Step.refl H.out).same HS0.out).trans hst)
  have R4 := hid (row_farT (by decide) (by decide) HR4.out (H.out.same HS0.out) hst.far)
  clear hst HR4
  have H4 := hid h4
  have Hvok := hid hvok
  have Hend := hid hend
  obtain ⟨A, n, cap, sK, hvA, hcA, hzA⟩ := maybe_form hmay.weak
  have HC := hid hcA
  have ZA := hid hzA
  have HkA := hid hvA
  subst hvA
  clear hcA hzA h4 hvok hend hmay
  go_big_wp2_with fail
  have hS5 : Same w1 (w1.alloc (.cells #[.int .u64 vz, .slice vA vn vk, .int .u8 (kk : Nat)] 102)) := (Keep.refl _ _).alloc _
  have HS5 := hid hS5
  have S2 := hid (S1.out.same hS5)
  have R42 := hid (R4.out.same hS5)
  have R11 : Hid (Row (w1.alloc (.cells #[.int .u64 vz, .slice vA vn vk, .int .u8 (kk : Nat)] 102)) w1.heap.size 102 #[.int .u64 vz, .slice vA vn vk, .int .u8 (kk : Nat)]) := Row.new w1 _ _
  obtain ⟨g11, hg11⟩ : ∃ g, g = w1.heap.size := ⟨_, rfl⟩
  rw [← hg11] at R11 ⊢
  have HC2 : Hid (∀ W, Same (w1.alloc (.cells #[.int .u64 vz, .slice vA vn vk, .int .u8 (kk : Nat)] 102)) W → (convert 75 9 (.slice A n cap)).run Tryz.prog W = .ok (.string sK) W) := fun W hW => HC.out W (hS5.trans hW)
  have HE : Hid (err = .nilIface ∨ TErr (w1.alloc (.cells #[.int .u64 vz, .slice vA vn vk, .int .u8 (kk : Nat)] 102)) err) := Hend.out.imp id (fun h => (TErr.same (.inl h.1) hS5))
  clear hg11 hS5
  generalize w1.alloc (.cells #[.int .u64 vz, .slice vA vn vk, .int .u8 (kk : Nat)] 102) = w2 at *
  go_upto_region 12 with fail
  go_cut [13] (fun y wc => AnsAt w2 A.isSome sK (isE err) y wc)
  case first =>
    as_aux_lemma =>
      have pA := HC2.out w2.drew (same_drew _)
      refine wp_region_till 8 (fun w' : World => (convert 75 9 (.slice A n cap)).run Tryz.prog w' = .ok (.string sK) w') (by kernel_rfl) ?_
      have hS0 : Hid ((fun w' : World => (convert 75 9 (.slice A n cap)).run Tryz.prog w' = .ok (.string sK) w') w2.drew) := pA
      refine wpTill_take (i := 0) (oi := ⟨_, _, _, _, _, _⟩) (v := ?_) rfl (by kernel_rfl) (by decide) (by kernel_rfl) (by kernel_rfl) (by kernel_rfl) (fun _ _ _ h => h) (Or.inl ⟨by rfl, ?_⟩) hS0.out ?_
      rotate_left
      · (intro w' hSw; (try dsimp only at hSw); go_simp; (try with_reducible rfl))
      simp only [Act.put, List.setIfInBounds_toArray, List.set_cons_zero, List.set_cons_succ]
      refine wpTill_take (i := 1) (oi := ⟨_, _, _, _, _, _⟩) (v := ?_) rfl (by kernel_rfl) (by decide) (by kernel_rfl) (by kernel_rfl) (by kernel_rfl) (fun _ _ _ h => h) (Or.inl ⟨by rfl, ?_⟩) hS0.out ?_
      rotate_left
      · (intro w' hSw; (try dsimp only at hSw); go_simp; (try with_reducible rfl))
      simp only [Act.put, List.setIfInBounds_toArray, List.set_cons_zero, List.set_cons_succ]
      refine wpTill_take (i := 2) (oi := ⟨_, _, _, _, _, _⟩) (v := ?_) rfl (by kernel_rfl) (by decide) (by kernel_rfl) (by kernel_rfl) (by kernel_rfl) (fun _ _ _ h => h) (Or.inl ⟨by rfl, ?_⟩) hS0.out ?_
      rotate_left
      · (intro w' hSw; (try dsimp only at hSw); go_simp; (try with_reducible rfl))
      simp only [Act.put, List.setIfInBounds_toArray, List.set_cons_zero, List.set_cons_succ]
      refine wpTill_take (i := 3) (oi := ⟨_, _, _, _, _, _⟩) (v := ?_) rfl (by kernel_rfl) (by decide) (by kernel_rfl) (by kernel_rfl) (by kernel_rfl) (fun _ _ _ h => h) (Or.inl ⟨by rfl, ?_⟩) hS0.out ?_
      rotate_left
      · (intro w' hSw; (try dsimp only at hSw); go_simp; (try with_reducible rfl))
      simp only [Act.put, List.setIfInBounds_toArray, List.set_cons_zero, List.set_cons_succ]
      refine wpTill_take (i := 4) (oi := ⟨_, _, _, _, _, _⟩) (v := ?_) rfl (by kernel_rfl) (by decide) (by kernel_rfl) (by kernel_rfl) (by kernel_rfl) (fun _ _ _ h => h) (Or.inl ⟨by rfl, ?_⟩) hS0.out ?_
      rotate_left
      · (intro w' hSw; (try dsimp only at hSw); go_simp; (try with_reducible rfl))
      simp only [Act.put, List.setIfInBounds_toArray, List.set_cons_zero, List.set_cons_succ]
      refine wpTill_two (i := 5) (j := 7) (oi := ⟨_, _, _, _, _, _⟩) (oj := ⟨_, _, _, _, _, _⟩) rfl rfl (by kernel_rfl) (fun K hK => ?_) (fun K hK => ?_)
      ·
        as_aux_lemma =>
          go_simp
          refine (fault_any _ a0 a4 a5 a10 _ (HV.out.lay (S2.out.same (same_drew w2)).ok.lay) (HE.out.imp id (fun h => h.same (same_drew w2)))).mono ?_
          rintro e w8 ⟨fl, fc, frr, rfl, hk8⟩
          have HS8 := hid (Keep.trans (same_drew w2) hk8)
          clear hk8
          refine hK.out _ _ (fun _ => HC2.out _ HS8.out) ?_
          clear hK K
          try simp only [Act.put, List.setIfInBounds_toArray, List.set_cons_zero, List.set_cons_succ]
          refine wpTill_two (i := 6) (j := 7) (oi := ⟨_, _, _, _, _, _⟩) (oj := ⟨_, _, _, _, _, _⟩) rfl rfl (by kernel_rfl) (fun K hK => ?_) (fun K hK => ?_)
          ·
            as_aux_lemma =>
              rw [if_pos (by rfl)]
              refine wp_build_of 63 #[(0, .tmp 69), (1, .tmp 71), (6, .tmp 73)] rfl [(0, .bool A.isSome), (1, .string sK), (6, .agg #[.bool (isE err), .int .i64 fl, .int .i64 fc, .bool frr])] _ (by first | (simp [Act.eval]; done) | rfl) (built1 A.isSome sK (isE err) fl fc frr) ?_
              refine hK.out _ _ (fun _ => HC2.out _ HS8.out) ?_
              clear hK K
              try simp only [Act.put, List.setIfInBounds_toArray, List.set_cons_zero, List.set_cons_succ]
              refine wpTill_one (i := 7) (o := ⟨_, _, _, _, _, _⟩) rfl (by kernel_rfl) (fun K hK => ?_)
              go_simp
              have HS9 : Hid (Same w2 (w8.alloc (.cells #[.bool false, .string { data := #[] }, .string { data := #[] }, .int .i64 0, .int .i64 0, .string { data := #[] }, .int .i64 0, .int .u64 0, .float .f64 0, .bool false, .int .i64 0, .bool false, .int .i64 0, .int .i64 0, .bool false] 63))) := HS8.out.alloc _
              have R9 : Hid (Row (w8.alloc (.cells #[.bool false, .string { data := #[] }, .string { data := #[] }, .int .i64 0, .int .i64 0, .string { data := #[] }, .int .i64 0, .int .u64 0, .float .f64 0, .bool false, .int .i64 0, .bool false, .int .i64 0, .int .i64 0, .bool false] 63)) w8.heap.size 63 #[.bool false, .string { data := #[] }, .string { data := #[] }, .int .i64 0, .int .i64 0, .string { data := #[] }, .int .i64 0, .int .u64 0, .float .f64 0, .bool false, .int .i64 0, .bool false, .int .i64 0, .int .i64 0, .bool false]) := Row.new _ _ _
              refine hK.out _ _ (fun _ => HC2.out _ HS9.out) ?_
              clear hK K
              try simp only [Act.put, List.setIfInBounds_toArray, List.set_cons_zero, List.set_cons_succ]
              refine wpTill_one (i := 8) (o := ⟨_, _, _, _, _, _⟩) rfl (by kernel_rfl) (fun K hK => ?_)
              rw [if_pos (by rfl)]
              refine wp_store_row 63 (.tmp 13) (.tmp 74) rfl (w8.heap.size) _ rfl rfl 63 _ R9.out info63 rfl (by simp [Value.oneCell']) ?_
              refine hK.out _ _ (fun h => absurd rfl h) ?_
              clear hK K
              refine wpTill_done (by kernel_rfl) ?_ _
              go_big_wp2_with fail
              go_meet
              case rel => exact ⟨w8.heap.size, fl, fc, frr, rfl, HS8.out.size, same_row HS9.out HS8.out.size _, setRow_heap _ _ _ _ 63 (0, 0) R9.out⟩
          ·
            as_aux_lemma =>
              go_simp
              have HS9 : Hid (Same w2 (w8.alloc (.cells #[.bool false, .string { data := #[] }, .string { data := #[] }, .int .i64 0, .int .i64 0, .string { data := #[] }, .int .i64 0, .int .u64 0, .float .f64 0, .bool false, .int .i64 0, .bool false, .int .i64 0, .int .i64 0, .bool false] 63))) := HS8.out.alloc _
              have R9 : Hid (Row (w8.alloc (.cells #[.bool false, .string { data := #[] }, .string { data := #[] }, .int .i64 0, .int .i64 0, .string { data := #[] }, .int .i64 0, .int .u64 0, .float .f64 0, .bool false, .int .i64 0, .bool false, .int .i64 0, .int .i64 0, .bool false] 63)) w8.heap.size 63 #[.bool false, .string { data := #[] }, .string { data := #[] }, .int .i64 0, .int .i64 0, .string { data := #[] }, .int .i64 0, .int .u64 0, .float .f64 0, .bool false, .int .i64 0, .bool false, .int .i64 0, .int .i64 0, .bool false]) := Row.new _ _ _
              refine hK.out _ _ (fun _ => HC2.out _ HS9.out) ?_
              clear hK K
              try simp only [Act.put, List.setIfInBounds_toArray, List.set_cons_zero, List.set_cons_succ]
              refine wpTill_one (i := 6) (o := ⟨_, _, _, _, _, _⟩) rfl (by kernel_rfl) (fun K hK => ?_)
              rw [if_pos (by rfl)]
              refine wp_build_of 63 #[(0, .tmp 69), (1, .tmp 71), (6, .tmp 73)] rfl [(0, .bool A.isSome), (1, .string sK), (6, .agg #[.bool (isE err), .int .i64 fl, .int .i64 fc, .bool frr])] _ (by first | (simp [Act.eval]; done) | rfl) (built1 A.isSome sK (isE err) fl fc frr) ?_
              refine hK.out _ _ (fun _ => HC2.out _ HS9.out) ?_
              clear hK K
              try simp only [Act.put, List.setIfInBounds_toArray, List.set_cons_zero, List.set_cons_succ]
              refine wpTill_one (i := 8) (o := ⟨_, _, _, _, _, _⟩) rfl (by kernel_rfl) (fun K hK => ?_)
              rw [if_pos (by rfl)]
              refine wp_store_row 63 (.tmp 13) (.tmp 74) rfl (w8.heap.size) _ rfl rfl 63 _ R9.out info63 rfl (by simp [Value.oneCell']) ?_
              refine hK.out _ _ (fun h => absurd rfl h) ?_
              clear hK K
              refine wpTill_done (by kernel_rfl) ?_ _
              go_big_wp2_with fail
              go_meet
              case rel => exact ⟨w8.heap.size, fl, fc, frr, rfl, HS8.out.size, same_row HS9.out HS8.out.size _, setRow_heap _ _ _ _ 63 (0, 0) R9.out⟩
      ·
        as_aux_lemma =>
          go_simp
          have HS7 : Hid (Same w2 (w2.drew.alloc (.cells #[.bool false, .string { data := #[] }, .string { data := #[] }, .int .i64 0, .int .i64 0, .string { data := #[] }, .int .i64 0, .int .u64 0, .float .f64 0, .bool false, .int .i64 0, .bool false, .int .i64 0, .int .i64 0, .bool false] 63))) := (same_drew w2).alloc _
          have R7 : Hid (Row (w2.drew.alloc (.cells #[.bool false, .string { data := #[] }, .string { data := #[] }, .int .i64 0, .int .i64 0, .string { data := #[] }, .int .i64 0, .int .u64 0, .float .f64 0, .bool false, .int .i64 0, .bool false, .int .i64 0, .int .i64 0, .bool false] 63)) w2.heap.size 63 #[.bool false, .string { data := #[] }, .string { data := #[] }, .int .i64 0, .int .i64 0, .string { data := #[] }, .int .i64 0, .int .u64 0, .float .f64 0, .bool false, .int .i64 0, .bool false, .int .i64 0, .int .i64 0, .bool false]) := Row.new w2.drew _ _
          refine hK.out _ _ (fun _ => HC2.out _ HS7.out) ?_
          clear hK K
          try simp only [Act.put, List.setIfInBounds_toArray, List.set_cons_zero, List.set_cons_succ]
          refine wpTill_one (i := 5) (o := ⟨_, _, _, _, _, _⟩) rfl (by kernel_rfl) (fun K hK => ?_)
          go_simp
          refine (fault_any _ a0 a4 a5 a10 _ (HV.out.lay (S2.out.same HS7.out).ok.lay) (HE.out.imp id (fun h => h.same HS7.out))).mono ?_
          rintro e w8 ⟨fl, fc, frr, rfl, hk8⟩
          have HS8 := hid (Keep.trans HS7.out hk8)
          have R8 := hid (R7.out.same hk8)
          clear hk8
          refine hK.out _ _ (fun _ => HC2.out _ HS8.out) ?_
          clear hK K
          try simp only [Act.put, List.setIfInBounds_toArray, List.set_cons_zero, List.set_cons_succ]
          refine wpTill_one (i := 6) (o := ⟨_, _, _, _, _, _⟩) rfl (by kernel_rfl) (fun K hK => ?_)
          rw [if_pos (by rfl)]
          refine wp_build_of 63 #[(0, .tmp 69), (1, .tmp 71), (6, .tmp 73)] rfl [(0, .bool A.isSome), (1, .string sK), (6, .agg #[.bool (isE err), .int .i64 fl, .int .i64 fc, .bool frr])] _ (by first | (simp [Act.eval]; done) | rfl) (built1 A.isSome sK (isE err) fl fc frr) ?_
          refine hK.out _ _ (fun _ => HC2.out _ HS8.out) ?_
          clear hK K
          try simp only [Act.put, List.setIfInBounds_toArray, List.set_cons_zero, List.set_cons_succ]
          refine wpTill_one (i := 8) (o := ⟨_, _, _, _, _, _⟩) rfl (by kernel_rfl) (fun K hK => ?_)
          rw [if_pos (by rfl)]
          refine wp_store_row 63 (.tmp 13) (.tmp 74) rfl (w2.heap.size) _ rfl rfl 63 _ R8.out info63 rfl (by simp [Value.oneCell']) ?_
          refine hK.out _ _ (fun h => absurd rfl h) ?_
          clear hK K
          refine wpTill_done (by kernel_rfl) ?_ _
          go_big_wp2_with fail
          go_meet
          case rel => exact ⟨w2.heap.size, fl, fc, frr, rfl, (Nat.le_refl _), same_row HS8.out (Nat.le_refl _) _, setRow_heap _ _ _ _ 63 (0, 0) R8.out⟩
  case rest =>
    as_aux_lemma =>
      obtain ⟨g, fl, fc, frr, rfl, hg, hk3, hr3⟩ := hcut
      have S3 := hid (S2.out.same hk3)
      have R43 := hid (R42.out.same hk3)
      have R113 := hid (R11.out.same hk3)
      have Hr3 := hid hr3
      have Hk3 := hid hk3
      have Hg := hid hg
      have Hne : Hid (w.heap.size + 1 ≠ g) := (fun e => by have := R42.out.lt; omega)
      clear hr3 hk3 hg R11
      cases A with
      | none =>
        as_aux_lemma =>
          go_wp2_with (first | (refine wpList_load_row rfl 63 (.tmp 13) rfl g rfl 63 _ (0, 0) _ Hr3.out Tryz.underlying63 rfl info63 ?_) | (refine wpList_store_row rfl 63 (.tmp 4) (.tmp 80) rfl (w.heap.size + 1) _ rfl rfl 63 _ R43.out info63 rfl (by simp [Value.oneCell']) ?_))
          obtain ⟨hS, hR⟩ := storeTd (g := w.heap.size + 1) S3.out HB.out HB0.out (Nat.le_succ _) R43.out #[.bool false, .string sK, .string { data := #[] }, .int .i64 0, .int .i64 0, .string { data := #[] }, .int .i64 0, .int .u64 0, .float .f64 0, .bool false, .int .i64 0, .bool (isE err), .int .i64 fl, .int .i64 fc, .bool frr]
          have hV : ToldV false (isE err) (.agg #[.bool false, .string sK, .string { data := #[] }, .int .i64 0, .int .i64 0, .string { data := #[] }, .int .i64 0, .int .u64 0, .float .f64 0, .bool false, .int .i64 0, .bool (isE err), .int .i64 fl, .int .i64 fc, .bool frr]) := ⟨_, rfl, rfl, by simp [Value.oneCell'], rfl, rfl⟩
          have hE1 : isE err = true → (3 : Nat) ≠ 0 ∧ (s1.sec = 4 ∨ s1.sec = 5) := fun h => by
            refine ⟨by decide, ?_⟩
            rcases Hend.out with h1 | h1
            · rw [h1] at h; cases h
            · exact h1.2.2
          have hN : (3 : Nat) ≠ 0 → 4 ≤ s.sec → isE err = false ∧ false = ((3 : Nat) == 6) ∧ s1.sec = s.sec := fun _ h => by
            obtain ⟨h1, h2, h3⟩ := H4.out h
            refine ⟨?_, ?_, h3⟩
            · rw [h2]; rfl
            · exact ZA.out h1
          exact ret37 rfl rfl hR rfl ⟨false, isE err, _, s1, rfl, hV, hS, hN, hE1⟩
      | some a =>
        as_aux_lemma =>
          obtain ⟨nn, bb, k', e1, hk', hbb⟩ : VOk w1 (.agg #[.int .u64 vz, .slice vA vn vk, .int .u8 (kk : Nat)]) := by
            rcases Hvok.out with h | h
            · cases h
            · exact h
          have e2 : #[Value.int .u64 vz, .slice vA vn vk, .int .u8 (kk : Nat)] = #[Value.int .u64 nn, bb, .int .u8 (k' : Nat)] := by injection e1
          have e4 := congrArg (fun a : Array Value => a[1]?) e2
          have e5 := congrArg (fun a : Array Value => a[2]?) e2
          simp at e4 e5
          subst e4
          have e5' : kk = k' := by omega
          subst e5'
          obtain ⟨sV, hsV⟩ : ∃ sV, ∀ W, Same wc W → (convert 75 9 (.slice vA vn vk)).run Tryz.prog W = .ok (.string sV) W := by
            rcases hbb with h | ⟨m, f, -, hr⟩
            · injection h with h1 h2 h3
              subst h1 h2 h3
              exact ⟨ByteArray.empty, fun W _ => run_convert_bytes_nil (P := Tryz.prog) W 75 5 Tryz.underlying75 Tryz.underlying5 0 0 9 Tryz.underlying9⟩
            · exact ⟨strF m f, fun W hW => rd_str (hr.same ((HS5.out.trans Hk3.out).trans hW))⟩
          have hpl : Calls Tryz.prog 51 #[.agg #[.int .u64 vz, .slice vA vn vk, .int .u8 (kk : Nat)]] wc (GivesPlain wc) := plain_any vz vA vn vk kk sV wc hsV hk'
          have v0 : wc.cell? ⟨g11, 0, none⟩ = some (.int .u64 vz) := R113.out.cell 0
          have v1 : wc.cell? ⟨g11, 1, none⟩ = some (.slice vA vn vk) := R113.out.cell 1
          have v2 : wc.cell? ⟨g11, 2, none⟩ = some (.int .u8 (kk : Nat)) := R113.out.cell 2
          clear e1 e2 e5 hk' hbb hsV
          go_big_wp2_with fail
          refine hpl.mono ?_
          rintro e w9 ⟨k9, s9, n9, u9, f9, b9, rfl, hk9⟩
          have HS9 := hid (Hk3.out.trans hk9)
          have R49 := hid (R43.out.same hk9)
          have Hr9 := hid (Hr3.out.same hk9)
          have c4 : w9.cell? ⟨g, 4, none⟩ = some (.int .i64 0) := Hr9.out.cell 4
          have c5 : w9.cell? ⟨g, 5, none⟩ = some (.string { data := #[] }) := Hr9.out.cell 5
          have c6 : w9.cell? ⟨g, 6, none⟩ = some (.int .i64 0) := Hr9.out.cell 6
          have c7 : w9.cell? ⟨g, 7, none⟩ = some (.int .u64 0) := Hr9.out.cell 7
          have c8 : w9.cell? ⟨g, 8, none⟩ = some (.float .f64 0) := Hr9.out.cell 8
          have c9 : w9.cell? ⟨g, 9, none⟩ = some (.bool false) := Hr9.out.cell 9
          have fr := Hr9.out.frozen
          have hfl := fun W : World => run_store Tryz.prog W ⟨g, 8, none⟩ (.float .f64 f9) .plain rfl
          clear v0 v1 v2 hpl hk9
          go_upto_region 15 with fail
          have rr0 : Row (w9.setCell ⟨g, 4, none⟩ (.int .i64 k9)) g 63 #[.bool true, .string sK, .string { data := #[] }, .int .i64 0, .int .i64 k9, .string { data := #[] }, .int .i64 0, .int .u64 0, .float .f64 0, .bool false, .int .i64 0, .bool (isE err), .int .i64 fl, .int .i64 fc, .bool frr] := Hr9.out.set 4 (.int .i64 k9)
          have ss0 := Keep.setCell HS9.out (p := ⟨g, 4, none⟩) (fun h => absurd h (by have := Hg.out; show ¬ g < _; omega)) (.int .i64 k9)
          have qq0 := R49.out.far (p := ⟨g, 4, none⟩) Hne.out (.int .i64 k9)
          have rr1 : Row ((w9.setCell ⟨g, 4, none⟩ (.int .i64 k9)).setCell ⟨g, 5, none⟩ (.string s9)) g 63 #[.bool true, .string sK, .string { data := #[] }, .int .i64 0, .int .i64 k9, .string s9, .int .i64 0, .int .u64 0, .float .f64 0, .bool false, .int .i64 0, .bool (isE err), .int .i64 fl, .int .i64 fc, .bool frr] := rr0.set 5 (.string s9)
          have ss1 := Keep.setCell ss0 (p := ⟨g, 5, none⟩) (fun h => absurd h (by have := Hg.out; show ¬ g < _; omega)) (.string s9)
          have qq1 := qq0.far (p := ⟨g, 5, none⟩) Hne.out (.string s9)
          have rr2 : Row (((w9.setCell ⟨g, 4, none⟩ (.int .i64 k9)).setCell ⟨g, 5, none⟩ (.string s9)).setCell ⟨g, 6, none⟩ (.int .i64 n9)) g 63 #[.bool true, .string sK, .string { data := #[] }, .int .i64 0, .int .i64 k9, .string s9, .int .i64 n9, .int .u64 0, .float .f64 0, .bool false, .int .i64 0, .bool (isE err), .int .i64 fl, .int .i64 fc, .bool frr] := rr1.set 6 (.int .i64 n9)
          have ss2 := Keep.setCell ss1 (p := ⟨g, 6, none⟩) (fun h => absurd h (by have := Hg.out; show ¬ g < _; omega)) (.int .i64 n9)
          have qq2 := qq1.far (p := ⟨g, 6, none⟩) Hne.out (.int .i64 n9)
          have rr3 : Row ((((w9.setCell ⟨g, 4, none⟩ (.int .i64 k9)).setCell ⟨g, 5, none⟩ (.string s9)).setCell ⟨g, 6, none⟩ (.int .i64 n9)).setCell ⟨g, 7, none⟩ (.int .u64 u9)) g 63 #[.bool true, .string sK, .string { data := #[] }, .int .i64 0, .int .i64 k9, .string s9, .int .i64 n9, .int .u64 u9, .float .f64 0, .bool false, .int .i64 0, .bool (isE err), .int .i64 fl, .int .i64 fc, .bool frr] := rr2.set 7 (.int .u64 u9)
          have ss3 := Keep.setCell ss2 (p := ⟨g, 7, none⟩) (fun h => absurd h (by have := Hg.out; show ¬ g < _; omega)) (.int .u64 u9)
          have qq3 := qq2.far (p := ⟨g, 7, none⟩) Hne.out (.int .u64 u9)
          have rr4 : Row (((((w9.setCell ⟨g, 4, none⟩ (.int .i64 k9)).setCell ⟨g, 5, none⟩ (.string s9)).setCell ⟨g, 6, none⟩ (.int .i64 n9)).setCell ⟨g, 7, none⟩ (.int .u64 u9)).setCell ⟨g, 8, none⟩ (.float .f64 f9)) g 63 #[.bool true, .string sK, .string { data := #[] }, .int .i64 0, .int .i64 k9, .string s9, .int .i64 n9, .int .u64 u9, .float .f64 f9, .bool false, .int .i64 0, .bool (isE err), .int .i64 fl, .int .i64 fc, .bool frr] := rr3.set 8 (.float .f64 f9)
          have ss4 := Keep.setCell ss3 (p := ⟨g, 8, none⟩) (fun h => absurd h (by have := Hg.out; show ¬ g < _; omega)) (.float .f64 f9)
          have qq4 := qq3.far (p := ⟨g, 8, none⟩) Hne.out (.float .f64 f9)
          have rr5 : Row ((((((w9.setCell ⟨g, 4, none⟩ (.int .i64 k9)).setCell ⟨g, 5, none⟩ (.string s9)).setCell ⟨g, 6, none⟩ (.int .i64 n9)).setCell ⟨g, 7, none⟩ (.int .u64 u9)).setCell ⟨g, 8, none⟩ (.float .f64 f9)).setCell ⟨g, 9, none⟩ (.bool b9)) g 63 #[.bool true, .string sK, .string { data := #[] }, .int .i64 0, .int .i64 k9, .string s9, .int .i64 n9, .int .u64 u9, .float .f64 f9, .bool b9, .int .i64 0, .bool (isE err), .int .i64 fl, .int .i64 fc, .bool frr] := rr4.set 9 (.bool b9)
          have ss5 := Keep.setCell ss4 (p := ⟨g, 9, none⟩) (fun h => absurd h (by have := Hg.out; show ¬ g < _; omega)) (.bool b9)
          have qq5 := qq4.far (p := ⟨g, 9, none⟩) Hne.out (.bool b9)
          have RX : Hid (Row ((((((w9.setCell ⟨g, 4, none⟩ (.int .i64 k9)).setCell ⟨g, 5, none⟩ (.string s9)).setCell ⟨g, 6, none⟩ (.int .i64 n9)).setCell ⟨g, 7, none⟩ (.int .u64 u9)).setCell ⟨g, 8, none⟩ (.float .f64 f9)).setCell ⟨g, 9, none⟩ (.bool b9)) g 63 #[.bool true, .string sK, .string { data := #[] }, .int .i64 0, .int .i64 k9, .string s9, .int .i64 n9, .int .u64 u9, .float .f64 f9, .bool b9, .int .i64 0, .bool (isE err), .int .i64 fl, .int .i64 fc, .bool frr]) := rr5
          have SX := hid (S2.out.same ss5)
          have QX : Hid (Row ((((((w9.setCell ⟨g, 4, none⟩ (.int .i64 k9)).setCell ⟨g, 5, none⟩ (.string s9)).setCell ⟨g, 6, none⟩ (.int .i64 n9)).setCell ⟨g, 7, none⟩ (.int .u64 u9)).setCell ⟨g, 8, none⟩ (.float .f64 f9)).setCell ⟨g, 9, none⟩ (.bool b9)) (w.heap.size + 1) 63 #[.bool false, .string { data := #[] }, .string { data := #[] }, .int .i64 0, .int .i64 0, .string { data := #[] }, .int .i64 0, .int .u64 0, .float .f64 0, .bool false, .int .i64 0, .bool false, .int .i64 0, .int .i64 0, .bool false]) := qq5
          clear hfl rr0 rr1 rr2 rr3 rr4 rr5 ss0 ss1 ss2 ss3 ss4 ss5 qq0 qq1 qq2 qq3 qq4 qq5 c4 c5 c6 c7 c8 c9 fr
          generalize ((((((w9.setCell ⟨g, 4, none⟩ (.int .i64 k9)).setCell ⟨g, 5, none⟩ (.string s9)).setCell ⟨g, 6, none⟩ (.int .i64 n9)).setCell ⟨g, 7, none⟩ (.int .u64 u9)).setCell ⟨g, 8, none⟩ (.float .f64 f9)).setCell ⟨g, 9, none⟩ (.bool b9)) = wx at *
          go_wp2_with (first | (refine wpList_load_row rfl 63 (.tmp 13) rfl g rfl 63 _ (0, 0) _ RX.out Tryz.underlying63 rfl info63 ?_) | (refine wpList_store_row rfl 63 (.tmp 4) (.tmp 80) rfl (w.heap.size + 1) _ rfl rfl 63 _ QX.out info63 rfl (by simp [Value.oneCell']) ?_))
          obtain ⟨hS, hR⟩ := storeTd (g := w.heap.size + 1) SX.out HB.out HB0.out (Nat.le_succ _) QX.out #[.bool true, .string sK, .string { data := #[] }, .int .i64 0, .int .i64 k9, .string s9, .int .i64 n9, .int .u64 u9, .float .f64 f9, .bool b9, .int .i64 0, .bool (isE err), .int .i64 fl, .int .i64 fc, .bool frr]
          have hV : ToldV true (isE err) (.agg #[.bool true, .string sK, .string { data := #[] }, .int .i64 0, .int .i64 k9, .string s9, .int .i64 n9, .int .u64 u9, .float .f64 f9, .bool b9, .int .i64 0, .bool (isE err), .int .i64 fl, .int .i64 fc, .bool frr]) := ⟨_, rfl, rfl, by simp [Value.oneCell'], rfl, rfl⟩
          have hE1 : isE err = true → (3 : Nat) ≠ 0 ∧ (s1.sec = 4 ∨ s1.sec = 5) := fun h => by
            refine ⟨by decide, ?_⟩
            rcases Hend.out with h1 | h1
            · rw [h1] at h; cases h
            · exact h1.2.2
          have hN : (3 : Nat) ≠ 0 → 4 ≤ s.sec → isE err = false ∧ true = ((3 : Nat) == 6) ∧ s1.sec = s.sec := fun _ h => by
            obtain ⟨h1, h2, h3⟩ := H4.out h
            refine ⟨?_, ?_, h3⟩
            · rw [h2]; rfl
            · exact ZA.out h1
          exact ret37 rfl rfl hR rfl ⟨true, isE err, _, s1, rfl, hV, hS, hN, hE1⟩

/-- impl.told, whichever call -/
theorem told_any (w0 : World) (hval : ValidOK w0) (ht : FTabs w0) (hz : 25 < w0.heap.size) (a0 a4 a5 a10 : Addr) (hv : EVars w0 a0 a4 a5 a10) (op : Nat) (hop : op ≤ 6) (pr df : Int) (hpr : op = 6 → 0 ≤ pr ∧ pr ≤ 3) (c : DC) (s : DS) (w : World) (h : Ok w0 c w s) (hs : s.skip = false) :
    Calls Tryz.prog 37 #[.pointer (some ⟨c.D, 0, none⟩), .agg #[.int .i64 (op : Nat), .int .i64 pr, .int .i64 df]] w (GivesT w0 c s op w) := by
  have h7 : op = 0 ∨ op = 1 ∨ op = 2 ∨ op = 3 ∨ op = 4 ∨ op = 5 ∨ op = 6 := by omega
  rcases h7 with rfl | rfl | rfl | rfl | rfl | rfl | rfl
  · exact told_0 w0 hval a0 a4 a5 a10 hv pr df c s w h hs
  · exact told_1 w0 hval a0 a4 a5 a10 hv pr df c s w h hs
  · exact told_2 w0 hval a0 a4 a5 a10 hv pr df c s w h hs
  · exact told_3 w0 hval ht hz a0 a4 a5 a10 hv pr df c s w h hs
  · exact told_4 w0 hval a0 a4 a5 a10 hv pr df c s w h hs
  · exact told_5 w0 hval a0 a4 a5 a10 hv pr df c s w h hs
  · obtain ⟨h0, h3⟩ := hpr rfl
    obtain ⟨p, rfl⟩ := Int.eq_ofNat_of_zero_le h0
    exact told_6 w0 hval a0 a4 a5 a10 hv p (by omega) df c s w h hs
end Go.Proofs.YticdagnbnmnidaaGreatDoor
