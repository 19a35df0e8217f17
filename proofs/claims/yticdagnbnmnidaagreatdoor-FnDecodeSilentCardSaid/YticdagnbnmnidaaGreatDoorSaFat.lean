/- strconv's atof64 at any text. Conditions: none. ParseFloat at any text. Conditions: none. -/
import Derived.Test.YticdagnbnmnidaaGreatDoorSaFbl
import Derived.Test.YticdagnbnmnidaaGreatDoorSaFle
import Derived.Test.YticdagnbnmnidaaGreatDoorSaFld
import Derived.Laws.Cover2
import Derived.Deep.DeepCutAuto
import Derived.Test.YticdagnbnmnidaaGreatDoorSaShelf
import Derived.Lib.IfaceEq
set_option linter.unusedSimpArgs false
set_option linter.unusedVariables false
namespace Go.Proofs.YticdagnbnmnidaaGreatDoor
open Go.RowKit

/-- the errors within ParseFloat -/
def FErr (er : Value) : Prop := er = .nilIface ∨ er = .iface 315 (.int .i64 1) ∨ er = .iface 315 (.int .i64 2)
/-- what atof64 hands back -/
def GivesFIE (w : World) (e : Ending) (w' : World) : Prop := (∃ (n : Nat) (i : Int) (er : Value), e = .returned (.tuple #[.float .f64 n, .int .i64 i, er]) ∧ FErr er) ∧ Same w w'

/-- a new decimal -/
theorem dm_new (w : World) : DmAt (w.alloc (.cells Tryz.zeroCells306 306)) w.heap.size ⟨fun _ => 0, 0, 0, false, false⟩ := by
  have e : Tryz.zeroCells306 = Array.replicate 800 (.int .u8 0) ++ #[.int .i64 0, .int .i64 0, .bool false, .bool false] := by kernel_rfl
  refine ⟨Tryz.zeroCells306, Row.new w 306 _, ?_, ?_, ?_, ?_, ?_, ?_⟩
  · rw [e]; simp
  · intro i hi
    rw [e, Array.getElem?_append_left (by simpa using hi)]
    simp [Array.getElem?_replicate, hi]
  all_goals
    rw [e, Array.getElem?_append_right (by simp)]
    simp
theorem dm_zero : (⟨fun _ => 0, 0, 0, false, false⟩ : Dm).SetOk := ⟨Nat.zero_le _, fun i hi => absurd hi (Nat.not_lt_zero i), fun h => absurd h (Nat.not_lt_zero 0)⟩

set_option maxRecDepth 200000 in
set_option maxHeartbeats 8000000 in
theorem atof64_any (s : ByteArray) (w w0 : World) (hl : Lay w0 w) (ht : FTabs w0) (hz : 25 < w0.heap.size) (hs : s.size ≤ 3000000) : Calls Tryz.prog 278 #[.string s] w (GivesFIE w) := by
  have hsz : w0.heap.size ≤ w.heap.size := by
    have h1 := hl (w0.heap.size - 1) (by omega)
    rw [Array.getElem?_eq_getElem (by omega : w0.heap.size - 1 < w0.heap.size)] at h1
    have := (Array.getElem?_eq_some_iff.1 h1).1
    omega
  have T : FTabs w := ht.lay hl
  have f7 := T.opt
  have HT := hid T
  have HL := hid hl
  have HTT := hid ht
  have hfb := frombits_run
  clear T hl ht
  go_enter Tryz.func278, Tryz.ntmps278
  go_wp2_with fail
  refine (special_any s _ hs).mono ?_
  rintro e w1 ⟨⟨n, i, b, rfl⟩, rfl⟩
  cases b
  case true =>
    go_wp2_with fail
    refine bodyPost_ret (results_tmp3 rfl _ _ _) rfl ?_
    exact ⟨⟨n, i, _, rfl, .inl rfl⟩, Keep.refl _ _⟩
  go_wp2_with fail
  refine (readFloat_any s _ hs).mono ?_
  rintro e w1 ⟨⟨m, x, k, neg, tr, hex, ok, hm, hk, rfl⟩, rfl⟩
  have Hm := hid hm
  clear hm
  cases ok
  case false =>
    go_wp2_with fail
    refine bodyPost_ret (results_tmp3 rfl _ _ _) rfl ?_
    exact ⟨⟨_, _, _, rfl, .inr (.inr rfl)⟩, Keep.refl _ _⟩
  cases hex
  case true =>
    go_wp2_with fail
    refine (hex_any _ m x neg tr _ Hm.out HT.out.info HT.out.row).mono ?_
    rintro e w1 ⟨⟨f, hor⟩, hk1⟩
    have Hk1 := hid hk1
    clear hk1
    rcases hor with rfl | rfl | rfl
    all_goals
      go_wp2_with fail
      refine bodyPost_ret (results_tmp3 rfl _ _ _) rfl ?_
    · exact ⟨⟨_, _, _, rfl, .inl rfl⟩, Hk1.out⟩
    · exact ⟨⟨_, _, _, rfl, .inr (.inl rfl)⟩, Hk1.out⟩
    · exact ⟨⟨_, _, _, rfl, .inr (.inr rfl)⟩, Hk1.out⟩
  go_upto_region 11 with fail
  go_cut [16] (fun y wc => (∃ sg : Int, y = .int .u64 sg) ∧ Hid (w = wc))
  case first => as_aux_lemma =>
    go_wp2_with fail
    refine (bool2u_any neg _).mono ?_
    rintro e w1 ⟨rfl, rfl⟩
    go_wp2_with fail
    go_meet
    case rel => exact ⟨⟨_, rfl⟩, rfl⟩
  case rest => as_aux_lemma =>
    obtain ⟨⟨sg, rfl⟩, hw⟩ := hcut
    obtain rfl := hw.out
    clear hw f7
    by_cases hm0 : m = 0
    · subst hm0
      go_wp2_with fail
      refine bodyPost_ret (results_tmp3 rfl _ _ _) rfl ?_
      exact ⟨⟨_, _, _, rfl, .inl rfl⟩, Keep.refl _ _⟩
    have hmb : (m == 0) = false := by simp; omega
    clear hm0
    by_cases hx1 : 310 < x
    · go_wp2_with fail
      refine bodyPost_ret (results_tmp3 rfl _ _ _) rfl ?_
      exact ⟨⟨_, _, _, rfl, .inr (.inl rfl)⟩, Keep.refl _ _⟩
    by_cases hx2 : x < -345
    · go_wp2_with fail
      refine bodyPost_ret (results_tmp3 rfl _ _ _) rfl ?_
      exact ⟨⟨_, _, _, rfl, .inl rfl⟩, Keep.refl _ _⟩
    obtain ⟨q, rfl⟩ : ∃ q : Nat, x = (q : Int) - 348 := ⟨(x + 348).toNat, by omega⟩
    have hq : q < 696 := by omega
    have hzw : 25 < w.heap.size := by omega
    cases tr
    case false =>
      go_wp2_with fail
      refine (exact64_any m _ neg _ HT.out.ten HT.out.info).mono ?_
      rintro e w1 ⟨⟨f, b, rfl⟩, rfl⟩
      cases b
      case true =>
        go_wp2_with fail
        refine bodyPost_ret (results_tmp3 rfl _ _ _) rfl ?_
        exact ⟨⟨_, _, _, rfl, .inl rfl⟩, Keep.refl _ _⟩
      go_wp2_with fail
      refine (parse64_any m sg q _ Hm.out.1 Hm.out.2 hq HT.out.pow hzw).mono ?_
      rintro e w1 ⟨⟨f, hor⟩, hk1⟩
      have Hk1 := hid hk1
      clear hk1
      rcases hor with rfl | rfl | rfl
      all_goals
        go_wp2_with fail
        refine bodyPost_ret (results_tmp3 rfl _ _ _) rfl ?_
      · exact ⟨⟨_, _, _, rfl, .inl rfl⟩, Hk1.out⟩
      · exact ⟨⟨_, _, _, rfl, .inr (.inl rfl)⟩, Hk1.out⟩
      · exact ⟨⟨_, _, _, rfl, .inr (.inr rfl)⟩, Hk1.out⟩
    go_wp2_with fail
    refine (parse64_any m sg q _ Hm.out.1 Hm.out.2 hq HT.out.pow hzw).mono ?_
    rintro e w1 ⟨hor, hk1⟩
    obtain ⟨f, er, rfl, her⟩ : ∃ (f : Nat) (er : Value), e = .returned (.tuple #[.float .f64 f, er]) ∧ FErr er := by
      obtain ⟨f, rfl | rfl | rfl⟩ := hor
      · exact ⟨f, _, rfl, .inl rfl⟩
      · exact ⟨f, _, rfl, .inr (.inl rfl)⟩
      · exact ⟨f, _, rfl, .inr (.inr rfl)⟩
    have Hk1 := hid hk1
    have Her := hid her
    have hsz1 : 25 < w1.heap.size := by have := hk1.size; omega
    have T1 : Hid (FTabs w1) := HTT.out.lay (HL.out.same hk1)
    clear hk1 hor her
    obtain ⟨d, hd, hd0, hd1⟩ : ∃ d : Int, IntKind.u64.wrap (m + 1) = d ∧ 0 ≤ d ∧ d < 18446744073709551616 := ⟨_, rfl, by have := Hm.out; simp [IntKind.wrap, IntKind.signed, IntKind.bits]; omega, by have := Hm.out; simp [IntKind.wrap, IntKind.signed, IntKind.bits]; omega⟩
    go_wp2_with fail
    refine (parse64_any d sg q _ hd0 hd1 hq T1.out.pow hsz1).mono ?_
    rintro e w2 ⟨hor, hk2⟩
    obtain ⟨f2, er2, rfl⟩ : ∃ (f : Nat) (er : Value), e = .returned (.tuple #[.float .f64 f, er]) := by
      obtain ⟨f, rfl | rfl | rfl⟩ := hor
      · exact ⟨f, _, rfl⟩
      · exact ⟨f, _, rfl⟩
      · exact ⟨f, _, rfl⟩
    have Hk2 := hid (Hk1.out.trans hk2)
    have HD := hid (dm_new w2)
    clear hk2 hor Hk1 T1 hd
    go_wp2_with fail
    · refine bodyPost_ret (results_tmp3 rfl _ _ _) rfl ?_
      exact ⟨⟨_, _, _, rfl, Her.out⟩, Hk2.out⟩
    have Hk3 : Hid (Same w (w2.alloc (.cells Tryz.zeroCells306 306))) := Hk2.out.alloc _
    have hg : w.heap.size ≤ w2.heap.size := Hk2.out.size
    refine (dset_any w2.heap.size _ ⟨fun _ => 0, 0, 0, false, false⟩ _ ⟨HD.out, dm_zero, Keep.refl _ _⟩ (by simp; omega) rfl rfl).mono ?_
    rintro e w4 ⟨ok, c, rfl, hS, hp1, hp2⟩
    have HS := hid hS
    have Hk4 := hid (Hk3.out.trans' hS.keep (fun i hi e => by have e' : i = w2.heap.size := e; omega))
    clear hS hp1 hp2
    cases ok
    case false =>
      go_wp2_with fail
      refine bodyPost_ret (results_tmp3 rfl _ _ _) rfl ?_
      exact ⟨⟨_, _, _, rfl, .inr (.inr rfl)⟩, Hk4.out⟩
    go_wp2_with fail
    refine (floatBits_any w2.heap.size c _ w0 HS.out.at_ HS.out.ok (HL.out.same Hk4.out) (by omega) HTT.out).mono ?_
    rintro e w5 ⟨⟨bz, ov, rfl⟩, hk5⟩
    have Hk5 := hid (Hk4.out.trans' hk5 (fun i hi e => by have e' : i = w2.heap.size := e; omega))
    clear hk5
    cases ov
    · go_wp2_with fail
      refine bodyPost_ret (results_tmp3 rfl _ _ _) rfl ?_
      exact ⟨⟨_, _, _, rfl, .inl rfl⟩, Hk5.out⟩
    · go_wp2_with fail
      refine bodyPost_ret (results_tmp3 rfl _ _ _) rfl ?_
      exact ⟨⟨_, _, _, rfl, .inr (.inl rfl)⟩, Hk5.out⟩
end Go.Proofs.YticdagnbnmnidaaGreatDoor
namespace Go.Proofs.YticdagnbnmnidaaGreatDoor
open Go.RowKit

/-- a float and one of the inner errors -/
def GivesFE2 (w : World) (e : Ending) (w' : World) : Prop := (∃ (n : Nat) (er : Value), e = .returned (.tuple #[.float .f64 n, er]) ∧ FErr er) ∧ Same w w'

set_option maxRecDepth 20000 in
set_option maxHeartbeats 1600000 in
theorem floatPrefix_any (s : ByteArray) (w w0 : World) (hl : Lay w0 w) (ht : FTabs w0) (hz : 25 < w0.heap.size) (hs : s.size ≤ 3000000) : Calls Tryz.prog 250 #[.string s, .int .i64 64] w (GivesFIE w) := by
  have HL := hid hl
  have HTT := hid ht
  clear hl ht
  go_enter Tryz.func250, Tryz.ntmps250
  go_wp2_with fail
  refine (atof64_any s _ w0 HL.out HTT.out hz hs).mono ?_
  rintro e w1 ⟨⟨n, i, er, rfl, her⟩, hk⟩
  have Hk := hid hk
  have Her := hid her
  clear hk her
  go_wp2_with fail
  refine bodyPost_ret (results_tmp3 rfl _ _ _) rfl ?_
  exact ⟨⟨_, _, _, rfl, Her.out⟩, Hk.out⟩

set_option maxRecDepth 20000 in
set_option maxHeartbeats 1600000 in
theorem float227_any (s : ByteArray) (w w0 : World) (hl : Lay w0 w) (ht : FTabs w0) (hz : 25 < w0.heap.size) (hs : s.size ≤ 3000000) : Calls Tryz.prog 227 #[.string s, .int .i64 64] w (GivesFE2 w) := by
  have HL := hid hl
  have HTT := hid ht
  clear hl ht
  go_enter Tryz.func227, Tryz.ntmps227
  go_wp2_with fail
  refine (floatPrefix_any s _ w0 HL.out HTT.out hz hs).mono ?_
  rintro e w1 ⟨⟨n, i, er, rfl, her⟩, hk⟩
  have Hk := hid hk
  have Her := hid her
  clear hk her
  go_wp2_with fail
  · go_ret2
    exact ⟨⟨_, _, rfl, .inr (.inr rfl)⟩, Hk.out⟩
  · go_ret2
    exact ⟨⟨_, _, rfl, Her.out⟩, Hk.out⟩

/-- the two errors of strconv -/
structure ErrAt (w : World) (es er : Value) : Prop where
  syn : w.cell? ⟨10, 0, none⟩ = some es
  rng : w.cell? ⟨4, 0, none⟩ = some er
  syn' : ∃ t p, es = .iface t p
  rng' : ∃ t p, er = .iface t p
theorem ErrAt.same {w w' : World} {es er : Value} (h : ErrAt w es er) (hk : Same w w') : ErrAt w' es er :=
  ⟨by rw [← h.syn]; exact World.cell?_of_block (hk.block 10 (lt_of_cell h.syn) id), by rw [← h.rng]; exact World.cell?_of_block (hk.block 4 (lt_of_cell h.rng) id), h.syn', h.rng'⟩
/-- a *NumError -/
def NumErr (w : World) (lo : Nat) (ev er : Value) : Prop := ∃ (N : Nat) (fn s : ByteArray), er = .iface 275 (.pointer (some ⟨N, 0, none⟩)) ∧ lo ≤ N ∧ w.heap[N]? = some (.cells #[.string fn, .string s, ev] 278 (0, 0))
/-- what toError hands back -/
def GivesNE (es er : Value) (w : World) (e : Ending) (w' : World) : Prop := (∃ (ev x : Value), e = .returned x ∧ (ev = es ∨ ev = er) ∧ NumErr w' w.heap.size ev x) ∧ Same w w'

theorem cmp315 : (Tryz.prog.info? 315).map (·.comparable) = some true := by kernel_rfl
theorem ne12 (w : World) : (binOp .eql 80 (.iface 315 (.int .i64 1)) (.iface 315 (.int .i64 2))).run Tryz.prog w = .ok (.bool false) w := Go.Lib.run_eql_iface_int w 1 2 Tryz.underlying80 cmp315 Tryz.underlying315
theorem eq11 (w : World) : (binOp .eql 80 (.iface 315 (.int .i64 1)) (.iface 315 (.int .i64 1))).run Tryz.prog w = .ok (.bool true) w := Go.Lib.run_eql_iface_int w 1 1 Tryz.underlying80 cmp315 Tryz.underlying315
theorem eq22 (w : World) : (binOp .eql 80 (.iface 315 (.int .i64 2)) (.iface 315 (.int .i64 2))).run Tryz.prog w = .ok (.bool true) w := Go.Lib.run_eql_iface_int w 2 2 Tryz.underlying80 cmp315 Tryz.underlying315

set_option maxRecDepth 20000 in
set_option maxHeartbeats 1600000 in
theorem toError_any (fn s : ByteArray) (b z : Int) (v es er : Value) (w : World) (hv : v = .iface 315 (.int .i64 1) ∨ v = .iface 315 (.int .i64 2)) (he : ErrAt w es er) (hs : s.size ≤ 3000000) :
    Calls Tryz.prog 228 #[.string fn, .string s, .int .i64 b, .int .i64 z, v] w (GivesNE es er w) := by
  have HE := hid he
  have r12 := ne12
  have r11 := eq11
  have r22 := eq22
  clear he
  rcases hv with rfl | rfl
  · go_enter Tryz.func228, Tryz.ntmps228
    go_wp2_with fail
    refine (Tryz.strconv_rangeError fn s er _ (by omega) HE.out.rng (.inr HE.out.rng')).mono ?_
    rintro e w1 ⟨N, rfl, hN, hc, hb⟩
    have Hx : Hid (NumErr w1 w.heap.size er (.iface 275 (.pointer (some ⟨N, 0, none⟩)))) := ⟨N, _, _, rfl, hN, hc⟩
    have Hk : Hid (Same w w1) := Keep.of_below hb
    clear hN hc hb
    go_wp2_with fail
    go_ret
    exact ⟨⟨_, _, rfl, .inr rfl, Hx.out⟩, Hk.out⟩
  · go_enter Tryz.func228, Tryz.ntmps228
    go_wp2_with fail
    refine (Tryz.strconv_syntaxError fn s es _ (by omega) HE.out.syn (.inr HE.out.syn')).mono ?_
    rintro e w1 ⟨N, rfl, hN, hc, hb⟩
    have Hx : Hid (NumErr w1 w.heap.size es (.iface 275 (.pointer (some ⟨N, 0, none⟩)))) := ⟨N, _, _, rfl, hN, hc⟩
    have Hk : Hid (Same w w1) := Keep.of_below hb
    clear hN hc hb
    go_wp2_with fail
    go_ret
    exact ⟨⟨_, _, rfl, .inl rfl, Hx.out⟩, Hk.out⟩

/-- what ParseFloat hands back -/
def GivesPF (es er : Value) (w : World) (e : Ending) (w' : World) : Prop :=
  (∃ (n : Nat) (x : Value), e = .returned (.tuple #[.float .f64 n, x]) ∧ (x = .nilIface ∨ ∃ ev, (ev = es ∨ ev = er) ∧ NumErr w' w.heap.size ev x)) ∧ Same w w'

set_option maxRecDepth 20000 in
set_option maxHeartbeats 1600000 in
theorem parseFloat_any (s : ByteArray) (es er : Value) (w w0 : World) (hl : Lay w0 w) (ht : FTabs w0) (hz : 25 < w0.heap.size) (hs : s.size ≤ 3000000) (he : ErrAt w es er) :
    Calls Tryz.prog 202 #[.string s, .int .i64 64] w (GivesPF es er w) := by
  have HL := hid hl
  have HTT := hid ht
  have HE := hid he
  clear hl ht he
  go_enter Tryz.func202, Tryz.ntmps202
  go_wp2_with fail
  refine (float227_any s _ w0 HL.out HTT.out hz hs).mono ?_
  rintro e w1 ⟨⟨n, v, rfl, hv⟩, hk⟩
  have Hk := hid hk
  have HE1 := hid (HE.out.same hk)
  have hsz := hk.size
  clear hk
  rcases hv with rfl | hv
  · go_wp2_with fail
    go_ret2
    exact ⟨⟨_, _, rfl, .inl rfl⟩, Hk.out⟩
  rcases hv with rfl | rfl
  all_goals
    go_wp2_with fail
    refine (toError_any _ s _ _ _ es er _ (by first | exact .inl rfl | exact .inr rfl) HE1.out hs).mono ?_
    rintro e w2 ⟨⟨ev, x, rfl, hev, hx⟩, hk2⟩
    have Hk2 := hid (Hk.out.trans hk2)
    have Hx := hid (⟨ev, hev, hx⟩ : ∃ ev, (ev = es ∨ ev = er) ∧ NumErr w2 w1.heap.size ev x)
    clear hev hx hk2
    go_wp2_with fail
    go_ret2
    refine ⟨⟨_, _, rfl, .inr ?_⟩, Hk2.out⟩
    obtain ⟨ev, h1, N, fn, s', h2, h3, h4⟩ := Hx.out
    exact ⟨ev, h1, N, fn, s', h2, by omega, h4⟩
end Go.Proofs.YticdagnbnmnidaaGreatDoor
