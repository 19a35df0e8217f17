/- maybeOutOfRange. Conditions: none. math.IsNaN, math.IsInf, math.Float64bits. Conditions: none. newValueFromBytes. Conditions: none. -/
import Derived.Test.YticdagnbnmnidaaGreatDoorSaPnum
import Derived.Test.YticdagnbnmnidaaGreatDoorSaFla
import Derived.Laws.Cover2
import Derived.Test.YticdagnbnmnidaaGreatDoorSaCount
import Derived.Deep.CutBlock
import Derived.Deep.DeepCutAuto
import Derived.Deep.QuietTactic
import Derived.BigQuiet
import Derived.BigGuardPart
import Derived.Outline
set_option linter.unusedSimpArgs false
set_option linter.unusedVariables false
namespace Go.Proofs.YticdagnbnmnidaaGreatDoor
open Go.RowKit

theorem assert275 (v : Value) (w : World) : (Instr.typeAssert (.iface 275 v) 80 275 true).run Tryz.prog w = .ok (.tuple #[v, .bool true]) w := by
  simp [Instr.typeAssert, run_underlying Tryz.underlying275, go_sem, Result.andThen]

set_option maxRecDepth 20000 in
set_option maxHeartbeats 1600000 in
theorem maybe_any (x : Value) (msg : ByteArray) (lo : Nat) (ea eb : Addr) (oo : Value) (w : World) (hx : NumErr w lo (.iface 240 (.pointer (some ea))) x) (hr : w.cell? ⟨4, 0, none⟩ = some (.iface 240 (.pointer (some eb)))) (h0 : w.cell? ⟨0, 0, none⟩ = some oo)
    (hq : ∃ b, ∀ w', (∃ m, w' = w.drewN m) → (binOp .eql 80 (.iface 240 (.pointer (some ea))) (.iface 240 (.pointer (some eb)))).run Tryz.prog w' = .ok (.bool b) w') :
    Calls Tryz.prog 174 #[x, .string msg] w fun e w' => (e = .returned oo ∧ Same w w') ∨ ∃ w1, Same w w1 ∧ GivesNew w1 e w' := by
  obtain ⟨N, fn, s, rfl, -, hN⟩ := hx
  obtain ⟨b, hb⟩ := hq
  have hb1 : ∀ m, (binOp .eql 80 (.iface 240 (.pointer (some ea))) (.iface 240 (.pointer (some eb)))).run Tryz.prog (w.drewN m) = .ok (.bool b) (w.drewN m) := fun m => hb _ ⟨m, rfl⟩
  have hb0 : (binOp .eql 80 (.iface 240 (.pointer (some ea))) (.iface 240 (.pointer (some eb)))).run Tryz.prog w = .ok (.bool b) w := hb1 0
  have f2 : w.cell? ⟨N, 2, none⟩ = some (.iface 240 (.pointer (some ea))) := by simp [World.cell?, hN]
  clear hN
  have ha := assert275
  go_enter Tryz.func174, Tryz.ntmps174
  go_wp2_with fail
  go_quiet (fail)
  go_wp2_with fail
  · go_ret
    exact .inl ⟨rfl, (Keep.refl _ w).drewN _⟩
  · refine (errorsNew_any _ _).mono ?_
    rintro e w1 h1
    have H1 := hid h1
    obtain ⟨g, rfl, -, -, -⟩ := h1
    go_wp2_with fail
    go_ret
    exact .inr ⟨_, (Keep.refl _ w).drewN _, H1.out⟩
end Go.Proofs.YticdagnbnmnidaaGreatDoor
namespace Go.Proofs.YticdagnbnmnidaaGreatDoor
open Go.RowKit

set_option maxRecDepth 20000 in
theorem isNaN_any (n : Nat) (w : World) : Calls Tryz.prog 159 #[.float .f64 n] w fun e w' => (∃ b : Bool, e = .returned (.bool b)) ∧ w = w' := by
  go_enter Tryz.func159, Tryz.ntmps159
  go_wp2_with fail
  go_ret
  exact ⟨⟨_, rfl⟩, rfl⟩

set_option maxRecDepth 20000 in
theorem abs_any (n : Nat) (w : World) : Calls Tryz.prog 205 #[.float .f64 n] w fun e w' => (∃ m : Nat, e = .returned (.float .f64 m)) ∧ w = w' := by
  have h1 := frombits_math_run
  have h2 := bits_math_run
  go_enter Tryz.func205, Tryz.ntmps205
  go_wp2_with fail
  go_ret
  exact ⟨⟨_, rfl⟩, rfl⟩

set_option maxRecDepth 20000 in
theorem isInf_any (n : Nat) (w : World) : Calls Tryz.prog 158 #[.float .f64 n, .int .i64 0] w fun e w' => (∃ b : Bool, e = .returned (.bool b)) ∧ w = w' := by
  go_enter Tryz.func158, Tryz.ntmps158
  go_wp2_with fail
  refine (abs_any n _).mono ?_
  rintro e w1 ⟨⟨m, rfl⟩, rfl⟩
  go_wp2_with fail
  go_ret
  exact ⟨⟨_, rfl⟩, rfl⟩
end Go.Proofs.YticdagnbnmnidaaGreatDoor
namespace Go.Proofs.YticdagnbnmnidaaGreatDoor
open Go.RowKit

theorem EVars.errAt {w : World} {a0 a4 a5 a10 : Addr} (h : EVars w a0 a4 a5 a10) : ErrAt w (.iface 240 (.pointer (some a10))) (.iface 240 (.pointer (some a4))) :=
  ⟨h.syn.cell, h.rng.cell, ⟨_, _, rfl⟩, ⟨_, _, rfl⟩⟩

/-- a value of the line protocol: what its accessors need -/
def VOk (w : World) (v : Value) : Prop := ∃ (n : Int) (b : Value) (k : Nat), v = .agg #[.int .u64 n, b, .int .u8 k] ∧ (k = 0 ∨ k = 2 ∨ k = 3 ∨ k = 4 ∨ k = 5) ∧ (b = .slice none 0 0 ∨ ∃ m f, m ≤ 3000000 ∧ Rd w b m f)
/-- an error of errors.New, whichever -/
def IsErr (w : World) (x : Value) : Prop := ∃ a : Addr, x = .iface 240 (.pointer (some a)) ∧ ∃ cs t, w.heap[a.block]? = some (.cells cs t (0, 0))
theorem EPtr.err {w W : World} {g : Nat} {a : Addr} (h : EPtr w g a) (hk : Same w W) : IsErr W (.iface 240 (.pointer (some a))) := ⟨a, rfl, (h.same hk).row⟩
theorem ErrCell.err {w W : World} {g d : Nat} {cs : Array Value} (h : ErrCell w g) (hk : Keep (fun k => k = d) w W) (hd : Row w d 102 cs) : IsErr W (.iface 240 (.pointer (some ⟨g, 0, none⟩))) := by
  have hne : g ≠ d := fun e => by
    obtain ⟨s, h⟩ := h
    subst e
    have := Option.some.inj (h.symm.trans hd)
    injection this with _ h2
    cases h2
  obtain ⟨s, h⟩ := h.keep hk hne
  exact ⟨_, rfl, _, _, h⟩

/-- What newValueFromBytes gives. -/
def GivesVal (w : World) (e : Ending) (w' : World) : Prop := ∃ (z : Int) (A : Option Addr) (n1 k1 : Nat) (kk : Int) (x : Value), e = .returned (.tuple #[.agg #[.int .u64 z, .slice A n1 k1, .int .u8 kk], x]) ∧ Same w w' ∧ ((x = .nilIface ∧ VOk w' (.agg #[.int .u64 z, .slice A n1 k1, .int .u8 kk])) ∨ IsErr w' x)

theorem end106 {w w1 : World} {a : Act} {c0 c1 c2 x : Value} {z : Int} {A : Option Addr} {n1 k1 : Nat} {kk : Int} (h6 : a.tmps.getD 6 undef = .pointer (some ⟨w.heap.size, 0, none⟩)) (h7 : a.tmps.getD 7 undef = x) (hd : a.defers = [])
    (hr : Row w1 w.heap.size 102 #[c0, c1, c2]) (hk : Same w w1) (hx : ∀ W, Same w W → Keep (fun k => k = w.heap.size) w1 W → (x = .nilIface ∧ VOk W (.agg #[.int .u64 z, .slice A n1 k1, .int .u8 kk])) ∨ IsErr W x) :
    bodyPost Tryz.prog Tryz.f106 (GivesVal w) Exit.ret a (((w1.setCell ⟨w.heap.size, 0, none⟩ (.int .u64 z)).setCell ⟨w.heap.size, 1, none⟩ (.slice A n1 k1)).setCell ⟨w.heap.size, 2, none⟩ (.int .u8 kk)) := by
  have hk' := ((hk.setCell (p := ⟨w.heap.size, 0, none⟩) (fun h => absurd h (by simp)) (.int .u64 z)).setCell (p := ⟨w.heap.size, 1, none⟩) (fun h => absurd h (by simp)) (.slice A n1 k1)).setCell (p := ⟨w.heap.size, 2, none⟩) (fun h => absurd h (by simp)) (.int .u8 kk)
  have hk2 := (((Keep.refl (fun k => k = w.heap.size) w1).setCell (p := ⟨w.heap.size, 0, none⟩) (fun _ => rfl) (.int .u64 z)).setCell (p := ⟨w.heap.size, 1, none⟩) (fun _ => rfl) (.slice A n1 k1)).setCell (p := ⟨w.heap.size, 2, none⟩) (fun _ => rfl) (.int .u8 kk)
  exact ret106 h6 h7 (((hr.set 0 (.int .u64 z)).set 1 (.slice A n1 k1)).set 2 (.int .u8 kk)) ⟨_, _, _, _, _, _, rfl, hk', hx _ hk' hk2⟩ hd

/-- the comparison that maybeOutOfRange makes -/
theorem EVars.cmp {w : World} {a0 a4 a5 a10 : Addr} (h : EVars w a0 a4 a5 a10) {ev : Value} (hev : ev = .iface 240 (.pointer (some a10)) ∨ ev = .iface 240 (.pointer (some a4))) :
    ∃ ea, ev = .iface 240 (.pointer (some ea)) ∧ (∃ b, ∀ w', (∃ m, w' = w.drewN m) → (binOp .eql 80 (.iface 240 (.pointer (some ea))) (.iface 240 (.pointer (some a4)))).run Tryz.prog w' = .ok (.bool b) w') := by
  obtain ⟨cs4, t4, h4⟩ := h.rng.row
  rcases hev with rfl | rfl
  · obtain ⟨cs, t, h1⟩ := h.syn.row
    obtain ⟨b, hb⟩ := eql_errs h1 h4
    exact ⟨_, rfl, b, fun w' ⟨m, e⟩ => by subst e; exact hb m⟩
  · obtain ⟨b, hb⟩ := eql_errs h4 h4
    exact ⟨_, rfl, b, fun w' ⟨m, e⟩ => by subst e; exact hb m⟩

set_option maxRecDepth 100000 in
set_option maxHeartbeats 12800000 in
theorem newValue_any (w0 : World) (kd : Nat) (v : Value) (n : Nat) (f : Nat → Nat) (a0 a4 a5 a10 : Addr) (w : World) (hr : Rd w v n f) (hn : n ≤ 3000000)
    (hl : Lay w0 w) (ht : FTabs w0) (hz : 25 < w0.heap.size) (hv : EVars w a0 a4 a5 a10) :
    Calls Tryz.prog 106 #[.int .u8 kd, v, .bool false] w (GivesVal w) := by
  have HR := hid hr
  have HL := hid hl
  have HTT := hid ht
  have HV := hid hv
  have HS0 : Hid (Same w (w.alloc (.cells #[.int .u64 0, .slice none 0 0, .int .u8 0] 102))) := (Keep.refl _ _).alloc _
  have HR0 : Hid (Row (w.alloc (.cells #[.int .u64 0, .slice none 0 0, .int .u8 0] 102)) w.heap.size 102 #[.int .u64 0, .slice none 0 0, .int .u8 0]) := Row.new _ _ _
  clear hr hl ht hv
  by_cases k2 : kd = 2
  · subst k2
    go_enter Tryz.func106, Tryz.ntmps106
    go_big_wp2_with fail
    refine (intBytes_any v n f _ _ _ (HR.out.same HS0.out) hn ((HV.out.same HS0.out).errAt)).mono ?_
    rintro e w1 ⟨⟨m, x, rfl, hx⟩, hk1⟩
    have Hrow := hid (HR0.out.same hk1)
    have HK := hid (HS0.out.trans hk1)
    clear hk1
    rcases hx with rfl | ⟨ev, hev, hx⟩
    ·
      as_aux_lemma =>
        have c0 : w1.cell? ⟨w.heap.size, 0, none⟩ = some (.int .u64 0) := Hrow.out.cell 0
        have c1 : w1.cell? ⟨w.heap.size, 1, none⟩ = some (.slice none 0 0) := Hrow.out.cell 1
        have c2 : w1.cell? ⟨w.heap.size, 2, none⟩ = some (.int .u8 0) := Hrow.out.cell 2
        have fr := Hrow.out.frozen
        go_big_wp2_with fail
        exact end106 rfl rfl rfl Hrow.out HK.out (fun W h1 h2 => .inl ⟨rfl, _, _, 2, rfl, by omega, .inl rfl⟩)
    ·
      as_aux_lemma =>
        obtain ⟨ea, rfl, hq⟩ := (HV.out.same HK.out).cmp hev
        have HX := hid hx
        have HQ := hid hq
        obtain ⟨N, fn, s, rfl, -, -⟩ := hx
        clear hq hev
        have c0 : w1.cell? ⟨w.heap.size, 0, none⟩ = some (.int .u64 0) := Hrow.out.cell 0
        have c1 : w1.cell? ⟨w.heap.size, 1, none⟩ = some (.slice none 0 0) := Hrow.out.cell 1
        have c2 : w1.cell? ⟨w.heap.size, 2, none⟩ = some (.int .u8 0) := Hrow.out.cell 2
        have fr := Hrow.out.frozen
        go_big_wp2_with fail
        clear c0 c1 c2 fr
        have hE := hid (HV.out.same HK.out)
        refine (maybe_any _ _ _ ea a4 _ w1 HX.out hE.out.rng.cell hE.out.oor.cell HQ.out).mono ?_
        rintro e w2 hor
        rcases hor with ⟨rfl, hk2⟩ | ⟨w3, hk3, g8, rfl, hg8, hc8, hk8⟩
        · have HK2 := hid (HK.out.trans hk2)
          have Hrow2 := hid (Hrow.out.same hk2)
          clear hk2 Hrow HK hE HX HQ
          have Hrow := Hrow2
          have c0 : w2.cell? ⟨w.heap.size, 0, none⟩ = some (.int .u64 0) := Hrow.out.cell 0
          have c1 : w2.cell? ⟨w.heap.size, 1, none⟩ = some (.slice none 0 0) := Hrow.out.cell 1
          have c2 : w2.cell? ⟨w.heap.size, 2, none⟩ = some (.int .u8 0) := Hrow.out.cell 2
          have fr := Hrow.out.frozen
          go_big_wp2_with fail
          exact end106 rfl rfl rfl Hrow.out HK2.out (fun W h1 h2 => .inr (HV.out.oor.err h1))
        · have HK2 := hid ((HK.out.trans hk3).trans hk8)
          have Hrow2 := hid ((Hrow.out.same hk3).same hk8)
          have H8 := hid hc8
          clear hk3 hk8 Hrow HK hE HX HQ hc8
          have Hrow := Hrow2
          have c0 : w2.cell? ⟨w.heap.size, 0, none⟩ = some (.int .u64 0) := Hrow.out.cell 0
          have c1 : w2.cell? ⟨w.heap.size, 1, none⟩ = some (.slice none 0 0) := Hrow.out.cell 1
          have c2 : w2.cell? ⟨w.heap.size, 2, none⟩ = some (.int .u8 0) := Hrow.out.cell 2
          have fr := Hrow.out.frozen
          go_big_wp2_with fail
          exact end106 rfl rfl rfl Hrow.out HK2.out (fun W h1 h2 => .inr (H8.out.err h2 Hrow.out))
  by_cases k3 : kd = 3
  · subst k3
    go_enter Tryz.func106, Tryz.ntmps106
    go_big_wp2_with fail
    refine (uintBytes_any v n f _ _ _ (HR.out.same HS0.out) hn ((HV.out.same HS0.out).errAt)).mono ?_
    rintro e w1 ⟨⟨m, x, rfl, hx⟩, hk1⟩
    have Hrow := hid (HR0.out.same hk1)
    have HK := hid (HS0.out.trans hk1)
    clear hk1
    rcases hx with rfl | ⟨ev, hev, hx⟩
    ·
      as_aux_lemma =>
        have c0 : w1.cell? ⟨w.heap.size, 0, none⟩ = some (.int .u64 0) := Hrow.out.cell 0
        have c1 : w1.cell? ⟨w.heap.size, 1, none⟩ = some (.slice none 0 0) := Hrow.out.cell 1
        have c2 : w1.cell? ⟨w.heap.size, 2, none⟩ = some (.int .u8 0) := Hrow.out.cell 2
        have fr := Hrow.out.frozen
        go_big_wp2_with fail
        exact end106 rfl rfl rfl Hrow.out HK.out (fun W h1 h2 => .inl ⟨rfl, _, _, 3, rfl, by omega, .inl rfl⟩)
    ·
      as_aux_lemma =>
        obtain ⟨ea, rfl, hq⟩ := (HV.out.same HK.out).cmp hev
        have HX := hid hx
        have HQ := hid hq
        obtain ⟨N, fn, s, rfl, -, -⟩ := hx
        clear hq hev
        have c0 : w1.cell? ⟨w.heap.size, 0, none⟩ = some (.int .u64 0) := Hrow.out.cell 0
        have c1 : w1.cell? ⟨w.heap.size, 1, none⟩ = some (.slice none 0 0) := Hrow.out.cell 1
        have c2 : w1.cell? ⟨w.heap.size, 2, none⟩ = some (.int .u8 0) := Hrow.out.cell 2
        have fr := Hrow.out.frozen
        go_big_wp2_with fail
        clear c0 c1 c2 fr
        have hE := hid (HV.out.same HK.out)
        refine (maybe_any _ _ _ ea a4 _ w1 HX.out hE.out.rng.cell hE.out.oor.cell HQ.out).mono ?_
        rintro e w2 hor
        rcases hor with ⟨rfl, hk2⟩ | ⟨w3, hk3, g8, rfl, hg8, hc8, hk8⟩
        · have HK2 := hid (HK.out.trans hk2)
          have Hrow2 := hid (Hrow.out.same hk2)
          clear hk2 Hrow HK hE HX HQ
          have Hrow := Hrow2
          have c0 : w2.cell? ⟨w.heap.size, 0, none⟩ = some (.int .u64 0) := Hrow.out.cell 0
          have c1 : w2.cell? ⟨w.heap.size, 1, none⟩ = some (.slice none 0 0) := Hrow.out.cell 1
          have c2 : w2.cell? ⟨w.heap.size, 2, none⟩ = some (.int .u8 0) := Hrow.out.cell 2
          have fr := Hrow.out.frozen
          go_big_wp2_with fail
          exact end106 rfl rfl rfl Hrow.out HK2.out (fun W h1 h2 => .inr (HV.out.oor.err h1))
        · have HK2 := hid ((HK.out.trans hk3).trans hk8)
          have Hrow2 := hid ((Hrow.out.same hk3).same hk8)
          have H8 := hid hc8
          clear hk3 hk8 Hrow HK hE HX HQ hc8
          have Hrow := Hrow2
          have c0 : w2.cell? ⟨w.heap.size, 0, none⟩ = some (.int .u64 0) := Hrow.out.cell 0
          have c1 : w2.cell? ⟨w.heap.size, 1, none⟩ = some (.slice none 0 0) := Hrow.out.cell 1
          have c2 : w2.cell? ⟨w.heap.size, 2, none⟩ = some (.int .u8 0) := Hrow.out.cell 2
          have fr := Hrow.out.frozen
          go_big_wp2_with fail
          exact end106 rfl rfl rfl Hrow.out HK2.out (fun W h1 h2 => .inr (H8.out.err h2 Hrow.out))
  by_cases k4 : kd = 4
  · subst k4
    go_enter Tryz.func106, Tryz.ntmps106
    go_big_wp2_with fail
    refine (floatBytes_any v n f _ _ _ w0 (HR.out.same HS0.out) (HL.out.same HS0.out) HTT.out hz hn ((HV.out.same HS0.out).errAt)).mono ?_
    rintro e w1 ⟨⟨m, x, rfl, hx⟩, hk1⟩
    have Hrow := hid (HR0.out.same hk1)
    have HK := hid (HS0.out.trans hk1)
    clear hk1
    rcases hx with rfl | ⟨ev, hev, hx⟩
    ·
      as_aux_lemma =>
        have c0 : w1.cell? ⟨w.heap.size, 0, none⟩ = some (.int .u64 0) := Hrow.out.cell 0
        have c1 : w1.cell? ⟨w.heap.size, 1, none⟩ = some (.slice none 0 0) := Hrow.out.cell 1
        have c2 : w1.cell? ⟨w.heap.size, 2, none⟩ = some (.int .u8 0) := Hrow.out.cell 2
        have fr := Hrow.out.frozen
        have hb := bits_math_run
        go_upto_region 17 with fail
        go_cut [65] (fun b wc => (∃ t : Bool, b = .bool t) ∧ wc = w1)
        case first =>
          go_big_wp2_with (go_at_call 158; refine (isInf_any m _).mono ?_; rintro e w2 ⟨⟨b, rfl⟩, rfl⟩; cases b)
          all_goals first
            | (go_meet
               case rel => exact ⟨⟨_, rfl⟩, rfl⟩)
            | (refine (isNaN_any m _).mono ?_
               rintro e w2 ⟨⟨b, rfl⟩, rfl⟩
               go_big_wp2_with fail
               go_meet
               case rel => exact ⟨⟨_, rfl⟩, rfl⟩)
        case rest =>
          obtain ⟨⟨t, rfl⟩, rfl⟩ := hcut
          cases t
          · go_big_wp2_with fail
            exact end106 rfl rfl rfl Hrow.out HK.out (fun W h1 h2 => .inl ⟨rfl, _, _, 4, rfl, by omega, .inl rfl⟩)
          · go_big_wp2_with fail
            clear c0 c1 c2 fr hb
            refine (errorsNew_any _ _).mono ?_
            rintro e w2 ⟨g8, rfl, hg8, hc8, hk8⟩
            have HK2 := hid (HK.out.trans hk8)
            have Hrow2 := hid (Hrow.out.same hk8)
            clear hk8 Hrow HK
            have Hrow := Hrow2
            have c0 : w2.cell? ⟨w.heap.size, 0, none⟩ = some (.int .u64 0) := Hrow.out.cell 0
            have c1 : w2.cell? ⟨w.heap.size, 1, none⟩ = some (.slice none 0 0) := Hrow.out.cell 1
            have c2 : w2.cell? ⟨w.heap.size, 2, none⟩ = some (.int .u8 0) := Hrow.out.cell 2
            have fr := Hrow.out.frozen
            have H8 := hid hc8
            clear hc8
            go_big_wp2_with fail
            exact end106 rfl rfl rfl Hrow.out HK2.out (fun W h1 h2 => .inr (H8.out.err h2 Hrow.out))
    ·
      as_aux_lemma =>
        obtain ⟨ea, rfl, hq⟩ := (HV.out.same HK.out).cmp hev
        have HX := hid hx
        have HQ := hid hq
        obtain ⟨N, fn, s, rfl, -, -⟩ := hx
        clear hq hev
        have c0 : w1.cell? ⟨w.heap.size, 0, none⟩ = some (.int .u64 0) := Hrow.out.cell 0
        have c1 : w1.cell? ⟨w.heap.size, 1, none⟩ = some (.slice none 0 0) := Hrow.out.cell 1
        have c2 : w1.cell? ⟨w.heap.size, 2, none⟩ = some (.int .u8 0) := Hrow.out.cell 2
        have fr := Hrow.out.frozen
        go_big_wp2_with fail
        clear c0 c1 c2 fr
        have hE := hid (HV.out.same HK.out)
        refine (maybe_any _ _ _ ea a4 _ w1 HX.out hE.out.rng.cell hE.out.oor.cell HQ.out).mono ?_
        rintro e w2 hor
        rcases hor with ⟨rfl, hk2⟩ | ⟨w3, hk3, g8, rfl, hg8, hc8, hk8⟩
        · have HK2 := hid (HK.out.trans hk2)
          have Hrow2 := hid (Hrow.out.same hk2)
          clear hk2 Hrow HK hE HX HQ
          have Hrow := Hrow2
          have c0 : w2.cell? ⟨w.heap.size, 0, none⟩ = some (.int .u64 0) := Hrow.out.cell 0
          have c1 : w2.cell? ⟨w.heap.size, 1, none⟩ = some (.slice none 0 0) := Hrow.out.cell 1
          have c2 : w2.cell? ⟨w.heap.size, 2, none⟩ = some (.int .u8 0) := Hrow.out.cell 2
          have fr := Hrow.out.frozen
          go_big_wp2_with fail
          exact end106 rfl rfl rfl Hrow.out HK2.out (fun W h1 h2 => .inr (HV.out.oor.err h1))
        · have HK2 := hid ((HK.out.trans hk3).trans hk8)
          have Hrow2 := hid ((Hrow.out.same hk3).same hk8)
          have H8 := hid hc8
          clear hk3 hk8 Hrow HK hE HX HQ hc8
          have Hrow := Hrow2
          have c0 : w2.cell? ⟨w.heap.size, 0, none⟩ = some (.int .u64 0) := Hrow.out.cell 0
          have c1 : w2.cell? ⟨w.heap.size, 1, none⟩ = some (.slice none 0 0) := Hrow.out.cell 1
          have c2 : w2.cell? ⟨w.heap.size, 2, none⟩ = some (.int .u8 0) := Hrow.out.cell 2
          have fr := Hrow.out.frozen
          go_big_wp2_with fail
          exact end106 rfl rfl rfl Hrow.out HK2.out (fun W h1 h2 => .inr (H8.out.err h2 Hrow.out))
  by_cases k5 : kd = 5
  · subst k5
    go_enter Tryz.func106, Tryz.ntmps106
    go_big_wp2_with fail
    refine (boolBytes_any v n f _ .nilIface _ (HR.out.same HS0.out) (HV.out.same HS0.out).bad.cell).mono ?_
    rintro e w1 ⟨⟨m, x, hm, rfl, hx⟩, hk1⟩
    have Hrow := hid (HR0.out.same hk1)
    have HK := hid (HS0.out.trans hk1)
    clear hk1
    rcases hx with rfl | rfl
    ·
      as_aux_lemma =>
        have c0 : w1.cell? ⟨w.heap.size, 0, none⟩ = some (.int .u64 0) := Hrow.out.cell 0
        have c1 : w1.cell? ⟨w.heap.size, 1, none⟩ = some (.slice none 0 0) := Hrow.out.cell 1
        have c2 : w1.cell? ⟨w.heap.size, 2, none⟩ = some (.int .u8 0) := Hrow.out.cell 2
        have fr := Hrow.out.frozen
        go_big_wp2_with fail
        exact end106 rfl rfl rfl Hrow.out HK.out (fun W h1 h2 => .inl ⟨rfl, _, _, 5, rfl, by omega, .inl rfl⟩)
    ·
      as_aux_lemma =>
        go_big_wp2_with fail
        refine (errorsNew_any _ _).mono ?_
        rintro e w2 ⟨g8, rfl, hg8, hc8, hk8⟩
        have HK2 := hid (HK.out.trans hk8)
        have Hrow2 := hid (Hrow.out.same hk8)
        clear hk8 Hrow HK
        have Hrow := Hrow2
        have c0 : w2.cell? ⟨w.heap.size, 0, none⟩ = some (.int .u64 0) := Hrow.out.cell 0
        have c1 : w2.cell? ⟨w.heap.size, 1, none⟩ = some (.slice none 0 0) := Hrow.out.cell 1
        have c2 : w2.cell? ⟨w.heap.size, 2, none⟩ = some (.int .u8 0) := Hrow.out.cell 2
        have fr := Hrow.out.frozen
        have H8 := hid hc8
        clear hc8
        go_big_wp2_with fail
        exact end106 rfl rfl rfl Hrow.out HK2.out (fun W h1 h2 => .inr (H8.out.err h2 Hrow.out))
  by_cases k1 : kd = 1
  · subst k1
    as_aux_lemma =>
      obtain ⟨A, cap, rfl⟩ : ∃ A cap, v = .slice A n cap := by
        obtain ⟨⟨A, cap, rfl, -⟩, -⟩ := HR.out
        exact ⟨A, cap, rfl⟩
      have HK := HS0
      have Hrow := HR0
      go_enter Tryz.func106, Tryz.ntmps106
      have c0 : (w.alloc (.cells #[.int .u64 0, .slice none 0 0, .int .u8 0] 102)).cell? ⟨w.heap.size, 0, none⟩ = some (.int .u64 0) := Hrow.out.cell 0
      have c1 : (w.alloc (.cells #[.int .u64 0, .slice none 0 0, .int .u8 0] 102)).cell? ⟨w.heap.size, 1, none⟩ = some (.slice none 0 0) := Hrow.out.cell 1
      have c2 : (w.alloc (.cells #[.int .u64 0, .slice none 0 0, .int .u8 0] 102)).cell? ⟨w.heap.size, 2, none⟩ = some (.int .u8 0) := Hrow.out.cell 2
      have fr := Hrow.out.frozen
      go_big_wp2_with fail
      exact ret106 rfl rfl (Row.new _ _ _) ⟨_, _, _, _, _, _, rfl, (Keep.refl _ _).alloc _, .inl ⟨rfl, _, _, 0, rfl, by omega, .inr ⟨n, f, hn, HR.out.same ((Keep.refl _ _).alloc _)⟩⟩⟩ rfl
  by_cases k0 : kd = 0
  · subst k0
    as_aux_lemma =>
      have HK := HS0
      have Hrow := HR0
      go_enter Tryz.func106, Tryz.ntmps106
      go_big_wp2_with fail
      refine (errorsNew_any _ _).mono ?_
      rintro e w2 ⟨g8, rfl, hg8, hc8, hk8⟩
      have HK2 := hid (HK.out.trans hk8)
      have Hrow2 := hid (Hrow.out.same hk8)
      clear hk8 Hrow HK
      have Hrow := Hrow2
      have c0 : w2.cell? ⟨w.heap.size, 0, none⟩ = some (.int .u64 0) := Hrow.out.cell 0
      have c1 : w2.cell? ⟨w.heap.size, 1, none⟩ = some (.slice none 0 0) := Hrow.out.cell 1
      have c2 : w2.cell? ⟨w.heap.size, 2, none⟩ = some (.int .u8 0) := Hrow.out.cell 2
      have fr := Hrow.out.frozen
      have H8 := hid hc8
      clear hc8
      go_big_wp2_with fail
      exact end106 rfl rfl rfl Hrow.out HK2.out (fun W h1 h2 => .inr (H8.out.err h2 Hrow.out))
  as_aux_lemma =>
    have b0 : ((kd : Int) == 0) = false := by simp; omega
    have b1 : ((kd : Int) == 1) = false := by simp; omega
    have b2 : ((kd : Int) == 2) = false := by simp; omega
    have b3 : ((kd : Int) == 3) = false := by simp; omega
    have b4 : ((kd : Int) == 4) = false := by simp; omega
    have b5 : ((kd : Int) == 5) = false := by simp; omega
    clear k0 k1 k2 k3 k4 k5
    have HK := HS0
    have Hrow := HR0
    go_enter Tryz.func106, Tryz.ntmps106
    go_big_wp2_with fail
    refine (errorsNew_any _ _).mono ?_
    rintro e w2 ⟨g8, rfl, hg8, hc8, hk8⟩
    have HK2 := hid (HK.out.trans hk8)
    have Hrow2 := hid (Hrow.out.same hk8)
    clear hk8 Hrow HK
    have Hrow := Hrow2
    have c0 : w2.cell? ⟨w.heap.size, 0, none⟩ = some (.int .u64 0) := Hrow.out.cell 0
    have c1 : w2.cell? ⟨w.heap.size, 1, none⟩ = some (.slice none 0 0) := Hrow.out.cell 1
    have c2 : w2.cell? ⟨w.heap.size, 2, none⟩ = some (.int .u8 0) := Hrow.out.cell 2
    have fr := Hrow.out.frozen
    have H8 := hid hc8
    clear hc8
    go_big_wp2_with fail
    exact end106 rfl rfl rfl Hrow.out HK2.out (fun W h1 h2 => .inr (H8.out.err h2 Hrow.out))
end Go.Proofs.YticdagnbnmnidaaGreatDoor
