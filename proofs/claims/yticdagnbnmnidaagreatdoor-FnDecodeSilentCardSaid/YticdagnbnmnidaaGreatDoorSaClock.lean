/- Times: what package time computes of them never fails. Conditions: none. Times: the instant of so many nanoseconds, truncation to a precision, and back. Conditions: none. -/
import Derived.Test.YticdagnbnmnidaaGreatDoorSaBase
import Derived.Deep.QuietTactic
import Derived.BigQuiet
import Derived.Deep.DeepCutAuto
set_option linter.unusedSimpArgs false
set_option linter.unusedVariables false
namespace Go.Proofs.YticdagnbnmnidaaGreatDoor
open Go.RowKit

/-- a time, as a value -/
def tmV (a b : Int) (l : Value) : Value := .agg #[.int .u64 a, .int .i64 b, l]
/-- block g holds a time -/
def TmAt (w : World) (g : Nat) (l : Value) : Prop := ∃ a b : Int, Row w g 191 #[.int .u64 a, .int .i64 b, l]
/-- a call that hands back a whole number of a kind, and turns nothing -/
def GivesInt (k : IntKind) (w : World) (e : Ending) (w' : World) : Prop := ∃ n : Int, e = .returned (.int k n) ∧ Same w w'
/-- a call that turns the time in block g alone -/
def TurnsTm (g : Nat) (l : Value) (w : World) (e : Ending) (w' : World) : Prop := e = .returned (.tuple #[]) ∧ TmAt w' g l ∧ Keep (fun k => k = g) w w'

theorem nsec_any (g : Nat) (l : Value) (w : World) (h : TmAt w g l) : Calls Tryz.prog 180 #[.pointer (some ⟨g, 0, none⟩)] w (GivesInt .i32 w) := by
  obtain ⟨a, b, hr⟩ := h
  have f0 : w.cell? ⟨g, 0, none⟩ = some (.int .u64 a) := hr.cell 0
  clear hr
  go_enter Tryz.func180, Tryz.ntmps180
  go_wp2_with fail
  go_ret
  exact ⟨_, rfl, Keep.refl _ _⟩

theorem sec_any (g : Nat) (l : Value) (w : World) (h : TmAt w g l) : Calls Tryz.prog 218 #[.pointer (some ⟨g, 0, none⟩)] w (GivesInt .i64 w) := by
  obtain ⟨a, b, hr⟩ := h
  have f0 : w.cell? ⟨g, 0, none⟩ = some (.int .u64 a) := hr.cell 0
  have f1 : w.cell? ⟨g, 1, none⟩ = some (.int .i64 b) := hr.cell 1
  clear hr
  go_enter Tryz.func218, Tryz.ntmps218
  go_wp2_with fail
  all_goals
    go_ret
    exact ⟨_, rfl, Keep.refl _ _⟩


theorem TmAt.keep {S : Nat → Prop} {w w' : World} {g : Nat} {l : Value} (h : TmAt w g l) (hk : Keep S w w') (hn : ¬ S g) : TmAt w' g l :=
  let ⟨a, b, hr⟩ := h; ⟨a, b, hr.keep hk hn⟩
theorem TmAt.same {w w' : World} {g : Nat} {l : Value} (h : TmAt w g l) (hk : Same w w') : TmAt w' g l := h.keep hk id
theorem TmAt.set0 {w : World} {g : Nat} {l : Value} (h : TmAt w g l) (x : Int) : TmAt (w.setCell ⟨g, 0, none⟩ (.int .u64 x)) g l :=
  let ⟨_, b, hr⟩ := h; ⟨x, b, hr.set 0 _⟩
theorem TmAt.set1 {w : World} {g : Nat} {l : Value} (h : TmAt w g l) (x : Int) : TmAt (w.setCell ⟨g, 1, none⟩ (.int .i64 x)) g l :=
  let ⟨a, _, hr⟩ := h; ⟨a, x, hr.set 1 _⟩
theorem keep_g (w : World) (g i : Nat) (v : Value) : Keep (fun k => k = g) w (w.setCell ⟨g, i, none⟩ v) := (Keep.refl (fun k => k = g) w).setCell (fun _ => rfl) _

theorem unixSec_any (g : Nat) (l : Value) (w : World) (h : TmAt w g l) : Calls Tryz.prog 198 #[.pointer (some ⟨g, 0, none⟩)] w (GivesInt .i64 w) := by
  go_enter Tryz.func198, Tryz.ntmps198
  go_wp2_with fail
  refine (sec_any g l _ h).mono ?_
  rintro e w1 ⟨n, rfl, hk⟩
  go_wp2_with fail
  go_ret
  exact ⟨_, rfl, hk⟩

set_option maxHeartbeats 800000 in
theorem stripMono_any (g : Nat) (l : Value) (w : World) (h : TmAt w g l) : Calls Tryz.prog 182 #[.pointer (some ⟨g, 0, none⟩)] w (TurnsTm g l w) := by
  have H := hid h
  obtain ⟨a, b, hr⟩ := h
  have f0 : w.cell? ⟨g, 0, none⟩ = some (.int .u64 a) := hr.cell 0
  clear hr
  go_enter Tryz.func182, Tryz.ntmps182
  go_wp2_with fail
  · refine (sec_any g l _ H.out).mono ?_
    rintro e w1 ⟨n, rfl, hk⟩
    have H1 := hid (H.out.same hk)
    obtain ⟨a1, b1, hr1⟩ := H1.out
    have g0 : w1.cell? ⟨g, 0, none⟩ = some (.int .u64 a1) := hr1.cell 0
    have g1 : w1.cell? ⟨g, 1, none⟩ = some (.int .i64 b1) := hr1.cell 1
    have e0 := hr1.frozen 0
    have e1 := hr1.frozen 1
    have Hk := hid hk
    clear hr1 f0 hk
    go_wp2_with fail
    go_end0
    exact ⟨rfl, (H1.out.set1 _).set0 _, ((Hk.out.wide).trans (keep_g _ _ _ _)).trans (keep_g _ _ _ _)⟩
  · go_end0
    exact ⟨rfl, H.out, Keep.refl _ _⟩

set_option maxRecDepth 20000 in
set_option maxHeartbeats 1600000 in
theorem addSec_any (g : Nat) (l : Value) (d : Int) (w : World) (h : TmAt w g l) : Calls Tryz.prog 181 #[.pointer (some ⟨g, 0, none⟩), .int .i64 d] w (TurnsTm g l w) := by
  have H := hid h
  obtain ⟨a, b, hr⟩ := h
  have f0 : w.cell? ⟨g, 0, none⟩ = some (.int .u64 a) := hr.cell 0
  have f1 : w.cell? ⟨g, 1, none⟩ = some (.int .i64 b) := hr.cell 1
  have e0 := hr.frozen 0
  have e1 := hr.frozen 1
  clear hr
  go_enter Tryz.func181, Tryz.ntmps181
  go_wp2_with fail
  all_goals first
    | (go_end0; exact ⟨rfl, H.out.set0 _, keep_g _ _ _ _⟩)
    | (go_end0; exact ⟨rfl, H.out.set1 _, keep_g _ _ _ _⟩)
    | (refine (stripMono_any g l _ H.out).mono ?_
       rintro e w1 ⟨rfl, ht, hk⟩
       have H1 := hid ht
       have Hk := hid hk
       obtain ⟨a1, b1, hr1⟩ := H1.out
       have g0 : w1.cell? ⟨g, 0, none⟩ = some (.int .u64 a1) := hr1.cell 0
       have g1 : w1.cell? ⟨g, 1, none⟩ = some (.int .i64 b1) := hr1.cell 1
       have e0' := hr1.frozen 0
       have e1' := hr1.frozen 1
       clear hr1 f0 f1 e0 e1 ht hk
       go_wp2_with fail
       all_goals (go_end0; exact ⟨rfl, H1.out.set1 _, Hk.out.trans (keep_g _ _ _ _)⟩))

/-- A call that hands back a time, and turns nothing. -/
def GivesTm (l : Value) (w : World) (e : Ending) (w' : World) : Prop := ∃ a b : Int, e = .returned (tmV a b l) ∧ Same w w'

theorem row_new'' {W : World} {g : Nat} {t : TypeId} {cs : Array Value} (h : W.heap.size = g) : Row (W.alloc (.cells cs t)) g t cs := by subst h; exact Row.new _ _ _

/-- the two blocks that Add lays: its copy of the time, and its result -/
structure AddW (w : World) (B : Nat) (wc : World) : Prop where
  tm : TmAt wc B (.pointer none)
  out : Row wc (B + 1) 191 #[.int .u64 0, .int .i64 0, .pointer none]
  same : Same w wc
  le : w.heap.size ≤ B

theorem AddW.turn {w w1 w2 : World} {B : Nat} (h : AddW w B w1) (ht : TmAt w2 B (.pointer none)) (hk : Keep (fun k => k = B) w1 w2) : AddW w B w2 :=
  ⟨ht, h.out.keep hk (by omega), h.same.trans' hk (fun i hi e => by have := h.le; omega), h.le⟩
theorem AddW.seen {w w1 w2 : World} {B : Nat} (h : AddW w B w1) (hk : Same w1 w2) : AddW w B w2 :=
  ⟨h.tm.same hk, h.out.same hk, h.same.trans hk, h.le⟩

set_option maxRecDepth 20000 in
set_option maxHeartbeats 3200000 in
theorem add_any (a b : Int) (d : Int) (w : World) : Calls Tryz.prog 118 #[tmV a b (.pointer none), .int .i64 d] w (GivesTm (.pointer none) w) := by
  unfold tmV
  have hA : AddW w w.heap.size ((w.alloc (.cells #[.int .u64 a, .int .i64 b, .pointer none] 191)).alloc (.cells #[.int .u64 0, .int .i64 0, .pointer none] 191)) :=
    ⟨⟨a, b, (Row.new w 191 _).alloc _⟩, row_new'' (by simp), ((Keep.refl _ w).alloc _).alloc _, Nat.le_refl _⟩
  have H := hid hA
  clear hA
  go_enter Tryz.func118, Tryz.ntmps118
  go_wp2_with fail
  refine (nsec_any w.heap.size (.pointer none) _ H.out.tm).mono ?_
  rintro e w1 ⟨n, rfl, hk⟩
  have H1 := hid (H.out.seen hk)
  clear hk H
  generalize hg : w.heap.size = B at H1 ⊢
  clear hg
  go_upto_if 16 with fail
  go_cut [5, 6] (fun D N wc => ∃ x y : Int, D = .int .i64 x ∧ N = .int .i32 y ∧ Hid (w1 = wc))
  case first =>
    go_wp2_with fail
    all_goals
      go_meet
      case rel => exact ⟨_, _, rfl, rfl, rfl⟩
  case rest =>
    obtain ⟨x, y, rfl, rfl, hw⟩ := hcut
    obtain rfl := hw.out
    clear hw
    have H2 := hid H1.out.tm
    obtain ⟨a1, b1, hr1⟩ := H2.out
    have f0 : w1.cell? ⟨B, 0, none⟩ = some (.int .u64 a1) := hr1.cell 0
    have e0 := hr1.frozen 0
    have Hr1 := hid hr1
    clear hr1
    go_wp2_with fail
    refine (addSec_any B (.pointer none) _ _ (TmAt.set0 ⟨a1, b1, Hr1.out⟩ _)).mono ?_
    rintro e w2 ⟨rfl, ht, hk2⟩
    have H3 := hid (H1.out.turn ht ((keep_g w1 B 0 _).trans hk2))
    clear ht hk2 f0 e0 Hr1
    obtain ⟨a2, b2, hr2⟩ := H3.out.tm
    have g0 : w2.cell? ⟨B, 0, none⟩ = some (.int .u64 a2) := hr2.cell 0
    have g1 : w2.cell? ⟨B, 1, none⟩ = some (.int .i64 b2) := hr2.cell 1
    have i1 := hr2.frozen 1
    have Hr2 := hid hr2
    clear hr2 H2
    go_upto_if 39 with fail
    go_cut [] (fun wc => Hid (AddW w B wc))
    case first =>
      by_cases hb : (bits BinOp.and IntKind.u64 a2 9223372036854775808 != 0) = true
      · go_upto_region 13 with fail
        go_cut [61] (fun T wc => ∃ (t : Bool), T = .bool t ∧ Hid (w2 = wc))
        case first =>
          go_wp2_with fail
          all_goals
            go_meet
            case rel => exact ⟨_, rfl, rfl⟩
        case rest =>
          obtain ⟨t, rfl, hw⟩ := hcut
          obtain rfl := hw.out
          clear hw
          cases t
          · go_wp2_with fail
            go_meet
            case rel => exact H3.out.turn (TmAt.set1 ⟨a2, b2, Hr2.out⟩ _) (keep_g _ _ _ _)
          · go_wp2_with fail
            refine (stripMono_any B (.pointer none) _ H3.out.tm).mono ?_
            rintro e w3 ⟨rfl, ht, hk3⟩
            have H4 := hid (H3.out.turn ht hk3)
            clear ht hk3
            go_wp2_with fail
            go_meet
            case rel => exact H4.out
      · have hb' : (bits BinOp.and IntKind.u64 a2 9223372036854775808 != 0) = false := by simpa using hb
        clear hb
        go_wp2_with fail
        go_meet
        case rel => exact H3.out
    case rest =>
      have H4 := hid hcut.out
      clear hcut g0 g1 i1 Hr2
      obtain ⟨a3, b3, hr3⟩ := H4.out.tm
      have g0 : wc.cell? ⟨B, 0, none⟩ = some (.int .u64 a3) := hr3.cell 0
      have g1 : wc.cell? ⟨B, 1, none⟩ = some (.int .i64 b3) := hr3.cell 1
      have g2 : wc.cell? ⟨B, 2, none⟩ = some (.pointer none) := hr3.cell 2
      have j0 : wc.cell? ⟨B + 1, 0, none⟩ = some (.int .u64 0) := H4.out.out.cell 0
      have j1 : wc.cell? ⟨B + 1, 1, none⟩ = some (.int .i64 0) := H4.out.out.cell 1
      have j2 : wc.cell? ⟨B + 1, 2, none⟩ = some (.pointer none) := H4.out.out.cell 2
      have z0 := H4.out.out.frozen 0
      have z1 := H4.out.out.frozen 1
      have z2 := H4.out.out.frozen 2
      clear hr3
      go_wp2_with fail
      refine bodyPost_ret (v := .agg #[.int .u64 a3, .int .i64 b3, .pointer none]) ?_ rfl ⟨a3, b3, rfl, ?_⟩
      · simp [results, Tryz.results118, go_sem, g0, g1, g2, j0, j1, j2]
      · have hle := H4.out.le
        have hs := H4.out.same
        repeat (first | exact hs | refine Keep.setCell ?_ (fun h => absurd h (by show ¬ _ < _; simp only; omega)) _)
end Go.Proofs.YticdagnbnmnidaaGreatDoor
namespace Go.Proofs.YticdagnbnmnidaaGreatDoor
open Go.RowKit

/-- zzUnix's two blocks: its result, and the time that it raises -/
structure UnixW (w : World) (B : Nat) (wc : World) : Prop where
  out : Row wc B 191 #[.int .u64 0, .int .i64 0, .pointer none]
  tm : TmAt wc (B + 1) (.pointer none)
  same : Same w wc
  le : w.heap.size ≤ B
theorem UnixW.seen {w w1 w2 : World} {B : Nat} (h : UnixW w B w1) (hk : Same w1 w2) : UnixW w B w2 :=
  ⟨h.out.same hk, h.tm.same hk, h.same.trans hk, h.le⟩

set_option maxRecDepth 20000 in
set_option maxHeartbeats 1600000 in
theorem unix_any (ns : Int) (w : World) : Calls Tryz.prog 117 #[.int .i64 ns] w (GivesTm (.pointer none) w) := by
  have hA : UnixW w w.heap.size ((w.alloc (.cells #[.int .u64 0, .int .i64 0, .pointer none] 191)).alloc (.cells #[.int .u64 0, .int .i64 0, .pointer none] 191)) :=
    ⟨(Row.new w 191 _).alloc _, ⟨0, 0, row_new'' (by simp)⟩, ((Keep.refl _ w).alloc _).alloc _, Nat.le_refl _⟩
  have H := hid hA
  clear hA
  go_enter Tryz.func117, Tryz.ntmps117
  go_wp2_with fail
  go_loopw [4] (fun i wr => ∃ k : Nat, k ≤ 8 ∧ i = .int .i64 k ∧ Hid (UnixW w w.heap.size wr)) (fun i _ => 8 - (intOf i).toNat)
  case atStart => exact ⟨0, by omega, rfl, H.out⟩
  case round =>
    obtain ⟨k, hk, rfl, hU⟩ := hrel
    generalize w.heap.size = B at hU ⊢
    clear H
    obtain ⟨a, b, hr⟩ := hU.out.tm
    have f0 : wr.cell? ⟨B + 1, 0, none⟩ = some (.int .u64 a) := hr.cell 0
    have f1 : wr.cell? ⟨B + 1, 1, none⟩ = some (.int .i64 b) := hr.cell 1
    have f2 : wr.cell? ⟨B + 1, 2, none⟩ = some (.pointer none) := hr.cell 2
    clear hr
    by_cases hlt : k < 8
    · go_wp2_with fail
      refine (add_any a b _ _).mono ?_
      rintro e w1 ⟨a1, b1, rfl, hk1⟩
      have H1 := hid (hU.out.seen hk1)
      clear hk1 f0 f1 f2
      obtain ⟨a2, b2, hr⟩ := H1.out.tm
      have f0 : w1.cell? ⟨B + 1, 0, none⟩ = some (.int .u64 a2) := hr.cell 0
      have f1 : w1.cell? ⟨B + 1, 1, none⟩ = some (.int .i64 b2) := hr.cell 1
      have f2 : w1.cell? ⟨B + 1, 2, none⟩ = some (.pointer none) := hr.cell 2
      have e0 := hr.frozen 0
      have e1 := hr.frozen 1
      have e2 := hr.frozen 2
      have Hr := hid hr
      clear hr
      unfold tmV
      go_wp2_with fail
      go_roundw
      case rel =>
        have h := H1.out
        have hle := h.le
        refine ⟨k + 1, by omega, by go_num, ⟨((h.out.far (by simp) _).far (by simp) _).far (by simp) _, ⟨a1, b1, ((Hr.out.set 0 _).set 1 _).set 2 _⟩, ?_, hle⟩⟩
        repeat (first | exact h.same | refine Keep.setCell ?_ (fun h => absurd h (by show ¬ _ < _; simp only; omega)) _)
      case measure => simp [intOf]; omega
    · go_wp2_with fail
      refine (add_any a b _ _).mono ?_
      rintro e w1 ⟨a1, b1, rfl, hk1⟩
      have H1 := hid (hU.out.seen hk1)
      clear hk1 f0 f1 f2
      have f0 : w1.cell? ⟨B, 0, none⟩ = some (.int .u64 0) := H1.out.out.cell 0
      have f1 : w1.cell? ⟨B, 1, none⟩ = some (.int .i64 0) := H1.out.out.cell 1
      have f2 : w1.cell? ⟨B, 2, none⟩ = some (.pointer none) := H1.out.out.cell 2
      have e0 := H1.out.out.frozen 0
      have e1 := H1.out.out.frozen 1
      have e2 := H1.out.out.frozen 2
      unfold tmV
      go_wp2_with fail
      refine bodyPost_ret (v := .agg #[.int .u64 a1, .int .i64 b1, .pointer none]) ?_ rfl ⟨a1, b1, rfl, ?_⟩
      · simp [results, Tryz.results117, go_sem, f0, f1, f2]
      · have hle := H1.out.le
        have hs := H1.out.same
        repeat (first | exact hs | refine Keep.setCell ?_ (fun h => absurd h (by show ¬ _ < _; simp only; omega)) _)

theorem duration_any (p : Nat) (w : World) (hp : p ≤ 3) : Calls Tryz.prog 120 #[.int .u8 p] w fun e w' => e = .returned (.int .i64 ((1000 ^ p : Nat) : Int)) ∧ w = w' := by
  rcases (by omega : p = 0 ∨ p = 1 ∨ p = 2 ∨ p = 3) with rfl | rfl | rfl | rfl
  all_goals
    go_enter Tryz.func120, Tryz.ntmps120
    go_wp2_with fail
    go_ret
    exact ⟨rfl, rfl⟩
theorem asNanos_any (p : Nat) (x : Int) (w : World) (hp : p ≤ 3) : Calls Tryz.prog 197 #[.int .u8 p, .int .i64 x] w fun e w' => (∃ (n : Int) (b : Bool), e = .returned (.tuple #[.int .i64 n, .bool b])) ∧ w = w' := by
  rcases (by omega : p = 0 ∨ p = 1 ∨ p = 2 ∨ p = 3) with rfl | rfl | rfl | rfl
  · go_enter Tryz.func197, Tryz.ntmps197
    go_wp2_with fail
    go_ret2
    exact ⟨⟨_, _, rfl⟩, rfl⟩
  all_goals
    go_enter Tryz.func197, Tryz.ntmps197
    go_wp2_with fail
    refine (duration_any _ _ (by omega)).mono ?_
    rintro e w' ⟨rfl, rfl⟩
    go_wp2_with fail
    all_goals
      go_ret2
      exact ⟨⟨_, _, rfl⟩, rfl⟩

theorem unixNano_any (a b : Int) (w : World) : Calls Tryz.prog 144 #[tmV a b (.pointer none)] w (GivesInt .i64 w) := by
  unfold tmV
  have hr := Row.new w 191 #[.int .u64 a, .int .i64 b, .pointer none]
  have hk0 : Same w (w.alloc (.cells #[.int .u64 a, .int .i64 b, .pointer none] 191)) := (Keep.refl _ w).alloc _
  have Hr := hid hr
  have Hk := hid hk0
  clear hr hk0
  go_enter Tryz.func144, Tryz.ntmps144
  go_wp2_with fail
  refine (unixSec_any w.heap.size (.pointer none) _ ⟨a, b, Hr.out⟩).mono ?_
  rintro e w1 ⟨n, rfl, hk1⟩
  go_wp2_with fail
  refine (nsec_any w.heap.size (.pointer none) _ ⟨a, b, Hr.out.same hk1⟩).mono ?_
  rintro e w2 ⟨m, rfl, hk2⟩
  go_wp2_with fail
  go_ret
  exact ⟨_, rfl, (Hk.out.trans hk1).trans hk2⟩

/-- what div hands back -/
def GivesDiv (w : World) (e : Ending) (w' : World) : Prop := ∃ q r : Int, e = .returned (.tuple #[.int .i64 q, .int .i64 r]) ∧ Same w w'

set_option maxRecDepth 20000 in
set_option maxHeartbeats 3200000 in
theorem div_any (a b : Int) (p : Nat) (w : World) (hp : p ≤ 3) : Calls Tryz.prog 222 #[tmV a b (.pointer none), .int .i64 ((1000 ^ p : Nat) : Int)] w (GivesDiv w) := by
  unfold tmV
  have hr := Row.new w 191 #[.int .u64 a, .int .i64 b, .pointer none]
  have hk0 : Same w (w.alloc (.cells #[.int .u64 a, .int .i64 b, .pointer none] 191)) := (Keep.refl _ w).alloc _
  have Hr := hid hr
  have Hk := hid hk0
  clear hr hk0
  rcases (by omega : p = 0 ∨ p = 1 ∨ p = 2 ∨ p = 3) with rfl | rfl | rfl | rfl
  all_goals
    go_enter Tryz.func222, Tryz.ntmps222
    go_wp2_with fail
    refine (nsec_any w.heap.size (.pointer none) _ ⟨a, b, Hr.out⟩).mono ?_
    rintro e w1 ⟨n, rfl, hk1⟩
    go_wp2_with fail
    refine (sec_any w.heap.size (.pointer none) _ ⟨a, b, Hr.out.same hk1⟩).mono ?_
    rintro e w2 ⟨m, rfl, hk2⟩
    have Hk2 := hid ((Hk.out.trans hk1).trans hk2)
    clear hk1 hk2 Hk Hr
    go_wp2_with fail
    all_goals
      go_ret2
      exact ⟨_, _, rfl, Hk2.out⟩

set_option maxRecDepth 20000 in
set_option maxHeartbeats 1600000 in
theorem truncate_any (a b : Int) (p : Nat) (w : World) (hp : p ≤ 3) : Calls Tryz.prog 196 #[tmV a b (.pointer none), .int .i64 ((1000 ^ p : Nat) : Int)] w (GivesTm (.pointer none) w) := by
  have hA : AddW w w.heap.size ((w.alloc (.cells #[.int .u64 a, .int .i64 b, .pointer none] 191)).alloc (.cells #[.int .u64 0, .int .i64 0, .pointer none] 191)) :=
    ⟨⟨a, b, (Row.new w 191 _).alloc _⟩, row_new'' (by simp), ((Keep.refl _ w).alloc _).alloc _, Nat.le_refl _⟩
  have H := hid hA
  clear hA
  have Hd := hid (fun n m W => div_any n m p W hp)
  have hpos : (0 : Int) < ((1000 ^ p : Nat) : Int) := by have := Nat.pow_pos (n := p) (show 0 < 1000 by omega); omega
  generalize ((1000 ^ p : Nat) : Int) = D at Hd hpos ⊢
  unfold tmV
  go_enter Tryz.func196, Tryz.ntmps196
  go_wp2_with fail
  refine (stripMono_any w.heap.size (.pointer none) _ H.out.tm).mono ?_
  rintro e w1 ⟨rfl, ht, hk⟩
  have H1 := hid (H.out.turn ht hk)
  clear hk ht H
  generalize hg : w.heap.size = B at H1 ⊢
  clear hg
  obtain ⟨a1, b1, hr1⟩ := H1.out.tm
  have f0 : w1.cell? ⟨B, 0, none⟩ = some (.int .u64 a1) := hr1.cell 0
  have f1 : w1.cell? ⟨B, 1, none⟩ = some (.int .i64 b1) := hr1.cell 1
  have f2 : w1.cell? ⟨B, 2, none⟩ = some (.pointer none) := hr1.cell 2
  have Hr1 := hid hr1
  clear hr1
  go_wp2_with fail
  refine (Hd.out a1 b1 _).mono ?_
  rintro e w2 ⟨q, r, rfl, hk2⟩
  have H2 := hid (H1.out.seen hk2)
  have hr2 := Hr1.out.same hk2
  clear hk2 f0 f1 f2 Hr1
  have f0 : w2.cell? ⟨B, 0, none⟩ = some (.int .u64 a1) := hr2.cell 0
  have f1 : w2.cell? ⟨B, 1, none⟩ = some (.int .i64 b1) := hr2.cell 1
  have f2 : w2.cell? ⟨B, 2, none⟩ = some (.pointer none) := hr2.cell 2
  clear hr2
  go_wp2_with fail
  refine (add_any a1 b1 _ _).mono ?_
  rintro e w3 ⟨a3, b3, rfl, hk3⟩
  have H3 := hid (H2.out.seen hk3)
  clear hk3 f0 f1 f2
  have j0 : w3.cell? ⟨B + 1, 0, none⟩ = some (.int .u64 0) := H3.out.out.cell 0
  have j1 : w3.cell? ⟨B + 1, 1, none⟩ = some (.int .i64 0) := H3.out.out.cell 1
  have j2 : w3.cell? ⟨B + 1, 2, none⟩ = some (.pointer none) := H3.out.out.cell 2
  have z0 := H3.out.out.frozen 0
  have z1 := H3.out.out.frozen 1
  have z2 := H3.out.out.frozen 2
  unfold tmV
  go_wp2_with fail
  refine bodyPost_ret (v := .agg #[.int .u64 a3, .int .i64 b3, .pointer none]) ?_ rfl ⟨a3, b3, rfl, ?_⟩
  · simp [results, Tryz.results196, go_sem, j0, j1, j2]
  · have hle := H3.out.le
    have hs := H3.out.same
    repeat (first | exact hs | refine Keep.setCell ?_ (fun h => absurd h (by show ¬ _ < _; simp only; omega)) _)
end Go.Proofs.YticdagnbnmnidaaGreatDoor
