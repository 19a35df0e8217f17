/- The decoder over bytes: Time, and DoorTime. Conditions: none. impl.lpOutside, impl.fault: an error as data. Conditions: none. -/
import Derived.Test.YticdagnbnmnidaaGreatDoorSaVf
import Derived.Test.YticdagnbnmnidaaGreatDoorSaClock
set_option linter.unusedSimpArgs false
set_option linter.unusedVariables false
namespace Go.Proofs.YticdagnbnmnidaaGreatDoor
open Go.RowKit

/-- a block of a type of one's own stays, whatever the decoder does -/
theorem row_farT {t : TypeId} (t1 : t ≠ 134) (t2 : t ≠ 5) {w0 w w' : World} {c : DC} {s s' : DS} {g : Nat} {cs : Array Value} (hr : Row w g t cs) (h : Ok w0 c w s) (hf : Far c s s' w w') : Row w' g t cs := by
  refine hr.keep hf.keep (fun e => ?_)
  rcases e with rfl | e
  · exact absurd rfl (row_ne hr h.dec.row t1)
  · rcases h.dec.esc.2 with ⟨h1, -⟩ | ⟨g', cap, cur, h1, -, h2, -⟩
    · rw [h1] at e; cases e
    · rw [h1] at e
      have e' : g' = g := Option.some.inj e
      exact absurd e' (row_ne h2 hr t2.symm)
theorem Ok.ownT {t : TypeId} (t1 : t ≠ 134) (t2 : t ≠ 5) {w0 w w' : World} {c : DC} {s : DS} {g : Nat} {cs : Array Value} (h : Ok w0 c w s) (hr : Row w g t cs) (hg : c.base ≤ g) (h0 : w0.heap.size ≤ g) (hk : Keep (fun k => k = g) w w') : Ok w0 c w' s := by
  have hne : s.esc.ownBlock ≠ some g := fun e => by
    rcases h.dec.esc.2 with ⟨h1, -⟩ | ⟨g', cap, cur, h1, -, h2, -⟩
    · rw [h1] at e; cases e
    · rw [h1] at e
      have e' : g' = g := Option.some.inj e
      exact absurd e' (row_ne h2 hr t2.symm)
  have hT := h.dec.base_T
  refine ⟨{ h.dec with row := h.dec.row.keep hk (fun e => row_ne hr h.dec.row t1 e.symm), text := h.dec.text.keep hk (fun e => by omega), esc := ?_, base_le := Nat.le_trans h.dec.base_le hk.size }, h.ok, h.sec, h.lay.keep hk (fun k hlt e => by omega), h.D⟩
  exact h.dec.esc.kept (row := some g) ⟨hk.os, hk.tape, hk.output, hk.size, fun k hk' hn => hk.block k hk' (fun e => hn (by rw [e]))⟩ (.inr hne)
/-- a store to a block of times of one's own -/
theorem storeTm {w0 w w1 : World} {c : DC} {s s1 : DS} {g : Nat} {c0 c1 c2 : Value} (h : Step w0 c s s1 w w1) (hb : c.base ≤ w.heap.size) (h0 : w0.heap.size ≤ w.heap.size) (hg : w.heap.size ≤ g) (hr : Row w1 g 191 #[c0, c1, c2]) (d0 d1 d2 : Value) :
    Step w0 c s s1 w (((w1.setCell ⟨g, 0, none⟩ d0).setCell ⟨g, 1, none⟩ d1).setCell ⟨g, 2, none⟩ d2) ∧
    Row (((w1.setCell ⟨g, 0, none⟩ d0).setCell ⟨g, 1, none⟩ d1).setCell ⟨g, 2, none⟩ d2) g 191 #[d0, d1, d2] ∧
    Keep (fun k => k = g) w1 (((w1.setCell ⟨g, 0, none⟩ d0).setCell ⟨g, 1, none⟩ d1).setCell ⟨g, 2, none⟩ d2) := by
  have hk2 := (((Keep.refl (fun k => k = g) w1).setCell (p := ⟨g, 0, none⟩) (fun _ => rfl) d0).setCell (p := ⟨g, 1, none⟩) (fun _ => rfl) d1).setCell (p := ⟨g, 2, none⟩) (fun _ => rfl) d2
  exact ⟨⟨h.ok.ownT (by decide) (by decide) hr (Nat.le_trans hb hg) (Nat.le_trans h0 hg) hk2, ⟨h.far.keep.trans' hk2 (fun i hi e => by have e' : i = g := e; omega), fun k hk1 hlt => h.far.grow k hk1 hlt⟩, h.left, h.skip⟩, ((hr.set 0 d0).set 1 d1).set 2 d2, hk2⟩

/-- An error of Time. -/
def TErr (w : World) (err : Value) : Prop := BadV w err ∨ IsErr w err
theorem Bad.ownT {t : TypeId} (t1 : t ≠ 207) (t2 : t ≠ 242) {w W : World} {g : Nat} {cs : Array Value} {err : Value} (h : Bad w err) (hr : Row w g t cs) (hk : Keep (fun k => k = g) w W) : Bad W err := by
  obtain ⟨g1, k, e, ⟨ln, col, h1⟩, sc, h2⟩ := h
  exact ⟨g1, k, e, ⟨ln, col, h1.keep hk (row_ne h1 hr t1.symm)⟩, sc, h2.keep hk (row_ne h2 hr t2.symm)⟩

theorem info191 : (Tryz.prog.info? 191).map (·.size) = some 3 := by kernel_rfl
theorem ret143 {Q : Ending → World → Prop} {a : Act} {W : World} {g : Nat} {c0 c1 c2 x : Value} (h6 : a.tmps.getD 6 undef = .pointer (some ⟨g, 0, none⟩)) (h7 : a.tmps.getD 7 undef = x) (hd : a.defers = [])
    (hr : Row W g 191 #[c0, c1, c2]) (hQ : Q (.returned (.tuple #[.agg #[c0, c1, c2], x])) W) : bodyPost Tryz.prog Tryz.f143 Q Exit.ret a W := by
  refine bodyPost_ret (v := .tuple #[.agg #[c0, c1, c2], x]) ?_ hd hQ
  rw [results_cell_tmp Tryz.results143, h6, h7]
  simp [asAddr, run_loadVar_row W g 191 191 _ _ _ hr Tryz.underlying191 rfl info191, Result.andThen, Sem.run]

/-- What Time gives. -/
def TimV (w0 : World) (c : DC) (s : DS) (w : World) (e : Ending) (w' : World) : Prop :=
  ∃ (a b : Int) (err : Value) (s' : DS), e = .returned (.tuple #[tmV a b (.pointer none), err]) ∧ Step w0 c s s' w w' ∧ (err = .nilIface ∨ (TErr w' err ∧ (s'.sec = 4 ∨ s'.sec = 5))) ∧ (4 ≤ s.sec → err = .nilIface ∧ s'.sec = s.sec)

set_option maxRecDepth 100000 in
set_option maxHeartbeats 12800000 in
theorem time_any (w0 : World) (hval : ValidOK w0) (a0 a4 a5 a10 : Addr) (hv : EVars w0 a0 a4 a5 a10) (c : DC) (s : DS) (p : Nat) (hp : p ≤ 3) (x y : Int) (w : World) (h : Ok w0 c w s) (hs : s.skip = false) :
    Calls Tryz.prog 143 #[.pointer (some ⟨c.D, 0, none⟩), .int .u8 p, tmV x y (.pointer none)] w (TimV w0 c s w) := by
  have Hval := hid hval
  have HV := hid hv
  have H := hid h
  have Hs := hid hs
  have HB : Hid (c.base ≤ w.heap.size) := h.dec.base_le
  have HB0 : Hid (w0.heap.size ≤ w.heap.size) := Nat.le_trans h.D h.dec.base_le
  have HS0 : Hid (Same w ((w.alloc (.cells #[.int .u64 x, .int .i64 y, .pointer none] 191)).alloc (.cells #[.int .u64 0, .int .i64 0, .pointer none] 191))) := ((Keep.refl _ _).alloc _).alloc _
  have HR5 : Hid (Row ((w.alloc (.cells #[.int .u64 x, .int .i64 y, .pointer none] 191)).alloc (.cells #[.int .u64 0, .int .i64 0, .pointer none] 191)) w.heap.size 191 #[.int .u64 x, .int .i64 y, .pointer none]) := (Row.new w 191 _).alloc _
  have HR6 : Hid (Row ((w.alloc (.cells #[.int .u64 x, .int .i64 y, .pointer none] 191)).alloc (.cells #[.int .u64 0, .int .i64 0, .pointer none] 191)) (w.heap.size + 1) 191 #[.int .u64 0, .int .i64 0, .pointer none]) := by
    have h1 := Row.new (w.alloc (.cells #[.int .u64 x, .int .i64 y, .pointer none] 191)) 191 #[.int .u64 0, .int .i64 0, .pointer none]
    rw [show (w.alloc (Obj.cells #[.int .u64 x, .int .i64 y, .pointer none] 191)).heap.size = w.heap.size + 1 by simp] at h1
    exact h1
  clear hval hv h hs
  have hen := fun (W : World) (a : Option Addr) (n k n' k' : Nat) => Lib.run_eql_slice_nil (P := Tryz.prog) W 75 5 a n k n' k' Tryz.underlying75
  unfold tmV
  go_enter Tryz.func143, Tryz.ntmps143
  go_big_wp2_with fail
  refine (timeBytes_any w0 Hval.out c s _ (H.out.same HS0.out) Hs.out).mono ?_
  rintro e w1 ⟨v, err, s1, rfl, hst, hmay, hor, h4⟩
  have S1 := hid (((Step.refl H.out).same HS0.out).trans hst)
  have R5 := hid (row_farT (by decide) (by decide) HR5.out (H.out.same HS0.out) hst.far)
  have R6 := hid (row_farT (by decide) (by decide) HR6.out (H.out.same HS0.out) hst.far)
  have H4 := hid h4
  clear hst h4 HR5 HR6
  rcases hor with ⟨rfl, hsec⟩ | ⟨hbad, rfl, hsec⟩
  · have Hsec := hid hsec
    clear hsec
    rcases hmay with rfl | ⟨n, f, hn, htk⟩
    ·
      as_aux_lemma =>
        unfold nilS
        go_upto_region 5 with fail
        have d0 : w1.cell? ⟨w.heap.size, 0, none⟩ = some (.int .u64 x) := R5.out.cell 0
        have d1 : w1.cell? ⟨w.heap.size, 1, none⟩ = some (.int .i64 y) := R5.out.cell 1
        have d2 : w1.cell? ⟨w.heap.size, 2, none⟩ = some (.pointer none) := R5.out.cell 2
        have c0 : w1.cell? ⟨w.heap.size + 1, 0, none⟩ = some (.int .u64 0) := R6.out.cell 0
        have c1 : w1.cell? ⟨w.heap.size + 1, 1, none⟩ = some (.int .i64 0) := R6.out.cell 1
        have c2 : w1.cell? ⟨w.heap.size + 1, 2, none⟩ = some (.pointer none) := R6.out.cell 2
        have fr := R6.out.frozen
        go_region_held3 (fun w' => w'.cell? ⟨w.heap.size, 0, none⟩ = some (.int .u64 x) ∧ w'.cell? ⟨w.heap.size, 1, none⟩ = some (.int .i64 y) ∧ w'.cell? ⟨w.heap.size, 2, none⟩ = some (.pointer none))
          (first | (refine ⟨?_, ?_, ?_⟩ <;> assumption) | go_keep)
          (first | (go_at_call 120; refine (duration_any p _ hp).mono ?_; rintro e w8 ⟨rfl, rfl⟩) | (go_at_call 196; refine (truncate_any x y p _ hp).mono ?_; rintro e w9 ⟨a9, b9, rfl, hk9⟩; have HS9 := hid ((same_drew w1).trans hk9); have R59 := hid (R5.out.same HS9.out); have e0 : w9.cell? ⟨w.heap.size, 0, none⟩ = some (.int .u64 x) := R59.out.cell 0; have e1 : w9.cell? ⟨w.heap.size, 1, none⟩ = some (.int .i64 y) := R59.out.cell 1; have e2 : w9.cell? ⟨w.heap.size, 2, none⟩ = some (.pointer none) := R59.out.cell 2; have R69 := hid (R6.out.same HS9.out); have k0 : w9.cell? ⟨w.heap.size + 1, 0, none⟩ = some (.int .u64 0) := R69.out.cell 0; have k1 : w9.cell? ⟨w.heap.size + 1, 1, none⟩ = some (.int .i64 0) := R69.out.cell 1; have k2 : w9.cell? ⟨w.heap.size + 1, 2, none⟩ = some (.pointer none) := R69.out.cell 2; have kr := R69.out.frozen; clear hk9; unfold tmV))
        go_big_wp2_with fail
        obtain ⟨hS, hR, hK⟩ := storeTm (S1.out.same HS9.out) HB.out HB0.out (Nat.le_succ _) R69.out (.int .u64 a9) (.int .i64 b9) (.pointer none)
        exact ret143 rfl rfl rfl hR ⟨a9, b9, _, s1, rfl, hS, .inl rfl, fun h => ⟨rfl, (H4.out h).2.2⟩⟩
    ·
      as_aux_lemma =>
        have Htk := hid htk
        obtain ⟨T, off, cap, rfl, -⟩ := htk.form hn
        clear htk
        have hn3 := Htk.out.le
        go_big_wp2_with fail
        refine (intBytes_any _ n f _ _ w1 Htk.out.rd hn3 ((HV.out.lay S1.out.ok.lay).errAt)).mono ?_
        rintro e w2 ⟨⟨m, x2, rfl, hx⟩, hk2⟩
        have S2 := hid (S1.out.same hk2)
        have R62 := hid (R6.out.same hk2)
        clear hk2 S1 R5 R6
        rcases hx with rfl | ⟨ev, hev, hx⟩
        ·
          as_aux_lemma =>
            go_big_wp2_with fail
            refine (asNanos_any p m _ hp).mono ?_
            rintro e w3 ⟨⟨ns, ok, rfl⟩, rfl⟩
            cases ok
            ·
              as_aux_lemma =>
                go_upto_region 11 with fail
                have hg0 := (HV.out.lay S2.out.ok.lay).oor.cell
                have c0 : w2.cell? ⟨w.heap.size + 1, 0, none⟩ = some (.int .u64 0) := R62.out.cell 0
                have c1 : w2.cell? ⟨w.heap.size + 1, 1, none⟩ = some (.int .i64 0) := R62.out.cell 1
                have c2 : w2.cell? ⟨w.heap.size + 1, 2, none⟩ = some (.pointer none) := R62.out.cell 2
                have fr := R62.out.frozen
                go_region_held3 (fun w' => w'.cell? ⟨0, 0, none⟩ = some (.iface 240 (.pointer (some a0))))
                  (first | assumption | go_keep)
                  (fail)
                go_big_wp2_with fail
                obtain ⟨hS, hR, hK⟩ := storeTm S2.out HB.out HB0.out (Nat.le_succ _) R62.out (.int .u64 0) (.int .i64 0) (.pointer none)
                exact ret143 rfl rfl rfl (hR.same (same_drew _)) ⟨0, 0, _, s1, rfl, hS.same (same_drew _), .inr ⟨.inr ((IsErr.turn ⟨_, rfl, (HV.out.lay S2.out.ok.lay).oor.row⟩ hK hR).same (same_drew _)), Hsec.out⟩, fun h => absurd (H4.out h).1 (by simp [nilS])⟩
            ·
              as_aux_lemma =>
                go_big_wp2_with fail
                refine (unix_any ns _).mono ?_
                rintro e w3 ⟨a, b, rfl, hk3⟩
                have S3 := hid (S2.out.same hk3)
                have R63 := hid (R62.out.same hk3)
                clear hk3 S2 R62
                unfold tmV
                have c0 : w3.cell? ⟨w.heap.size + 1, 0, none⟩ = some (.int .u64 0) := R63.out.cell 0
                have c1 : w3.cell? ⟨w.heap.size + 1, 1, none⟩ = some (.int .i64 0) := R63.out.cell 1
                have c2 : w3.cell? ⟨w.heap.size + 1, 2, none⟩ = some (.pointer none) := R63.out.cell 2
                have fr := R63.out.frozen
                go_big_wp2_with fail
                obtain ⟨hS, hR, hK⟩ := storeTm S3.out HB.out HB0.out (Nat.le_succ _) R63.out (.int .u64 a) (.int .i64 b) (.pointer none)
                exact ret143 rfl rfl rfl hR ⟨a, b, _, s1, rfl, hS, .inl rfl, fun h => ⟨rfl, (H4.out h).2.2⟩⟩
        ·
          as_aux_lemma =>
            obtain ⟨ea, rfl, hq⟩ := (HV.out.lay S2.out.ok.lay).cmp hev
            have HX := hid hx
            have HQ := hid hq
            obtain ⟨N, fn, sx, rfl, -, -⟩ := hx
            clear hq hev
            go_big_wp2_with fail
            have hE := hid (HV.out.lay S2.out.ok.lay)
            refine (maybe_any _ _ _ ea a4 _ w2 HX.out hE.out.rng.cell hE.out.oor.cell HQ.out).mono ?_
            rintro e w3 hor
            rcases hor with ⟨rfl, hk3⟩ | ⟨w4, hk4, g8, rfl, hg8, hc8, hk8⟩
            · have S3 := hid (S2.out.same hk3)
              have R63 := hid (R62.out.same hk3)
              clear hk3 S2 R62 hE HX HQ
              have c0 : w3.cell? ⟨w.heap.size + 1, 0, none⟩ = some (.int .u64 0) := R63.out.cell 0
              have c1 : w3.cell? ⟨w.heap.size + 1, 1, none⟩ = some (.int .i64 0) := R63.out.cell 1
              have c2 : w3.cell? ⟨w.heap.size + 1, 2, none⟩ = some (.pointer none) := R63.out.cell 2
              have fr := R63.out.frozen
              go_big_wp2_with fail
              obtain ⟨hS, hR, hK⟩ := storeTm S3.out HB.out HB0.out (Nat.le_succ _) R63.out (.int .u64 0) (.int .i64 0) (.pointer none)
              exact ret143 rfl rfl rfl hR ⟨0, 0, _, s1, rfl, hS, .inr ⟨.inr (IsErr.turn ⟨_, rfl, (HV.out.lay S3.out.ok.lay).oor.row⟩ hK hR), Hsec.out⟩, fun h => absurd (H4.out h).1 (by simp [nilS])⟩
            · have S3 := hid ((S2.out.same hk4).same hk8)
              have R63 := hid ((R62.out.same hk4).same hk8)
              have H8 := hid hc8
              clear hk4 hk8 S2 R62 hE HX HQ hc8
              have c0 : w3.cell? ⟨w.heap.size + 1, 0, none⟩ = some (.int .u64 0) := R63.out.cell 0
              have c1 : w3.cell? ⟨w.heap.size + 1, 1, none⟩ = some (.int .i64 0) := R63.out.cell 1
              have c2 : w3.cell? ⟨w.heap.size + 1, 2, none⟩ = some (.pointer none) := R63.out.cell 2
              have fr := R63.out.frozen
              go_big_wp2_with fail
              obtain ⟨hS, hR, hK⟩ := storeTm S3.out HB.out HB0.out (Nat.le_succ _) R63.out (.int .u64 0) (.int .i64 0) (.pointer none)
              obtain ⟨sx8, h8⟩ := H8.out
              exact ret143 rfl rfl rfl hR ⟨0, 0, _, s1, rfl, hS, .inr ⟨.inr (IsErr.turn ⟨_, rfl, _, _, h8⟩ hK hR), Hsec.out⟩, fun h => absurd (H4.out h).1 (by simp [nilS])⟩
  ·
    as_aux_lemma =>
      have Hbad := hid hbad
      have Hsec := hid hsec
      clear hsec
      obtain ⟨g, k, rfl, -⟩ := hbad.iface
      clear hbad
      have c0 : w1.cell? ⟨w.heap.size + 1, 0, none⟩ = some (.int .u64 0) := R6.out.cell 0
      have c1 : w1.cell? ⟨w.heap.size + 1, 1, none⟩ = some (.int .i64 0) := R6.out.cell 1
      have c2 : w1.cell? ⟨w.heap.size + 1, 2, none⟩ = some (.pointer none) := R6.out.cell 2
      have fr := R6.out.frozen
      go_big_wp2_with fail
      obtain ⟨hS, hR, hK⟩ := storeTm S1.out HB.out HB0.out (Nat.le_succ _) R6.out (.int .u64 0) (.int .i64 0) (.pointer none)
      exact ret143 rfl rfl rfl hR ⟨0, 0, _, s1, rfl, hS, .inr ⟨.inl (Hbad.out.ownT (by decide) (by decide) R6.out hK).v, Hsec.out⟩, fun h => absurd (H4.out h).2.1 (by simp)⟩

/-- What DoorTime gives. -/
def DTimV (w0 : World) (c : DC) (s : DS) (w : World) (e : Ending) (w' : World) : Prop :=
  ∃ (n : Int) (err : Value) (s' : DS), e = .returned (.tuple #[.int .i64 n, err]) ∧ Step w0 c s s' w w' ∧ (err = .nilIface ∨ (TErr w' err ∧ (s'.sec = 4 ∨ s'.sec = 5))) ∧ (4 ≤ s.sec → err = .nilIface ∧ s'.sec = s.sec)
theorem TErr.iface {w : World} {err : Value} (h : TErr w err) : ∃ t v, err = .iface t v := by
  rcases h with ⟨g, x, rfl, -⟩ | ⟨a, rfl, -⟩
  · exact ⟨_, _, rfl⟩
  · exact ⟨_, _, rfl⟩
theorem TErr.same {w w' : World} {err : Value} (h : TErr w err) (hk : Same w w') : TErr w' err := by
  rcases h with h | h
  · exact .inl (h.same hk)
  · exact .inr (h.same hk)

set_option maxRecDepth 100000 in
set_option maxHeartbeats 12800000 in
theorem doorTime_any (w0 : World) (hval : ValidOK w0) (a0 a4 a5 a10 : Addr) (hv : EVars w0 a0 a4 a5 a10) (c : DC) (s : DS) (p : Nat) (hp : p ≤ 3) (x : Int) (w : World) (h : Ok w0 c w s) (hs : s.skip = false) :
    Calls Tryz.prog 79 #[.pointer (some ⟨c.D, 0, none⟩), .int .u8 p, .int .i64 x] w (DTimV w0 c s w) := by
  have Hval := hid hval
  have HV := hid hv
  have H := hid h
  have Hs := hid hs
  clear hval hv h hs
  go_enter Tryz.func79, Tryz.ntmps79
  go_big_wp2_with fail
  refine (unix_any x _).mono ?_
  rintro e w1 ⟨a, b, rfl, hk1⟩
  have H1 := hid (H.out.same hk1)
  have K1 := hid hk1
  clear hk1
  go_big_wp2_with fail
  refine (time_any w0 Hval.out a0 a4 a5 a10 HV.out c s p hp a b _ H1.out Hs.out).mono ?_
  rintro e w2 ⟨a2, b2, err, s2, rfl, hst, hor, h4⟩
  have S2 := hid (((Step.refl H.out).same K1.out).trans hst)
  have H4 := hid h4
  clear hst h4
  unfold tmV
  rcases hor with rfl | ⟨hte, hsec⟩
  ·
    as_aux_lemma =>
      go_big_wp2_with fail
      refine (unixNano_any a2 b2 _).mono ?_
      rintro e w3 ⟨n, rfl, hk3⟩
      have K3 := hid hk3
      clear hk3
      go_big_wp2_with fail
      go_ret2
      exact ⟨_, _, s2, rfl, S2.out.same (((Keep.refl _ _).alloc _).trans K3.out), .inl rfl, fun h => ⟨rfl, (H4.out h).2⟩⟩
  ·
    as_aux_lemma =>
      have Hte := hid hte
      have Hsec := hid hsec
      obtain ⟨t, v, rfl⟩ := hte.iface
      clear hte hsec
      go_big_wp2_with fail
      go_ret2
      exact ⟨_, _, s2, rfl, S2.out.same ((Keep.refl _ _).alloc _), .inr ⟨Hte.out.same ((Keep.refl _ _).alloc _), Hsec.out⟩, fun h => absurd (H4.out h).1 (by simp)⟩
end Go.Proofs.YticdagnbnmnidaaGreatDoor
namespace Go.Proofs.YticdagnbnmnidaaGreatDoor
open Go.RowKit

set_option maxRecDepth 20000 in
set_option maxHeartbeats 1600000 in
theorem outside_any (x : Value) (a0 a4 a5 a10 : Addr) (w : World) (hv : EVars w a0 a4 a5 a10) (hx : x = .nilIface ∨ IsErr w x) :
    Calls Tryz.prog 30 #[x] w (GivesBool w) := by
  have hg := hv.oor.cell
  rcases hx with rfl | ⟨a, rfl, cs, t, hr⟩
  · go_enter Tryz.func30, Tryz.ntmps30
    go_wp2_with fail
    go_ret
    exact ⟨_, rfl, Keep.refl _ _⟩
  · obtain ⟨cs0, t0, hr0⟩ := hv.oor.row
    obtain ⟨b, hb⟩ := eql_errs hr hr0
    have hb0 : (binOp .eql 80 (.iface 240 (.pointer (some a))) (.iface 240 (.pointer (some a0)))).run Tryz.prog w = .ok (.bool b) w := hb 0
    clear hr hr0 hv
    go_enter Tryz.func30, Tryz.ntmps30
    go_wp2_with fail
    go_ret
    exact ⟨_, rfl, Keep.refl _ _⟩

theorem assert204 (v : Value) (w : World) : (Instr.typeAssert (.iface 204 v) 80 204 true).run Tryz.prog w = .ok (.tuple #[v, .bool true]) w := by
  simp [Instr.typeAssert, run_underlying Tryz.underlying204, go_sem, Result.andThen]
theorem assert204_240 (v : Value) (w : World) : (Instr.typeAssert (.iface 240 v) 80 204 true).run Tryz.prog w = .ok (.tuple #[.pointer none, .bool false]) w := by kernel_rfl
theorem assert204_nil (w : World) : (Instr.typeAssert .nilIface 80 204 true).run Tryz.prog w = .ok (.tuple #[.pointer none, .bool false]) w := by kernel_rfl
theorem info47 : (Tryz.prog.info? 47).map (·.size) = some 4 := by kernel_rfl

theorem cell_far {w : World} {g i B j : Nat} {v u : Value} (h : w.cell? ⟨g, i, none⟩ = some v) (hne : g ≠ B) : (w.setCell ⟨B, j, none⟩ u).cell? ⟨g, i, none⟩ = some v :=
  ((keep_g w B j u).cell (p := ⟨g, i, none⟩) (lt_of_cell h) hne).trans h
/-- what fault gives: b tells whether there is an error -/
def GivesFl (b : Bool) (w : World) (e : Ending) (w' : World) : Prop := ∃ (l c : Int) (r : Bool), e = .returned (.agg #[.bool b, .int .i64 l, .int .i64 c, .bool r]) ∧ Same w w'

theorem ret74 {Q : Ending → World → Prop} {a : Act} {W : World} {g : Nat} {cs : Array Value} (h2 : a.tmps.getD 2 undef = .pointer (some ⟨g, 0, none⟩)) (hd : a.defers = []) (hr : Row W g 47 cs) (hs : cs.size = 4)
    (hQ : Q (.returned (.agg cs)) W) : bodyPost Tryz.prog Tryz.f74 Q Exit.ret a W := by
  refine bodyPost_ret (v := .agg cs) ?_ hd hQ
  exact results_cell_row Tryz.results74 a.tmps W g 47 cs (0, 0) _ h2 hr Tryz.underlying47 rfl (by rw [hs]; exact info47)

set_option maxRecDepth 20000 in
set_option maxHeartbeats 3200000 in
theorem fault_nil (a0 a4 a5 a10 : Addr) (w : World) (hv : EVars w a0 a4 a5 a10) : Calls Tryz.prog 74 #[.nilIface] w (GivesFl false w) := by
  have HV := hid hv
  have h1 := assert204_nil
  have HS0 : Hid (Same w ((w.alloc (.cells #[.bool false, .int .i64 0, .int .i64 0, .bool false] 47)).alloc (.cells #[.bool false, .int .i64 0, .int .i64 0, .bool false] 47))) := ((Keep.refl _ _).alloc _).alloc _
  have HR2 : Hid (Row ((w.alloc (.cells #[.bool false, .int .i64 0, .int .i64 0, .bool false] 47)).alloc (.cells #[.bool false, .int .i64 0, .int .i64 0, .bool false] 47)) w.heap.size 47 #[.bool false, .int .i64 0, .int .i64 0, .bool false]) := (Row.new w 47 _).alloc _
  have HR3 : Hid (Row ((w.alloc (.cells #[.bool false, .int .i64 0, .int .i64 0, .bool false] 47)).alloc (.cells #[.bool false, .int .i64 0, .int .i64 0, .bool false] 47)) (w.heap.size + 1) 47 #[.bool false, .int .i64 0, .int .i64 0, .bool false]) := by
    have h1 := Row.new (w.alloc (.cells #[.bool false, .int .i64 0, .int .i64 0, .bool false] 47)) 47 #[.bool false, .int .i64 0, .int .i64 0, .bool false]
    rw [show (w.alloc (Obj.cells #[.bool false, .int .i64 0, .int .i64 0, .bool false] 47)).heap.size = w.heap.size + 1 by simp] at h1
    exact h1
  clear hv
  go_enter Tryz.func74, Tryz.ntmps74
  go_wp2_with fail
  refine (outside_any _ a0 a4 a5 a10 _ (HV.out.same HS0.out) (.inl rfl)).mono ?_
  rintro e w8 ⟨r, rfl, hk8⟩
  have HS := hid (HS0.out.trans hk8)
  have R2 := hid (HR2.out.same hk8)
  have R3 := hid (HR3.out.same hk8)
  clear hk8
  have c0 : w8.cell? ⟨w.heap.size + 1, 0, none⟩ = some (.bool false) := R3.out.cell 0
  have c1 : w8.cell? ⟨w.heap.size + 1, 1, none⟩ = some (.int .i64 0) := R3.out.cell 1
  have c2 : w8.cell? ⟨w.heap.size + 1, 2, none⟩ = some (.int .i64 0) := R3.out.cell 2
  have c3 : w8.cell? ⟨w.heap.size + 1, 3, none⟩ = some (.bool false) := R3.out.cell 3
  have fr3 := R3.out.frozen
  have d0 : w8.cell? ⟨w.heap.size, 0, none⟩ = some (.bool false) := R2.out.cell 0
  have d1 : w8.cell? ⟨w.heap.size, 1, none⟩ = some (.int .i64 0) := R2.out.cell 1
  have d2 : w8.cell? ⟨w.heap.size, 2, none⟩ = some (.int .i64 0) := R2.out.cell 2
  have d3 : w8.cell? ⟨w.heap.size, 3, none⟩ = some (.bool false) := R2.out.cell 3
  have fr2 := R2.out.frozen
  go_wp2_with fail
  have hne : w.heap.size ≠ w.heap.size + 1 := by omega
  have hR := ((((R2.out.far (p := ⟨w.heap.size + 1, 3, none⟩) hne (.bool r)).set 0 (.bool false)).set 1 (.int .i64 0)).set 2 (.int .i64 0)).set 3 (.bool r)
  refine ret74 rfl rfl hR rfl ⟨0, 0, r, rfl, ?_⟩
  repeat (first | exact HS.out | refine Keep.setCell ?_ (fun h => absurd h (by show ¬ _ < _; simp only; omega)) _)

set_option maxRecDepth 20000 in
set_option maxHeartbeats 3200000 in
theorem fault_240 (a : Addr) (a0 a4 a5 a10 : Addr) (w : World) (hv : EVars w a0 a4 a5 a10) (hx : IsErr w (.iface 240 (.pointer (some a)))) : Calls Tryz.prog 74 #[.iface 240 (.pointer (some a))] w (GivesFl true w) := by
  have HV := hid hv
  have HX := hid hx
  have h1 := assert204_240
  have HS0 : Hid (Same w ((w.alloc (.cells #[.bool false, .int .i64 0, .int .i64 0, .bool false] 47)).alloc (.cells #[.bool true, .int .i64 0, .int .i64 0, .bool false] 47))) := ((Keep.refl _ _).alloc _).alloc _
  have HR2 : Hid (Row ((w.alloc (.cells #[.bool false, .int .i64 0, .int .i64 0, .bool false] 47)).alloc (.cells #[.bool true, .int .i64 0, .int .i64 0, .bool false] 47)) w.heap.size 47 #[.bool false, .int .i64 0, .int .i64 0, .bool false]) := (Row.new w 47 _).alloc _
  have HR3 : Hid (Row ((w.alloc (.cells #[.bool false, .int .i64 0, .int .i64 0, .bool false] 47)).alloc (.cells #[.bool true, .int .i64 0, .int .i64 0, .bool false] 47)) (w.heap.size + 1) 47 #[.bool true, .int .i64 0, .int .i64 0, .bool false]) := by
    have h1 := Row.new (w.alloc (.cells #[.bool false, .int .i64 0, .int .i64 0, .bool false] 47)) 47 #[.bool true, .int .i64 0, .int .i64 0, .bool false]
    rw [show (w.alloc (Obj.cells #[.bool false, .int .i64 0, .int .i64 0, .bool false] 47)).heap.size = w.heap.size + 1 by simp] at h1
    exact h1
  clear hv hx
  go_enter Tryz.func74, Tryz.ntmps74
  go_wp2_with fail
  refine (outside_any _ a0 a4 a5 a10 _ (HV.out.same HS0.out) (.inr (HX.out.same HS0.out))).mono ?_
  rintro e w8 ⟨r, rfl, hk8⟩
  have HS := hid (HS0.out.trans hk8)
  have R2 := hid (HR2.out.same hk8)
  have R3 := hid (HR3.out.same hk8)
  clear hk8
  have c0 : w8.cell? ⟨w.heap.size + 1, 0, none⟩ = some (.bool true) := R3.out.cell 0
  have c1 : w8.cell? ⟨w.heap.size + 1, 1, none⟩ = some (.int .i64 0) := R3.out.cell 1
  have c2 : w8.cell? ⟨w.heap.size + 1, 2, none⟩ = some (.int .i64 0) := R3.out.cell 2
  have c3 : w8.cell? ⟨w.heap.size + 1, 3, none⟩ = some (.bool false) := R3.out.cell 3
  have fr3 := R3.out.frozen
  have d0 : w8.cell? ⟨w.heap.size, 0, none⟩ = some (.bool false) := R2.out.cell 0
  have d1 : w8.cell? ⟨w.heap.size, 1, none⟩ = some (.int .i64 0) := R2.out.cell 1
  have d2 : w8.cell? ⟨w.heap.size, 2, none⟩ = some (.int .i64 0) := R2.out.cell 2
  have d3 : w8.cell? ⟨w.heap.size, 3, none⟩ = some (.bool false) := R2.out.cell 3
  have fr2 := R2.out.frozen
  go_wp2_with fail
  have hne : w.heap.size ≠ w.heap.size + 1 := by omega
  have hR := ((((R2.out.far (p := ⟨w.heap.size + 1, 3, none⟩) hne (.bool r)).set 0 (.bool true)).set 1 (.int .i64 0)).set 2 (.int .i64 0)).set 3 (.bool r)
  refine ret74 rfl rfl hR rfl ⟨0, 0, r, rfl, ?_⟩
  repeat (first | exact HS.out | refine Keep.setCell ?_ (fun h => absurd h (by show ¬ _ < _; simp only; omega)) _)

set_option maxRecDepth 20000 in
set_option maxHeartbeats 3200000 in
theorem fault_204 (err : Value) (a0 a4 a5 a10 : Addr) (w : World) (hv : EVars w a0 a4 a5 a10) (hx : BadV w err) : Calls Tryz.prog 74 #[err] w (GivesFl true w) := by
  obtain ⟨g, x, rfl, ⟨ln, col, hr⟩, hxe⟩ := hx
  have HV := hid hv
  have HX := hid hxe
  have HR := hid hr
  obtain ⟨a, rfl, -⟩ := hxe
  have h1 := assert204
  clear hv hr
  have HS0 : Hid (Same w ((w.alloc (.cells #[.bool false, .int .i64 0, .int .i64 0, .bool false] 47)).alloc (.cells #[.bool true, .int .i64 0, .int .i64 0, .bool false] 47))) := ((Keep.refl _ _).alloc _).alloc _
  have HR2 : Hid (Row ((w.alloc (.cells #[.bool false, .int .i64 0, .int .i64 0, .bool false] 47)).alloc (.cells #[.bool true, .int .i64 0, .int .i64 0, .bool false] 47)) w.heap.size 47 #[.bool false, .int .i64 0, .int .i64 0, .bool false]) := (Row.new w 47 _).alloc _
  have HR3 : Hid (Row ((w.alloc (.cells #[.bool false, .int .i64 0, .int .i64 0, .bool false] 47)).alloc (.cells #[.bool true, .int .i64 0, .int .i64 0, .bool false] 47)) (w.heap.size + 1) 47 #[.bool true, .int .i64 0, .int .i64 0, .bool false]) := by
    have h1 := Row.new (w.alloc (.cells #[.bool false, .int .i64 0, .int .i64 0, .bool false] 47)) 47 #[.bool true, .int .i64 0, .int .i64 0, .bool false]
    rw [show (w.alloc (Obj.cells #[.bool false, .int .i64 0, .int .i64 0, .bool false] 47)).heap.size = w.heap.size + 1 by simp] at h1
    exact h1
  unfold errAt
  go_enter Tryz.func74, Tryz.ntmps74
  go_upto_region 4 with fail
  generalize ((w.alloc (.cells #[.bool false, .int .i64 0, .int .i64 0, .bool false] 47)).alloc (.cells #[.bool true, .int .i64 0, .int .i64 0, .bool false] 47)) = w1 at *
  have RG := hid (HR.out.same HS0.out)
  have R2 := HR2
  have R3 := HR3
  have g0 : w1.cell? ⟨g, 0, none⟩ = some (.int .i64 ln) := RG.out.cell 0
  have g1 : w1.cell? ⟨g, 1, none⟩ = some (.int .i64 col) := RG.out.cell 1
  have g2 : w1.cell? ⟨g, 2, none⟩ = some (.iface 240 (.pointer (some a))) := RG.out.cell 2
  have hgB : g ≠ w.heap.size + 1 := fun e => by have := HR.out.lt; omega
  have c0 : w1.cell? ⟨w.heap.size + 1, 0, none⟩ = some (.bool true) := R3.out.cell 0
  have c1 : w1.cell? ⟨w.heap.size + 1, 1, none⟩ = some (.int .i64 0) := R3.out.cell 1
  have c2 : w1.cell? ⟨w.heap.size + 1, 2, none⟩ = some (.int .i64 0) := R3.out.cell 2
  have c3 : w1.cell? ⟨w.heap.size + 1, 3, none⟩ = some (.bool false) := R3.out.cell 3
  have fr3 := R3.out.frozen
  have d0 : w1.cell? ⟨w.heap.size, 0, none⟩ = some (.bool false) := R2.out.cell 0
  have d1 : w1.cell? ⟨w.heap.size, 1, none⟩ = some (.int .i64 0) := R2.out.cell 1
  have d2 : w1.cell? ⟨w.heap.size, 2, none⟩ = some (.int .i64 0) := R2.out.cell 2
  have d3 : w1.cell? ⟨w.heap.size, 3, none⟩ = some (.bool false) := R2.out.cell 3
  have fr2 := R2.out.frozen
  go_region_held3 (fun w' => w'.cell? ⟨g, 0, none⟩ = some (.int .i64 ln) ∧ w'.cell? ⟨g, 1, none⟩ = some (.int .i64 col) ∧ w'.cell? ⟨g, 2, none⟩ = some (.iface 240 (.pointer (some a))))
    (first | (refine ⟨?_, ?_, ?_⟩ <;> assumption) | (refine ⟨?_, ?_, ?_⟩ <;> (refine cell_far ?_ hgB; first | assumption | (refine cell_far ?_ hgB; assumption))) | go_keep)
    (fail)
  have hne0 : w.heap.size ≠ w.heap.size + 1 := by omega
  have R2x : Hid (Row ((w1.setCell ⟨w.heap.size + 1, 1, none⟩ (.int .i64 ln)).setCell ⟨w.heap.size + 1, 2, none⟩ (.int .i64 col)).drew w.heap.size 47 #[.bool false, .int .i64 0, .int .i64 0, .bool false]) :=
    ((R2.out.far (p := ⟨w.heap.size + 1, 1, none⟩) hne0 _).far (p := ⟨w.heap.size + 1, 2, none⟩) hne0 _).drew
  have R3x : Hid (Row ((w1.setCell ⟨w.heap.size + 1, 1, none⟩ (.int .i64 ln)).setCell ⟨w.heap.size + 1, 2, none⟩ (.int .i64 col)).drew (w.heap.size + 1) 47 #[.bool true, .int .i64 ln, .int .i64 col, .bool false]) := ((R3.out.set 1 (.int .i64 ln)).set 2 (.int .i64 col)).drew
  have HSx : Hid (Same w ((w1.setCell ⟨w.heap.size + 1, 1, none⟩ (.int .i64 ln)).setCell ⟨w.heap.size + 1, 2, none⟩ (.int .i64 col)).drew) := (by
    refine Keep.drew ?_
    repeat (first | exact HS0.out | refine Keep.setCell ?_ (fun h => absurd h (by show ¬ _ < _; simp only; omega)) _))
  clear c0 c1 c2 c3 fr3 d0 d1 d2 d3 fr2 g0 g1 g2 RG R2 R3 HR2 HR3 HS0
  generalize ((w1.setCell ⟨w.heap.size + 1, 1, none⟩ (.int .i64 ln)).setCell ⟨w.heap.size + 1, 2, none⟩ (.int .i64 col)).drew = w7 at *
  go_wp2_with fail
  refine (outside_any _ a0 a4 a5 a10 _ (HV.out.same HSx.out) (.inr (HX.out.same HSx.out))).mono ?_
  rintro e w8 ⟨r, rfl, hk8⟩
  have HS := hid (HSx.out.trans hk8)
  have R2 := hid (R2x.out.same hk8)
  have R3 := hid (R3x.out.same hk8)
  clear hk8
  have c0 : w8.cell? ⟨w.heap.size + 1, 0, none⟩ = some (.bool true) := R3.out.cell 0
  have c1 : w8.cell? ⟨w.heap.size + 1, 1, none⟩ = some (.int .i64 ln) := R3.out.cell 1
  have c2 : w8.cell? ⟨w.heap.size + 1, 2, none⟩ = some (.int .i64 col) := R3.out.cell 2
  have c3 : w8.cell? ⟨w.heap.size + 1, 3, none⟩ = some (.bool false) := R3.out.cell 3
  have fr3 := R3.out.frozen
  have d0 : w8.cell? ⟨w.heap.size, 0, none⟩ = some (.bool false) := R2.out.cell 0
  have d1 : w8.cell? ⟨w.heap.size, 1, none⟩ = some (.int .i64 0) := R2.out.cell 1
  have d2 : w8.cell? ⟨w.heap.size, 2, none⟩ = some (.int .i64 0) := R2.out.cell 2
  have d3 : w8.cell? ⟨w.heap.size, 3, none⟩ = some (.bool false) := R2.out.cell 3
  have fr2 := R2.out.frozen
  go_wp2_with fail
  have hne : w.heap.size ≠ w.heap.size + 1 := by omega
  have hR := ((((R2.out.far (p := ⟨w.heap.size + 1, 3, none⟩) hne (.bool r)).set 0 (.bool true)).set 1 (.int .i64 ln)).set 2 (.int .i64 col)).set 3 (.bool r)
  refine ret74 rfl rfl hR rfl ⟨ln, col, r, rfl, ?_⟩
  repeat (first | exact HS.out | refine Keep.setCell ?_ (fun h => absurd h (by show ¬ _ < _; simp only; omega)) _)
end Go.Proofs.YticdagnbnmnidaaGreatDoor
