/- The decoder over bytes: NextField. Conditions: none. -/
import Derived.Test.YticdagnbnmnidaaGreatDoorSaCount
import Derived.Test.YticdagnbnmnidaaGreatDoorSaVal
import Derived.Deep.RegionHeld3
import Derived.IntWalk
import Derived.StillTailTactics
set_option linter.unusedSimpArgs false
set_option linter.unusedVariables false
namespace Go.Proofs.YticdagnbnmnidaaGreatDoor
open Go.RowKit

/-- An error of NextField: a *DecodeError around an error of errors.New, whichever. -/
def BadV (w : World) (err : Value) : Prop := ∃ (g : Nat) (x : Value), err = errAt g ∧ ErrRow w g x ∧ IsErr w x
theorem Bad.v {w : World} {err : Value} (h : Bad w err) : BadV w err := by
  obtain ⟨g, k, rfl, hr, s, hs⟩ := h
  exact ⟨g, _, rfl, hr, _, rfl, _, _, hs⟩
theorem IsErr.same {w w' : World} {x : Value} (h : IsErr w x) (hk : Same w w') : IsErr w' x := by
  obtain ⟨a, e, cs, t, hr⟩ := h
  exact ⟨a, e, cs, t, by rw [hk.block a.block (Array.getElem?_eq_some_iff.1 hr).1 id]; exact hr⟩
theorem BadV.same {w w' : World} {err : Value} (h : BadV w err) (hk : Same w w') : BadV w' err := by
  obtain ⟨g, x, e, ⟨ln, col, hr⟩, hx⟩ := h
  exact ⟨g, x, e, ⟨ln, col, hr.same hk⟩, hx.same hk⟩
theorem VOk.same {w w' : World} {v : Value} (h : VOk w v) (hk : Same w w') : VOk w' v := by
  obtain ⟨n, b, k, e, hk1, hb⟩ := h
  refine ⟨n, b, k, e, hk1, ?_⟩
  rcases hb with hb | ⟨m, f, hm, hr⟩
  · exact .inl hb
  · exact .inr ⟨m, f, hm, hr.same hk⟩

/-- a block of values stays, whatever the decoder does -/
theorem row_far {w0 w w' : World} {c : DC} {s s' : DS} {g : Nat} {cs : Array Value} (hr : Row w g 102 cs) (h : Ok w0 c w s) (hf : Far c s s' w w') : Row w' g 102 cs := by
  refine hr.keep hf.keep (fun e => ?_)
  rcases e with rfl | e
  · have := Option.some.inj (hr.symm.trans h.dec.row)
    injection this with _ h2
    cases h2
  · rcases h.dec.esc.2 with ⟨h1, -⟩ | ⟨g', cap, cur, h1, -, h2, -⟩
    · rw [h1] at e; cases e
    · rw [h1] at e
      have e' : g' = g := Option.some.inj e
      subst e'
      have := Option.some.inj (hr.symm.trans h2)
      injection this with _ h3
      cases h3

/-- a store to a block of values of one's own -/
theorem Ok.own {w0 w w' : World} {c : DC} {s : DS} {g : Nat} {cs : Array Value} (h : Ok w0 c w s) (hr : Row w g 102 cs) (hg : c.base ≤ g) (h0 : w0.heap.size ≤ g) (hk : Keep (fun k => k = g) w w') : Ok w0 c w' s := by
  have hne : s.esc.ownBlock ≠ some g := fun e => by
    rcases h.dec.esc.2 with ⟨h1, -⟩ | ⟨g', cap, cur, h1, -, h2, -⟩
    · rw [h1] at e; cases e
    · rw [h1] at e
      have e' : g' = g := Option.some.inj e
      subst e'
      have := Option.some.inj (hr.symm.trans h2)
      injection this with _ h3
      cases h3
  have hT := h.dec.base_T
  refine ⟨{ h.dec with row := h.dec.row.keep hk (fun e => by have e' : c.D = g := e; subst e'; have h9 := Option.some.inj (hr.symm.trans h.dec.row); injection h9 with _ h2; cases h2), text := h.dec.text.keep hk (fun e => by omega), esc := ?_, base_le := Nat.le_trans h.dec.base_le hk.size }, h.ok, h.sec, h.lay.keep hk (fun k hlt e => by omega), h.D⟩
  exact h.dec.esc.kept (row := some g) ⟨hk.os, hk.tape, hk.output, hk.size, fun k hk' hn => hk.block k hk' (fun e => hn (by rw [e]))⟩ (.inr hne)
theorem Step.own {w0 w w1 w2 : World} {c : DC} {s s1 : DS} {g : Nat} {cs : Array Value} (h : Step w0 c s s1 w w1) (hb : c.base ≤ w.heap.size) (h0 : w0.heap.size ≤ w.heap.size) (hr : Row w1 g 102 cs) (hg : w.heap.size ≤ g) (hk : Keep (fun k => k = g) w1 w2) : Step w0 c s s1 w w2 :=
  ⟨h.ok.own hr (Nat.le_trans hb hg) (Nat.le_trans h0 hg) hk, ⟨h.far.keep.trans' hk (fun i hi e => by have e' : i = g := e; omega), fun k hk1 hlt => h.far.grow k hk1 hlt⟩, h.left, h.skip⟩

theorem IsErr.turn {w W : World} {x : Value} {d : Nat} {t : TypeId} {cs : Array Value} (h : IsErr w x) (hk : Keep (fun k => k = d) w W) (hR : Row W d t cs) : IsErr W x := by
  obtain ⟨a, e, cs1, t1, hr⟩ := h
  by_cases hd : a.block = d
  · exact ⟨a, e, cs, t, by rw [hd]; exact hR⟩
  · exact ⟨a, e, cs1, t1, by rw [hk.block a.block (Array.getElem?_eq_some_iff.1 hr).1 hd]; exact hr⟩

/-- the string that bytes make -/
def strF (n : Nat) (f : Nat → Nat) : ByteArray := ⟨((List.range n).map (fun j => UInt8.ofNat (f j))).toArray⟩
theorem strF_size (n : Nat) (f : Nat → Nat) : (strF n f).size = n := by simp [strF, ByteArray.size]
theorem rd_str {w : World} {v : Value} {n : Nat} {f : Nat → Nat} (h : Rd w v n f) : (convert 75 9 v).run Tryz.prog w = .ok (.string (strF n f)) w := by
  obtain ⟨⟨A, cap, rfl, h1, h2, h3⟩, h4⟩ := h
  have hl : ((List.range n).map (fun j => UInt8.ofNat (f j))).length = n := by simp
  cases A with
  | none =>
    have hn : n = 0 := by
      rcases Nat.eq_zero_or_pos n with h | h
      · exact h
      · obtain ⟨T, off, he, -⟩ := h3 h; cases he
    subst hn
    exact run_convert_bytes_nil (P := Tryz.prog) w 75 5 Tryz.underlying75 Tryz.underlying5 0 cap 9 Tryz.underlying9
  | some a =>
    have key := run_convert_bytes_back (P := Tryz.prog) w 75 9 5 a cap ((List.range n).map (fun j => UInt8.ofNat (f j))) Tryz.underlying75 Tryz.underlying5 Tryz.underlying9 (fun j hj => by
      rw [hl] at hj
      obtain ⟨T, off, he, hc⟩ := h3 (by omega)
      cases he
      have hlt := h4 j hj
      have e : (UInt8.ofNat (f j)).toNat = f j := by simp; omega
      simp only [List.getElem_map, List.getElem_range, e]
      have hc2 := hc j hj
      by_cases h0 : j = 0
      · subst h0; simpa [Addr.add] using hc2
      · simpa [Addr.add, h0] using hc2)
    rw [hl] at key
    exact key
theorem count_map (l : List Nat) (hl : ∀ b ∈ l, b < 256) (b : Nat) (hb : b < 256) : (l.map UInt8.ofNat).count (UInt8.ofNat b) = l.count b := by
  induction l with
  | nil => rfl
  | cons c l ih =>
    have ih' := ih fun b hb => hl b (by simp [hb])
    have hc := hl c (by simp)
    simp only [List.map_cons, List.count_cons, ih']
    congr 1
    by_cases e : c = b
    · subst e; simp
    · have : UInt8.ofNat c ≠ UInt8.ofNat b := fun h => by
        have := congrArg UInt8.toNat h
        simp at this
        omega
      simp [e, this]
/-- how long a key is when it is escaped -/
theorem esc_eq {n : Nat} {f : Nat → Nat} {l : List Nat} (hn : n = l.length) (hf : ∀ j, j < n → f j = l.getD j 0) (hb : ∀ j, j < n → f j < 256) : (strF n f).size + moreBy (strF n f) [44, 61, 32] = escLen l := by
  have hl : ∀ b ∈ l, b < 256 := fun b hb' => by
    obtain ⟨j, hj, e⟩ := List.getElem_of_mem hb'
    have h1 := hf j (by omega)
    have h2 := hb j (by omega)
    rw [h1] at h2
    simp [List.getD, List.getElem?_eq_getElem hj, e] at h2
    exact h2
  have e : (strF n f).data.toList = l.map UInt8.ofNat := by
    simp only [strF]
    apply List.ext_getElem
    · simp [hn]
    · intro j h1 h2
      have hj : j < n := by simpa using h1
      simp only [List.getElem_map, List.getElem_range, hf j hj]
      simp [List.getD, List.getElem?_eq_getElem (show j < l.length by omega)]
  have hc : ∀ b : Nat, b < 256 → cntB (strF n f) (UInt8.ofNat b) (strF n f).size = l.count b := fun b hb' => by
    unfold cntB
    rw [e, strF_size, List.take_of_length_le (by simp [hn]), count_map l hl b hb']
  rw [escLen_count l hl]
  simp only [moreBy]
  have h1 := hc 44 (by omega)
  have h2 := hc 61 (by omega)
  have h3 := hc 32 (by omega)
  have e1 : (UInt8.ofNat 44) = 44 := rfl
  have e2 : (UInt8.ofNat 61) = 61 := rfl
  have e3 : (UInt8.ofNat 32) = 32 := rfl
  rw [e1] at h1; rw [e2] at h2; rw [e3] at h3
  rw [h1, h2, h3, strF_size, hn]
  omega

/-- What NextField gives. -/
def ValT (w0 : World) (c : DC) (s : DS) (w : World) (e : Ending) (w' : World) : Prop :=
  ∃ (k err : Value) (z : Int) (A : Option Addr) (n1 k1 kk : Nat) (s' : DS), e = .returned (.tuple #[k, .agg #[.int .u64 z, .slice A n1 k1, .int .u8 (kk : Nat)], err]) ∧ Step w0 c s s' w w' ∧ Maybe c s' w' k ∧ (k = nilS ∨ VOk w' (.agg #[.int .u64 z, .slice A n1 k1, .int .u8 (kk : Nat)])) ∧
    (err = .nilIface ∨ (BadV w' err ∧ k = nilS ∧ (s'.sec = 4 ∨ s'.sec = 5))) ∧ (4 ≤ s.sec → k = nilS ∧ err = .nilIface ∧ s'.sec = s.sec)

theorem gate_any {w0 w : World} (hval : ValidOK w0) {c : DC} {s : DS} (h : Ok w0 c w s) (hs : s.skip = false) :
    Calls Tryz.prog 70 #[.pointer (some ⟨c.D, 0, none⟩), .int .u8 (2 : Nat)] w fun e w' => ∃ (b : Bool) (err : Value) (s' : DS), e = .returned (.tuple #[.bool b, err]) ∧ Step w0 c s s' w w' ∧ (4 ≤ s.sec → s' = s ∧ err = .nilIface) ∧
      ((err = .nilIface ∧ b = true ∧ s'.sec = 2) ∨ (err = .nilIface ∧ b = false ∧ 2 < s'.sec) ∨ (Bad w' err ∧ b = false ∧ (s'.sec = 4 ∨ s'.sec = 5))) := by
  rcases Nat.lt_trichotomy s.sec 2 with h0 | h0 | h0
  · refine (gate_lt hval h h0 (by omega) hs).mono ?_
    rintro e w1 ⟨b, err, s', rfl, hok, hst, hor⟩
    exact ⟨b, err, s', rfl, hst, fun h => by omega, hor⟩
  · refine (gate_eq h h0).mono ?_
    rintro e w1 ⟨b, err, s', rfl, hok, ⟨rfl, hk⟩, hor⟩
    exact ⟨b, err, s', rfl, (Step.refl h).same hk, fun h => by omega, hor⟩
  · refine (advance_gt c s 2 w h.dec h0).mono ?_
    rintro e w1 ⟨rfl, hk⟩
    exact ⟨_, _, s, rfl, (Step.refl h).same hk, fun _ => ⟨rfl, rfl⟩, .inr (.inl ⟨rfl, rfl, h0⟩)⟩

/-- the store to the result's block -/
theorem store78 {w0 w w1 : World} {c : DC} {s s1 : DS} {c0 c1 c2 : Value} (h : Step w0 c s s1 w w1) (hb : c.base ≤ w.heap.size) (h0 : w0.heap.size ≤ w.heap.size) (hr : Row w1 w.heap.size 102 #[c0, c1, c2]) (d0 d1 d2 : Value) :
    Step w0 c s s1 w (((w1.setCell ⟨w.heap.size, 0, none⟩ d0).setCell ⟨w.heap.size, 1, none⟩ d1).setCell ⟨w.heap.size, 2, none⟩ d2) ∧
    Row (((w1.setCell ⟨w.heap.size, 0, none⟩ d0).setCell ⟨w.heap.size, 1, none⟩ d1).setCell ⟨w.heap.size, 2, none⟩ d2) w.heap.size 102 #[d0, d1, d2] ∧
    Keep (fun k => k = w.heap.size) w1 (((w1.setCell ⟨w.heap.size, 0, none⟩ d0).setCell ⟨w.heap.size, 1, none⟩ d1).setCell ⟨w.heap.size, 2, none⟩ d2) := by
  have hk2 := (((Keep.refl (fun k => k = w.heap.size) w1).setCell (p := ⟨w.heap.size, 0, none⟩) (fun _ => rfl) d0).setCell (p := ⟨w.heap.size, 1, none⟩) (fun _ => rfl) d1).setCell (p := ⟨w.heap.size, 2, none⟩) (fun _ => rfl) d2
  exact ⟨h.own hb h0 hr (Nat.le_refl _) hk2, ((hr.set 0 d0).set 1 d1).set 2 d2, hk2⟩
theorem row_ne {w : World} {g d : Nat} {t u : TypeId} {cs ds : Array Value} (h : Row w g t cs) (hd : Row w d u ds) (htu : t ≠ u) : g ≠ d := fun e => by
  subst e
  have := Option.some.inj (h.symm.trans hd)
  injection this with _ h2
  exact htu h2
theorem Bad.own {w W : World} {g : Nat} {cs : Array Value} {err : Value} (h : Bad w err) (hr : Row w g 102 cs) (hk : Keep (fun k => k = g) w W) : Bad W err := by
  obtain ⟨g1, k, e, ⟨ln, col, h1⟩, sc, h2⟩ := h
  exact ⟨g1, k, e, ⟨ln, col, h1.keep hk (row_ne h1 hr (by decide))⟩, sc, h2.keep hk (row_ne h2 hr (by decide))⟩
/-- a piece of bytes stays one, even where it lies in the result's block -/
theorem rd_turn {w W : World} {g : Nat} {v : Value} {n : Nat} {f : Nat → Nat} {x : Value} {y : Value} {z : Nat} (h : Rd w v n f) (hr : Row w g 102 #[.int .u64 0, .slice none 0 0, .int .u8 0]) (hk : Keep (fun k => k = g) w W)
    (hR : Row W g 102 #[x, y, .int .u8 (z : Nat)]) (hz : z < 256) : ∃ f', Rd W v n f' := by
  obtain ⟨⟨A, cap, rfl, h1, h2, h3⟩, h4⟩ := h
  by_cases hn : 0 < n
  · obtain ⟨T, off, rfl, hc⟩ := h3 hn
    by_cases hT : T = g
    · subst hT
      have h2' : ∀ j, j < n → off + j = 2 := fun j hj => by
        have e1 := (hr.cell (off + j)).symm.trans (hc j hj)
        rcases hoj : off + j with _ | _ | _ | q
        · rw [hoj] at e1; simp at e1
        · rw [hoj] at e1; simp at e1
        · rfl
        · rw [hoj] at e1; simp at e1
      exact ⟨fun _ => z, ⟨_, cap, rfl, h1, h2, fun _ => ⟨T, off, rfl, fun j hj => by rw [h2' j hj]; exact hR.cell 2⟩⟩, fun _ _ => hz⟩
    · exact ⟨f, ⟨_, cap, rfl, h1, h2, fun _ => ⟨T, off, rfl, fun j hj => by rw [← hc j hj]; exact hk.cell (p := ⟨T, off + j, none⟩) (lt_of_cell (hc j hj)) hT⟩⟩, h4⟩
  · exact ⟨f, ⟨A, cap, rfl, h1, h2, fun h => absurd h hn⟩, h4⟩

theorem ret78 {Q : Ending → World → Prop} {a : Act} {W : World} {g : Nat} {c0 c1 c2 k x : Value} (h2 : a.tmps.getD 2 undef = k) (h3 : a.tmps.getD 3 undef = .pointer (some ⟨g, 0, none⟩)) (h4 : a.tmps.getD 4 undef = x)
    (hd : a.defers = []) (hr : Row W g 102 #[c0, c1, c2]) (hQ : Q (.returned (.tuple #[k, .agg #[c0, c1, c2], x])) W) : bodyPost Tryz.prog Tryz.f78 Q Exit.ret a W := by
  refine bodyPost_ret (v := .tuple #[k, .agg #[c0, c1, c2], x]) ?_ hd hQ
  have h3' : a.tmps[3]?.getD undef = .pointer (some ⟨g, 0, none⟩) := by simpa using h3
  have h2' : a.tmps[2]?.getD undef = k := by simpa using h2
  have h4' : a.tmps[4]?.getD undef = x := by simpa using h4
  simp [results, Tryz.results78, h2', h3', h4', asAddr, run_loadVar_row W g 102 102 _ _ _ hr Tryz.underlying102 rfl info102, Result.andThen, Sem.run_bind]

set_option maxRecDepth 100000 in
set_option maxHeartbeats 12800000 in
theorem nextVal_any (w0 : World) (hval : ValidOK w0) (ht : FTabs w0) (hz : 25 < w0.heap.size) (a0 a4 a5 a10 : Addr) (hv : EVars w0 a0 a4 a5 a10) (c : DC) (s : DS) (w : World) (h : Ok w0 c w s) (hs : s.skip = false) :
    Calls Tryz.prog 78 #[.pointer (some ⟨c.D, 0, none⟩)] w (ValT w0 c s w) := by
  have Hval := hid hval
  have HT := hid ht
  have HV := hid hv
  have H := hid h
  have Hs := hid hs
  have HS0 : Hid (Same w (w.alloc (.cells #[.int .u64 0, .slice none 0 0, .int .u8 0] 102))) := (Keep.refl _ _).alloc _
  have HR0 : Hid (Row (w.alloc (.cells #[.int .u64 0, .slice none 0 0, .int .u8 0] 102)) w.heap.size 102 #[.int .u64 0, .slice none 0 0, .int .u8 0]) := Row.new _ _ _
  have HB : Hid (c.base ≤ w.heap.size) := h.dec.base_le
  have HB0 : Hid (w0.heap.size ≤ w.heap.size) := Nat.le_trans h.D h.dec.base_le
  clear hval ht hv h hs
  have hen := fun (W : World) (a : Option Addr) (n k n' k' : Nat) => Lib.run_eql_slice_nil (P := Tryz.prog) W 75 5 a n k n' k' Tryz.underlying75
  go_enter Tryz.func78, Tryz.ntmps78
  go_big_wp2_with fail
  refine (gate_any Hval.out (H.out.same HS0.out) Hs.out).mono ?_
  rintro e w1 ⟨b, err, s1, rfl, hst1, hst1', hor⟩
  have Hrow := hid (row_far HR0.out (H.out.same HS0.out) hst1.far)
  have S1 := hid (((Step.refl H.out).same HS0.out).trans hst1)
  have Hst1' := hid hst1'
  have Hsk1 := hid (hst1.skip.trans Hs.out)
  have c0 : w1.cell? ⟨w.heap.size, 0, none⟩ = some (.int .u64 0) := Hrow.out.cell 0
  have c1 : w1.cell? ⟨w.heap.size, 1, none⟩ = some (.slice none 0 0) := Hrow.out.cell 1
  have c2 : w1.cell? ⟨w.heap.size, 2, none⟩ = some (.int .u8 0) := Hrow.out.cell 2
  have fr := Hrow.out.frozen
  clear hst1 hst1'
  rcases hor with ⟨rfl, rfl, hsec⟩ | ⟨rfl, rfl, hsec⟩ | ⟨hbad, rfl, hsec⟩
  ·
    as_aux_lemma =>
      have f2 := S1.out.ok.dec.f2
      have f3 := S1.out.ok.dec.f3
      have h1 := S1.out.ok.dec.r0_le
      have h2 := S1.out.ok.dec.r1_le
      have h3 := S1.out.ok.dec.L_le
      have h4 := S1.out.ok.dec.big
      have Hsec1 := hid hsec
      clear c0 c1 c2 fr hsec
      go_upto_region 6 with fail
      go_cut [7] (fun y wc => y = .int .i64 (s1.r1 - s1.r0 : Nat) ∧ ∃ q, wc = w1.drewN q)
      case first =>
        as_aux_lemma =>
          have ew : IntKind.i64.wrap ((s1.r1 : Int) - (s1.r0 : Int)) = ((s1.r1 - s1.r0 : Nat) : Int) := by
            rw [IntWalk.i64_in _ (by omega)]; omega
          go_quiet (fail)
          go_big_wp2_with fail
          go_meet
          case rel => exact ⟨by simp [ew], _, rfl⟩
      case rest =>
        obtain ⟨rfl, q, rfl⟩ := hcut
        have S2 := hid (S1.out.same (same_drewN _ q))
        have Hrow2 := hid (Hrow.out.same (same_drewN _ q))
        clear S1 Hrow f2 f3
        generalize w1.drewN q = w2 at *
        go_big_wp2_with fail
        refine (nextField_2 w0 Hval.out c s1 w2 S2.out.ok Hsec1.out).mono ?_
        rintro e w3 ⟨k, v, err, kd, s2, rfl, hst, hor⟩
        have Hrow3 := hid (row_far Hrow2.out S2.out.ok hst.far.toFar)
        have S3 := hid (S2.out.trans hst.step)
        have Hst := hid hst
        clear hst Hrow2 S2
        have c0 : w3.cell? ⟨w.heap.size, 0, none⟩ = some (.int .u64 0) := Hrow3.out.cell 0
        have c1 : w3.cell? ⟨w.heap.size, 1, none⟩ = some (.slice none 0 0) := Hrow3.out.cell 1
        have c2 : w3.cell? ⟨w.heap.size, 2, none⟩ = some (.int .u8 0) := Hrow3.out.cell 2
        have fr := Hrow3.out.frozen
        rcases hor with ⟨rfl, hsec2, hlt, hkd, n, f, m, h, hn, htk, htv, hfit⟩ | ⟨hbad, rfl, rfl, hsec2⟩
        ·
          as_aux_lemma =>
            obtain ⟨T, off, cap, rfl, -⟩ := htk.form hn
            obtain ⟨Av, capv, rfl⟩ := htv.form0
            have Tk3 := hid htk
            have Tv3 := hid htv
            have Hfit := hid hfit
            have Hlt := hid hlt
            clear htk htv hfit hlt hsec2 hkd c0 c1 c2 fr
            go_big_wp2_with fail
            refine (newValue_any w0 kd _ m h a0 a4 a5 a10 w3 Tv3.out.rd Tv3.out.le S3.out.ok.lay HT.out hz (HV.out.lay S3.out.ok.lay)).mono ?_
            rintro e w4 ⟨z, A2, n2, k2, kk, x, rfl, hk4, hor⟩
            have S4 := hid (S3.out.same hk4)
            have Hrow4 := hid (Hrow3.out.same hk4)
            have Tk4 := hid (Tk3.out.same hk4)
            clear hk4 S3 Hrow3 Tk3 Tv3
            have c0 : w4.cell? ⟨w.heap.size, 0, none⟩ = some (.int .u64 0) := Hrow4.out.cell 0
            have c1 : w4.cell? ⟨w.heap.size, 1, none⟩ = some (.slice none 0 0) := Hrow4.out.cell 1
            have c2 : w4.cell? ⟨w.heap.size, 2, none⟩ = some (.int .u8 0) := Hrow4.out.cell 2
            have fr := Hrow4.out.frozen
            rcases hor with ⟨rfl, hvok⟩ | herr
            ·
              as_aux_lemma =>
                have Hvok := hid hvok
                clear hvok
                go_big_wp2_with fail
                have hS5 : Same w4 (w4.alloc (.cells #[.int .u64 z, .slice A2 n2 k2, .int .u8 kk] 102)) := (Keep.refl _ _).alloc _
                have Hrow10 : Hid (Row (w4.alloc (.cells #[.int .u64 z, .slice A2 n2 k2, .int .u8 kk] 102)) w4.heap.size 102 #[.int .u64 z, .slice A2 n2 k2, .int .u8 kk]) := Row.new w4 _ _
                have S5 := hid (S4.out.same hS5)
                have Hrow5 := hid (Hrow4.out.same hS5)
                have Tk5 := hid (Tk4.out.same hS5)
                have Hvok5 := hid (Hvok.out.same hS5)
                clear hS5 S4 Hrow4 Tk4 Hvok c0 c1 c2 fr
                obtain ⟨g10, hg10⟩ : ∃ g, g = w4.heap.size := ⟨_, rfl⟩
                rw [← hg10] at Hrow10 ⊢
                clear hg10
                generalize (w4.alloc (.cells #[.int .u64 z, .slice A2 n2 k2, .int .u8 kk] 102)) = w5 at *
                have d0 : w5.cell? ⟨g10, 0, none⟩ = some (.int .u64 z) := Hrow10.out.cell 0
                have d1 : w5.cell? ⟨g10, 1, none⟩ = some (.slice A2 n2 k2) := Hrow10.out.cell 1
                have d2 : w5.cell? ⟨g10, 2, none⟩ = some (.int .u8 kk) := Hrow10.out.cell 2
                go_still_tail 3, (by kernel_rfl)
                change wpList _ _ _ _ _ w5.drew
                have hS6 := same_drew w5
                have S5 := hid (S5.out.same hS6)
                have Hrow5 := hid (Hrow5.out.same hS6)
                have Tk5 := hid (Tk5.out.same hS6)
                have Hvok5 := hid (Hvok5.out.same hS6)
                clear hS6 d0 d1 d2 Hrow10
                generalize w5.drew = w6 at *
                have c0 : w6.cell? ⟨w.heap.size, 0, none⟩ = some (.int .u64 0) := Hrow5.out.cell 0
                have c1 : w6.cell? ⟨w.heap.size, 1, none⟩ = some (.slice none 0 0) := Hrow5.out.cell 1
                have c2 : w6.cell? ⟨w.heap.size, 2, none⟩ = some (.int .u8 0) := Hrow5.out.cell 2
                have fr := Hrow5.out.frozen
                go_big_wp2_with fail
                obtain ⟨hS, hR, hK⟩ := store78 S5.out HB.out HB0.out Hrow5.out (.int .u64 z) (.slice A2 n2 k2) (.int .u8 kk)
                obtain ⟨nn, b, k', e1, hk', hb⟩ := Hvok5.out
                have e2 : #[Value.int .u64 z, .slice A2 n2 k2, .int .u8 kk] = #[Value.int .u64 nn, b, .int .u8 (k' : Nat)] := by injection e1
                have e3 := congrArg (fun a : Array Value => a[0]?) e2
                have e4 := congrArg (fun a : Array Value => a[1]?) e2
                have e5 := congrArg (fun a : Array Value => a[2]?) e2
                simp at e3 e4 e5
                subst e3 e5
                subst e4
                have hk256 : k' < 256 := by omega
                obtain ⟨f', hf'⟩ := rd_turn Tk5.out.rd Hrow5.out hK hR hk256
                refine ret78 rfl rfl rfl rfl hR ⟨_, _, _, _, _, _, k', s2, rfl, hS, .inr ⟨n, f', hn, hf', Tk5.out.loc, Tk5.out.le⟩, .inr ⟨_, _, k', rfl, hk', ?_⟩, .inl rfl, fun h4 => absurd (Hst1'.out h4).1 (fun e => by have := Hsec1.out; rw [e] at this; omega)⟩
                rcases hb with hb | ⟨mb, fb, hmb, hrb⟩
                · exact .inl hb
                · obtain ⟨fb', hfb'⟩ := rd_turn hrb Hrow5.out hK hR hk256
                  exact .inr ⟨mb, fb', hmb, hfb'⟩
            ·
              as_aux_lemma =>
                have Herr := hid herr
                obtain ⟨a, rfl, -⟩ := herr
                obtain ⟨l, hl1, hl2, hl3⟩ := Hfit.out Hsk1.out
                have hE := esc_eq hl1 hl2 Tk4.out.rd.lt
                have Hfit3 := hid hl3
                clear c0 c1 c2 fr hl1 hl2 hl3
                have hle3 := Tk4.out.le
                have hb1 := S4.out.ok.dec.r1_le
                have hb2 := S4.out.ok.dec.L_le
                have hb3 := S4.out.ok.dec.big
                have hEb : (strF n f).size + moreBy (strF n f) [44, 61, 32] ≤ 1000000 := by rw [hE]; have := Hfit3.out; omega
                obtain ⟨E, hEE⟩ : ∃ E, E = (strF n f).size + moreBy (strF n f) [44, 61, 32] := ⟨_, rfl⟩
                rw [← hEE] at hE hEb
                obtain ⟨o, ho⟩ : ∃ o, o = s1.r1 - s1.r0 := ⟨_, rfl⟩
                have hob : o ≤ 1000000 := by omega
                have Ho := hid ho
                have HE := hid hE
                have HEE := hid hEE
                rw [← ho]
                clear hE hEE ho
                go_big_wp2_with fail
                have hS5 : Same w4 (w4.alloc (.cells #[.int .u64 z, .slice A2 n2 k2, .int .u8 kk] 102)) := (Keep.refl _ _).alloc _
                have S5 := hid (S4.out.same hS5)
                have Hrow5 := hid (Hrow4.out.same hS5)
                have Tk5 := hid (Tk4.out.same hS5)
                have Herr5 := hid (Herr.out.same hS5)
                clear hS5 S4 Hrow4 Tk4 Herr
                obtain ⟨g10, hg10⟩ : ∃ g, g = w4.heap.size := ⟨_, rfl⟩
                rw [← hg10]
                clear hg10
                generalize w4.alloc (.cells #[.int .u64 z, .slice A2 n2 k2, .int .u8 kk] 102) = w5 at *
                go_upto_region 12 with fail
                go_cut [7] (fun y wc => y = .int .i64 (o + (E + 1) : Nat) ∧ Same w5 wc)
                case first =>
                  as_aux_lemma =>
                    have hcv := rd_str Tk5.out.rd
                    have hcvd := rd_str (Tk5.out.same (same_drew w5)).rd
                    have HTk := Tk5
                    obtain ⟨sK, hsK⟩ : ∃ sK, sK = strF n f := ⟨_, rfl⟩
                    have hszK : sK.size ≤ 3000000 := by rw [hsK, strF_size]; exact hle3
                    have ecall : ∀ (g8 : Nat) (W : World), W.cell? ⟨g8, 512, none⟩ = some (.string ⟨#[44, 61, 32]⟩) → Calls Tryz.prog 142 #[.pointer (some ⟨g8, 0, none⟩), .string sK] W fun e w' => e = .returned (.int .i64 (E : Nat)) ∧ W = w' := fun g8 W hW => by
                      rw [HEE.out, ← hsK]
                      exact escapedLen_any g8 #[44, 61, 32] sK W hW (by decide) hszK
                    have hconv : ∀ W, Same w5 W → (convert 75 9 (.slice (some ⟨T, off, none⟩) n cap)).run Tryz.prog W = .ok (.string sK) W := fun W hW => by rw [hsK]; exact rd_str (HTk.out.same hW).rd
                    have hcv0 := hconv _ (Keep.refl _ w5)
                    have Hconv := hid hconv
                    have ew1 : IntKind.i64.wrap ((E : Int) + 1) = ((E + 1 : Nat) : Int) := by rw [IntWalk.i64_in _ (by omega)]; rfl
                    have ew2 : IntKind.i64.wrap ((o : Int) + ((E : Int) + 1)) = ((o + (E + 1) : Nat) : Int) := by rw [IntWalk.i64_in _ (by omega)]; rfl
                    clear hcv hcvd hconv HTk hsK hszK hle3 hb1 hb2 hb3 hEb hob
                    go_region_held3 (fun w' => (convert 75 9 (.slice (some ⟨T, off, none⟩) n cap)).run Tryz.prog w' = .ok (.string sK) w')
                      (first | assumption | exact Hconv.out _ (same_drew _))
                      (first | (go_at_call 114; refine (tagKeyEsc_any _).mono ?_; rintro e w8 ⟨g8, rfl, hg8, hlt8, htab8, hs8, hk8⟩; have HS8 := hid ((same_drew w5).trans hk8); have hcv8 := Hconv.out _ HS8.out; clear htab8 hk8) | (go_at_call 142; refine (ecall _ _ (by assumption)).mono ?_; rintro e w9 ⟨rfl, rfl⟩))
                    go_big_wp2_with fail
                    go_meet
                    case rel => exact ⟨by first | rw [ew2] | exact congrArg (Value.int .i64) ew2 | rfl, HS8.out⟩
                case rest =>
                  as_aux_lemma =>
                    obtain ⟨rfl, hk6⟩ := hcut
                    have S6 := hid (S5.out.same hk6)
                    have Hrow6 := hid (Hrow5.out.same hk6)
                    have Herr6 := hid (Herr5.out.same hk6)
                    clear hk6 S5 Hrow5 Herr5
                    go_big_wp2_with fail
                    refine (syntaxErrorf_any c s2 (o + (E + 1)) 240 _ _ S6.out.ok.dec (by have h1 := Ho.out; have h2 := HE.out; have h3 := Hfit3.out; have h4 := Hst.out.r0; omega)).mono ?_
                    rintro e w7 ⟨g7, hg7, herr7, rfl, hd7, hk7⟩
                    have Hst7 := hid ((Step1.refl S6.out.ok).mv ⟨hd7, hk7, rfl, rfl, rfl, rfl, rfl, rfl⟩ (Nat.le_refl _) faultSec_le)
                    have Hrow7 := hid (Hrow6.out.keep hk7 (row_ne Hrow6.out S6.out.ok.dec.row (by decide)))
                    have Herr7 := hid herr7
                    have Hie7 := hid (Herr6.out.turn hk7 hd7.row)
                    have S7 := hid (S6.out.trans Hst7.out.step)
                    clear hd7 hk7 herr7 S6 Hrow6 Herr6
                    have c0 : w7.cell? ⟨w.heap.size, 0, none⟩ = some (.int .u64 0) := Hrow7.out.cell 0
                    have c1 : w7.cell? ⟨w.heap.size, 1, none⟩ = some (.slice none 0 0) := Hrow7.out.cell 1
                    have c2 : w7.cell? ⟨w.heap.size, 2, none⟩ = some (.int .u8 0) := Hrow7.out.cell 2
                    have fr := Hrow7.out.frozen
                    go_big_wp2_with fail
                    obtain ⟨hS, hR, hK⟩ := store78 S7.out HB.out HB0.out Hrow7.out (.int .u64 0) (.slice none 0 0) (.int .u8 0)
                    obtain ⟨ln, col, hr7⟩ := Herr7.out
                    refine ret78 rfl rfl rfl rfl hR ⟨_, _, 0, none, 0, 0, 0, _, rfl, hS, .inl rfl, .inl rfl, .inr ⟨⟨g7, _, rfl, ⟨ln, col, hr7.keep hK (row_ne hr7 Hrow7.out (by decide))⟩, Hie7.out.turn hK hR⟩, rfl, ?_⟩, fun h4 => absurd (Hst1'.out h4).1 (fun e => by have := Hsec1.out; rw [e] at this; omega)⟩
                    show faultSec s2.sec = 4 ∨ faultSec s2.sec = 5
                    unfold faultSec
                    split <;> simp
        ·
          as_aux_lemma =>
            have Hbad := hid hbad
            have Hsec := hid hsec2
            clear hsec2
            obtain ⟨g, k, rfl, -⟩ := hbad.iface
            clear hbad
            go_big_wp2_with fail
            obtain ⟨hS, hR, hK⟩ := store78 S3.out HB.out HB0.out Hrow3.out (.int .u64 0) (.slice none 0 0) (.int .u8 0)
            exact ret78 rfl rfl rfl rfl hR ⟨_, _, 0, none, 0, 0, 0, s2, rfl, hS, .inl rfl, .inl rfl, .inr ⟨(Hbad.out.own Hrow3.out hK).v, rfl, .inl Hsec.out⟩, fun h4 => absurd (Hst1'.out h4).1 (fun e => by have := Hsec1.out; rw [e] at this; omega)⟩
  ·
    as_aux_lemma =>
      go_big_wp2_with fail
      obtain ⟨hS, hR, -⟩ := store78 S1.out HB.out HB0.out Hrow.out (.int .u64 0) (.slice none 0 0) (.int .u8 0)
      exact ret78 rfl rfl rfl rfl hR ⟨_, _, 0, none, 0, 0, 0, s1, rfl, hS, .inl rfl, .inl rfl, .inl rfl, fun h4 => ⟨rfl, rfl, by rw [(Hst1'.out h4).1]⟩⟩
  ·
    as_aux_lemma =>
      have Hbad := hid hbad
      have Hsec := hid hsec
      clear hsec
      obtain ⟨g, k, rfl, -⟩ := hbad.iface
      clear hbad
      go_big_wp2_with fail
      obtain ⟨hS, hR, hK⟩ := store78 S1.out HB.out HB0.out Hrow.out (.int .u64 0) (.slice none 0 0) (.int .u8 0)
      exact ret78 rfl rfl rfl rfl hR ⟨_, _, 0, none, 0, 0, 0, s1, rfl, hS, .inl rfl, .inl rfl, .inr ⟨(Hbad.out.own Hrow.out hK).v, rfl, Hsec.out⟩, fun h4 => absurd (Hst1'.out h4).2 (by simp)⟩
end Go.Proofs.YticdagnbnmnidaaGreatDoor
