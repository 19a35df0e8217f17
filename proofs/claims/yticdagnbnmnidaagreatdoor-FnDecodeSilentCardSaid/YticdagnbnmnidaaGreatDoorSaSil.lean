/- FnDecodeSilent: behind a fault, up to the next Next, no other part of the entry is told, and there is no further fault, whatever is called of a decoder of any text of at most 800 bytes. Conditions: the row's own. -/
import Derived.Test.YticdagnbnmnidaaGreatDoorCards
import Derived.Test.YticdagnbnmnidaaGreatDoorTie
import Derived.Test.YticdagnbnmnidaaGreatDoorSaDs
import Derived.Test.YticdagnbnmnidaaGreatDoorSaLf
import Derived.Test.YticdagnbnmnidaaGreatDoorSaSk
import Derived.WalkKit
import Derived.ProofKit
import Derived.OpenShut
import Derived.Carry
import Derived.Lay
import Derived.Deep.DeepHandedRow
import Derived.Deep.Slices
import Derived.SevenTiedAt
set_option linter.unusedSimpArgs false
set_option linter.unusedVariables false
namespace Go.Proofs.YticdagnbnmnidaaGreatDoor
open Go.ChangeShapes Go.WideShapes Go.ChangeAt Go.RowKit Go.ChangeMaps

theorem silent_own : ownKnob Tryz.prog.godebug = none := by kernel_rfl
theorem silent_plain : ∀ W : World, laidMetH Tryz.prog Rows.fnDecodeSilentRow.laid W → laidMet Tryz.prog Rows.fnDecodeSilentRow.laid W := fun W h => by
  rw [MakeChecks.laidMetH_plain _ _ _ (by kernel_rfl)] at h
  exact h

set_option maxRecDepth 100000 in
/-- a slice of calls, opened -/
theorem open_asks {H : Type} {enc : TypeId × Value → H} {W : World} {v : Value} {d : DataW H} {p : List MemPlace} (hv : Value.okWide Tryz.prog W .any 0 53 v) (h : DataW.Trod enc Tryz.prog W 0 (fun _ => true) true 53 v d p) :
    ∃ (A : Option Addr) (n cap : Nat) (op pr df : Nat → Int), v = .slice A n cap ∧ Asks W A n op pr df ∧ n ≤ 9223372036854775807 := by
  obtain ⟨fuel, hf⟩ := h
  obtain ⟨A, n, cap, rfl⟩ := okWide_slice Tryz.underlying53 hv
  rcases Deep.open_slice Tryz.underlying53 hf with ⟨h0, -⟩ | ⟨a, len, cp, m, k, D, Pl, hc, -, hl, hm, hmm, -, hx⟩
  · simp [Value.cells] at h0
    obtain ⟨rfl, rfl, rfl⟩ := h0
    exact ⟨none, 0, 0, fun _ => 0, fun _ => 0, fun _ => 0, rfl, ⟨fun h => absurd h (by omega)⟩, by omega⟩
  · simp [Value.cells] at hc
    obtain ⟨rfl, rfl, rfl⟩ := hc
    have c61 : Tryz.prog.cellsOf 61 = 3 := by kernel_rfl
    have c3 : Tryz.prog.cellsOf 3 = 1 := by kernel_rfl
    have c2 : Tryz.prog.cellsOf 2 = 1 := by kernel_rfl
    have hlm : n ≤ m := by rw [hmm]; split <;> omega
    have each : ∀ i, i < n → ∃ q : Int × Int × Int, W.cell? (a.add (i * 3)) = some (.int .i64 q.1) ∧ W.cell? (a.add (i * 3 + 1)) = some (.int .i64 q.2.1) ∧ W.cell? (a.add (i * 3 + 2)) = some (.int .i64 q.2.2) := by
      intro i hi
      obtain ⟨cs', h1, h2⟩ := hx i (by omega)
      rw [c61] at h1
      obtain ⟨-, hlen, hcell⟩ := World.cells?_some h1
      obtain ⟨ys, m', -, -, -, hyl, hg⟩ := DataW.trod_struct Tryz.underlying61 h2
      match ys, hyl, cs', hlen with
      | [y0, y1, y2], _, [v0, v1, v2], _ =>
        have g0 := hg 0 _ rfl
        have g1 := hg 1 _ rfl
        have g2 := hg 2 _ rfl
        simp only [c3, c2, List.drop_zero, List.drop_succ_cons, List.take_succ_cons, List.take_zero, List.getElem?_cons_zero, List.getElem?_cons_succ] at g0 g1 g2
        obtain ⟨z0, e0, -, -⟩ := DataW.trod_int Tryz.underlying3 g0
        obtain ⟨z1, e1, -, -⟩ := DataW.trod_int Tryz.underlying3 g1
        obtain ⟨z2, e2, -, -⟩ := DataW.trod_int Tryz.underlying2 g2
        simp [c3] at e0 e1
        simp [c2] at e2
        subst e0 e1 e2
        have k0 := hcell 0 (by omega)
        have k1 := hcell 1 (by omega)
        have k2 := hcell 2 (by omega)
        rw [addAdd] at k0 k1 k2
        exact ⟨(z0, z1, z2), k0, k1, k2⟩
    obtain ⟨q, hq⟩ := Deep.choose_lt each
    refine ⟨some a, n, cap, fun i => (q i).1, fun i => (q i).2.1, fun i => (q i).2.2, rfl, ⟨fun hn => ?_⟩, by unfold maxLen at hm; omega⟩
    obtain ⟨b, off, sp⟩ := a
    obtain rfl : sp = none := by
      have e := (hq 0 hn).1
      have e0 : (⟨b, off, sp⟩ : Addr).add (0 * 3) = ⟨b, off, sp⟩ := by simp [Addr.add]
      rw [e0] at e
      exact Go.Proofs.cell_spot e
    have ad : ∀ j, (⟨b, off, none⟩ : Addr).add j = ⟨b, off + j, none⟩ := fun j => by unfold Addr.add; split <;> simp_all
    refine ⟨b, off, rfl, fun i hi => ?_⟩
    obtain ⟨k0, k1, k2⟩ := hq i hi
    rw [ad] at k0 k1 k2
    exact ⟨k0, by simpa [Nat.add_assoc] using k1, by simpa [Nat.add_assoc] using k2⟩

set_option maxRecDepth 100000 in
/-- the law, whatever memory holds beside what the row lists -/
theorem silent_walk (W : World) (hL : laidMet Tryz.prog Rows.fnDecodeSilentRow.laid W) (hz : 25 < W.heap.size) (s : ByteArray) (hs : s.size ≤ maxLen) (A : Option Addr) (n cap : Nat) (op pr df : Nat → Int) (ha : Asks W A n op pr df) (hn : n ≤ 9223372036854775807) :
    Calls Tryz.prog 5 #[.string s, .slice A n cap] W fun e W' => e = .returned (.bool true) ∧ Same W W' := by
  obtain ⟨hT, hU, a0, a4, a5, a10, hE⟩ := laid_facts hL
  refine law_any s A n cap op pr df W ha hn (by unfold maxLen at hs; omega) ?_
  intro w1 hk h800 h200 hok
  have hlay : Lay W W := fun k _ => rfl
  exact script_any W (fun v n f w hl hr hm => valid_any v n f w hr hm (hU.lay hl)) hT hz a0 a4 a5 a10 hE s A n cap op pr df w1 (ha.same hk) (hlay.same hk) hk.size h800 h200 hok

theorem silent_laidOut : laidOutB Tryz.prog = true := by kernel_rfl

set_option maxRecDepth 100000 in
/-- the contract, as the row asks it -/
theorem silent_contract (H : Type) (enc : TypeId × Value → H) (W : World) (args : Array Value) (ds gs : List (DataW H)) (before : List MemPlace)
    (hval : ∀ (j : Nat) t v, Tryz.f5.params[j]? = some t → args[j]? = some v → Value.okWide Tryz.prog W .any 0 t v)
    (hW : DataW.Whole enc Tryz.prog Tryz.f5.params.toList Rows.fnDecodeSilentSpec.vars false W args.toList ds gs before) (hL : laidMet Tryz.prog Rows.fnDecodeSilentRow.laid W) (hz : 25 < W.heap.size) :
    Calls Tryz.prog 5 args W fun e W' => ∃ v, e = .returned v ∧ Rows.fnDecodeSilentSpec.post enc Tryz.prog Tryz.f5 false true false false W args v W' := by
  have hW' := hW
  obtain ⟨p, q, hA0, hV, rfl, hfz, hnd⟩ := hW
  have hA : DataW.TrodAll enc Tryz.prog W 0 (fun _ => true) true Tryz.f5.params.toList args.toList ds p := hA0
  rw [Tryz.params5] at hA hval
  obtain ⟨v0, v1, d0, d1, p0, p1, rfl, rfl, rfl, h0, h1⟩ := trodAll_two hA
  obtain ⟨rfl, rfl⟩ := trodVars_none hV
  obtain ⟨s, rfl, rfl, rfl, hs⟩ := open_string Tryz.underlying9 (hval 0 9 v0 rfl rfl) h0
  obtain ⟨A, n, cap, op, pr, df, rfl, ha, hn⟩ := open_asks (hval 1 53 v1 rfl rfl) h1
  simp only [List.append_nil, List.nil_append] at hW'
  have hlt : ∀ x ∈ p1, x.block < W.heap.size := fun x hx => by simpa using hW'.lt x hx
  refine (silent_walk W hL hz s hs A n cap op pr df ha hn).mono fun e W' ⟨he, hk⟩ => ?_
  subst he
  have hb : Below W.heap.size W W' := hk.below (Nat.le_refl _) (fun _ _ h => h)
  exact ⟨_, rfl, _, _, _, [], _, [], hW', trodAll_mk1 (shut_bool Tryz.underlying4 _), trodAll_mk2 (shut_string Tryz.underlying9 hs) (Below.trod silent_laidOut (by kernel_rfl) (of_decide_eq_true (by kernel_rfl)) h1 hb hlt), rfl, hb.frame _, fun h => by cases h⟩

set_option maxRecDepth 100000 in
theorem silent_met (os : Os) (args : Array Value) : laidMetH Tryz.prog Rows.fnDecodeSilentRow.laid ((World.laidAll Tryz.prog os Rows.fnDecodeSilentRow.laid).forCall (fun _ _ => 0) ⟨#[], args, []⟩).memory := by
  rw [MakeChecks.laidMetH_plain _ _ _ (by kernel_rfl)]
  exact laidMet_laidAll _ (by kernel_rfl) (by kernel_rfl)
set_option maxRecDepth 100000 in
theorem silent_reads (os : Os) {H : Type} (enc : TypeId × Value → H) : ∃ places, DataW.whole enc Tryz.prog ((World.laidAll Tryz.prog os Rows.fnDecodeSilentRow.laid).forCall (fun _ _ => 0) ⟨#[], #[.string ⟨#[]⟩, .slice none 0 0], []⟩).memory
    Tryz.f5.params.toList Rows.fnDecodeSilentSpec.vars false #[Value.string ⟨#[]⟩, Value.slice none 0 0].toList 8 = some ([.lit (.string []), .nil], [], places) := ⟨[], by kernel_rfl⟩
theorem silent_heap {W : World} (h : W.ShapedOpen Tryz.prog) : 25 < W.heap.size := by
  have e : ((begin Tryz.prog (fun _ _ => 0) default).world.heap[25]?).bind Obj.row? = some (#[.nilIface], 80) := by kernel_rfl
  obtain ⟨cs, hc, -⟩ := h.1 25 _ _ (of_decide_eq_true (by kernel_rfl)) e
  exact (Array.getElem?_eq_some_iff.1 hc).1

set_option maxRecDepth 100000 in
theorem silent_lifted (os : Os) (started : os.Started) (H : Type) (enc : TypeId × Value → H) (F : Stop.Interp) :
    ReturnsInHanded {} Tryz.checked os 5 .any ((OpenSpec.ofChange Rows.fnDecodeSilentSpec).preRow enc Tryz.prog Tryz.f5 Rows.fnDecodeSilentRow.domain false Rows.fnDecodeSilentRow.laid) (((OpenSpec.ofChange Rows.fnDecodeSilentSpec).at F).post enc Tryz.prog Tryz.f5 false true false false) := by
  obtain ⟨places, hx⟩ := silent_reads os enc
  have hok : Input.okWideB Tryz.checked.prog ((World.laidAll Tryz.prog os Rows.fnDecodeSilentRow.laid).forCall (fun _ _ => 0) ⟨#[], #[.string ⟨#[]⟩, .slice none 0 0], []⟩) 5 ⟨#[], #[.string ⟨#[]⟩, .slice none 0 0], []⟩ = true := by kernel_rfl
  refine returnsInHanded_of_row (C := Tryz.checked) (s := OpenSpec.ofChange Rows.fnDecodeSilentSpec) silent_own started (by kernel_rfl) Tryz.func5
    ⟨World.laidAll Tryz.prog os Rows.fnDecodeSilentRow.laid, fun _ _ => 0, ⟨#[], #[.string ⟨#[]⟩, .slice none 0 0], []⟩, World.laidAll_os _ _ _, World.shaped_of_ZipB (by kernel_rfl) (by kernel_rfl), (Input.okWide_of_okWideB (base := 0) hok).1, (Input.okWide_of_okWideB hok).2,
      OpenSpec.preRow_of_cond 8 hx (by kernel_rfl) (fun k hk => by cases hk) (by kernel_rfl) (silent_met os _), by
        simp only [Assume.holds]
        exact ⟨by simp, by simp, fun _ => Modest.zero, by simp, by simp⟩⟩ ?_
  intro W base args ds gs before hval hW _ _ _ hL hsh _
  exact silent_contract H enc W args ds gs before hval hW (silent_plain W hL) (silent_heap hsh)

theorem silent_said : Rows.FnDecodeSilentSaid :=
  OpenClaim.holds_of_cond 5 Tryz.f5 rfl rfl rfl rfl rfl rfl rfl ⟨rfl, rfl, rfl, rfl, rfl⟩ rfl rfl rfl rfl rfl (by kernel_rfl) Tryz.func5 decodeSilent_closed
    (of_decide_eq_true (by kernel_rfl)) (by unfold Func.isWrapper; first | (rw [if_pos (by decide +kernel)]; kernel_rfl) | (rw [if_neg (by decide +kernel)]; exact ⟨rfl, rfl⟩))
    (fun os started H enc _ F => by rw [OpenClaim.pre_eq_preRow]; exact silent_lifted os started H enc F)

theorem silent_stand (f : FuncId) (fn : Func) (hf : Tryz.pinned.checked.prog.funcNamed "pub-teleprinter/laws.FnDecodeSilent" = some f) (hfn : Tryz.pinned.checked.prog.funcs[f]? = some fn) :
    true = Tryz.pinned.checked.prog.looks [] ∧ ∀ (j : Nat) t, fn.params[j]? = some t → Tryz.pinned.checked.prog.wantsStandIn t = false := by
  obtain rfl : f = 5 := Option.some.inj ((show Tryz.prog.funcNamed "pub-teleprinter/laws.FnDecodeSilent" = some 5 by kernel_rfl).symm.trans hf) |>.symm
  obtain rfl : fn = Tryz.f5 := (Option.some.inj (Tryz.func5.symm.trans hfn)).symm
  refine ⟨by kernel_rfl, fun j t ht => ?_⟩
  rw [Tryz.params5] at ht
  have hm : t ∈ [9, 53] := by simpa using Array.mem_of_getElem? ht
  have hall : ([9, 53].all fun u => !Tryz.prog.wantsStandIn u) = true := by kernel_rfl
  exact (show Tryz.prog.wantsStandIn t = false by simpa using List.all_eq_true.1 hall t hm)

/-- THE CARD. -/
theorem silent_card : Rows.FnDecodeSilentCardSaid :=
  Claim7.holds_tied_plain_at .later [] _ _ _ _ silent_said (fun _ h => by cases h) (by kernel_rfl) (fun _ h => by cases h) fnDecodeSilent_row_tie rfl ⟨rfl, rfl⟩ (by kernel_rfl) rfl silent_stand (by kernel_rfl)
#print axioms silent_card
end Go.Proofs.YticdagnbnmnidaaGreatDoor
