/- What a row's list of package-level variables gives the walks: the tables and the error variables that the decoder and ParseFloat read. Conditions: none. What the list of FnDecodeSilent's row gives: all tables of ParseFloat, utf8's two tables, the four error variables. Conditions: none. -/
import Derived.Test.YticdagnbnmnidaaGreatDoorRows
import Derived.Test.YticdagnbnmnidaaGreatDoorSaFbits
import Derived.Test.YticdagnbnmnidaaGreatDoorSaCount
import Derived.Test.YticdagnbnmnidaaGreatDoorSaValid
import Derived.Lib.LaidU8
import Derived.Stop.LaidErr
import Derived.OpenShut
set_option linter.unusedSimpArgs false
set_option linter.unusedVariables false
namespace Go.Proofs.YticdagnbnmnidaaGreatDoor
open Go.RowKit Go.ChangeShapes Go.WideShapes

section
variable {P : Program} {w : World}

/-- variable g, of type t, reads as d, and its places are not marked -/
def Holds (P : Program) (w : World) (g : Nat) (t : TypeId) (d : DataW Unit) : Prop :=
  ∃ (cs : List Value) (fuel : Nat) (p : List MemPlace), (∀ i, w.cell? ⟨g, i, none⟩ = cs[i]?) ∧ DataW.trod (fun _ => ()) P w 0 (fun _ => true) false fuel t cs = some (d, p) ∧
    ∀ b off, MemPlace.cell b off ∈ MemPlace.row ⟨g, 0, none⟩ cs.length ++ p → (∃ c t, w.heap[b]? = some (.cells c t (0, 0))) ∧ ∀ u v, w.cell? ⟨b, off, none⟩ = some (.iface u v) → Value.okWide P w .any 0 u v

theorem laid_at : ∀ {l : List (String × DataW Unit)} {ps : List MemPlace}, DataW.LaidVars P w l ps → ∀ n d, (n, d) ∈ l →
    ∃ g t cs fuel p, P.globalNamed n = some g ∧ (P.globals[g]?).map (·.type) = some t ∧ w.var? P n = some cs ∧ DataW.trod (fun _ => ()) P w 0 (fun _ => true) false fuel t cs.toList = some (d, p) ∧
      ∀ x, x ∈ MemPlace.row ⟨g, 0, none⟩ cs.size ++ p → x ∈ ps
  | [], _, _, _, _, hm => by cases hm
  | (n', d') :: r, ps, h, n, d, hm => by
    obtain ⟨g, t, cs, fuel, p, q, h1, h2, h3, h4, h5, rfl⟩ := h
    rcases List.mem_cons.1 hm with e | e
    · cases e
      exact ⟨g, t, cs, fuel, p, h1, h2, h3, h4, fun x hx => List.mem_append_left _ hx⟩
    · obtain ⟨g', t', cs', fuel', p', k1, k2, k3, k4, k5⟩ := laid_at h5 n d e
      exact ⟨g', t', cs', fuel', p', k1, k2, k3, k4, fun x hx => List.mem_append_right _ (k5 x hx)⟩

theorem holds_of {l : List (String × DataW Unit)} (h : laidMet P l w) {n : String} {d : DataW Unit} (hm : (n, d) ∈ l) {g : Nat} {t : TypeId} (hg : P.globalNamed n = some g) (ht : (P.globals[g]?).map (·.type) = some t) : Holds P w g t d := by
  obtain ⟨ps, hv, _, hrows⟩ := h
  obtain ⟨g', t', cs, fuel, p, k1, k2, k3, k4, k5⟩ := laid_at hv n d hm
  obtain rfl := Option.some.inj (hg.symm.trans k1)
  obtain rfl := Option.some.inj (ht.symm.trans k2)
  refine ⟨cs.toList, fuel, p, fun i => ?_, k4, fun b off hx => hrows b off (k5 _ (by simpa using hx))⟩
  rw [World.var?_cell hg k3 i]; simp

theorem addAdd (a : Addr) (i j : Nat) : (a.add i).add j = a.add (i + j) := by
  obtain ⟨b, off, sp⟩ := a
  unfold Addr.add
  by_cases hi : i = 0
  · subst hi; simp
  · by_cases hj : j = 0
    · subst hj; simp
    · simp [hi, hj, Nat.add_assoc]
theorem drop_one {cs : List Value} {i : Nat} {v : Value} (h : (cs.drop i).take 1 = [v]) : cs[i]? = some v := by
  have := congrArg (·[0]?) h
  simpa [List.getElem?_take, List.getElem?_drop] using this

/-- an array of integers -/
theorem Holds.ints {g : Nat} {t e : TypeId} {d : DataW Unit} {n : Nat} {k : IntKind} (h : Holds P w g t d) (ht : P.underlying t = some (.array n e)) (he : P.underlying e = some (.int k)) (ce : P.cellsOf e = 1) (i : Nat) (hi : i < n) :
    ∃ z, w.cell? ⟨g, i, none⟩ = some (.int k z) ∧ (Lit.int k z).wf = true := by
  obtain ⟨cs, fuel, p, hc, hd, -⟩ := h
  obtain ⟨xs, m, -, -, -, hxl, hall⟩ := DataW.trod_array ht hd
  have h1 := hall i hi
  rw [ce, Nat.mul_one, List.getElem?_eq_getElem (by omega)] at h1
  obtain ⟨z, hz, -, hw⟩ := DataW.trod_int he h1
  exact ⟨z, by rw [hc]; exact drop_one hz, hw⟩

/-- an array of pairs of integers -/
theorem Holds.pairs {g : Nat} {t e : TypeId} {d : DataW Unit} {n : Nat} {k : IntKind} {f0 f1 : Field} (h : Holds P w g t d) (ht : P.underlying t = some (.array n e)) (he : P.underlying e = some (.struct #[f0, f1])) (ce : P.cellsOf e = 2)
    (o0 : f0.offset = 0) (o1 : f1.offset = 1) (k0 : P.underlying f0.type = some (.int k)) (k1 : P.underlying f1.type = some (.int k)) (c0 : P.cellsOf f0.type = 1) (c1 : P.cellsOf f1.type = 1) (i : Nat) (hi : i < n * 2) :
    ∃ z, w.cell? ⟨g, i, none⟩ = some (.int k z) ∧ (Lit.int k z).wf = true := by
  obtain ⟨cs, fuel, p, hc, hd, -⟩ := h
  obtain ⟨xs, m, -, -, -, hxl, hall⟩ := DataW.trod_array ht hd
  have h1 := hall (i / 2) (by omega)
  rw [ce, List.getElem?_eq_getElem (by omega)] at h1
  obtain ⟨ys, m', -, -, hlen, hyl, hf⟩ := DataW.trod_struct he h1
  have hyl' : ys.length = 2 := hyl
  have pick : ∀ (j : Nat) (f : Field), (#[f0, f1] : Array Field)[j]? = some f → f.offset = j → P.underlying f.type = some (.int k) → P.cellsOf f.type = 1 → j < 2 → ∃ z, w.cell? ⟨g, i / 2 * 2 + j, none⟩ = some (.int k z) ∧ (Lit.int k z).wf = true := by
    intro j f hj ho hk hcf hj2
    have h2 := hf j f hj
    rw [ho, hcf, List.getElem?_eq_getElem (by omega)] at h2
    obtain ⟨z, hz, -, hw⟩ := DataW.trod_int hk h2
    refine ⟨z, ?_, hw⟩
    have h3 := drop_one hz
    rw [List.getElem?_take, if_pos hj2, List.getElem?_drop] at h3
    rw [hc]; exact h3
  rcases Nat.mod_two_eq_zero_or_one i with h0 | h0
  · have := pick 0 f0 rfl o0 k0 c0 (by omega)
    rwa [show i / 2 * 2 + 0 = i by omega] at this
  · have := pick 1 f1 rfl o1 k1 c1 (by omega)
    rwa [show i / 2 * 2 + 1 = i by omega] at this

/-- a slice: each element's cells -/
theorem Holds.slice {g : Nat} {t e : TypeId} {ds : List (DataW Unit)} (h : Holds P w g t (.slice ds [])) (ht : P.underlying t = some (.slice e)) (hpos : 0 < ds.length) (hce : 0 < P.cellsOf e) :
    ∃ b off cap, w.cell? ⟨g, 0, none⟩ = some (.slice (some ⟨b, off, none⟩) ds.length cap) ∧
      ∀ i d, ds[i]? = some d → ∃ (cs : List Value) (fuel : Nat) (p : List MemPlace), cs.length = P.cellsOf e ∧ (∀ j, j < P.cellsOf e → w.cell? ⟨b, off + (i * P.cellsOf e + j), none⟩ = cs[j]?) ∧ DataW.trod (fun _ => ()) P w 0 (fun _ => true) false fuel e cs = some (d, p) := by
  obtain ⟨cs, fuel, p, hc, hd, -⟩ := h
  rcases DataW.trod_slice ht hd with ⟨-, hx⟩ | ⟨a, len, cap, elems, rest, n, -, rfl, hx, -, -, -, hlen, hel, -, -⟩
  · cases hx
  injection hx with hx1 hx2
  injection hx1 with hx3 hx4
  have hl : ds.length = len := by rw [hx3]; simpa using hlen
  have each : ∀ i d, ds[i]? = some d → ∃ (cs : List Value) (p : List MemPlace), cs.length = P.cellsOf e ∧ (∀ j, j < P.cellsOf e → w.cell? (a.add (i * P.cellsOf e + j)) = cs[j]?) ∧ DataW.trod (fun _ => ()) P w 0 (fun _ => true) false n e cs = some (d, p) := by
    intro i d hi
    have hil : i < ds.length := (List.getElem?_eq_some_iff.1 hi).1
    have h1 := hel i (by omega)
    rw [hx3, List.getElem?_map] at hi
    obtain ⟨y, hy, rfl⟩ := Option.map_eq_some_iff.1 hi
    rw [hy] at h1
    obtain ⟨cs', h2, h3⟩ := Option.bind_eq_some_iff.1 h1
    obtain ⟨-, hcl, hcells⟩ := World.cells?_some h2
    refine ⟨cs', y.2, hcl, fun j hj => ?_, h3⟩
    rw [← hcells j hj, addAdd]
  obtain ⟨b, off, sp⟩ := a
  obtain rfl : sp = none := by
    obtain ⟨cs', p', hcl, hcells, -⟩ := each 0 ds[0] (by rw [List.getElem?_eq_getElem hpos])
    have h0 := hcells 0 hce
    rw [List.getElem?_eq_getElem (by omega)] at h0
    have e0 : (⟨b, off, sp⟩ : Addr).add (0 * P.cellsOf e + 0) = ⟨b, off, sp⟩ := by simp [Addr.add]
    rw [e0] at h0
    exact Go.Proofs.cell_spot h0
  refine ⟨b, off, cap, ?_, fun i d hi => ?_⟩
  · rw [hc 0, hl]; rfl
  · obtain ⟨cs', p', hcl, hcells, ht⟩ := each i d hi
    refine ⟨cs', n, p', hcl, fun j hj => ?_, ht⟩
    rw [← hcells j hj]
    congr 1
    unfold Addr.add
    split <;> simp_all

theorem trod_float {t : TypeId} {k : FloatKind} {spare : Nat → Bool} {held : Bool} {base fuel : Nat} {cs : List Value} {x : DataW Unit × List MemPlace} (ht : P.underlying t = some (.float k)) (h : DataW.trod (fun _ => ()) P w base spare held fuel t cs = some x) :
    ∃ b, cs = [.float k b] ∧ x = (.lit (.float k b), []) := by
  cases fuel with
  | zero => simp [DataW.trod] at h
  | succ n =>
    unfold DataW.trod at h
    rw [ht] at h
    split at h <;> simp_all

/-- a slice of floats -/
theorem Holds.floats {g : Nat} {t e : TypeId} {k : FloatKind} (bs : List Nat) (h : Holds P w g t (.slice (bs.map fun b => .lit (.float k b)) [])) (ht : P.underlying t = some (.slice e)) (he : P.underlying e = some (.float k)) (ce : P.cellsOf e = 1) (hpos : 0 < bs.length) :
    ∃ b off cap, w.cell? ⟨g, 0, none⟩ = some (.slice (some ⟨b, off, none⟩) bs.length cap) ∧ ∀ i, i < bs.length → w.cell? ⟨b, off + i, none⟩ = some (.float k (bs.getD i 0)) := by
  obtain ⟨b, off, cap, h0, h1⟩ := h.slice ht (by simpa using hpos) (by omega)
  refine ⟨b, off, cap, by simpa using h0, fun i hi => ?_⟩
  obtain ⟨cs, fuel, p, hl, hc, hd⟩ := h1 i (.lit (.float k (bs.getD i 0))) (by simp [hi])
  obtain ⟨z, rfl, hx⟩ := trod_float he hd
  have h2 := hc 0 (by omega)
  rw [ce] at h2
  simp at hx
  simpa [hx.1] using h2
/-- a slice of integers -/
theorem Holds.slice_ints {g : Nat} {t e : TypeId} {k : IntKind} (bs : List Int) (h : Holds P w g t (.slice (bs.map fun b => .lit (.int k b)) [])) (ht : P.underlying t = some (.slice e)) (he : P.underlying e = some (.int k)) (ce : P.cellsOf e = 1) (hpos : 0 < bs.length) :
    ∃ b off cap, w.cell? ⟨g, 0, none⟩ = some (.slice (some ⟨b, off, none⟩) bs.length cap) ∧ ∀ i, i < bs.length → w.cell? ⟨b, off + i, none⟩ = some (.int k (bs.getD i 0)) := by
  obtain ⟨b, off, cap, h0, h1⟩ := h.slice ht (by simpa using hpos) (by omega)
  refine ⟨b, off, cap, by simpa using h0, fun i hi => ?_⟩
  obtain ⟨cs, fuel, p, hl, hc, hd⟩ := h1 i (.lit (.int k (bs.getD i 0))) (by simp [hi])
  obtain ⟨z, rfl, hx, -⟩ := DataW.trod_int he hd
  have h2 := hc 0 (by omega)
  rw [ce] at h2
  simp at hx
  simpa [hx] using h2
/-- a slice of pairs of a number and a text -/
theorem Holds.cheats {g : Nat} {t e : TypeId} {k : IntKind} {f0 f1 : Field} (rs : List (Nat × List UInt8)) (h : Holds P w g t (.slice (rs.map fun x => .agg [.lit (.int k x.1), .lit (.string x.2)]) [])) (ht : P.underlying t = some (.slice e))
    (he : P.underlying e = some (.struct #[f0, f1])) (ce : P.cellsOf e = 2) (o0 : f0.offset = 0) (o1 : f1.offset = 1) (k0 : P.underlying f0.type = some (.int k)) (k1 : P.underlying f1.type = some .string) (c0 : P.cellsOf f0.type = 1) (c1 : P.cellsOf f1.type = 1) (hpos : 0 < rs.length) :
    ∃ b off cap, w.cell? ⟨g, 0, none⟩ = some (.slice (some ⟨b, off, none⟩) rs.length cap) ∧ ∀ i x, rs[i]? = some x → ∃ s : ByteArray, s.data.toList = x.2 ∧ w.cell? ⟨b, off + i * 2, none⟩ = some (.int k (x.1 : Nat)) ∧ w.cell? ⟨b, off + i * 2 + 1, none⟩ = some (.string s) := by
  obtain ⟨b, off, cap, h0, h1⟩ := h.slice ht (by simpa using hpos) (by omega)
  refine ⟨b, off, cap, by simpa using h0, fun i x hi => ?_⟩
  obtain ⟨cs, fuel, p, hl, hc, hd⟩ := h1 i (.agg [.lit (.int k x.1), .lit (.string x.2)]) (by simp [hi])
  obtain ⟨ys, m', -, hy, hlen, hyl, hf⟩ := DataW.trod_struct he hd
  rw [ce] at hl hc
  match ys, hyl, cs, hl with
  | [y0, y1], _, [v0, v1], _ =>
    have g0 := hf 0 f0 rfl
    have g1 := hf 1 f1 rfl
    simp only [o0, o1, c0, c1, List.drop_zero, List.drop_succ_cons, List.take_succ_cons, List.take_zero, List.getElem?_cons_zero, List.getElem?_cons_succ] at g0 g1
    obtain ⟨z, hz, rfl, -⟩ := DataW.trod_int k0 g0
    obtain ⟨s, hs, rfl, -⟩ := DataW.trod_string k1 g1
    simp at hy hz hs
    subst hz hs
    have e0 := hc 0 (by omega)
    have e1 := hc 1 (by omega)
    refine ⟨s, hy.1.2.symm, ?_, ?_⟩
    · simpa [hy.1.1] using e0
    · simpa [Nat.add_assoc] using e1
end

set_option maxRecDepth 100000 in
/-- an error variable -/
theorem Holds.err {w : World} {g : Nat} {text : List UInt8} (h : Holds Tryz.prog w g 80 (.iface "*errors.errorString" (.ptr (.agg [.lit (.string text)])))) (hrow : ∀ u, Tryz.prog.typeName? 3 u = some "*errors.errorString" → u = 240) : ∃ a, EPtr w g a := by
  obtain ⟨cs, fuel, p, hc, hd, hp⟩ := h
  have ok0 : ∀ u v, cs = [.iface u v] → Value.okWide Tryz.prog w .any 0 u v := fun u v e => by
    subst e
    exact (hp g 0 (by simp [MemPlace.row])).2 u v (by rw [hc]; rfl)
  obtain ⟨a, s, rfl, hcell, -, -, rfl⟩ := errorString_of_trod Tryz.underlying80 hrow Tryz.underlying240 Tryz.underlying242 rfl rfl Tryz.underlying9 (by kernel_rfl) (by kernel_rfl) hd ok0
  obtain ⟨b, off, sp⟩ := a
  obtain rfl := Go.Proofs.cell_spot hcell
  refine ⟨⟨b, off, none⟩, by rw [hc]; rfl, ?_⟩
  obtain ⟨⟨c, t, hh⟩, -⟩ := hp b off (by simp [MemPlace.row])
  exact ⟨c, t, hh⟩
end Go.Proofs.YticdagnbnmnidaaGreatDoor
namespace Go.Proofs.YticdagnbnmnidaaGreatDoor
open Go.RowKit Go.ChangeShapes Go.WideShapes

/-- a row of the table of shifts is right -/
def cheatB (k : Nat) (x : Nat × List UInt8) : Bool :=
  Plain.pv (fun t => (x.2.getD t 0).toNat - 48) x.2.length == 5 ^ k && (decide (0 < x.2.length) && (decide (x.2.length ≤ k) && (x.1 == k - x.2.length + 1 && (decide (10 ^ (x.2.length - 1) ≤ 5 ^ k) && (decide (5 ^ k < 10 ^ x.2.length) &&
    (((x.2.getD (x.2.length - 1) 0).toNat - 48 != 0) && ((List.range x.2.length).all (fun t => decide (48 ≤ (x.2.getD t 0).toNat ∧ (x.2.getD t 0).toNat ≤ 57)) && decide (x.2.length ≤ 100))))))))
theorem cheats_right : ((List.range 61).all fun k => k == 0 || cheatB k (Pinned.cheatRows.getD k (0, []))) = true := by decide +kernel
theorem cheats_len : Pinned.cheatRows.length = 61 := by decide +kernel

theorem cheat_of {k : Nat} (hk : 1 ≤ k) (hk2 : k ≤ 60) (s : ByteArray) (hs : s.data.toList = (Pinned.cheatRows.getD k (0, [])).2) :
    Plain.Cheat k s.size (Pinned.cheatRows.getD k (0, [])).1 (cutD s) ∧ s.size ≤ 100 ∧ ∀ i, i < s.size → 48 ≤ (s.data.toList.getD i 0).toNat := by
  have h := List.all_eq_true.1 cheats_right k (by simp; omega)
  have hk0 : (k == 0) = false := by simp; omega
  rw [hk0, Bool.false_or] at h
  have hl : s.size = (Pinned.cheatRows.getD k (0, [])).2.length := by rw [← hs]; exact Array.length_toList.symm
  have hc : cutD s = fun t => ((Pinned.cheatRows.getD k (0, [])).2.getD t 0).toNat - 48 := by funext t; unfold cutD; rw [hs]
  rw [hl, hc, hs]
  generalize Pinned.cheatRows.getD k (0, []) = x at *
  unfold cheatB at h
  simp only [Bool.and_eq_true, beq_iff_eq, decide_eq_true_eq, bne_iff_ne, List.all_eq_true, List.mem_range] at h
  obtain ⟨h1, h2, h3, h4, h5, h6, h7, h8, h9⟩ := h
  exact ⟨⟨h1, h2, h3, h4, h5, h6, h7, fun t ht => by have := h8 t ht; omega⟩, h9, fun i hi => (h8 i hi).1⟩

set_option maxRecDepth 1000000 in
theorem info_of {w : World} {g : Nat} {a b c : Int} (h : Holds Tryz.prog w g 357 (.agg [.lit (.int .u64 a), .lit (.int .u64 b), .lit (.int .i64 c)])) :
    (w.cell? ⟨g, 0, none⟩ = some (.int .u64 a) ∧ w.cell? ⟨g, 1, none⟩ = some (.int .u64 b) ∧ w.cell? ⟨g, 2, none⟩ = some (.int .i64 c)) ∧ ∃ cs t, w.heap[g]? = some (.cells cs t (0, 0)) := by
  obtain ⟨cs, fuel, p, hc, hd, hp⟩ := h
  obtain ⟨ys, m', -, hy, hlen, hyl, hf⟩ := DataW.trod_struct Tryz.underlying357 hd
  have h3 : cs.length = 3 := by rw [hlen]; kernel_rfl
  match ys, hyl, cs, h3 with
  | [y0, y1, y2], _, [v0, v1, v2], _ =>
    have c260 : Tryz.prog.cellsOf 260 = 1 := by kernel_rfl
    have c3 : Tryz.prog.cellsOf 3 = 1 := by kernel_rfl
    have g0 := hf 0 _ rfl
    have g1 := hf 1 _ rfl
    have g2 := hf 2 _ rfl
    simp only [c260, c3, List.drop_zero, List.drop_succ_cons, List.take_succ_cons, List.take_zero, List.getElem?_cons_zero, List.getElem?_cons_succ] at g0 g1 g2
    obtain ⟨z0, e0, rfl, -⟩ := DataW.trod_int Tryz.underlying260 g0
    obtain ⟨z1, e1, rfl, -⟩ := DataW.trod_int Tryz.underlying260 g1
    obtain ⟨z2, e2, rfl, -⟩ := DataW.trod_int Tryz.underlying3 g2
    simp at hy
    simp [c260] at e0 e1
    simp [c3] at e2
    obtain ⟨⟨rfl, rfl, rfl⟩, -⟩ := hy
    subst e0 e1 e2
    refine ⟨⟨by rw [hc]; rfl, by rw [hc]; rfl, by rw [hc]; rfl⟩, ?_⟩
    obtain ⟨⟨c, t, hh⟩, -⟩ := hp g 0 (by simp [MemPlace.row])
    exact ⟨c, t, hh⟩

theorem star240 : "*" ++ "errors.errorString" = "*errors.errorString" := by decide
theorem row240 (u : TypeId) (h : Tryz.prog.typeName? 3 u = some "*errors.errorString") : u = 240 :=
  typeName_ptr_named (nm := "errors.errorString") (by rw [star240]; kernel_rfl) (by kernel_rfl) (by decide) u (by rw [star240]; exact h)

set_option maxRecDepth 1000000 in
theorem laid_facts {W : World} (h : laidMet Tryz.prog Rows.fnDecodeSilentRow.laid W) : FTabs W ∧ U8Tabs W ∧ ∃ a0 a4 a5 a10, EVars W a0 a4 a5 a10 := by
  have c5 : Tryz.prog.cellsOf 5 = 1 := by kernel_rfl
  have c3 : Tryz.prog.cellsOf 3 = 1 := by kernel_rfl
  have c9 : Tryz.prog.cellsOf 9 = 1 := by kernel_rfl
  have c33 : Tryz.prog.cellsOf 33 = 1 := by kernel_rfl
  have hrow := row240
  have H32 := holds_of h (n := "internal/strconv.float32info") (g := 15) (t := 357) (List.mem_of_getElem? (i := 2) rfl) (by kernel_rfl) (by kernel_rfl)
  have H64 := holds_of h (n := "internal/strconv.float64info") (g := 16) (t := 357) (List.mem_of_getElem? (i := 3) rfl) (by kernel_rfl) (by kernel_rfl)
  have Hop := holds_of h (n := "internal/strconv.optimize") (g := 7) (t := 4) (List.mem_of_getElem? (i := 4) rfl) (by kernel_rfl) (by kernel_rfl)
  have Hpw := holds_of h (n := "internal/strconv.powtab") (g := 18) (t := 23) (List.mem_of_getElem? (i := 5) rfl) (by kernel_rfl) (by kernel_rfl)
  have Hten := holds_of h (n := "internal/strconv.float64pow10") (g := 19) (t := 374) (List.mem_of_getElem? (i := 6) rfl) (by kernel_rfl) (by kernel_rfl)
  have Hacc := holds_of h (n := "unicode/utf8.acceptRanges") (g := 2) (t := 259) (List.mem_of_getElem? (i := 9) rfl) (by kernel_rfl) (by kernel_rfl)
  have Hrng := holds_of h (n := "strconv.ErrRange") (g := 4) (t := 80) (List.mem_of_getElem? (i := 10) rfl) (by kernel_rfl) (by kernel_rfl)
  have Hsyn := holds_of h (n := "strconv.ErrSyntax") (g := 10) (t := 80) (List.mem_of_getElem? (i := 11) rfl) (by kernel_rfl) (by kernel_rfl)
  have Hbad := holds_of h (n := "pub-teleprinter/pub/lineprotocol/lineprotocol.errInvalidBool") (g := 5) (t := 80) (List.mem_of_getElem? (i := 13) rfl) (by kernel_rfl) (by kernel_rfl)
  have Hoor := holds_of h (n := "pub-teleprinter/pub/lineprotocol/lineprotocol.ErrValueOutOfRange") (g := 0) (t := 80) (List.mem_of_getElem? (i := 14) rfl) (by kernel_rfl) (by kernel_rfl)
  have Hch := holds_of h (n := "internal/strconv.leftcheats") (g := 12) (t := 346) (List.mem_of_getElem? (i := 15) rfl) (by kernel_rfl) (by kernel_rfl)
  have Hpow := holds_of h (n := "internal/strconv.pow10Tab") (g := 11) (t := 339) (List.mem_of_getElem? (i := 16) rfl) (by kernel_rfl) (by kernel_rfl)
  have Hfst := holds_of h (n := "unicode/utf8.first") (g := 1) (t := 179) (List.mem_of_getElem? (i := 22) rfl) (by kernel_rfl) (by kernel_rfl)
  refine ⟨?_, ?_, ?_⟩
  · obtain ⟨I32, ca, ta, R32⟩ := info_of (a := 23) (b := 8) (c := -127) H32
    obtain ⟨I64, cb, tb, R64⟩ := info_of (a := 52) (b := 11) (c := -1023) H64
    refine ⟨?_, fun i hi => ?_, ?_, ⟨I64.1, I64.2.1, I64.2.2⟩, ⟨cb, tb, ca, ta, R64, R32⟩, ?_, ?_⟩
    · obtain ⟨cs, fuel, p, hc, hd, -⟩ := Hop
      obtain ⟨b, rfl, hb⟩ := DataW.trod_bool Tryz.underlying4 hd
      have hb' : b = true := by
        have := congrArg Prod.fst hb
        simp [Rows.laid_internal_strconv_optimize] at this
        exact this
      rw [hc, hb']; rfl
    · obtain ⟨z, hz, -⟩ := Hpow.pairs Tryz.underlying339 Tryz.underlying338 (by kernel_rfl) rfl rfl Tryz.underlying260 Tryz.underlying260 (by kernel_rfl) (by kernel_rfl) i (by omega)
      exact ⟨z, hz⟩
    · obtain ⟨b, off, cap, h0, h1⟩ := Holds.floats tenB (by exact Hten) Tryz.underlying374 Tryz.underlying33 c33 (by decide)
      exact ⟨b, off, cap, h0, h1⟩
    · obtain ⟨b, off, cap, h0, h1⟩ := Holds.cheats Pinned.cheatRows (by exact Hch) Tryz.underlying346 Tryz.underlying345 (by kernel_rfl) rfl rfl Tryz.underlying3 Tryz.underlying9 c3 c9 (by rw [cheats_len]; decide)
      rw [cheats_len] at h0
      refine ⟨b, off, cap, h0, fun k hk hk2 => ?_⟩
      have hi : Pinned.cheatRows[k]? = some (Pinned.cheatRows.getD k (0, [])) := by
        rw [List.getD_eq_getElem?_getD, List.getElem?_eq_getElem (by rw [cheats_len]; omega)]; rfl
      obtain ⟨s, hs, e0, e1⟩ := h1 k _ hi
      exact ⟨_, s, e0, e1, cheat_of hk hk2 s hs⟩
    · obtain ⟨b, off, cap, h0, h1⟩ := Holds.slice_ints [1, 3, 6, 9, 13, 16, 19, 23, 26] (by exact Hpw) Tryz.underlying23 Tryz.underlying3 c3 (by decide)
      refine ⟨b, off, cap, h0, fun i hi => ?_⟩
      rw [h1 i hi]
      have all : ∀ j : Fin 9, ([1, 3, 6, 9, 13, 16, 19, 23, 26] : List Int).getD j.val 0 = ((pwt j.val : Nat) : Int) := by decide
      exact congrArg (fun z => some (Value.int .i64 z)) (all ⟨i, hi⟩)
  · refine ⟨fun i hi => ?_, fun i hi => ?_⟩
    · obtain ⟨z, hz, hw⟩ := Hfst.ints Tryz.underlying179 Tryz.underlying5 c5 i hi
      obtain ⟨h0, h1⟩ := bounds_u8 hw
      obtain ⟨n, rfl⟩ := Int.eq_ofNat_of_zero_le h0
      exact ⟨n, by omega, hz⟩
    · obtain ⟨z, hz, hw⟩ := Hacc.pairs Tryz.underlying259 Tryz.underlying258 (by kernel_rfl) rfl rfl Tryz.underlying5 Tryz.underlying5 c5 c5 i (by omega)
      obtain ⟨h0, h1⟩ := bounds_u8 hw
      obtain ⟨n, rfl⟩ := Int.eq_ofNat_of_zero_le h0
      exact ⟨n, by omega, hz⟩
  · obtain ⟨a0, e0⟩ := Holds.err (by exact Hoor) hrow
    obtain ⟨a4, e4⟩ := Holds.err (by exact Hrng) hrow
    obtain ⟨a5, e5⟩ := Holds.err (by exact Hbad) hrow
    obtain ⟨a10, e10⟩ := Holds.err (by exact Hsyn) hrow
    exact ⟨a0, a4, a5, a10, e0, e4, e5, e10⟩
end Go.Proofs.YticdagnbnmnidaaGreatDoor
