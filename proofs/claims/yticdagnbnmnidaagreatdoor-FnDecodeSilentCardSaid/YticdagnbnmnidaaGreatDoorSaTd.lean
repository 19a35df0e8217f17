/- impl.told: what a decoder answers to a call. Conditions: none. -/
import Derived.Test.YticdagnbnmnidaaGreatDoorSaTm
import Derived.Laws.Cover3
set_option linter.unusedSimpArgs false
set_option linter.unusedVariables false
namespace Go.Proofs.YticdagnbnmnidaaGreatDoor
open Go.RowKit

theorem info63 : (Tryz.prog.info? 63).map (·.size) = some 15 := by kernel_rfl

/-- an answer: whether it tells something, whether it is a fault -/
def ToldV (b f : Bool) (v : Value) : Prop := ∃ cs : Array Value, v = .agg cs ∧ cs.size = 15 ∧ cs.all (·.oneCell') = true ∧ cs[0]? = some (.bool b) ∧ cs[11]? = some (.bool f)
/-- What told gives. -/
def GivesT (w0 : World) (c : DC) (s : DS) (op : Nat) (w : World) (e : Ending) (w' : World) : Prop :=
  ∃ (b f : Bool) (v : Value) (s' : DS), e = .returned v ∧ ToldV b f v ∧ Step w0 c s s' w w' ∧ (op ≠ 0 → 4 ≤ s.sec → f = false ∧ b = (op == 6) ∧ s'.sec = s.sec) ∧ (f = true → op ≠ 0 ∧ (s'.sec = 4 ∨ s'.sec = 5))

theorem ret37 {Q : Ending → World → Prop} {a : Act} {W : World} {g : Nat} {cs : Array Value} (h2 : a.tmps.getD 4 undef = .pointer (some ⟨g, 0, none⟩)) (hd : a.defers = []) (hr : Row W g 63 cs) (hs : cs.size = 15)
    (hQ : Q (.returned (.agg cs)) W) : bodyPost Tryz.prog Tryz.f37 Q Exit.ret a W := by
  refine bodyPost_ret (v := .agg cs) ?_ hd hQ
  exact results_cell_row Tryz.results37 a.tmps W g 63 cs (0, 0) _ h2 hr Tryz.underlying63 rfl (by rw [hs]; exact info63)

/-- the store of an answer -/
theorem storeTd {w0 w w1 : World} {c : DC} {s s1 : DS} {g : Nat} {old : Array Value} (h : Step w0 c s s1 w w1) (hb : c.base ≤ w.heap.size) (h0 : w0.heap.size ≤ w.heap.size) (hg : w.heap.size ≤ g)
    (hr : Row w1 g 63 old) (cs : Array Value) : Step w0 c s s1 w (w1.setRow g cs) ∧ Row (w1.setRow g cs) g 63 cs := by
  have hk : Keep (fun k => k = g) w1 (w1.setRow g cs) := ⟨rfl, rfl, rfl, by simp, fun k _ hn => setRow_other _ _ _ _ (fun e => hn (by omega))⟩
  exact ⟨⟨h.ok.ownT (by decide) (by decide) hr (Nat.le_trans hb hg) (Nat.le_trans h0 hg) hk, ⟨h.far.keep.trans' hk (fun i hi e => by have e' : i = g := e; omega), fun k hk1 hlt => h.far.grow k hk1 hlt⟩, h.left, h.skip⟩, setRow_heap _ _ _ cs 63 (0, 0) hr⟩

theorem built1 (x0 : Bool) (s1 : ByteArray) (b : Bool) (l c : Int) (r : Bool) : Tryz.prog.built 63 [(0, .bool x0), (1, .string s1), (6, .agg #[.bool b, .int .i64 l, .int .i64 c, .bool r])] = some #[.bool x0, .string s1, .string { data := #[] }, .int .i64 0, .int .i64 0, .string { data := #[] }, .int .i64 0, .int .u64 0, .float .f64 0, .bool false, .int .i64 0, .bool b, .int .i64 l, .int .i64 c, .bool r] := by kernel_rfl
theorem wp_build_of {o : Oper} {a : Act} {w : World} {K : Act → World → Prop} {Q : Exit → Act → World → Prop} (t : TypeId) (parts : Array (Nat × Operand)) (ho : o.op = .build t parts) (vs : List (Nat × Value)) (cells : Array Value)
    (hv : (parts.map fun (i, x) => (i, a.eval x)).toList = vs) (hc : Tryz.prog.built t vs = some cells) (h : K (a.put o.dst (.agg cells)) w) : o.wp Tryz.prog a w K Q := by
  unfold Oper.wp execOp
  simp only [ho, Sem.run_bind, run_build w t _ cells (by rw [hv]; exact hc), Result.andThen_ok]
  exact h
theorem built2 (x0 : Bool) (s1 s2 : ByteArray) (b : Bool) (l c : Int) (r : Bool) : Tryz.prog.built 63 [(0, .bool x0), (1, .string s1), (2, .string s2), (6, .agg #[.bool b, .int .i64 l, .int .i64 c, .bool r])] = some #[.bool x0, .string s1, .string s2, .int .i64 0, .int .i64 0, .string { data := #[] }, .int .i64 0, .int .u64 0, .float .f64 0, .bool false, .int .i64 0, .bool b, .int .i64 l, .int .i64 c, .bool r] := by kernel_rfl
theorem built4 (x0 : Bool) (s1 s2 : ByteArray) (k : Int) (b : Bool) (l c : Int) (r : Bool) : Tryz.prog.built 63 [(0, .bool x0), (1, .string s1), (3, .int .i64 k), (2, .string s2), (6, .agg #[.bool b, .int .i64 l, .int .i64 c, .bool r])] = some #[.bool x0, .string s1, .string s2, .int .i64 k, .int .i64 0, .string { data := #[] }, .int .i64 0, .int .u64 0, .float .f64 0, .bool false, .int .i64 0, .bool b, .int .i64 l, .int .i64 c, .bool r] := by kernel_rfl
theorem built6 (x0 : Bool) (n : Int) (b : Bool) (l c : Int) (r : Bool) : Tryz.prog.built 63 [(0, .bool x0), (5, .int .i64 n), (6, .agg #[.bool b, .int .i64 l, .int .i64 c, .bool r])] = some #[.bool x0, .string { data := #[] }, .string { data := #[] }, .int .i64 0, .int .i64 0, .string { data := #[] }, .int .i64 0, .int .u64 0, .float .f64 0, .bool false, .int .i64 n, .bool b, .int .i64 l, .int .i64 c, .bool r] := by kernel_rfl
/-- is it an error -/
def isE : Value → Bool | .nilIface => false | _ => true
theorem fault_any (err : Value) (a0 a4 a5 a10 : Addr) (w : World) (hv : EVars w a0 a4 a5 a10) (hx : err = .nilIface ∨ TErr w err) : Calls Tryz.prog 74 #[err] w (GivesFl (isE err) w) := by
  rcases hx with rfl | h | h
  · exact fault_nil a0 a4 a5 a10 w hv
  · have h1 := fault_204 err a0 a4 a5 a10 w hv h
    obtain ⟨g, x, rfl, -⟩ := h
    exact h1
  · obtain ⟨a, rfl, hr⟩ := h
    exact fault_240 a a0 a4 a5 a10 w hv ⟨a, rfl, hr⟩

/-- what a token is, to told -/
def TokF (w : World) (v : Value) (A : Option Addr) (n cap : Nat) (sK : ByteArray) : Prop := v = .slice A n cap ∧ (∀ W, Same w W → (convert 75 9 (.slice A n cap)).run Tryz.prog W = .ok (.string sK) W) ∧ (v = nilS → A.isSome = false)
theorem maybe_form {c : DC} {s : DS} {w : World} {v : Value} (h : v = nilS ∨ ∃ n f, Tk c s w v n f) : ∃ A n cap sK, TokF w v A n cap sK := by
  rcases h with rfl | ⟨n, f, htk⟩
  · exact ⟨none, 0, 0, ByteArray.empty, rfl, fun W _ => run_convert_bytes_nil (P := Tryz.prog) W 75 5 Tryz.underlying75 Tryz.underlying5 0 0 9 Tryz.underlying9, fun _ => rfl⟩
  · obtain ⟨A, cap, rfl⟩ := htk.form0
    refine ⟨A, n, cap, strF n f, rfl, fun W hW => rd_str (htk.rd.same hW), fun e => ?_⟩
    injection e with e1
    rw [e1]
    rfl
theorem Maybe.weak {c : DC} {s : DS} {w : World} {v : Value} (h : Maybe c s w v) : v = nilS ∨ ∃ n f, Tk c s w v n f := by
  rcases h with h | ⟨n, f, -, h⟩
  · exact .inl h
  · exact .inr ⟨n, f, h⟩
theorem Ends.terr {w : World} {s : DS} {err : Value} (h : Ends w s err) : (err = .nilIface ∨ TErr w err) ∧ (isE err = true → s.sec = 4 ∨ s.sec = 5) := by
  rcases h with rfl | ⟨h1, h2⟩
  · exact ⟨.inl rfl, fun h => by cases h⟩
  · exact ⟨.inr (.inl h1.v), fun _ => h2⟩

set_option maxRecDepth 100000 in
set_option maxHeartbeats 12800000 in
theorem told_0 (w0 : World) (hval : ValidOK w0) (a0 a4 a5 a10 : Addr) (hv : EVars w0 a0 a4 a5 a10) (pr df : Int) (c : DC) (s : DS) (w : World) (h : Ok w0 c w s) (hs : s.skip = false) :
    Calls Tryz.prog 37 #[.pointer (some ⟨c.D, 0, none⟩), .agg #[.int .i64 0, .int .i64 pr, .int .i64 df]] w (GivesT w0 c s 0 w) := by
  have Hval := hid hval
  have HV := hid hv
  have H := hid h
  have Hs := hid hs
  have HB : Hid (c.base ≤ w.heap.size) := h.dec.base_le
  have HB0 : Hid (w0.heap.size ≤ w.heap.size) := Nat.le_trans h.D h.dec.base_le
  have HS0 : Hid (Same w ((w.alloc (.cells #[.int .i64 0, .int .i64 pr, .int .i64 df] 61)).alloc (.cells #[.bool false, .string { data := #[] }, .string { data := #[] }, .int .i64 0, .int .i64 0, .string { data := #[] }, .int .i64 0, .int .u64 0, .float .f64 0, .bool false, .int .i64 0, .bool false, .int .i64 0, .int .i64 0, .bool false] 63))) := ((Keep.refl _ _).alloc _).alloc _
  have HR3 : Hid (Row ((w.alloc (.cells #[.int .i64 0, .int .i64 pr, .int .i64 df] 61)).alloc (.cells #[.bool false, .string { data := #[] }, .string { data := #[] }, .int .i64 0, .int .i64 0, .string { data := #[] }, .int .i64 0, .int .u64 0, .float .f64 0, .bool false, .int .i64 0, .bool false, .int .i64 0, .int .i64 0, .bool false] 63)) w.heap.size 61 #[.int .i64 0, .int .i64 pr, .int .i64 df]) := (Row.new w 61 _).alloc _
  have HR4 : Hid (Row ((w.alloc (.cells #[.int .i64 0, .int .i64 pr, .int .i64 df] 61)).alloc (.cells #[.bool false, .string { data := #[] }, .string { data := #[] }, .int .i64 0, .int .i64 0, .string { data := #[] }, .int .i64 0, .int .u64 0, .float .f64 0, .bool false, .int .i64 0, .bool false, .int .i64 0, .int .i64 0, .bool false] 63)) (w.heap.size + 1) 63 #[.bool false, .string { data := #[] }, .string { data := #[] }, .int .i64 0, .int .i64 0, .string { data := #[] }, .int .i64 0, .int .u64 0, .float .f64 0, .bool false, .int .i64 0, .bool false, .int .i64 0, .int .i64 0, .bool false]) := by
    have h1 := Row.new (w.alloc (.cells #[.int .i64 0, .int .i64 pr, .int .i64 df] 61)) 63 #[.bool false, .string { data := #[] }, .string { data := #[] }, .int .i64 0, .int .i64 0, .string { data := #[] }, .int .i64 0, .int .u64 0, .float .f64 0, .bool false, .int .i64 0, .bool false, .int .i64 0, .int .i64 0, .bool false]
    rw [show (w.alloc (Obj.cells #[.int .i64 0, .int .i64 pr, .int .i64 df] 61)).heap.size = w.heap.size + 1 by simp] at h1
    exact h1
  clear hval hv h hs
  go_enter Tryz.func37, Tryz.ntmps37
  go_big_wp2_with fail
  refine (next_any w0 Hval.out c s _ (H.out.same HS0.out) Hs.out).mono ?_
  rintro e w1 ⟨b, s1, rfl, hst⟩
  have S1 := hid (((Step.refl H.out).same HS0.out).trans hst)
  have R4 := hid (row_farT (by decide) (by decide) HR4.out (H.out.same HS0.out) hst.far)
  clear hst HR4
  go_wp2_with (refine wpList_store_row rfl 63 (.tmp 4) (.tmp 28) rfl (w.heap.size + 1) _ rfl rfl 63 _ R4.out info63 rfl (by simp [Value.oneCell']) ?_)
  obtain ⟨hS, hR⟩ := storeTd (g := w.heap.size + 1) S1.out HB.out HB0.out (Nat.le_succ _) R4.out #[.bool b, .string { data := #[] }, .string { data := #[] }, .int .i64 0, .int .i64 0, .string { data := #[] }, .int .i64 0, .int .u64 0, .float .f64 0, .bool false, .int .i64 0, .bool false, .int .i64 0, .int .i64 0, .bool false]
  exact ret37 rfl rfl hR rfl ⟨b, false, _, s1, rfl, ⟨_, rfl, rfl, by simp [Value.oneCell'], rfl, rfl⟩, hS, fun h => absurd rfl h, fun h => by cases h⟩

set_option maxRecDepth 100000 in
set_option maxHeartbeats 12800000 in
theorem told_1 (w0 : World) (hval : ValidOK w0) (a0 a4 a5 a10 : Addr) (hv : EVars w0 a0 a4 a5 a10) (pr df : Int) (c : DC) (s : DS) (w : World) (h : Ok w0 c w s) (hs : s.skip = false) :
    Calls Tryz.prog 37 #[.pointer (some ⟨c.D, 0, none⟩), .agg #[.int .i64 1, .int .i64 pr, .int .i64 df]] w (GivesT w0 c s 1 w) := by
  have Hval := hid hval
  have HV := hid hv
  have H := hid h
  have Hs := hid hs
  have HB : Hid (c.base ≤ w.heap.size) := h.dec.base_le
  have HB0 : Hid (w0.heap.size ≤ w.heap.size) := Nat.le_trans h.D h.dec.base_le
  have HS0 : Hid (Same w ((w.alloc (.cells #[.int .i64 1, .int .i64 pr, .int .i64 df] 61)).alloc (.cells #[.bool false, .string { data := #[] }, .string { data := #[] }, .int .i64 0, .int .i64 0, .string { data := #[] }, .int .i64 0, .int .u64 0, .float .f64 0, .bool false, .int .i64 0, .bool false, .int .i64 0, .int .i64 0, .bool false] 63))) := ((Keep.refl _ _).alloc _).alloc _
  have HR3 : Hid (Row ((w.alloc (.cells #[.int .i64 1, .int .i64 pr, .int .i64 df] 61)).alloc (.cells #[.bool false, .string { data := #[] }, .string { data := #[] }, .int .i64 0, .int .i64 0, .string { data := #[] }, .int .i64 0, .int .u64 0, .float .f64 0, .bool false, .int .i64 0, .bool false, .int .i64 0, .int .i64 0, .bool false] 63)) w.heap.size 61 #[.int .i64 1, .int .i64 pr, .int .i64 df]) := (Row.new w 61 _).alloc _
  have HR4 : Hid (Row ((w.alloc (.cells #[.int .i64 1, .int .i64 pr, .int .i64 df] 61)).alloc (.cells #[.bool false, .string { data := #[] }, .string { data := #[] }, .int .i64 0, .int .i64 0, .string { data := #[] }, .int .i64 0, .int .u64 0, .float .f64 0, .bool false, .int .i64 0, .bool false, .int .i64 0, .int .i64 0, .bool false] 63)) (w.heap.size + 1) 63 #[.bool false, .string { data := #[] }, .string { data := #[] }, .int .i64 0, .int .i64 0, .string { data := #[] }, .int .i64 0, .int .u64 0, .float .f64 0, .bool false, .int .i64 0, .bool false, .int .i64 0, .int .i64 0, .bool false]) := by
    have h1 := Row.new (w.alloc (.cells #[.int .i64 1, .int .i64 pr, .int .i64 df] 61)) 63 #[.bool false, .string { data := #[] }, .string { data := #[] }, .int .i64 0, .int .i64 0, .string { data := #[] }, .int .i64 0, .int .u64 0, .float .f64 0, .bool false, .int .i64 0, .bool false, .int .i64 0, .int .i64 0, .bool false]
    rw [show (w.alloc (Obj.cells #[.int .i64 1, .int .i64 pr, .int .i64 df] 61)).heap.size = w.heap.size + 1 by simp] at h1
    exact h1
  clear hval hv h hs
  go_enter Tryz.func37, Tryz.ntmps37
  go_big_wp2_with fail
  as_aux_lemma =>
    refine (measurement_any w0 Hval.out c s _ (H.out.same HS0.out)).mono ?_
    rintro e w1 ⟨v, err, s1, rfl, hst, hmay, hend, h4⟩
    have S1 := hid (((Step.refl H.out).same HS0.out).trans hst)
    have R4 := hid (row_farT (by decide) (by decide) HR4.out (H.out.same HS0.out) hst.far)
    clear hst HR4
    have HE := hid hend.terr.1
    have HEs := hid hend.terr.2
    have H4 := hid h4
    clear hend h4
    obtain ⟨A, n, cap, sK, hvA, hcA, hzA⟩ := maybe_form (hmay.weak)
    have HC := hid hcA
    have ZA := hid hzA
    subst hvA
    have qA := HC.out w1 (Keep.refl _ _)
    have pA := HC.out w1.drew (same_drew _)
    clear hcA hzA
    go_big_wp2_with fail
    refine wp_region_till 7 (fun w' : World => (convert 75 9 (.slice A n cap)).run Tryz.prog w' = .ok (.string sK) w') (by kernel_rfl) ?_
    have hS0 : Hid ((fun w' : World => (convert 75 9 (.slice A n cap)).run Tryz.prog w' = .ok (.string sK) w') w1.drew) := pA
    refine wpTill_take (i := 0) (oi := ⟨_, _, _, _, _, _⟩) (v := ?_) rfl (by kernel_rfl) (by decide) (by kernel_rfl) (by kernel_rfl) (by kernel_rfl) (fun _ _ _ h => h) (Or.inl ⟨by rfl, ?_⟩) hS0.out ?_
    rotate_left
    · (intro w' hSw; (try dsimp only at hSw); go_simp; (try with_reducible rfl))
    simp only [Act.put, List.setIfInBounds_toArray, List.set_cons_zero, List.set_cons_succ]
    refine wpTill_take (i := 1) (oi := ⟨_, _, _, _, _, _⟩) (v := ?_) rfl (by kernel_rfl) (by decide) (by kernel_rfl) (by kernel_rfl) (by kernel_rfl) (fun _ _ _ h => h) (Or.inl ⟨by rfl, ?_⟩) hS0.out ?_
    rotate_left
    · (intro w' hSw; (try dsimp only at hSw); go_simp; (try with_reducible rfl))
    simp only [Act.put, List.setIfInBounds_toArray, List.set_cons_zero, List.set_cons_succ]
    refine wpTill_take (i := 2) (oi := ⟨_, _, _, _, _, _⟩) (v := ?_) rfl (by kernel_rfl) (by decide) (by kernel_rfl) (by kernel_rfl) (by kernel_rfl) (fun _ _ _ h => h) (Or.inl ⟨by rfl, ?_⟩) hS0.out ?_
    rotate_left
    · (intro w' hSw; (try dsimp only at hSw); go_simp; (try with_reducible rfl))
    simp only [Act.put, List.setIfInBounds_toArray, List.set_cons_zero, List.set_cons_succ]
    refine wpTill_take (i := 3) (oi := ⟨_, _, _, _, _, _⟩) (v := ?_) rfl (by kernel_rfl) (by decide) (by kernel_rfl) (by kernel_rfl) (by kernel_rfl) (fun _ _ _ h => h) (Or.inl ⟨by rfl, ?_⟩) hS0.out ?_
    rotate_left
    · (intro w' hSw; (try dsimp only at hSw); go_simp; (try with_reducible rfl))
    simp only [Act.put, List.setIfInBounds_toArray, List.set_cons_zero, List.set_cons_succ]
    refine wpTill_take (i := 4) (oi := ⟨_, _, _, _, _, _⟩) (v := ?_) rfl (by kernel_rfl) (by decide) (by kernel_rfl) (by kernel_rfl) (by kernel_rfl) (fun _ _ _ h => h) (Or.inl ⟨by rfl, ?_⟩) hS0.out ?_
    rotate_left
    · (intro w' hSw; (try dsimp only at hSw); go_simp; (try with_reducible rfl))
    simp only [Act.put, List.setIfInBounds_toArray, List.set_cons_zero, List.set_cons_succ]
    refine wpTill_one (i := 5) (o := ⟨_, _, _, _, _, _⟩) rfl (by kernel_rfl) (fun K hK => ?_)
    go_simp
    refine (fault_any _ a0 a4 a5 a10 _ (HV.out.lay (S1.out.same (same_drew w1)).ok.lay) (HE.out.imp id (fun h => h.same (same_drew w1)))).mono ?_
    rintro e w8 ⟨fl, fc, frr, rfl, hk8⟩
    have HS8 := hid ((same_drew w1).trans hk8)
    have R8 := hid (R4.out.same HS8.out)
    have hS8 : Hid ((fun w' : World => (convert 75 9 (.slice A n cap)).run Tryz.prog w' = .ok (.string sK) w') w8) := HC.out _ HS8.out
    clear hk8
    refine hK.out _ _ (fun _ => hS8.out) ?_
    clear hK K
    try simp only [Act.put, List.setIfInBounds_toArray, List.set_cons_zero, List.set_cons_succ]
    refine wpTill_one (i := 6) (o := ⟨_, _, _, _, _, _⟩) rfl (by kernel_rfl) (fun K hK => ?_)
    rw [if_pos (by rfl)]
    refine wp_build_of 63 #[(0, .tmp 37), (1, .tmp 39), (6, .tmp 41)] rfl [(0, .bool A.isSome), (1, .string sK), (6, .agg #[.bool (isE err), .int .i64 fl, .int .i64 fc, .bool frr])] _ (by first | (simp [Act.eval]; done) | rfl) (built1 A.isSome sK (isE err) fl fc frr) ?_
    refine hK.out _ _ (fun _ => hS8.out) ?_
    clear hK K
    try simp only [Act.put, List.setIfInBounds_toArray, List.set_cons_zero, List.set_cons_succ]
    refine wpTill_one (i := 7) (o := ⟨_, _, _, _, _, _⟩) rfl (by kernel_rfl) (fun K hK => ?_)
    rw [if_pos (by rfl)]
    refine wp_store_row 63 (.tmp 4) (.tmp 42) rfl (w.heap.size + 1) _ rfl rfl 63 _ R8.out info63 rfl (by simp [Value.oneCell']) ?_
    refine hK.out _ _ (fun h => absurd rfl h) ?_
    clear hK K
    refine wpTill_done (by kernel_rfl) ?_ _
    go_big_wp2_with fail
    obtain ⟨hS, hR⟩ := storeTd (g := w.heap.size + 1) (S1.out.same HS8.out) HB.out HB0.out (Nat.le_succ _) R8.out #[.bool A.isSome, .string sK, .string { data := #[] }, .int .i64 0, .int .i64 0, .string { data := #[] }, .int .i64 0, .int .u64 0, .float .f64 0, .bool false, .int .i64 0, .bool (isE err), .int .i64 fl, .int .i64 fc, .bool frr]
    have hV : ToldV A.isSome (isE err) (.agg #[.bool A.isSome, .string sK, .string { data := #[] }, .int .i64 0, .int .i64 0, .string { data := #[] }, .int .i64 0, .int .u64 0, .float .f64 0, .bool false, .int .i64 0, .bool (isE err), .int .i64 fl, .int .i64 fc, .bool frr]) := ⟨_, rfl, rfl, by simp [Value.oneCell'], rfl, rfl⟩
    have hE1 : isE err = true → (1 : Nat) ≠ 0 ∧ (s1.sec = 4 ∨ s1.sec = 5) := fun h => ⟨by decide, HEs.out h⟩
    have hN : (1 : Nat) ≠ 0 → 4 ≤ s.sec → isE err = false ∧ A.isSome = ((1 : Nat) == 6) ∧ s1.sec = s.sec := fun _ h => by
      obtain ⟨h1, h2, h3⟩ := H4.out h
      refine ⟨?_, ?_, h3⟩
      · rw [h2]; rfl
      · rw [ZA.out h1]; rfl
    exact ret37 rfl rfl hR rfl ⟨A.isSome, isE err, _, s1, rfl, hV, hS, hN, hE1⟩

set_option maxRecDepth 100000 in
set_option maxHeartbeats 12800000 in
theorem told_2 (w0 : World) (hval : ValidOK w0) (a0 a4 a5 a10 : Addr) (hv : EVars w0 a0 a4 a5 a10) (pr df : Int) (c : DC) (s : DS) (w : World) (h : Ok w0 c w s) (hs : s.skip = false) :
    Calls Tryz.prog 37 #[.pointer (some ⟨c.D, 0, none⟩), .agg #[.int .i64 2, .int .i64 pr, .int .i64 df]] w (GivesT w0 c s 2 w) := by
  have Hval := hid hval
  have HV := hid hv
  have H := hid h
  have Hs := hid hs
  have HB : Hid (c.base ≤ w.heap.size) := h.dec.base_le
  have HB0 : Hid (w0.heap.size ≤ w.heap.size) := Nat.le_trans h.D h.dec.base_le
  have HS0 : Hid (Same w ((w.alloc (.cells #[.int .i64 2, .int .i64 pr, .int .i64 df] 61)).alloc (.cells #[.bool false, .string { data := #[] }, .string { data := #[] }, .int .i64 0, .int .i64 0, .string { data := #[] }, .int .i64 0, .int .u64 0, .float .f64 0, .bool false, .int .i64 0, .bool false, .int .i64 0, .int .i64 0, .bool false] 63))) := ((Keep.refl _ _).alloc _).alloc _
  have HR3 : Hid (Row ((w.alloc (.cells #[.int .i64 2, .int .i64 pr, .int .i64 df] 61)).alloc (.cells #[.bool false, .string { data := #[] }, .string { data := #[] }, .int .i64 0, .int .i64 0, .string { data := #[] }, .int .i64 0, .int .u64 0, .float .f64 0, .bool false, .int .i64 0, .bool false, .int .i64 0, .int .i64 0, .bool false] 63)) w.heap.size 61 #[.int .i64 2, .int .i64 pr, .int .i64 df]) := (Row.new w 61 _).alloc _
  have HR4 : Hid (Row ((w.alloc (.cells #[.int .i64 2, .int .i64 pr, .int .i64 df] 61)).alloc (.cells #[.bool false, .string { data := #[] }, .string { data := #[] }, .int .i64 0, .int .i64 0, .string { data := #[] }, .int .i64 0, .int .u64 0, .float .f64 0, .bool false, .int .i64 0, .bool false, .int .i64 0, .int .i64 0, .bool false] 63)) (w.heap.size + 1) 63 #[.bool false, .string { data := #[] }, .string { data := #[] }, .int .i64 0, .int .i64 0, .string { data := #[] }, .int .i64 0, .int .u64 0, .float .f64 0, .bool false, .int .i64 0, .bool false, .int .i64 0, .int .i64 0, .bool false]) := by
    have h1 := Row.new (w.alloc (.cells #[.int .i64 2, .int .i64 pr, .int .i64 df] 61)) 63 #[.bool false, .string { data := #[] }, .string { data := #[] }, .int .i64 0, .int .i64 0, .string { data := #[] }, .int .i64 0, .int .u64 0, .float .f64 0, .bool false, .int .i64 0, .bool false, .int .i64 0, .int .i64 0, .bool false]
    rw [show (w.alloc (Obj.cells #[.int .i64 2, .int .i64 pr, .int .i64 df] 61)).heap.size = w.heap.size + 1 by simp] at h1
    exact h1
  clear hval hv h hs
  go_enter Tryz.func37, Tryz.ntmps37
  go_big_wp2_with fail
  as_aux_lemma =>
    refine (nextTag_any w0 Hval.out c s _ (H.out.same HS0.out) Hs.out).mono ?_
    rintro e w1 ⟨k, v, err, s1, rfl, hst, hmay, hmv, hend, h4⟩
    have S1 := hid (((Step.refl H.out).same HS0.out).trans hst)
    have R4 := hid (row_farT (by decide) (by decide) HR4.out (H.out.same HS0.out) hst.far)
    clear hst HR4
    have HE := hid hend.terr.1
    have HEs := hid hend.terr.2
    have H4 := hid h4
    clear hend h4
    obtain ⟨A, n, cap, sK, hvA, hcA, hzA⟩ := maybe_form (hmay.weak)
    have HC := hid hcA
    have ZA := hid hzA
    subst hvA
    have qA := HC.out w1 (Keep.refl _ _)
    have pA := HC.out w1.drew (same_drew _)
    clear hcA hzA
    obtain ⟨A2, n2, cap2, sV, hvA2, hcA2, hzA2⟩ := maybe_form (hmv)
    have HC2 := hid hcA2
    have ZA2 := hid hzA2
    subst hvA2
    have qA2 := HC2.out w1 (Keep.refl _ _)
    have pA2 := HC2.out w1.drew (same_drew _)
    clear hcA2 hzA2
    go_big_wp2_with fail
    refine wp_region_till 9 (fun w' : World => (convert 75 9 (.slice A n cap)).run Tryz.prog w' = .ok (.string sK) w' ∧ (convert 75 9 (.slice A2 n2 cap2)).run Tryz.prog w' = .ok (.string sV) w') (by kernel_rfl) ?_
    have hS0 : Hid ((fun w' : World => (convert 75 9 (.slice A n cap)).run Tryz.prog w' = .ok (.string sK) w' ∧ (convert 75 9 (.slice A2 n2 cap2)).run Tryz.prog w' = .ok (.string sV) w') w1.drew) := ⟨pA, pA2⟩
    refine wpTill_take (i := 0) (oi := ⟨_, _, _, _, _, _⟩) (v := ?_) rfl (by kernel_rfl) (by decide) (by kernel_rfl) (by kernel_rfl) (by kernel_rfl) (fun _ _ _ h => h) (Or.inl ⟨by rfl, ?_⟩) hS0.out ?_
    rotate_left
    · (intro w' hSw; (try dsimp only at hSw); go_simp; (try with_reducible rfl))
    simp only [Act.put, List.setIfInBounds_toArray, List.set_cons_zero, List.set_cons_succ]
    refine wpTill_take (i := 1) (oi := ⟨_, _, _, _, _, _⟩) (v := ?_) rfl (by kernel_rfl) (by decide) (by kernel_rfl) (by kernel_rfl) (by kernel_rfl) (fun _ _ _ h => h) (Or.inl ⟨by rfl, ?_⟩) hS0.out ?_
    rotate_left
    · (intro w' hSw; (try dsimp only at hSw); go_simp; (try with_reducible rfl))
    simp only [Act.put, List.setIfInBounds_toArray, List.set_cons_zero, List.set_cons_succ]
    refine wpTill_take (i := 2) (oi := ⟨_, _, _, _, _, _⟩) (v := ?_) rfl (by kernel_rfl) (by decide) (by kernel_rfl) (by kernel_rfl) (by kernel_rfl) (fun _ _ _ h => h) (Or.inl ⟨by rfl, ?_⟩) hS0.out ?_
    rotate_left
    · (intro w' hSw; (try dsimp only at hSw); go_simp; (try with_reducible rfl))
    simp only [Act.put, List.setIfInBounds_toArray, List.set_cons_zero, List.set_cons_succ]
    refine wpTill_take (i := 3) (oi := ⟨_, _, _, _, _, _⟩) (v := ?_) rfl (by kernel_rfl) (by decide) (by kernel_rfl) (by kernel_rfl) (by kernel_rfl) (fun _ _ _ h => h) (Or.inl ⟨by rfl, ?_⟩) hS0.out ?_
    rotate_left
    · (intro w' hSw; (try dsimp only at hSw); go_simp; (try with_reducible rfl))
    simp only [Act.put, List.setIfInBounds_toArray, List.set_cons_zero, List.set_cons_succ]
    refine wpTill_take (i := 4) (oi := ⟨_, _, _, _, _, _⟩) (v := ?_) rfl (by kernel_rfl) (by decide) (by kernel_rfl) (by kernel_rfl) (by kernel_rfl) (fun _ _ _ h => h) (Or.inl ⟨by rfl, ?_⟩) hS0.out ?_
    rotate_left
    · (intro w' hSw; (try dsimp only at hSw); go_simp; (try with_reducible rfl))
    simp only [Act.put, List.setIfInBounds_toArray, List.set_cons_zero, List.set_cons_succ]
    refine wpTill_take (i := 5) (oi := ⟨_, _, _, _, _, _⟩) (v := ?_) rfl (by kernel_rfl) (by decide) (by kernel_rfl) (by kernel_rfl) (by kernel_rfl) (fun _ _ _ h => h) (Or.inl ⟨by rfl, ?_⟩) hS0.out ?_
    rotate_left
    · (intro w' hSw; (try dsimp only at hSw); go_simp; (try with_reducible rfl))
    simp only [Act.put, List.setIfInBounds_toArray, List.set_cons_zero, List.set_cons_succ]
    refine wpTill_take (i := 6) (oi := ⟨_, _, _, _, _, _⟩) (v := ?_) rfl (by kernel_rfl) (by decide) (by kernel_rfl) (by kernel_rfl) (by kernel_rfl) (fun _ _ _ h => h) (Or.inl ⟨by rfl, ?_⟩) hS0.out ?_
    rotate_left
    · (intro w' hSw; (try dsimp only at hSw); go_simp; (try with_reducible rfl))
    simp only [Act.put, List.setIfInBounds_toArray, List.set_cons_zero, List.set_cons_succ]
    refine wpTill_one (i := 7) (o := ⟨_, _, _, _, _, _⟩) rfl (by kernel_rfl) (fun K hK => ?_)
    go_simp
    refine (fault_any _ a0 a4 a5 a10 _ (HV.out.lay (S1.out.same (same_drew w1)).ok.lay) (HE.out.imp id (fun h => h.same (same_drew w1)))).mono ?_
    rintro e w8 ⟨fl, fc, frr, rfl, hk8⟩
    have HS8 := hid ((same_drew w1).trans hk8)
    have R8 := hid (R4.out.same HS8.out)
    have hS8 : Hid ((fun w' : World => (convert 75 9 (.slice A n cap)).run Tryz.prog w' = .ok (.string sK) w' ∧ (convert 75 9 (.slice A2 n2 cap2)).run Tryz.prog w' = .ok (.string sV) w') w8) := ⟨HC.out _ HS8.out, HC2.out _ HS8.out⟩
    clear hk8
    refine hK.out _ _ (fun _ => hS8.out) ?_
    clear hK K
    try simp only [Act.put, List.setIfInBounds_toArray, List.set_cons_zero, List.set_cons_succ]
    refine wpTill_one (i := 8) (o := ⟨_, _, _, _, _, _⟩) rfl (by kernel_rfl) (fun K hK => ?_)
    rw [if_pos (by rfl)]
    refine wp_build_of 63 #[(0, .tmp 52), (1, .tmp 54), (2, .tmp 56), (6, .tmp 58)] rfl [(0, .bool A.isSome), (1, .string sK), (2, .string sV), (6, .agg #[.bool (isE err), .int .i64 fl, .int .i64 fc, .bool frr])] _ (by first | (simp [Act.eval]; done) | rfl) (built2 A.isSome sK sV (isE err) fl fc frr) ?_
    refine hK.out _ _ (fun _ => hS8.out) ?_
    clear hK K
    try simp only [Act.put, List.setIfInBounds_toArray, List.set_cons_zero, List.set_cons_succ]
    refine wpTill_one (i := 9) (o := ⟨_, _, _, _, _, _⟩) rfl (by kernel_rfl) (fun K hK => ?_)
    rw [if_pos (by rfl)]
    refine wp_store_row 63 (.tmp 4) (.tmp 59) rfl (w.heap.size + 1) _ rfl rfl 63 _ R8.out info63 rfl (by simp [Value.oneCell']) ?_
    refine hK.out _ _ (fun h => absurd rfl h) ?_
    clear hK K
    refine wpTill_done (by kernel_rfl) ?_ _
    go_big_wp2_with fail
    obtain ⟨hS, hR⟩ := storeTd (g := w.heap.size + 1) (S1.out.same HS8.out) HB.out HB0.out (Nat.le_succ _) R8.out #[.bool A.isSome, .string sK, .string sV, .int .i64 0, .int .i64 0, .string { data := #[] }, .int .i64 0, .int .u64 0, .float .f64 0, .bool false, .int .i64 0, .bool (isE err), .int .i64 fl, .int .i64 fc, .bool frr]
    have hV : ToldV A.isSome (isE err) (.agg #[.bool A.isSome, .string sK, .string sV, .int .i64 0, .int .i64 0, .string { data := #[] }, .int .i64 0, .int .u64 0, .float .f64 0, .bool false, .int .i64 0, .bool (isE err), .int .i64 fl, .int .i64 fc, .bool frr]) := ⟨_, rfl, rfl, by simp [Value.oneCell'], rfl, rfl⟩
    have hE1 : isE err = true → (2 : Nat) ≠ 0 ∧ (s1.sec = 4 ∨ s1.sec = 5) := fun h => ⟨by decide, HEs.out h⟩
    have hN : (2 : Nat) ≠ 0 → 4 ≤ s.sec → isE err = false ∧ A.isSome = ((2 : Nat) == 6) ∧ s1.sec = s.sec := fun _ h => by
      obtain ⟨h1, h2, h3⟩ := H4.out h
      refine ⟨?_, ?_, h3⟩
      · rw [h2]; rfl
      · rw [ZA.out h1]; rfl
    exact ret37 rfl rfl hR rfl ⟨A.isSome, isE err, _, s1, rfl, hV, hS, hN, hE1⟩

set_option maxRecDepth 100000 in
set_option maxHeartbeats 12800000 in
theorem told_4 (w0 : World) (hval : ValidOK w0) (a0 a4 a5 a10 : Addr) (hv : EVars w0 a0 a4 a5 a10) (pr df : Int) (c : DC) (s : DS) (w : World) (h : Ok w0 c w s) (hs : s.skip = false) :
    Calls Tryz.prog 37 #[.pointer (some ⟨c.D, 0, none⟩), .agg #[.int .i64 4, .int .i64 pr, .int .i64 df]] w (GivesT w0 c s 4 w) := by
  have Hval := hid hval
  have HV := hid hv
  have H := hid h
  have Hs := hid hs
  have HB : Hid (c.base ≤ w.heap.size) := h.dec.base_le
  have HB0 : Hid (w0.heap.size ≤ w.heap.size) := Nat.le_trans h.D h.dec.base_le
  have HS0 : Hid (Same w ((w.alloc (.cells #[.int .i64 4, .int .i64 pr, .int .i64 df] 61)).alloc (.cells #[.bool false, .string { data := #[] }, .string { data := #[] }, .int .i64 0, .int .i64 0, .string { data := #[] }, .int .i64 0, .int .u64 0, .float .f64 0, .bool false, .int .i64 0, .bool false, .int .i64 0, .int .i64 0, .bool false] 63))) := ((Keep.refl _ _).alloc _).alloc _
  have HR3 : Hid (Row ((w.alloc (.cells #[.int .i64 4, .int .i64 pr, .int .i64 df] 61)).alloc (.cells #[.bool false, .string { data := #[] }, .string { data := #[] }, .int .i64 0, .int .i64 0, .string { data := #[] }, .int .i64 0, .int .u64 0, .float .f64 0, .bool false, .int .i64 0, .bool false, .int .i64 0, .int .i64 0, .bool false] 63)) w.heap.size 61 #[.int .i64 4, .int .i64 pr, .int .i64 df]) := (Row.new w 61 _).alloc _
  have HR4 : Hid (Row ((w.alloc (.cells #[.int .i64 4, .int .i64 pr, .int .i64 df] 61)).alloc (.cells #[.bool false, .string { data := #[] }, .string { data := #[] }, .int .i64 0, .int .i64 0, .string { data := #[] }, .int .i64 0, .int .u64 0, .float .f64 0, .bool false, .int .i64 0, .bool false, .int .i64 0, .int .i64 0, .bool false] 63)) (w.heap.size + 1) 63 #[.bool false, .string { data := #[] }, .string { data := #[] }, .int .i64 0, .int .i64 0, .string { data := #[] }, .int .i64 0, .int .u64 0, .float .f64 0, .bool false, .int .i64 0, .bool false, .int .i64 0, .int .i64 0, .bool false]) := by
    have h1 := Row.new (w.alloc (.cells #[.int .i64 4, .int .i64 pr, .int .i64 df] 61)) 63 #[.bool false, .string { data := #[] }, .string { data := #[] }, .int .i64 0, .int .i64 0, .string { data := #[] }, .int .i64 0, .int .u64 0, .float .f64 0, .bool false, .int .i64 0, .bool false, .int .i64 0, .int .i64 0, .bool false]
    rw [show (w.alloc (Obj.cells #[.int .i64 4, .int .i64 pr, .int .i64 df] 61)).heap.size = w.heap.size + 1 by simp] at h1
    exact h1
  clear hval hv h hs
  go_enter Tryz.func37, Tryz.ntmps37
  go_big_wp2_with fail
  as_aux_lemma =>
    refine (nextField_any w0 Hval.out c s _ (H.out.same HS0.out) Hs.out).mono ?_
    rintro e w1 ⟨k, v, err, kd, s1, rfl, hst, hmay, hmv, hend, h4⟩
    have S1 := hid (((Step.refl H.out).same HS0.out).trans hst)
    have R4 := hid (row_farT (by decide) (by decide) HR4.out (H.out.same HS0.out) hst.far)
    clear hst HR4
    have HE := hid hend.terr.1
    have HEs := hid hend.terr.2
    have H4 := hid h4
    clear hend h4
    obtain ⟨A, n, cap, sK, hvA, hcA, hzA⟩ := maybe_form (hmay.weak)
    have HC := hid hcA
    have ZA := hid hzA
    subst hvA
    have qA := HC.out w1 (Keep.refl _ _)
    have pA := HC.out w1.drew (same_drew _)
    clear hcA hzA
    obtain ⟨A2, n2, cap2, sV, hvA2, hcA2, hzA2⟩ := maybe_form (hmv)
    have HC2 := hid hcA2
    have ZA2 := hid hzA2
    subst hvA2
    have qA2 := HC2.out w1 (Keep.refl _ _)
    have pA2 := HC2.out w1.drew (same_drew _)
    clear hcA2 hzA2
    go_big_wp2_with fail
    refine wp_region_till 11 (fun w' : World => (convert 75 9 (.slice A n cap)).run Tryz.prog w' = .ok (.string sK) w' ∧ (convert 75 9 (.slice A2 n2 cap2)).run Tryz.prog w' = .ok (.string sV) w') (by kernel_rfl) ?_
    have hS0 : Hid ((fun w' : World => (convert 75 9 (.slice A n cap)).run Tryz.prog w' = .ok (.string sK) w' ∧ (convert 75 9 (.slice A2 n2 cap2)).run Tryz.prog w' = .ok (.string sV) w') w1.drew) := ⟨pA, pA2⟩
    refine wpTill_take (i := 0) (oi := ⟨_, _, _, _, _, _⟩) (v := ?_) rfl (by kernel_rfl) (by decide) (by kernel_rfl) (by kernel_rfl) (by kernel_rfl) (fun _ _ _ h => h) (Or.inl ⟨by rfl, ?_⟩) hS0.out ?_
    rotate_left
    · (intro w' hSw; (try dsimp only at hSw); go_simp; (try with_reducible rfl))
    simp only [Act.put, List.setIfInBounds_toArray, List.set_cons_zero, List.set_cons_succ]
    refine wpTill_take (i := 1) (oi := ⟨_, _, _, _, _, _⟩) (v := ?_) rfl (by kernel_rfl) (by decide) (by kernel_rfl) (by kernel_rfl) (by kernel_rfl) (fun _ _ _ h => h) (Or.inl ⟨by rfl, ?_⟩) hS0.out ?_
    rotate_left
    · (intro w' hSw; (try dsimp only at hSw); go_simp; (try with_reducible rfl))
    simp only [Act.put, List.setIfInBounds_toArray, List.set_cons_zero, List.set_cons_succ]
    refine wpTill_take (i := 2) (oi := ⟨_, _, _, _, _, _⟩) (v := ?_) rfl (by kernel_rfl) (by decide) (by kernel_rfl) (by kernel_rfl) (by kernel_rfl) (fun _ _ _ h => h) (Or.inl ⟨by rfl, ?_⟩) hS0.out ?_
    rotate_left
    · (intro w' hSw; (try dsimp only at hSw); go_simp; (try with_reducible rfl))
    simp only [Act.put, List.setIfInBounds_toArray, List.set_cons_zero, List.set_cons_succ]
    refine wpTill_take (i := 3) (oi := ⟨_, _, _, _, _, _⟩) (v := ?_) rfl (by kernel_rfl) (by decide) (by kernel_rfl) (by kernel_rfl) (by kernel_rfl) (fun _ _ _ h => h) (Or.inl ⟨by rfl, ?_⟩) hS0.out ?_
    rotate_left
    · (intro w' hSw; (try dsimp only at hSw); go_simp; (try with_reducible rfl))
    simp only [Act.put, List.setIfInBounds_toArray, List.set_cons_zero, List.set_cons_succ]
    refine wpTill_take (i := 4) (oi := ⟨_, _, _, _, _, _⟩) (v := ?_) rfl (by kernel_rfl) (by decide) (by kernel_rfl) (by kernel_rfl) (by kernel_rfl) (fun _ _ _ h => h) (Or.inl ⟨by rfl, ?_⟩) hS0.out ?_
    rotate_left
    · (intro w' hSw; (try dsimp only at hSw); go_simp; (try with_reducible rfl))
    simp only [Act.put, List.setIfInBounds_toArray, List.set_cons_zero, List.set_cons_succ]
    refine wpTill_take (i := 5) (oi := ⟨_, _, _, _, _, _⟩) (v := ?_) rfl (by kernel_rfl) (by decide) (by kernel_rfl) (by kernel_rfl) (by kernel_rfl) (fun _ _ _ h => h) (Or.inl ⟨by rfl, ?_⟩) hS0.out ?_
    rotate_left
    · (intro w' hSw; (try dsimp only at hSw); go_simp; (try with_reducible rfl))
    simp only [Act.put, List.setIfInBounds_toArray, List.set_cons_zero, List.set_cons_succ]
    refine wpTill_take (i := 6) (oi := ⟨_, _, _, _, _, _⟩) (v := ?_) rfl (by kernel_rfl) (by decide) (by kernel_rfl) (by kernel_rfl) (by kernel_rfl) (fun _ _ _ h => h) (Or.inl ⟨by rfl, ?_⟩) hS0.out ?_
    rotate_left
    · (intro w' hSw; (try dsimp only at hSw); go_simp; (try with_reducible rfl))
    simp only [Act.put, List.setIfInBounds_toArray, List.set_cons_zero, List.set_cons_succ]
    refine wpTill_take (i := 7) (oi := ⟨_, _, _, _, _, _⟩) (v := ?_) rfl (by kernel_rfl) (by decide) (by kernel_rfl) (by kernel_rfl) (by kernel_rfl) (fun _ _ _ h => h) (Or.inl ⟨by rfl, ?_⟩) hS0.out ?_
    rotate_left
    · (intro w' hSw; (try dsimp only at hSw); go_simp; (try with_reducible rfl))
    simp only [Act.put, List.setIfInBounds_toArray, List.set_cons_zero, List.set_cons_succ]
    refine wpTill_take (i := 8) (oi := ⟨_, _, _, _, _, _⟩) (v := ?_) rfl (by kernel_rfl) (by decide) (by kernel_rfl) (by kernel_rfl) (by kernel_rfl) (fun _ _ _ h => h) (Or.inl ⟨by rfl, ?_⟩) hS0.out ?_
    rotate_left
    · (intro w' hSw; (try dsimp only at hSw); go_simp; (try with_reducible rfl))
    simp only [Act.put, List.setIfInBounds_toArray, List.set_cons_zero, List.set_cons_succ]
    refine wpTill_one (i := 9) (o := ⟨_, _, _, _, _, _⟩) rfl (by kernel_rfl) (fun K hK => ?_)
    go_simp
    refine (fault_any _ a0 a4 a5 a10 _ (HV.out.lay (S1.out.same (same_drew w1)).ok.lay) (HE.out.imp id (fun h => h.same (same_drew w1)))).mono ?_
    rintro e w8 ⟨fl, fc, frr, rfl, hk8⟩
    have HS8 := hid ((same_drew w1).trans hk8)
    have R8 := hid (R4.out.same HS8.out)
    have hS8 : Hid ((fun w' : World => (convert 75 9 (.slice A n cap)).run Tryz.prog w' = .ok (.string sK) w' ∧ (convert 75 9 (.slice A2 n2 cap2)).run Tryz.prog w' = .ok (.string sV) w') w8) := ⟨HC.out _ HS8.out, HC2.out _ HS8.out⟩
    clear hk8
    refine hK.out _ _ (fun _ => hS8.out) ?_
    clear hK K
    try simp only [Act.put, List.setIfInBounds_toArray, List.set_cons_zero, List.set_cons_succ]
    refine wpTill_one (i := 10) (o := ⟨_, _, _, _, _, _⟩) rfl (by kernel_rfl) (fun K hK => ?_)
    rw [if_pos (by rfl)]
    refine wp_build_of 63 #[(0, .tmp 91), (1, .tmp 93), (3, .tmp 95), (2, .tmp 97), (6, .tmp 99)] rfl [(0, .bool A.isSome), (1, .string sK), (3, .int .i64 (IntKind.i64.wrap kd)), (2, .string sV), (6, .agg #[.bool (isE err), .int .i64 fl, .int .i64 fc, .bool frr])] _ (by first | (simp [Act.eval]; done) | rfl) (built4 A.isSome sK sV (IntKind.i64.wrap kd) (isE err) fl fc frr) ?_
    refine hK.out _ _ (fun _ => hS8.out) ?_
    clear hK K
    try simp only [Act.put, List.setIfInBounds_toArray, List.set_cons_zero, List.set_cons_succ]
    refine wpTill_one (i := 11) (o := ⟨_, _, _, _, _, _⟩) rfl (by kernel_rfl) (fun K hK => ?_)
    rw [if_pos (by rfl)]
    refine wp_store_row 63 (.tmp 4) (.tmp 100) rfl (w.heap.size + 1) _ rfl rfl 63 _ R8.out info63 rfl (by simp [Value.oneCell']) ?_
    refine hK.out _ _ (fun h => absurd rfl h) ?_
    clear hK K
    refine wpTill_done (by kernel_rfl) ?_ _
    go_big_wp2_with fail
    obtain ⟨hS, hR⟩ := storeTd (g := w.heap.size + 1) (S1.out.same HS8.out) HB.out HB0.out (Nat.le_succ _) R8.out #[.bool A.isSome, .string sK, .string sV, .int .i64 (IntKind.i64.wrap kd), .int .i64 0, .string { data := #[] }, .int .i64 0, .int .u64 0, .float .f64 0, .bool false, .int .i64 0, .bool (isE err), .int .i64 fl, .int .i64 fc, .bool frr]
    have hV : ToldV A.isSome (isE err) (.agg #[.bool A.isSome, .string sK, .string sV, .int .i64 (IntKind.i64.wrap kd), .int .i64 0, .string { data := #[] }, .int .i64 0, .int .u64 0, .float .f64 0, .bool false, .int .i64 0, .bool (isE err), .int .i64 fl, .int .i64 fc, .bool frr]) := ⟨_, rfl, rfl, by simp [Value.oneCell'], rfl, rfl⟩
    have hE1 : isE err = true → (4 : Nat) ≠ 0 ∧ (s1.sec = 4 ∨ s1.sec = 5) := fun h => ⟨by decide, HEs.out h⟩
    have hN : (4 : Nat) ≠ 0 → 4 ≤ s.sec → isE err = false ∧ A.isSome = ((4 : Nat) == 6) ∧ s1.sec = s.sec := fun _ h => by
      obtain ⟨h1, h2, h3⟩ := H4.out h
      refine ⟨?_, ?_, h3⟩
      · rw [h2]; rfl
      · rw [ZA.out h1]; rfl
    exact ret37 rfl rfl hR rfl ⟨A.isSome, isE err, _, s1, rfl, hV, hS, hN, hE1⟩

set_option maxRecDepth 100000 in
set_option maxHeartbeats 12800000 in
theorem told_5 (w0 : World) (hval : ValidOK w0) (a0 a4 a5 a10 : Addr) (hv : EVars w0 a0 a4 a5 a10) (pr df : Int) (c : DC) (s : DS) (w : World) (h : Ok w0 c w s) (hs : s.skip = false) :
    Calls Tryz.prog 37 #[.pointer (some ⟨c.D, 0, none⟩), .agg #[.int .i64 5, .int .i64 pr, .int .i64 df]] w (GivesT w0 c s 5 w) := by
  have Hval := hid hval
  have HV := hid hv
  have H := hid h
  have Hs := hid hs
  have HB : Hid (c.base ≤ w.heap.size) := h.dec.base_le
  have HB0 : Hid (w0.heap.size ≤ w.heap.size) := Nat.le_trans h.D h.dec.base_le
  have HS0 : Hid (Same w ((w.alloc (.cells #[.int .i64 5, .int .i64 pr, .int .i64 df] 61)).alloc (.cells #[.bool false, .string { data := #[] }, .string { data := #[] }, .int .i64 0, .int .i64 0, .string { data := #[] }, .int .i64 0, .int .u64 0, .float .f64 0, .bool false, .int .i64 0, .bool false, .int .i64 0, .int .i64 0, .bool false] 63))) := ((Keep.refl _ _).alloc _).alloc _
  have HR3 : Hid (Row ((w.alloc (.cells #[.int .i64 5, .int .i64 pr, .int .i64 df] 61)).alloc (.cells #[.bool false, .string { data := #[] }, .string { data := #[] }, .int .i64 0, .int .i64 0, .string { data := #[] }, .int .i64 0, .int .u64 0, .float .f64 0, .bool false, .int .i64 0, .bool false, .int .i64 0, .int .i64 0, .bool false] 63)) w.heap.size 61 #[.int .i64 5, .int .i64 pr, .int .i64 df]) := (Row.new w 61 _).alloc _
  have HR4 : Hid (Row ((w.alloc (.cells #[.int .i64 5, .int .i64 pr, .int .i64 df] 61)).alloc (.cells #[.bool false, .string { data := #[] }, .string { data := #[] }, .int .i64 0, .int .i64 0, .string { data := #[] }, .int .i64 0, .int .u64 0, .float .f64 0, .bool false, .int .i64 0, .bool false, .int .i64 0, .int .i64 0, .bool false] 63)) (w.heap.size + 1) 63 #[.bool false, .string { data := #[] }, .string { data := #[] }, .int .i64 0, .int .i64 0, .string { data := #[] }, .int .i64 0, .int .u64 0, .float .f64 0, .bool false, .int .i64 0, .bool false, .int .i64 0, .int .i64 0, .bool false]) := by
    have h1 := Row.new (w.alloc (.cells #[.int .i64 5, .int .i64 pr, .int .i64 df] 61)) 63 #[.bool false, .string { data := #[] }, .string { data := #[] }, .int .i64 0, .int .i64 0, .string { data := #[] }, .int .i64 0, .int .u64 0, .float .f64 0, .bool false, .int .i64 0, .bool false, .int .i64 0, .int .i64 0, .bool false]
    rw [show (w.alloc (Obj.cells #[.int .i64 5, .int .i64 pr, .int .i64 df] 61)).heap.size = w.heap.size + 1 by simp] at h1
    exact h1
  clear hval hv h hs
  go_enter Tryz.func37, Tryz.ntmps37
  go_big_wp2_with fail
  as_aux_lemma =>
    refine (timeBytes_any w0 Hval.out c s _ (H.out.same HS0.out) Hs.out).mono ?_
    rintro e w1 ⟨v, err, s1, rfl, hst, hmay, hor, h4⟩
    have S1 := hid (((Step.refl H.out).same HS0.out).trans hst)
    have R4 := hid (row_farT (by decide) (by decide) HR4.out (H.out.same HS0.out) hst.far)
    clear hst HR4
    have hend : Ends w1 s1 err := by
      rcases hor with ⟨h, -⟩ | ⟨h1, h2, h3⟩
      · exact .inl h
      · exact .inr ⟨h1, h3⟩
    clear hor
    have HE := hid hend.terr.1
    have HEs := hid hend.terr.2
    have H4 := hid h4
    clear hend h4
    obtain ⟨A, n, cap, sK, hvA, hcA, hzA⟩ := maybe_form (hmay.weak)
    have HC := hid hcA
    have ZA := hid hzA
    subst hvA
    have qA := HC.out w1 (Keep.refl _ _)
    have pA := HC.out w1.drew (same_drew _)
    clear hcA hzA
    go_big_wp2_with fail
    refine wp_region_till 7 (fun w' : World => (convert 75 9 (.slice A n cap)).run Tryz.prog w' = .ok (.string sK) w') (by kernel_rfl) ?_
    have hS0 : Hid ((fun w' : World => (convert 75 9 (.slice A n cap)).run Tryz.prog w' = .ok (.string sK) w') w1.drew) := pA
    refine wpTill_take (i := 0) (oi := ⟨_, _, _, _, _, _⟩) (v := ?_) rfl (by kernel_rfl) (by decide) (by kernel_rfl) (by kernel_rfl) (by kernel_rfl) (fun _ _ _ h => h) (Or.inl ⟨by rfl, ?_⟩) hS0.out ?_
    rotate_left
    · (intro w' hSw; (try dsimp only at hSw); go_simp; (try with_reducible rfl))
    simp only [Act.put, List.setIfInBounds_toArray, List.set_cons_zero, List.set_cons_succ]
    refine wpTill_take (i := 1) (oi := ⟨_, _, _, _, _, _⟩) (v := ?_) rfl (by kernel_rfl) (by decide) (by kernel_rfl) (by kernel_rfl) (by kernel_rfl) (fun _ _ _ h => h) (Or.inl ⟨by rfl, ?_⟩) hS0.out ?_
    rotate_left
    · (intro w' hSw; (try dsimp only at hSw); go_simp; (try with_reducible rfl))
    simp only [Act.put, List.setIfInBounds_toArray, List.set_cons_zero, List.set_cons_succ]
    refine wpTill_take (i := 2) (oi := ⟨_, _, _, _, _, _⟩) (v := ?_) rfl (by kernel_rfl) (by decide) (by kernel_rfl) (by kernel_rfl) (by kernel_rfl) (fun _ _ _ h => h) (Or.inl ⟨by rfl, ?_⟩) hS0.out ?_
    rotate_left
    · (intro w' hSw; (try dsimp only at hSw); go_simp; (try with_reducible rfl))
    simp only [Act.put, List.setIfInBounds_toArray, List.set_cons_zero, List.set_cons_succ]
    refine wpTill_take (i := 3) (oi := ⟨_, _, _, _, _, _⟩) (v := ?_) rfl (by kernel_rfl) (by decide) (by kernel_rfl) (by kernel_rfl) (by kernel_rfl) (fun _ _ _ h => h) (Or.inl ⟨by rfl, ?_⟩) hS0.out ?_
    rotate_left
    · (intro w' hSw; (try dsimp only at hSw); go_simp; (try with_reducible rfl))
    simp only [Act.put, List.setIfInBounds_toArray, List.set_cons_zero, List.set_cons_succ]
    refine wpTill_take (i := 4) (oi := ⟨_, _, _, _, _, _⟩) (v := ?_) rfl (by kernel_rfl) (by decide) (by kernel_rfl) (by kernel_rfl) (by kernel_rfl) (fun _ _ _ h => h) (Or.inl ⟨by rfl, ?_⟩) hS0.out ?_
    rotate_left
    · (intro w' hSw; (try dsimp only at hSw); go_simp; (try with_reducible rfl))
    simp only [Act.put, List.setIfInBounds_toArray, List.set_cons_zero, List.set_cons_succ]
    refine wpTill_one (i := 5) (o := ⟨_, _, _, _, _, _⟩) rfl (by kernel_rfl) (fun K hK => ?_)
    go_simp
    refine (fault_any _ a0 a4 a5 a10 _ (HV.out.lay (S1.out.same (same_drew w1)).ok.lay) (HE.out.imp id (fun h => h.same (same_drew w1)))).mono ?_
    rintro e w8 ⟨fl, fc, frr, rfl, hk8⟩
    have HS8 := hid ((same_drew w1).trans hk8)
    have R8 := hid (R4.out.same HS8.out)
    have hS8 : Hid ((fun w' : World => (convert 75 9 (.slice A n cap)).run Tryz.prog w' = .ok (.string sK) w') w8) := HC.out _ HS8.out
    clear hk8
    refine hK.out _ _ (fun _ => hS8.out) ?_
    clear hK K
    try simp only [Act.put, List.setIfInBounds_toArray, List.set_cons_zero, List.set_cons_succ]
    refine wpTill_one (i := 6) (o := ⟨_, _, _, _, _, _⟩) rfl (by kernel_rfl) (fun K hK => ?_)
    rw [if_pos (by rfl)]
    refine wp_build_of 63 #[(0, .tmp 109), (1, .tmp 111), (6, .tmp 113)] rfl [(0, .bool A.isSome), (1, .string sK), (6, .agg #[.bool (isE err), .int .i64 fl, .int .i64 fc, .bool frr])] _ (by first | (simp [Act.eval]; done) | rfl) (built1 A.isSome sK (isE err) fl fc frr) ?_
    refine hK.out _ _ (fun _ => hS8.out) ?_
    clear hK K
    try simp only [Act.put, List.setIfInBounds_toArray, List.set_cons_zero, List.set_cons_succ]
    refine wpTill_one (i := 7) (o := ⟨_, _, _, _, _, _⟩) rfl (by kernel_rfl) (fun K hK => ?_)
    rw [if_pos (by rfl)]
    refine wp_store_row 63 (.tmp 4) (.tmp 114) rfl (w.heap.size + 1) _ rfl rfl 63 _ R8.out info63 rfl (by simp [Value.oneCell']) ?_
    refine hK.out _ _ (fun h => absurd rfl h) ?_
    clear hK K
    refine wpTill_done (by kernel_rfl) ?_ _
    go_big_wp2_with fail
    obtain ⟨hS, hR⟩ := storeTd (g := w.heap.size + 1) (S1.out.same HS8.out) HB.out HB0.out (Nat.le_succ _) R8.out #[.bool A.isSome, .string sK, .string { data := #[] }, .int .i64 0, .int .i64 0, .string { data := #[] }, .int .i64 0, .int .u64 0, .float .f64 0, .bool false, .int .i64 0, .bool (isE err), .int .i64 fl, .int .i64 fc, .bool frr]
    have hV : ToldV A.isSome (isE err) (.agg #[.bool A.isSome, .string sK, .string { data := #[] }, .int .i64 0, .int .i64 0, .string { data := #[] }, .int .i64 0, .int .u64 0, .float .f64 0, .bool false, .int .i64 0, .bool (isE err), .int .i64 fl, .int .i64 fc, .bool frr]) := ⟨_, rfl, rfl, by simp [Value.oneCell'], rfl, rfl⟩
    have hE1 : isE err = true → (5 : Nat) ≠ 0 ∧ (s1.sec = 4 ∨ s1.sec = 5) := fun h => ⟨by decide, HEs.out h⟩
    have hN : (5 : Nat) ≠ 0 → 4 ≤ s.sec → isE err = false ∧ A.isSome = ((5 : Nat) == 6) ∧ s1.sec = s.sec := fun _ h => by
      obtain ⟨h1, h2, h3⟩ := H4.out h
      refine ⟨?_, ?_, h3⟩
      · rw [h2]; rfl
      · rw [ZA.out h1]; rfl
    exact ret37 rfl rfl hR rfl ⟨A.isSome, isE err, _, s1, rfl, hV, hS, hN, hE1⟩

set_option maxRecDepth 100000 in
set_option maxHeartbeats 12800000 in
theorem told_6 (w0 : World) (hval : ValidOK w0) (a0 a4 a5 a10 : Addr) (hv : EVars w0 a0 a4 a5 a10) (p : Nat) (hp : p ≤ 3) (df : Int) (c : DC) (s : DS) (w : World) (h : Ok w0 c w s) (hs : s.skip = false) :
    Calls Tryz.prog 37 #[.pointer (some ⟨c.D, 0, none⟩), .agg #[.int .i64 6, .int .i64 (p : Nat), .int .i64 df]] w (GivesT w0 c s 6 w) := by
  have Hval := hid hval
  have HV := hid hv
  have H := hid h
  have Hs := hid hs
  have HB : Hid (c.base ≤ w.heap.size) := h.dec.base_le
  have HB0 : Hid (w0.heap.size ≤ w.heap.size) := Nat.le_trans h.D h.dec.base_le
  have HS0 : Hid (Same w ((w.alloc (.cells #[.int .i64 6, .int .i64 (p : Nat), .int .i64 df] 61)).alloc (.cells #[.bool false, .string { data := #[] }, .string { data := #[] }, .int .i64 0, .int .i64 0, .string { data := #[] }, .int .i64 0, .int .u64 0, .float .f64 0, .bool false, .int .i64 0, .bool false, .int .i64 0, .int .i64 0, .bool false] 63))) := ((Keep.refl _ _).alloc _).alloc _
  have HR3 : Hid (Row ((w.alloc (.cells #[.int .i64 6, .int .i64 (p : Nat), .int .i64 df] 61)).alloc (.cells #[.bool false, .string { data := #[] }, .string { data := #[] }, .int .i64 0, .int .i64 0, .string { data := #[] }, .int .i64 0, .int .u64 0, .float .f64 0, .bool false, .int .i64 0, .bool false, .int .i64 0, .int .i64 0, .bool false] 63)) w.heap.size 61 #[.int .i64 6, .int .i64 (p : Nat), .int .i64 df]) := (Row.new w 61 _).alloc _
  have HR4 : Hid (Row ((w.alloc (.cells #[.int .i64 6, .int .i64 (p : Nat), .int .i64 df] 61)).alloc (.cells #[.bool false, .string { data := #[] }, .string { data := #[] }, .int .i64 0, .int .i64 0, .string { data := #[] }, .int .i64 0, .int .u64 0, .float .f64 0, .bool false, .int .i64 0, .bool false, .int .i64 0, .int .i64 0, .bool false] 63)) (w.heap.size + 1) 63 #[.bool false, .string { data := #[] }, .string { data := #[] }, .int .i64 0, .int .i64 0, .string { data := #[] }, .int .i64 0, .int .u64 0, .float .f64 0, .bool false, .int .i64 0, .bool false, .int .i64 0, .int .i64 0, .bool false]) := by
    have h1 := Row.new (w.alloc (.cells #[.int .i64 6, .int .i64 (p : Nat), .int .i64 df] 61)) 63 #[.bool false, .string { data := #[] }, .string { data := #[] }, .int .i64 0, .int .i64 0, .string { data := #[] }, .int .i64 0, .int .u64 0, .float .f64 0, .bool false, .int .i64 0, .bool false, .int .i64 0, .int .i64 0, .bool false]
    rw [show (w.alloc (Obj.cells #[.int .i64 6, .int .i64 (p : Nat), .int .i64 df] 61)).heap.size = w.heap.size + 1 by simp] at h1
    exact h1
  clear hval hv h hs
  have hw8 := wrap8 (b := p) (by omega)
  go_enter Tryz.func37, Tryz.ntmps37
  go_big_wp2_with fail
  refine (doorTime_any w0 Hval.out a0 a4 a5 a10 HV.out c s p hp df _ (H.out.same HS0.out) Hs.out).mono ?_
  rintro e w1 ⟨n, err, s1, rfl, hst, hor, h4⟩
  have S1 := hid (((Step.refl H.out).same HS0.out).trans hst)
  have R4 := hid (row_farT (by decide) (by decide) HR4.out (H.out.same HS0.out) hst.far)
  clear hst HR4
  have H4 := hid h4
  clear h4 hw8
  rcases hor with rfl | ⟨hte, hsec⟩
  ·
    as_aux_lemma =>
      have R8e := R4
      go_big_wp2_with fail
      refine wp_region_till 6 (fun _ : World => True) (by kernel_rfl) ?_
      refine wpTill_take (i := 0) (oi := ⟨_, _, _, _, _, _⟩) (v := ?_) rfl (by kernel_rfl) (by decide) (by kernel_rfl) (by kernel_rfl) (by kernel_rfl) (fun _ _ _ h => h) (Or.inl ⟨by rfl, ?_⟩) trivial ?_
      rotate_left
      · (intro w' hSw; (try dsimp only at hSw); go_simp; (try with_reducible rfl))
      simp only [Act.put, List.setIfInBounds_toArray, List.set_cons_zero, List.set_cons_succ]
      refine wpTill_take (i := 1) (oi := ⟨_, _, _, _, _, _⟩) (v := ?_) rfl (by kernel_rfl) (by decide) (by kernel_rfl) (by kernel_rfl) (by kernel_rfl) (fun _ _ _ h => h) (Or.inl ⟨by rfl, ?_⟩) trivial ?_
      rotate_left
      · (intro w' hSw; (try dsimp only at hSw); go_simp; (try with_reducible rfl))
      simp only [Act.put, List.setIfInBounds_toArray, List.set_cons_zero, List.set_cons_succ]
      refine wpTill_take (i := 2) (oi := ⟨_, _, _, _, _, _⟩) (v := ?_) rfl (by kernel_rfl) (by decide) (by kernel_rfl) (by kernel_rfl) (by kernel_rfl) (fun _ _ _ h => h) (Or.inl ⟨by rfl, ?_⟩) trivial ?_
      rotate_left
      · (intro w' hSw; (try dsimp only at hSw); go_simp; (try with_reducible rfl))
      simp only [Act.put, List.setIfInBounds_toArray, List.set_cons_zero, List.set_cons_succ]
      refine wpTill_take (i := 3) (oi := ⟨_, _, _, _, _, _⟩) (v := ?_) rfl (by kernel_rfl) (by decide) (by kernel_rfl) (by kernel_rfl) (by kernel_rfl) (fun _ _ _ h => h) (Or.inl ⟨by rfl, ?_⟩) trivial ?_
      rotate_left
      · (intro w' hSw; (try dsimp only at hSw); go_simp; (try with_reducible rfl))
      simp only [Act.put, List.setIfInBounds_toArray, List.set_cons_zero, List.set_cons_succ]
      refine wpTill_one (i := 4) (o := ⟨_, _, _, _, _, _⟩) rfl (by kernel_rfl) (fun K hK => ?_)
      go_simp
      refine (fault_nil a0 a4 a5 a10 _ (HV.out.lay (S1.out.same (same_drew w1)).ok.lay)).mono ?_
      rintro e w8 ⟨fl, fc, frr, rfl, hk8⟩
      have HS8 := hid ((same_drew w1).trans hk8)
      have R8 := hid (R4.out.same HS8.out)
      clear hk8
      refine hK.out _ _ (fun _ => trivial) ?_
      clear hK K
      try simp only [Act.put, List.setIfInBounds_toArray, List.set_cons_zero, List.set_cons_succ]
      refine wpTill_one (i := 5) (o := ⟨_, _, _, _, _, _⟩) rfl (by kernel_rfl) (fun K hK => ?_)
      rw [if_pos (by rfl)]
      refine wp_build_of 63 #[(0, .tmp 128), (5, .tmp 129), (6, .tmp 131)] rfl [(0, .bool true), (5, .int .i64 n), (6, .agg #[.bool false, .int .i64 fl, .int .i64 fc, .bool frr])] _ (by first | (simp [Act.eval]; done) | rfl) (built6 true n false fl fc frr) ?_
      refine hK.out _ _ (fun _ => trivial) ?_
      clear hK K
      try simp only [Act.put, List.setIfInBounds_toArray, List.set_cons_zero, List.set_cons_succ]
      refine wpTill_one (i := 6) (o := ⟨_, _, _, _, _, _⟩) rfl (by kernel_rfl) (fun K hK => ?_)
      rw [if_pos (by rfl)]
      refine wp_store_row 63 (.tmp 4) (.tmp 132) rfl (w.heap.size + 1) _ rfl rfl 63 _ R8.out info63 rfl (by simp [Value.oneCell']) ?_
      refine hK.out _ _ (fun h => absurd rfl h) ?_
      clear hK K
      refine wpTill_done (by kernel_rfl) ?_ _
      go_big_wp2_with fail
      obtain ⟨hS, hR⟩ := storeTd (g := w.heap.size + 1) (S1.out.same HS8.out) HB.out HB0.out (Nat.le_succ _) R8.out #[.bool true, .string { data := #[] }, .string { data := #[] }, .int .i64 0, .int .i64 0, .string { data := #[] }, .int .i64 0, .int .u64 0, .float .f64 0, .bool false, .int .i64 n, .bool false, .int .i64 fl, .int .i64 fc, .bool frr]
      have hV : ToldV true false (.agg #[.bool true, .string { data := #[] }, .string { data := #[] }, .int .i64 0, .int .i64 0, .string { data := #[] }, .int .i64 0, .int .u64 0, .float .f64 0, .bool false, .int .i64 n, .bool false, .int .i64 fl, .int .i64 fc, .bool frr]) := ⟨_, rfl, rfl, by simp [Value.oneCell'], rfl, rfl⟩
      exact ret37 rfl rfl hR rfl ⟨true, false, _, s1, rfl, hV, hS, fun _ h => ⟨rfl, rfl, (H4.out h).2⟩, fun h => by cases h⟩
  ·
    as_aux_lemma =>
      have Hte := hid hte
      have Hsec := hid hsec
      obtain ⟨t, v, rfl⟩ := hte.iface
      clear hte hsec
      have R8e := R4
      go_big_wp2_with fail
      refine wp_region_till 6 (fun _ : World => True) (by kernel_rfl) ?_
      refine wpTill_take (i := 0) (oi := ⟨_, _, _, _, _, _⟩) (v := ?_) rfl (by kernel_rfl) (by decide) (by kernel_rfl) (by kernel_rfl) (by kernel_rfl) (fun _ _ _ h => h) (Or.inl ⟨by rfl, ?_⟩) trivial ?_
      rotate_left
      · (intro w' hSw; (try dsimp only at hSw); go_simp; (try with_reducible rfl))
      simp only [Act.put, List.setIfInBounds_toArray, List.set_cons_zero, List.set_cons_succ]
      refine wpTill_take (i := 1) (oi := ⟨_, _, _, _, _, _⟩) (v := ?_) rfl (by kernel_rfl) (by decide) (by kernel_rfl) (by kernel_rfl) (by kernel_rfl) (fun _ _ _ h => h) (Or.inl ⟨by rfl, ?_⟩) trivial ?_
      rotate_left
      · (intro w' hSw; (try dsimp only at hSw); go_simp; (try with_reducible rfl))
      simp only [Act.put, List.setIfInBounds_toArray, List.set_cons_zero, List.set_cons_succ]
      refine wpTill_take (i := 2) (oi := ⟨_, _, _, _, _, _⟩) (v := ?_) rfl (by kernel_rfl) (by decide) (by kernel_rfl) (by kernel_rfl) (by kernel_rfl) (fun _ _ _ h => h) (Or.inl ⟨by rfl, ?_⟩) trivial ?_
      rotate_left
      · (intro w' hSw; (try dsimp only at hSw); go_simp; (try with_reducible rfl))
      simp only [Act.put, List.setIfInBounds_toArray, List.set_cons_zero, List.set_cons_succ]
      refine wpTill_take (i := 3) (oi := ⟨_, _, _, _, _, _⟩) (v := ?_) rfl (by kernel_rfl) (by decide) (by kernel_rfl) (by kernel_rfl) (by kernel_rfl) (fun _ _ _ h => h) (Or.inl ⟨by rfl, ?_⟩) trivial ?_
      rotate_left
      · (intro w' hSw; (try dsimp only at hSw); go_simp; (try with_reducible rfl))
      simp only [Act.put, List.setIfInBounds_toArray, List.set_cons_zero, List.set_cons_succ]
      refine wpTill_one (i := 4) (o := ⟨_, _, _, _, _, _⟩) rfl (by kernel_rfl) (fun K hK => ?_)
      go_simp
      refine (show Calls Tryz.prog 74 #[.iface t v] w1.drew (GivesFl true w1.drew) from fault_any _ a0 a4 a5 a10 _ (HV.out.lay (S1.out.same (same_drew w1)).ok.lay) (.inr (Hte.out.same (same_drew w1)))).mono ?_
      rintro e w8 ⟨fl, fc, frr, rfl, hk8⟩
      have HS8 := hid ((same_drew w1).trans hk8)
      have R8 := hid (R4.out.same HS8.out)
      clear hk8
      refine hK.out _ _ (fun _ => trivial) ?_
      clear hK K
      try simp only [Act.put, List.setIfInBounds_toArray, List.set_cons_zero, List.set_cons_succ]
      refine wpTill_one (i := 5) (o := ⟨_, _, _, _, _, _⟩) rfl (by kernel_rfl) (fun K hK => ?_)
      rw [if_pos (by rfl)]
      refine wp_build_of 63 #[(0, .tmp 128), (5, .tmp 129), (6, .tmp 131)] rfl [(0, .bool false), (5, .int .i64 n), (6, .agg #[.bool true, .int .i64 fl, .int .i64 fc, .bool frr])] _ (by first | (simp [Act.eval]; done) | rfl) (built6 false n true fl fc frr) ?_
      refine hK.out _ _ (fun _ => trivial) ?_
      clear hK K
      try simp only [Act.put, List.setIfInBounds_toArray, List.set_cons_zero, List.set_cons_succ]
      refine wpTill_one (i := 6) (o := ⟨_, _, _, _, _, _⟩) rfl (by kernel_rfl) (fun K hK => ?_)
      rw [if_pos (by rfl)]
      refine wp_store_row 63 (.tmp 4) (.tmp 132) rfl (w.heap.size + 1) _ rfl rfl 63 _ R8.out info63 rfl (by simp [Value.oneCell']) ?_
      refine hK.out _ _ (fun h => absurd rfl h) ?_
      clear hK K
      refine wpTill_done (by kernel_rfl) ?_ _
      go_big_wp2_with fail
      obtain ⟨hS, hR⟩ := storeTd (g := w.heap.size + 1) (S1.out.same HS8.out) HB.out HB0.out (Nat.le_succ _) R8.out #[.bool false, .string { data := #[] }, .string { data := #[] }, .int .i64 0, .int .i64 0, .string { data := #[] }, .int .i64 0, .int .u64 0, .float .f64 0, .bool false, .int .i64 n, .bool true, .int .i64 fl, .int .i64 fc, .bool frr]
      have hV : ToldV false true (.agg #[.bool false, .string { data := #[] }, .string { data := #[] }, .int .i64 0, .int .i64 0, .string { data := #[] }, .int .i64 0, .int .u64 0, .float .f64 0, .bool false, .int .i64 n, .bool true, .int .i64 fl, .int .i64 fc, .bool frr]) := ⟨_, rfl, rfl, by simp [Value.oneCell'], rfl, rfl⟩
      exact ret37 rfl rfl hR rfl ⟨false, true, _, s1, rfl, hV, hS, fun _ h => absurd (H4.out h).1 (by simp), fun _ => ⟨by decide, Hsec.out⟩⟩
end Go.Proofs.YticdagnbnmnidaaGreatDoor
