/- impl.DecodeScript. Conditions: none. -/
import Derived.Test.YticdagnbnmnidaaGreatDoorSaTe
import Derived.Test.YticdagnbnmnidaaGreatDoorSaNd
import Derived.Test.YticdagnbnmnidaaGreatDoorSaLw
import Derived.Great.BuildSlice
set_option linter.unusedSimpArgs false
set_option linter.unusedVariables false
namespace Go.Proofs.YticdagnbnmnidaaGreatDoor
open Go.RowKit

/-- the slice of answers stays, whatever the decoder does -/
theorem own_far {w0 w w' : World} {c : DC} {s s' : DS} {base n : Nat} {v : Value} {xs : List Value} (ho : w.ownsRow base 63 15 v n xs) (h : Ok w0 c w s) (hf : Far c s s' w w') : w'.ownsRow base 63 15 v n xs := by
  obtain ⟨h1, h2⟩ := ho
  refine ⟨h1, ?_⟩
  rcases h2 with h2 | ⟨g, cap, cur, hv, hg, hh, r⟩
  · exact .inl h2
  · exact .inr ⟨g, cap, cur, hv, hg, row_farT (t := 63) (by decide) (by decide) hh h hf, r⟩

/-- what the deferred calls leave hangs on the named results alone -/
theorem leaves_congr {P : Program} {fn : Func} {t t' : Array Value} {R : Ending → World → Prop} (h : ∀ w, (results fn t').run P w = (results fn t).run P w) :
    ∀ (ds : List Deferred) (u : FrameMode) (w : World), Leaves P fn t R ds u w → Leaves P fn t' R ds u w
  | [], .returning, w, ⟨v, hr, hR⟩ => ⟨v, (h w).trans hr, hR⟩
  | [], .panicking _, _, hR => hR
  | [], .run, _, hR => hR
  | d :: ds, u, w, ⟨hu, fv, cap, f, args, ht, hi, hc⟩ => ⟨hu, fv, cap, f, args, ht, hi, hc.mono fun e u' w' hx => by
      cases e with
      | returned v => exact leaves_congr h ds _ _ hx
      | panicked c => exact leaves_congr h ds _ _ hx
      | outgrown => exact hx⟩
theorem put_panic {R : Ending → World → Prop} {c : List PanicEntry} {a : Act} {w : World} {k : Nat} {v : Value} (h8 : k ≠ 8) (h9 : k ≠ 9) (h10 : k ≠ 10) (h : bodyPostD Tryz.prog Tryz.f14 R (.panic c) (a.put (some k) v) w) :
    bodyPostD Tryz.prog Tryz.f14 R (.panic c) a w := by
  refine leaves_congr (fun w => ?_) _ _ _ h
  have hg : ∀ j, k ≠ j → (a.tmps.setIfInBounds k v)[j]?.getD undef = a.tmps[j]?.getD undef := fun j hj => by
    simp [Array.getElem?_setIfInBounds, hj]
  show (results Tryz.f14 a.tmps).run Tryz.prog w = (results Tryz.f14 (a.tmps.setIfInBounds k v)).run Tryz.prog w
  simp only [results, Tryz.results14]
  simp [hg 8 h8, hg 9 h9, hg 10 h10]

theorem fill_told (cs z : Array Value) (h : cs.size = 15) (hz : z.size = 15) : Instr.fill (fun i => some (i * 15, 15)) z [(0, .agg cs)] = some cs := by
  have := Go.Great.fill_whole (s := 15) (by omega) [.agg cs] z (fun v hv => by rw [List.mem_singleton.1 hv]; exact h) (by simpa using hz.symm)
  have e : (Value.agg cs).cells = cs := rfl
  simpa [e] using this
theorem step_build_told {o : Oper} {a : Act} {w : World} {K : Act → World → Prop} {Q : Exit → Act → World → Prop} (x : Operand) (ho : o.op = .buildSlice 55 1 #[(0, x)]) (cs : Array Value) (hx : a.eval x = .agg cs) (hcs : cs.size = 15)
    (h : K (a.put o.dst (.slice (some ⟨w.heap.size, 0, none⟩) 1 1)) (w.alloc (.cells cs 63))) : o.wp Tryz.prog a w K Q := by
  obtain ⟨i, hi, hi2⟩ := Option.map_eq_some_iff.1 info63z
  injection hi2 with e1 e2
  injection e2 with e3 e4
  obtain ⟨z, hz, hzs⟩ := Option.map_eq_some_iff.1 e4
  refine wp_buildSlice (P := Tryz.prog) 55 63 1 #[(0, x)] ho cs i z Tryz.underlying55 hi hz (by rw [e1]; decide) (by rw [e1]; decide) ?_ h
  rw [e1]
  have e : ((#[(0, x)] : Array (Nat × Operand)).map fun (i, x) => (i, a.eval x)).toList = [(0, .agg cs)] := by simp [hx]
  rw [e]
  exact fill_told cs _ hcs (by simp)

theorem own_out {w : World} {base n : Nat} {v : Value} {xs : List Value} (h : w.ownsRow base 63 15 v n xs) (hn : 0 < n) :
    ∃ g cap, v = .slice (some ⟨g, 0, none⟩) n cap ∧ base ≤ g ∧ g < w.heap.size ∧ ∀ j u, xs[j]? = some u → w.cell? ⟨g, j, none⟩ = some u := by
  rcases h.2 with ⟨h1, h2⟩ | ⟨g, cap, cur, hv, hg, hh, r⟩
  · omega
  · refine ⟨g, cap, hv, hg, (Array.getElem?_eq_some_iff.1 hh).1, fun j u hu => ?_⟩
    have e := h.cells (g := g) (by rw [hv]; rfl) j u hu
    have e2 : (⟨g, 0, none⟩ : Addr).add j = ⟨g, j, none⟩ := by unfold Addr.add; split <;> simp_all
    rwa [e2] at e

/-- a block that is owned lies at the base or behind -/
theorem own_base {w : World} {base e size n : Nat} {v : Value} {xs : List Value} (h : w.ownsRow base e size v n xs) {g : Nat} (hg : v.ownBlock = some g) : base ≤ g := by
  rcases h.2 with ⟨h1, h2⟩ | ⟨g', cap, cur, hv, hb, hh, r⟩
  · rw [h1] at hg; cases hg
  · rw [hv] at hg
    obtain rfl : g' = g := Option.some.inj hg
    exact hb
theorem own_ne_row {w : World} {base e size n : Nat} {v : Value} {xs : List Value} (h : w.ownsRow base e size v n xs) {g : Nat} {t : TypeId} {cs : Array Value} (hr : Row w g t cs) (ht : t ≠ e) : v.ownBlock ≠ some g := fun hg => by
  rcases h.2 with ⟨h1, h2⟩ | ⟨g', cap, cur, hv, hb, hh, r⟩
  · rw [h1] at hg; cases hg
  · rw [hv] at hg
    obtain rfl : g' = g := Option.some.inj hg
    exact row_ne hr hh ht rfl
theorem own_apart {w : World} {b1 e1 s1 n1 b2 e2 s2 n2 : Nat} {v1 v2 : Value} {x1 x2 : List Value} (h1 : w.ownsRow b1 e1 s1 v1 n1 x1) (h2 : w.ownsRow b2 e2 s2 v2 n2 x2) (he : e2 ≠ e1) : ∀ g, v1.ownBlock = some g → v2.ownBlock ≠ some g := fun g hg => by
  rcases h2.2 with ⟨k1, k2⟩ | ⟨g', cap, cur, hv, hb, hh, r⟩
  · rw [k1]; exact fun e => by cases e
  · intro e
    rw [hv] at e
    obtain rfl : g' = g := Option.some.inj e
    exact own_ne_row h1 hh he hg
theorem row_grown {w w' : World} {g : Nat} {t : TypeId} {cs : Array Value} {o : Option Nat} (h : Row w g t cs) (hg : w.grownBy w' o) (hn : o ≠ some g) : Row w' g t cs :=
  (hg.block g h.lt (fun e => hn e.symm)).trans h
/-- the decoder stands well behind an append to another slice of the call's own -/
theorem ok_grown {w0 w w' : World} {c : DC} {s : DS} {o : Option Nat} (h : Ok w0 c w s) (hg : w.grownBy w' o) (hD : o ≠ some c.D) (hb : ∀ g, o = some g → c.base ≤ g) (he : ∀ g, o = some g → s.esc.ownBlock ≠ some g) : Ok w0 c w' s := by
  have hk : Keep (fun k => o = some k) w w' := (Keep.refl _ w).grown hg (fun k e _ => e)
  have hT := h.dec.base_T
  have hDD := h.D
  refine ⟨{ h.dec with row := h.dec.row.keep hk hD, text := h.dec.text.keep hk (fun e => by have := hb _ e; omega), esc := ?_, base_le := Nat.le_trans h.dec.base_le hk.size }, h.ok, h.sec, h.lay.keep hk (fun k hlt e => by have := hb _ e; omega), h.D⟩
  refine h.dec.esc.kept hg ?_
  by_cases hv : s.esc.ownBlock = none
  · exact .inl hv
  · refine .inr (fun e => ?_)
    cases ho : o with
    | none => exact hv (e.trans ho)
    | some g => exact he g ho (e.trans ho)
/-- .. behind a store to a block that is none of its own -/
theorem Ok.box {t : TypeId} (t1 : t ≠ 134) (t2 : t ≠ 5) {w0 w w' : World} {c : DC} {s : DS} {g : Nat} {cs : Array Value} (h : Ok w0 c w s) (hr : Row w g t cs) (hv : ∀ (i : Nat) (n : Int), cs[i]? ≠ some (.int .u8 n)) (h0 : w0.heap.size ≤ g) (hk : Keep (fun k => k = g) w w') : Ok w0 c w' s := by
  have hne : s.esc.ownBlock ≠ some g := own_ne_row h.dec.esc hr t2
  refine ⟨{ h.dec with row := h.dec.row.keep hk (fun e => row_ne hr h.dec.row t1 e.symm), text := ?_, esc := ?_, base_le := Nat.le_trans h.dec.base_le hk.size }, h.ok, h.sec, h.lay.keep hk (fun k hlt e => by omega), h.D⟩
  · intro i hi
    have e := h.dec.text i hi
    by_cases hT : c.T = g
    · rw [hT] at e
      exact absurd ((hr.cell _).symm.trans e) (hv _ _)
    · rw [← e]
      exact hk.cell (p := ⟨c.T, 0 + i, none⟩) (lt_of_cell e) hT
  · exact h.dec.esc.kept (row := some g) ⟨hk.os, hk.tape, hk.output, hk.size, fun k hk' hn => hk.block k hk' (fun e => hn (by rw [e]))⟩ (.inr hne)
theorem over_congr {op : Nat → Int} {f f' : Nat → Bool} : ∀ k, (∀ i, i < k → f' i = f i) → over op f' k = over op f k
  | 0, _ => rfl
  | k + 1, h => by
    have e := over_congr (op := op) k (fun i hi => h i (by omega))
    simp only [over, e, h k (by omega)]

/-- what the loop of DecodeScript keeps -/
structure DsAt (w0 w : World) (c : DC) (op : Nat → Int) (k : Nat) (wr : World) : Prop where
  ex : ∃ (d : DS) (b f : Nat → Bool) (v : Value) (xs : List Value), Ok w0 c wr d ∧ d.skip = false ∧ Same w wr ∧ Row wr w.heap.size 55 #[v] ∧ Row wr (w.heap.size + 1) 4 #[.bool false] ∧ Row wr (w.heap.size + 1 + 1) 4 #[.bool false] ∧
    wr.ownsRow c.base 63 15 v k xs ∧ (∀ i, i < k → xs[i * 15]? = some (.bool (b i)) ∧ xs[i * 15 + 11]? = some (.bool (f i))) ∧ Silent op b f k ∧ (over op f k = true → 4 ≤ d.sec)

set_option maxRecDepth 20000 in
set_option maxHeartbeats 3200000 in
theorem script_any (w0 : World) (hval : ValidOK w0) (ht : FTabs w0) (hz : 25 < w0.heap.size) (a0 a4 a5 a10 : Addr) (hv : EVars w0 a0 a4 a5 a10) (s : ByteArray) (A : Option Addr) (n cap : Nat) (op pr df : Nat → Int) (w : World) (ha : Asks w A n op pr df)
    (hl : Lay w0 w) (hw0 : w0.heap.size ≤ w.heap.size) (hs : s.size ≤ 800) (hn : n ≤ 200) (hok : ∀ i, i < n → AskOk (op i) (pr i)) :
    Calls Tryz.prog 14 #[.string s, .slice none 0 0, .bool false, .slice A n cap] w (GivesDS op n w) := by
  have Hval := hid hval
  have HT := hid ht
  have HV := hid hv
  have HA := hid ha
  have HL := hid hl
  have Hok := hid hok
  have HS0 : Hid (Same w (((w.alloc (.cells #[.slice none 0 0] 55)).alloc (.cells #[.bool false] 4)).alloc (.cells #[.bool false] 4))) := (((Keep.refl _ _).alloc _).alloc _).alloc _
  have HR8 : Hid (Row (((w.alloc (.cells #[.slice none 0 0] 55)).alloc (.cells #[.bool false] 4)).alloc (.cells #[.bool false] 4)) w.heap.size 55 #[.slice none 0 0]) := ((Row.new w 55 _).alloc _).alloc _
  have HR9 : Hid (Row (((w.alloc (.cells #[.slice none 0 0] 55)).alloc (.cells #[.bool false] 4)).alloc (.cells #[.bool false] 4)) (w.heap.size + 1) 4 #[.bool false]) := by
    have h1 := (Row.new (w.alloc (.cells #[.slice none 0 0] 55)) 4 #[.bool false]).alloc (.cells #[.bool false] 4)
    rw [show (w.alloc (Obj.cells #[.slice none 0 0] 55)).heap.size = w.heap.size + 1 by simp] at h1
    exact h1
  have HR10 : Hid (Row (((w.alloc (.cells #[.slice none 0 0] 55)).alloc (.cells #[.bool false] 4)).alloc (.cells #[.bool false] 4)) (w.heap.size + 1 + 1) 4 #[.bool false]) := by
    have h1 := Row.new ((w.alloc (.cells #[.slice none 0 0] 55)).alloc (.cells #[.bool false] 4)) 4 #[.bool false]
    rw [show ((w.alloc (Obj.cells #[.slice none 0 0] 55)).alloc (Obj.cells #[.bool false] 4)).heap.size = w.heap.size + 1 + 1 by simp] at h1
    exact h1
  clear hval ht hv ha hl hok
  have hmf : ∀ (fn : Fn) (first cap : Array Value) (w : World), (Instr.makeFunc fn first cap).run Tryz.prog w = .ok (.func fn first cap) w := fun _ _ _ _ => rfl
  go_enter_defers Tryz.func14, Tryz.ntmps14
  go_wp2_with fail
  refine (decoder_any s _ (by omega)).mono ?_
  rintro e w4 ⟨c, d, rfl, hd, hb, hokd, hsec, hsk, hk4, hbase⟩
  have hOk : Ok w0 c w4 d := ⟨hd, hokd, by omega, HL.out.same (HS0.out.trans hk4), Nat.le_trans hw0 (Nat.le_trans HS0.out.size hbase)⟩
  have HOk := hid hOk
  have HS4 := hid (HS0.out.trans hk4)
  have R8 := hid (HR8.out.same hk4)
  have R9 := hid (HR9.out.same hk4)
  have R10 := hid (HR10.out.same hk4)
  have Hsk := hid hsk
  have Hb3 : Hid (w.heap.size + 1 + 1 + 1 ≤ c.base) := hid (by simpa using hbase)
  clear hd hb hokd hsec hsk hk4 hbase hOk HS0 HR8 HR9 HR10
  go_wp2_with fail
  go_loopw [21] (fun i wr => ∃ k : Nat, k ≤ n ∧ i = .int .i64 k ∧ DsAt w0 w c op k wr) (fun i _ => n - (intOf i).toNat)
  case atStart => exact ⟨0, Nat.zero_le _, rfl, ⟨d, fun _ => false, fun _ => false, .slice none 0 0, [], HOk.out, Hsk.out, HS4.out, R8.out, R9.out, R10.out, ⟨rfl, .inl ⟨rfl, rfl⟩⟩, fun i hi => absurd hi (by omega), fun i hi => absurd hi (by omega), fun h => by cases h⟩⟩
  case round =>
    obtain ⟨k, hk, rfl, ⟨d, b, f, v, xs, hok1, hsk1, hS, hr8, hr9, hr10, hown, hxs, hsil, hov⟩⟩ := hrel
    by_cases hlt : k < n
    ·
      as_aux_lemma =>
        obtain ⟨T, off, rfl, hc⟩ := (HA.out.same hS).at_ (by omega)
        obtain ⟨c0, c1, c2⟩ := hc k hlt
        obtain ⟨hlo, hhi, hpr⟩ := Hok.out k hlt
        obtain ⟨o, ho⟩ := Int.eq_ofNat_of_zero_le hlo
        obtain ⟨p, hp⟩ : ∃ p, p = pr k := ⟨_, rfl⟩
        obtain ⟨q, hq⟩ : ∃ q, q = df k := ⟨_, rfl⟩
        rw [ho] at c0
        rw [← hp] at c1
        rw [← hq] at c2
        have Ho := hid ho
        have Hhi := hid (show o ≤ 6 by omega)
        have Hpr := hid (show o = 6 → 0 ≤ p ∧ p ≤ 3 by rw [hp]; exact fun e => hpr (by omega))
        obtain ⟨A', cap', rfl⟩ : ∃ A' cap', v = .slice A' k cap' := by
          rcases hown.2 with ⟨h1, h2⟩ | ⟨g, cp, cur, h1, -⟩
          · exact ⟨none, 0, by rw [h1, h2]⟩
          · exact ⟨_, _, h1⟩
        have hI : (k : Int) < (n : Int) := by omega
        have HS := hid hS
        have H := hid hok1
        have R8 := hid hr8
        have R9 := hid hr9
        have R10 := hid hr10
        have Hown := hid hown
        have Hxs := hid hxs
        have Hsil := hid hsil
        have Hov := hid hov
        have Hsk1 := hid hsk1
        clear hok1 hsk1 hS hr8 hr9 hr10 hown hxs hsil hov hc hlo hhi hpr ho hp hq
        go_wp2_with fail
        have HK := hid ((Keep.refl (fun _ => False) wr).alloc (.cells #[.int .i64 (o : Nat), .int .i64 p, .int .i64 q] 61))
        have R13 : Hid (Row (wr.alloc (.cells #[.int .i64 (o : Nat), .int .i64 p, .int .i64 q] 61)) wr.heap.size 61 #[.int .i64 (o : Nat), .int .i64 p, .int .i64 q]) := Row.new wr 61 _
        obtain ⟨g13, hg13⟩ : ∃ g, g = wr.heap.size := ⟨_, rfl⟩
        rw [← hg13] at R13 ⊢
        have Hg13 := hid hg13
        clear hg13 c0 c1 c2
        generalize wr.alloc (.cells #[.int .i64 (o : Nat), .int .i64 p, .int .i64 q] 61) = w2 at *
        have T8 := hid (R8.out.same HK.out)
        have H2 := hid (H.out.same HK.out)
        have HS2 := hid (HS.out.trans HK.out)
        have hS0 : Hid ((fun w' : World => w'.cell? ⟨w.heap.size, 0, none⟩ = some (.slice A' k cap') ∧ w'.cell? ⟨g13, 0, none⟩ = some (.int .i64 (o : Nat)) ∧ w'.cell? ⟨g13, 1, none⟩ = some (.int .i64 p) ∧ w'.cell? ⟨g13, 2, none⟩ = some (.int .i64 q)) w2.drew) := ⟨T8.out.cell 0, R13.out.cell 0, R13.out.cell 1, R13.out.cell 2⟩
        refine wp_region_till 6 (fun w' : World => w'.cell? ⟨w.heap.size, 0, none⟩ = some (.slice A' k cap') ∧ w'.cell? ⟨g13, 0, none⟩ = some (.int .i64 (o : Nat)) ∧ w'.cell? ⟨g13, 1, none⟩ = some (.int .i64 p) ∧ w'.cell? ⟨g13, 2, none⟩ = some (.int .i64 q)) (by kernel_rfl) ?_
        refine wpTill_take (i := 0) (oi := ⟨_, _, _, _, _, _⟩) (v := ?_) rfl (by kernel_rfl) (by decide) (by kernel_rfl) (by kernel_rfl) (by kernel_rfl) (fun _ _ _ h => put_panic (by decide) (by decide) (by decide) h) (Or.inl ⟨by rfl, ?_⟩) hS0.out ?_
        rotate_left
        · (intro w' hSw; (try dsimp only at hSw); go_simp; (try with_reducible rfl))
        simp only [Act.put, List.setIfInBounds_toArray, List.set_cons_zero, List.set_cons_succ]
        refine wpTill_take (i := 1) (oi := ⟨_, _, _, _, _, _⟩) (v := ?_) rfl (by kernel_rfl) (by decide) (by kernel_rfl) (by kernel_rfl) (by kernel_rfl) (fun _ _ _ h => put_panic (by decide) (by decide) (by decide) h) (Or.inl ⟨by rfl, ?_⟩) hS0.out ?_
        rotate_left
        · (intro w' hSw; (try dsimp only at hSw); go_simp; (try with_reducible rfl))
        simp only [Act.put, List.setIfInBounds_toArray, List.set_cons_zero, List.set_cons_succ]
        refine wpTill_take (i := 2) (oi := ⟨_, _, _, _, _, _⟩) (v := ?_) rfl (by kernel_rfl) (by decide) (by kernel_rfl) (by kernel_rfl) (by kernel_rfl) (fun _ _ _ h => put_panic (by decide) (by decide) (by decide) h) (Or.inl ⟨by rfl, ?_⟩) hS0.out ?_
        rotate_left
        · (intro w' hSw; (try dsimp only at hSw); go_simp; (try with_reducible rfl))
        simp only [Act.put, List.setIfInBounds_toArray, List.set_cons_zero, List.set_cons_succ]
        refine wpTill_one (i := 3) (o := ⟨_, _, _, _, _, _⟩) rfl (by kernel_rfl) (fun K hK => ?_)
        go_simp
        refine (told_any w0 Hval.out HT.out hz a0 a4 a5 a10 HV.out o Hhi.out p q Hpr.out c d _ (H2.out.same (same_drew w2)) Hsk1.out).mono ?_
        rintro e w8 ⟨bk, fk, va, d', rfl, ⟨cs, rfl, hcs, h1, hb0, hf11⟩, hst, hsilent, hflt⟩
        have Hst := hid hst
        have Hsl := hid hsilent
        have Hfl := hid hflt
        have Hcs := hid hcs
        have H1 := hid h1
        have Hb0 := hid hb0
        have Hf11 := hid hf11
        clear hst hsilent hflt hcs h1 hb0 hf11
        have T8b := hid (row_farT (t := 55) (by decide) (by decide) (T8.out.same (same_drew w2)) (H2.out.same (same_drew w2)) Hst.out.far)
        have R13b := hid (row_farT (t := 61) (by decide) (by decide) (R13.out.same (same_drew w2)) (H2.out.same (same_drew w2)) Hst.out.far)
        have hS1 : Hid ((fun w' : World => w'.cell? ⟨w.heap.size, 0, none⟩ = some (.slice A' k cap') ∧ w'.cell? ⟨g13, 0, none⟩ = some (.int .i64 (o : Nat)) ∧ w'.cell? ⟨g13, 1, none⟩ = some (.int .i64 p) ∧ w'.cell? ⟨g13, 2, none⟩ = some (.int .i64 q)) w8) := ⟨T8b.out.cell 0, R13b.out.cell 0, R13b.out.cell 1, R13b.out.cell 2⟩
        refine hK.out _ _ (fun _ => hS1.out) ?_
        clear hK K hS0
        try simp only [Act.put, List.setIfInBounds_toArray, List.set_cons_zero, List.set_cons_succ]
        refine wpTill_one (i := 4) (o := ⟨_, _, _, _, _, _⟩) rfl (by kernel_rfl) (fun K hK => ?_)
        rw [if_pos (by rfl)]
        refine step_build_told (.tmp 28) rfl cs (by rfl) Hcs.out ?_
        have HK9 := hid ((Keep.refl (fun _ => False) w8).alloc (.cells cs 63))
        have R9n := hid (Row.new w8 63 cs)
        obtain ⟨g9, hg9⟩ : ∃ g, g = w8.heap.size := ⟨_, rfl⟩
        rw [← hg9] at R9n ⊢
        generalize w8.alloc (.cells cs 63) = w9 at *
        have hS2 : Hid ((fun w' : World => w'.cell? ⟨w.heap.size, 0, none⟩ = some (.slice A' k cap') ∧ w'.cell? ⟨g13, 0, none⟩ = some (.int .i64 (o : Nat)) ∧ w'.cell? ⟨g13, 1, none⟩ = some (.int .i64 p) ∧ w'.cell? ⟨g13, 2, none⟩ = some (.int .i64 q)) w9) := ⟨(T8b.out.same HK9.out).cell 0, (R13b.out.same HK9.out).cell 0, (R13b.out.same HK9.out).cell 1, (R13b.out.same HK9.out).cell 2⟩
        refine hK.out _ _ (fun _ => hS2.out) ?_
        clear hK K hS1
        try simp only [Act.put, List.setIfInBounds_toArray, List.set_cons_zero, List.set_cons_succ]
        refine wpTill_one (i := 5) (o := ⟨_, _, _, _, _, _⟩) rfl (by kernel_rfl) (fun K hK => ?_)
        have Hown9 := hid (own_far (own_far Hown.out H.out (Far.same HK.out)) (H2.out) ((Far.same (same_drew w2)).trans (Hst.out.far.trans (Far.same HK9.out))))
        have Hok9 := hid (Hst.out.ok.same HK9.out)
        have hS9 : Hid (Same w w9) := hid ((((HS2.out.trans (same_drew w2)).trans' Hst.out.far.keep (fun i hi ht => by
          have hb3 := Hb3.out
          have hD := H2.out.dec.base_D
          rcases ht with e | e
          · omega
          · exact absurd (own_base H2.out.dec.esc e) (by omega))).trans HK9.out))
        have T8d := hid (T8b.out.same HK9.out)
        have T9d := hid ((row_farT (t := 4) (by decide) (by decide) ((R9.out.same HK.out).same (same_drew w2)) (H2.out.same (same_drew w2)) Hst.out.far).same HK9.out)
        have T10d := hid ((row_farT (t := 4) (by decide) (by decide) ((R10.out.same HK.out).same (same_drew w2)) (H2.out.same (same_drew w2)) Hst.out.far).same HK9.out)
        have R13d := hid (R13b.out.same HK9.out)
        refine step_append_told rfl (.tmp 25) (.tmp 29) rfl c.base (.slice A' k cap') k xs Hown9.out g9 cs R9n.out Hcs.out H1.out (by rfl) (by rfl) (by omega) Hok9.out.dec.base_le ?_
        intro v' w12 hown' hg'
        have hnb : ∀ g, g < c.base → (Value.slice A' k cap').ownBlock ≠ some g := fun g hg e => absurd (own_base Hown9.out e) (by omega)
        have hb3 := Hb3.out
        have G8 : Hid (Row w12 w.heap.size 55 #[.slice A' k cap']) := hid (row_grown T8d.out hg' (hnb _ (by omega)))
        have G9 : Hid (Row w12 (w.heap.size + 1) 4 #[.bool false]) := hid (row_grown T9d.out hg' (hnb _ (by omega)))
        have G10 : Hid (Row w12 (w.heap.size + 1 + 1) 4 #[.bool false]) := hid (row_grown T10d.out hg' (hnb _ (by omega)))
        have G13 : Hid (Row w12 g13 61 #[.int .i64 (o : Nat), .int .i64 p, .int .i64 q]) := hid (row_grown R13d.out hg' (own_ne_row Hown9.out R13d.out (by decide)))
        have hS12 : Hid (Same w w12) := hid (hS9.out.grown hg' (fun g e hg => hnb g (by omega) e))
        have Hok12 : Hid (Ok w0 c w12 d') := hid (ok_grown Hok9.out hg' (own_ne_row Hown9.out Hok9.out.dec.row (by decide)) (fun g e => own_base Hown9.out e) (own_apart Hown9.out Hok9.out.dec.esc (by decide)))
        have Hown12 := hid hown'
        clear hown' hg' hnb hb3
        have hS3 : Hid ((fun w' : World => w'.cell? ⟨w.heap.size, 0, none⟩ = some (.slice A' k cap') ∧ w'.cell? ⟨g13, 0, none⟩ = some (.int .i64 (o : Nat)) ∧ w'.cell? ⟨g13, 1, none⟩ = some (.int .i64 p) ∧ w'.cell? ⟨g13, 2, none⟩ = some (.int .i64 q)) w12) := ⟨G8.out.cell 0, G13.out.cell 0, G13.out.cell 1, G13.out.cell 2⟩
        refine hK.out _ _ (fun _ => hS3.out) ?_
        clear hK K hS2
        try simp only [Act.put, List.setIfInBounds_toArray, List.set_cons_zero, List.set_cons_succ]
        refine wpTill_one (i := 6) (o := ⟨_, _, _, _, _, _⟩) rfl (by kernel_rfl) (fun K hK => ?_)
        obtain ⟨A2, cap2, rfl⟩ : ∃ A2 cap2, v' = .slice A2 (k + 1) cap2 := by
          rcases Hown12.out.2 with ⟨-, h2⟩ | ⟨g, cp, cur, h1, -⟩
          · omega
          · exact ⟨_, _, h1⟩
        have t8 := G8.out.cell 0
        have z8 := G8.out.frozen 0
        go_simp
        refine hK.out _ _ (fun h => absurd rfl h) ?_
        clear hK K t8 z8 hS3
        try simp only [Act.put, List.setIfInBounds_toArray, List.set_cons_zero, List.set_cons_succ]
        refine wpTill_done (by kernel_rfl) ?_ _
        have hb3 := Hb3.out
        have HokF : Hid (Ok w0 c (w12.setCell ⟨w.heap.size, 0, none⟩ (.slice A2 (k + 1) cap2)) d') := hid (Hok12.out.box (t := 55) (by decide) (by decide) G8.out (fun i n h => by
          rcases i with _ | i
          · cases h
          · simp at h) (by omega) ((Keep.refl (fun k => k = w.heap.size) w12).setCell (fun _ => rfl) _))
        have HSF : Hid (Same w (w12.setCell ⟨w.heap.size, 0, none⟩ (.slice A2 (k + 1) cap2))) := hid (hS12.out.setCell (fun h => absurd h (Nat.lt_irrefl _)) _)
        have F8 := hid (G8.out.set 0 (.slice A2 (k + 1) cap2))
        have F9 : Hid (Row (w12.setCell ⟨w.heap.size, 0, none⟩ (.slice A2 (k + 1) cap2)) (w.heap.size + 1) 4 #[.bool false]) := hid (G9.out.far (by show w.heap.size + 1 ≠ w.heap.size; omega) _)
        have F10 : Hid (Row (w12.setCell ⟨w.heap.size, 0, none⟩ (.slice A2 (k + 1) cap2)) (w.heap.size + 1 + 1) 4 #[.bool false]) := hid (G10.out.far (by show w.heap.size + 1 + 1 ≠ w.heap.size; omega) _)
        have HownF : Hid ((w12.setCell ⟨w.heap.size, 0, none⟩ (.slice A2 (k + 1) cap2)).ownsRow c.base 63 15 (.slice A2 (k + 1) cap2) (k + 1) (xs ++ cs.toList)) := hid (ownsRow_set_ne Hown12.out (fun e => absurd (own_base Hown12.out e) (by show ¬ c.base ≤ w.heap.size; omega)) _)
        have hlen : xs.length = k * 15 := Hown.out.1
        clear G8 G9 G10 G13 hS12 Hok12 Hown12 Hok9 hS9 T8d T9d T10d R13d Hown9 R13b T8b T8 R13 HK HK9 H2 HS2 R9n H1 hb3
        generalize w12.setCell ⟨w.heap.size, 0, none⟩ (.slice A2 (k + 1) cap2) = w13 at *
        go_wp2_with fail
        go_roundw
        case rel =>
          refine ⟨k + 1, by omega, by go_num, ?_⟩
          have hf' : ∀ j, j < k → (if j = k then fk else f j) = f j := fun j hj => if_neg (by omega)
          have hov' : ∀ j, j ≤ k → over op (fun j => if j = k then fk else f j) j = over op f j := fun j hj => over_congr j (fun i hi => if_neg (by omega))
          refine ⟨d', fun j => if j = k then bk else b j, fun j => if j = k then fk else f j, .slice A2 (k + 1) cap2, xs ++ cs.toList, HokF.out, Hst.out.skip.trans Hsk1.out, HSF.out, F8.out, F9.out, F10.out, HownF.out, ?_, ?_, ?_⟩
          · intro i hi
            show (xs ++ cs.toList)[i * 15]? = some (.bool (if i = k then bk else b i)) ∧ (xs ++ cs.toList)[i * 15 + 11]? = some (.bool (if i = k then fk else f i))
            by_cases he : i = k
            · subst he
              rw [if_pos rfl, if_pos rfl, List.getElem?_append_right (by omega), List.getElem?_append_right (by omega), hlen, Nat.sub_self, Nat.add_sub_cancel_left]
              exact ⟨by simpa using Hb0.out, by simpa using Hf11.out⟩
            · rw [if_neg he, if_neg he, List.getElem?_append_left (by omega), List.getElem?_append_left (by omega)]
              exact Hxs.out i (by omega)
          · intro j hj hop hovj
            have e1 := hov' j (by omega)
            rw [e1] at hovj
            by_cases he : j = k
            · subst he
              have h4 := Hov.out hovj
              obtain ⟨a1, a2, -⟩ := Hsl.out (by have := Ho.out; omega) h4
              refine ⟨by simpa using a1, ?_⟩
              have hb6 : (op j == 6) = (o == 6) := by
                rw [Ho.out]
                by_cases h6 : o = 6
                · subst h6; rfl
                · have x1 : (((o : Nat) : Int) == 6) = false := beq_eq_false_iff_ne.2 (by omega)
                  have x2 : (o == 6) = false := beq_eq_false_iff_ne.2 h6
                  rw [x1, x2]
              rw [hb6]; simpa using a2
            · have := Hsil.out j (by omega) hop hovj
              simpa [he] using this
          · intro hovk
            have e1 := hov' k (Nat.le_refl _)
            simp only [over, e1, if_pos rfl] at hovk
            by_cases h0 : op k = 0
            · rw [if_pos h0] at hovk; cases hovk
            · rw [if_neg h0] at hovk
              rcases Bool.or_eq_true_iff.1 hovk with h | h
              · have h4 := Hov.out h
                obtain ⟨-, -, a3⟩ := Hsl.out (by have := Ho.out; omega) h4
                omega
              · rcases (Hfl.out h).2 with e | e <;> omega
        case measure => simp [intOf]; omega
    ·
      as_aux_lemma =>
        obtain rfl : k = n := by omega
        obtain ⟨A', cap', rfl⟩ : ∃ A' cap', v = .slice A' k cap' := by
          rcases hown.2 with ⟨h1, h2⟩ | ⟨g, cp, cur, h1, -⟩
          · exact ⟨none, 0, by rw [h1, h2]⟩
          · exact ⟨_, _, h1⟩
        have HS := hid hS
        have H := hid hok1
        have R8 := hid hr8
        have R9 := hid hr9
        have R10 := hid hr10
        have Hown := hid hown
        have Hxs := hid hxs
        have Hsil := hid hsil
        clear hok1 hsk1 hS hr8 hr9 hr10 hown hxs hsil hov
        go_wp2_with fail
        have f8 : wr.cell? ⟨w.heap.size, 0, none⟩ = some (.slice A' k cap') := R8.out.cell 0
        have z8 := R8.out.frozen 0
        have hn1 : w.heap.size ≠ w.heap.size + 1 := by omega
        have hn2 : w.heap.size ≠ w.heap.size + 1 + 1 := by omega
        have hn3 : w.heap.size + 1 ≠ w.heap.size + 1 + 1 := by omega
        have hS0 : Hid ((fun w' : World => w'.cell? ⟨w.heap.size, 0, none⟩ = some (.slice A' k cap')) wr.drew) := f8
        refine wp_region_till 6 (fun w' : World => w'.cell? ⟨w.heap.size, 0, none⟩ = some (.slice A' k cap')) (by kernel_rfl) ?_
        refine wpTill_take (i := 0) (oi := ⟨_, _, _, _, _, _⟩) (v := ?_) rfl (by kernel_rfl) (by decide) (by kernel_rfl) (by kernel_rfl) (by kernel_rfl) (fun _ _ _ h => put_panic (by decide) (by decide) (by decide) h) (Or.inl ⟨by rfl, ?_⟩) hS0.out ?_
        rotate_left
        · (intro w' hSw; (try dsimp only at hSw); go_simp; (try with_reducible rfl))
        simp only [Act.put, List.setIfInBounds_toArray, List.set_cons_zero, List.set_cons_succ]
        refine wpTill_take (i := 1) (oi := ⟨_, _, _, _, _, _⟩) (v := ?_) rfl (by kernel_rfl) (by decide) (by kernel_rfl) (by kernel_rfl) (by kernel_rfl) (fun _ _ _ h => put_panic (by decide) (by decide) (by decide) h) (Or.inl ⟨by rfl, ?_⟩) hS0.out ?_
        rotate_left
        · (intro w' hSw; (try dsimp only at hSw); go_simp; (try with_reducible rfl))
        simp only [Act.put, List.setIfInBounds_toArray, List.set_cons_zero, List.set_cons_succ]
        refine wpTill_one (i := 2) (o := ⟨_, _, _, _, _, _⟩) rfl (by kernel_rfl) (fun K hK => ?_)
        go_simp
        refine (err_any c d _ (H.out.dec.same (same_drew _))).mono ?_
        rintro e w8 ⟨rfl, hk8⟩
        have HS8 := hid ((same_drew wr).trans hk8)
        have hS1 : Hid ((fun w' : World => w'.cell? ⟨w.heap.size, 0, none⟩ = some (.slice A' k cap')) w8) := (R8.out.same HS8.out).cell 0
        refine hK.out _ _ (fun _ => hS1.out) ?_
        clear hK K hS0 hk8
        try simp only [Act.put, List.setIfInBounds_toArray, List.set_cons_zero, List.set_cons_succ]
        refine wpTill_take (i := 3) (oi := ⟨_, _, _, _, _, _⟩) (v := ?_) rfl (by kernel_rfl) (by decide) (by kernel_rfl) (by kernel_rfl) (by kernel_rfl) (fun _ _ _ h => put_panic (by decide) (by decide) (by decide) h) (Or.inl ⟨by rfl, ?_⟩) hS1.out ?_
        rotate_left
        · (intro w' hSw; (try dsimp only at hSw); go_simp; (try with_reducible rfl))
        simp only [Act.put, List.setIfInBounds_toArray, List.set_cons_zero, List.set_cons_succ]
        have T8 := hid (R8.out.same HS8.out)
        have T9 := hid ((R9.out.same HS8.out).far (p := ⟨w.heap.size, 0, none⟩) (fun h => hn1 h.symm) (.slice A' k cap'))
        have T10 := hid ((R10.out.same HS8.out).far (p := ⟨w.heap.size, 0, none⟩) (fun h => hn2 h.symm) (.slice A' k cap'))
        clear R8 R9 R10 hS1
        try simp only [Act.put, List.setIfInBounds_toArray, List.set_cons_zero, List.set_cons_succ]
        refine wpTill_one (i := 4) (o := ⟨_, _, _, _, _, _⟩) rfl (by kernel_rfl) (fun K hK => ?_)
        have t8 := T8.out.cell 0
        have z8 := T8.out.frozen 0
        go_simp
        refine hK.out _ _ (fun _ => (T8.out.set 0 _).cell 0) ?_
        clear hK K t8 z8
        try simp only [Act.put, List.setIfInBounds_toArray, List.set_cons_zero, List.set_cons_succ]
        have T8a := hid (T8.out.set 0 (.slice A' k cap'))
        refine wpTill_one (i := 5) (o := ⟨_, _, _, _, _, _⟩) rfl (by kernel_rfl) (fun K hK => ?_)
        generalize hW9 : w8.setCell ⟨w.heap.size, 0, none⟩ (.slice A' k cap') = w9 at *
        have t9 := T9.out.cell 0
        have z9 := T9.out.frozen 0
        go_simp
        have HK9 : Hid (Same w w9) := hid (by rw [← hW9]; exact (HS.out.trans HS8.out).setCell (fun h => absurd h (Nat.lt_irrefl _)) _)
        have T8b : Hid (Row (w9.setCell ⟨w.heap.size + 1, 0, none⟩ (.bool false)) w.heap.size 55 #[.slice A' k cap']) := hid (T8a.out.far hn1 _)
        have T9b := hid (T9.out.set 0 (.bool false))
        have T10b := hid (T10.out.far (p := ⟨w.heap.size + 1, 0, none⟩) (fun h => hn3 h.symm) (.bool false))
        have HKa := hid (HK9.out.setCell (p := ⟨w.heap.size + 1, 0, none⟩) (fun h => by have h' : w.heap.size + 1 < w.heap.size := h; omega) (.bool false))
        refine hK.out _ _ (fun _ => T8b.out.cell 0) ?_
        clear hK K t9 z9
        try simp only [Act.put, List.setIfInBounds_toArray, List.set_cons_zero, List.set_cons_succ]
        refine wpTill_one (i := 6) (o := ⟨_, _, _, _, _, _⟩) rfl (by kernel_rfl) (fun K hK => ?_)
        generalize hW10 : w9.setCell ⟨w.heap.size + 1, 0, none⟩ (.bool false) = w10 at *
        have t10 := T10b.out.cell 0
        have z10 := T10b.out.frozen 0
        go_simp
        have T8c := hid (T8b.out.far (p := ⟨w.heap.size + 1 + 1, 0, none⟩) hn2 (.bool true))
        have T9c := hid (T9b.out.far (p := ⟨w.heap.size + 1 + 1, 0, none⟩) hn3 (.bool true))
        have T10c := hid (T10b.out.set 0 (.bool true))
        have HKb := hid (HKa.out.setCell (p := ⟨w.heap.size + 1 + 1, 0, none⟩) (fun h => by have h' : w.heap.size + 1 + 1 < w.heap.size := h; omega) (.bool true))
        refine hK.out _ _ (fun h => absurd rfl h) ?_
        clear hK K t10 z10
        try simp only [Act.put, List.setIfInBounds_toArray, List.set_cons_zero, List.set_cons_succ]
        refine wpTill_done (by kernel_rfl) ?_ _
        have HC : Hid (0 < k → ∃ T, A' = some ⟨T, 0, none⟩ ∧ ∀ i, i < k → (w10.setCell ⟨w.heap.size + 1 + 1, 0, none⟩ (.bool true)).cell? ⟨T, i * 15, none⟩ = some (.bool (b i)) ∧ (w10.setCell ⟨w.heap.size + 1 + 1, 0, none⟩ (.bool true)).cell? ⟨T, i * 15 + 11, none⟩ = some (.bool (f i))) := by
          intro hk0
          obtain ⟨g, cp, hv, hbg, hlt, hcl⟩ := own_out Hown.out hk0
          injection hv with hv1 hv2 hv3
          refine ⟨g, hv1, fun i hi => ?_⟩
          obtain ⟨x0, x1⟩ := Hxs.out i hi
          have hb3 := Hb3.out
          have far : ∀ j u, wr.cell? ⟨g, j, none⟩ = some u → (w10.setCell ⟨w.heap.size + 1 + 1, 0, none⟩ (.bool true)).cell? ⟨g, j, none⟩ = some u := fun j u hu => by
            rw [← hW10, ← hW9]
            rw [World.cell?_of_block (Below.heap_setCell _ _ _ _ (by show g ≠ w.heap.size + 1 + 1; omega)), World.cell?_of_block (Below.heap_setCell _ _ _ _ (by show g ≠ w.heap.size + 1; omega)), World.cell?_of_block (Below.heap_setCell _ _ _ _ (by show g ≠ w.heap.size; omega))]
            rw [← hu]
            exact HS8.out.cell (p := ⟨g, j, none⟩) hlt id
          exact ⟨far _ _ (hcl _ _ x0), far _ _ (hcl _ _ x1)⟩
        clear T8 T9 T10 T8a T8b T9b T10b HKa HK9 Hown Hxs HS8 hW9 hW10
        generalize w10.setCell ⟨w.heap.size + 1 + 1, 0, none⟩ (.bool true) = w11 at *
        go_wp2_with fail
        have e8 := T8c.out.cell 0
        have e9 := T9c.out.cell 0
        have e10 := T10c.out.cell 0
        refine leaves_cons (f := 36) (args := #[.pointer (some ⟨w.heap.size, 0, none⟩), .pointer (some ⟨w.heap.size + 1, 0, none⟩), .pointer (some ⟨w.heap.size + 1 + 1, 0, none⟩)]) (by simp) (by simp [go_sem]) ?_
        refine (catch_idle _ _ _ _).mono ?_
        rintro e u' w'' ⟨rfl, rfl, rfl⟩
        simp [Leaves, settle, results, Tryz.results14, go_sem, e8, e9, e10]
        exact ⟨A', cap', false, b, f, rfl, HKb.out, Hsil.out, HC.out⟩
end Go.Proofs.YticdagnbnmnidaaGreatDoor
