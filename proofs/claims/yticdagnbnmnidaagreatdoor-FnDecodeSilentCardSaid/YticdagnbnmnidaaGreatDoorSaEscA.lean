/- The decoder over bytes: what takeEsc leaves. Conditions: none. A region that draws its order, and whose last store hits a cell that it loads: the condition on the world is asked behind every operation but that store. Conditions: none; general lemmas. -/
import Derived.Test.YticdagnbnmnidaaGreatDoorSaTok
import Derived.Test.YticdagnbnmnidaaGreatDoorSaTail
import Derived.Deep.CutBlock
import Derived.Deep.DeepCutAuto
import Derived.IntWalk
import Derived.OrdersHeld
import Derived.RegionTactic
import Derived.Deep.RegionHeld
set_option linter.unusedSimpArgs false
set_option linter.unusedVariables false
namespace Go.Proofs.YticdagnbnmnidaaGreatDoor
open Go.RowKit

/-- the decoder in the middle of a token -/
def DS.mid (s : DS) (q : Nat) (v : Value) (O : List Nat) : DS := { s with r1 := q, esc := v, xs := s.xs ++ O }

/-- the decoder at another line -/
def DS.ln (s : DS) (l : Int) : DS := { s with line := l }

theorem tok_lt {b : Nat → Nat} {L : Nat} {p : Nat → Bool} {x : Nat → Nat} (hb : ∀ i, b i < 256) (hx : ∀ i, x i < 256) : ∀ n i, ∀ y ∈ (tok b L p x n i).1, y < 256 := by
  intro n
  induction n with
  | zero => intro i y hy; simp [tok] at hy
  | succ n ih =>
    intro i y hy
    simp only [tok] at hy
    split at hy
    · split at hy
      · split at hy
        · rcases List.mem_cons.1 hy with rfl | h
          · exact hx _
          · exact ih _ _ h
        · rcases List.mem_cons.1 hy with rfl | h
          · omega
          · exact ih _ _ h
      · split at hy
        · rcases List.mem_cons.1 hy with rfl | h
          · exact hb _
          · exact ih _ _ h
        · simp at hy
    · simp at hy

/-- What the loop of takeEsc leaves. -/
def Loops (c : DC) (s : DS) (p : Nat → Bool) (x : Nat → Nat) (w : World) (t : Value) (wc : World) : Prop :=
  ∃ (q su : Nat) (O : List Nat) (v : Value), (tokAt c.b s.L p x s.r1).2 = q ∧ (s.skip = false → (tokAt c.b s.L p x s.r1).1 = O ++ raw c.b su q) ∧ s.r1 ≤ su ∧ su ≤ q ∧ q ≤ s.L ∧ (O = [] → su = s.r1) ∧ O.length ≤ su - s.r1 ∧ (s.skip = true → O = []) ∧
    t = .int .i64 ((su : Int) - (s.r0 : Int)) ∧ Dec wc c (s.mid q v O) ∧ Far1 c s (s.mid q v O) w wc

/-- How the loop stands. -/
def Mid (c : DC) (s : DS) (p : Nat → Bool) (x : Nat → Nat) (w : World) (q i su : Nat) (O : List Nat) (v : Value) (wr : World) : Prop :=
  TS c.b s.L p x s.r1 s.skip i su O ∧ Dec wr c (s.mid q v O) ∧ Far1 c s (s.mid q v O) w wr

set_option maxRecDepth 20000 in
theorem ensure_no2 (c : DC) (s : DS) (n : Nat) (w : World) (h : Dec w c s) (hn : s.L < s.r1 + n) (hb : n ≤ 2000000) :
    Calls Tryz.prog 72 #[.pointer (some ⟨c.D, 0, none⟩), .int .i64 n] w (Looks (.bool false) w) := by
  have f1 := h.f1
  have f3 := h.f3
  have h1 := h.L_le
  have h2 := h.big
  have h3 := h.r1_le
  have H := hid h
  clear h
  go_enter Tryz.func72, Tryz.ntmps72
  go_wp2_with fail
  go_quiet (fail)
  go_wp2_with fail
  refine (ensure1_any c s n _ (H.out.same (same_drewN _ _))).mono ?_
  rintro e w1 ⟨rfl, hk⟩
  go_wp2_with fail
  go_ret
  exact ⟨rfl, (same_drewN _ _).trans hk⟩

theorem own_room {w : World} {base : Nat} {a : Option Addr} {n cap m : Nat} {xs : List Value} (h : w.ownsRow base 5 1 (.slice a m cap) n xs) : m ≤ cap ∧ cap ≤ 9223372036854775807 := by
  rcases h.2 with ⟨e, _⟩ | ⟨g, cap', cur, e, _, _, hn, hm, _⟩
  · injection e with _ e2 e3
    omega
  · injection e with _ e2 e3
    unfold maxLen at hm
    omega

theorem Loops.of {c : DC} {s : DS} {p : Nat → Bool} {x : Nat → Nat} {w wr : World} {q i su : Nat} {O : List Nat} {v : Value}
    (hE : (tokAt c.b s.L p x s.r1).2 = i ∧ (s.skip = false → (tokAt c.b s.L p x s.r1).1 = O ++ raw c.b su i)) (h1 : s.r1 ≤ su) (h2 : su ≤ i) (h3 : i ≤ s.L) (hn : O = [] → su = s.r1) (hl : O.length ≤ su - s.r1) (hs : s.skip = true → O = [])
    (h0 : s.r0 ≤ s.r1) (hd : Dec wr c (s.mid q v O)) (hf : Far1 c s (s.mid q v O) w wr) : Loops c s p x w (.int .i64 ((su : Int) - (s.r0 : Int))) (wr.setCell ⟨c.D, 3, none⟩ (.int .i64 (i : Nat))) :=
  ⟨i, su, O, v, hE.1, hE.2, h1, h2, h3, hn, hl, hs, rfl, hd.set_r1 i (by show s.r0 ≤ i; omega) h3, hf.trans (Far1.of_D (keep_D _ _ _ _) rfl rfl)⟩

/-- A fault that a call hands back: a *DecodeError around an error of errors.New. -/
def Bad (w : World) (err : Value) : Prop := ∃ g k, err = errAt g ∧ ErrRow w g (.iface 240 (.pointer (some ⟨k, 0, none⟩))) ∧ ErrCell w k

/-- What takeEsc gives: a token v, and how the decoder stands. -/
structure EscOut (c : DC) (s : DS) (p : Nat → Bool) (x : Nat → Nat) (v : Value) (n : Nat) (f : Nat → Nat) (s' : DS) (w w' : World) : Prop where
  dec : Dec w' c s'
  far : Far1 c s s' w w'
  rd : Rd w' v n f
  loc : Loc c s' v
  L : s'.L = s.L
  cap : s'.cap = s.cap
  r0 : s'.r0 = s.r0
  skip : s'.skip = s.skip
  r1 : s'.r1 = (tokAt c.b s.L p x s.r1).2
  le : s.r1 ≤ s'.r1
  ok : s'.ok
  skips : s.skip = true → n = s'.r1 - s.r1
  says : s.skip = false → n = (tokAt c.b s.L p x s.r1).1.length ∧ ∀ j, j < n → f j = (tokAt c.b s.L p x s.r1).1.getD j 0

theorem EscOut.turn {c : DC} {s : DS} {p : Nat → Bool} {x : Nat → Nat} {v : Value} {n : Nat} {f : Nat → Nat} {s3 : DS} {w w' w2 : World} (h : EscOut c s p x v n f s3 w w') (z : Nat)
    (hd : Dec w2 c { s3 with sec := z }) (hk : Keep (fun k => k = c.D) w' w2) : EscOut c s p x v n f { s3 with sec := z } w w2 :=
  have hf : Far1 c s3 { s3 with sec := z } w' w2 := Far1.of_D hk rfl rfl
  { dec := hd, far := h.far.trans hf, rd := h.rd.far h.loc hf, loc := h.loc.far h.rd hf, L := h.L, cap := h.cap, r0 := h.r0, skip := h.skip, r1 := h.r1, le := h.le, ok := h.ok, skips := h.skips, says := h.says }
theorem EscOut.same {c : DC} {s : DS} {p : Nat → Bool} {x : Nat → Nat} {v : Value} {n : Nat} {f : Nat → Nat} {s3 : DS} {w w' w2 : World} (h : EscOut c s p x v n f s3 w w') (hk : Same w' w2) : EscOut c s p x v n f s3 w w2 :=
  h.turn s3.sec (h.dec.same hk) hk.wide

def Escapes (c : DC) (s : DS) (p : Nat → Bool) (x : Nat → Nat) (w : World) (e : Ending) (w' : World) : Prop :=
  ∃ (v : Value) (n : Nat) (f : Nat → Nat) (s' : DS) (err : Value), e = .returned (.tuple #[v, .int .i64 ((s.r1 : Int) - (s.r0 : Int)), err]) ∧ EscOut c s p x v n f s' w w' ∧
    ((err = .nilIface ∧ s'.sec = s.sec) ∨ (Bad w' err ∧ s'.sec = faultSec s.sec))


theorem raw_getD {b : Nat → Nat} {a e j : Nat} (h : j < e - a) : (raw b a e).getD j 0 = b (a + j) := by simp [raw, List.getD, h]

theorem EscOut.app {c : DC} {s : DS} {p : Nat → Bool} {x : Nat → Nat} {w W3 : World} {q su k g3 cap3 : Nat} {O : List Nat} {v : Value} {l : Int}
    (hd : Dec W3 c (((s.mid q v O).ln l).more (.slice (some ⟨g3, 0, none⟩) k cap3) (raw c.b su q)))
    (hf : Far1 c s (((s.mid q v O).ln l).more (.slice (some ⟨g3, 0, none⟩) k cap3) (raw c.b su q)) w W3)
    (hk : s.xs.length + O.length + (q - su) = k) (hbg : c.base ≤ g3) (hcap : k ≤ cap3) (hcap2 : cap3 ≤ 9223372036854775807)
    (hq : (tokAt c.b s.L p x s.r1).2 = q) (hsays : s.skip = false → (tokAt c.b s.L p x s.r1).1 = O ++ raw c.b su q) (hx : ∀ i, x i < 256)
    (h1 : s.r1 ≤ su) (h2 : su ≤ q) (hO : 0 < O.length) (hl : O.length ≤ su - s.r1) (hskp : s.skip = true → O = []) (hok : s.r0 + s.xs.length ≤ s.r1) (hqL : q ≤ 1000000) :
    ∃ (s3 : DS) (n : Nat) (f : Nat → Nat), Hid (EscOut c s p x (.slice (some ⟨g3, s.xs.length, none⟩) (k - s.xs.length) (cap3 - s.xs.length)) n f s3 w W3) ∧ Hid (s3.sec = s.sec) ∧ n ≤ 3000000 := by
  have hsk : s.skip = false := by
    cases h : s.skip
    · rfl
    · rw [hskp h] at hO; simp at hO
  have hT := hsays hsk
  have hlen : (O ++ raw c.b su q).length = O.length + (q - su) := by rw [List.length_append, raw_length]
  refine ⟨((s.mid q v O).ln l).more (.slice (some ⟨g3, 0, none⟩) k cap3) (raw c.b su q), O.length + (q - su), fun j => (O ++ raw c.b su q).getD j 0, ?_, rfl, by omega⟩
  have hcells := hd.esc.cells (g := g3) rfl
  exact {
    dec := hd
    far := hf
    rd := by
      refine ⟨⟨some ⟨g3, s.xs.length, none⟩, cap3 - s.xs.length, ?_, by omega, by omega, fun _ => ⟨g3, s.xs.length, rfl, fun j hj => ?_⟩⟩, fun j hj => ?_⟩
      · rw [show k - s.xs.length = O.length + (q - su) by omega]
      · have e := hcells (s.xs.length + j) (.int .u8 ((O ++ raw c.b su q).getD j 0 : Nat)) (by
          rw [List.getElem?_map]
          have e2 : (((s.mid q v O).ln l).more (.slice (some ⟨g3, 0, none⟩) k cap3) (raw c.b su q)).xs = s.xs ++ (O ++ raw c.b su q) := by
            simp [DS.more, DS.ln, DS.mid, List.append_assoc]
          rw [e2, List.getElem?_append_right (by omega), Nat.add_sub_cancel_left, List.getElem?_eq_getElem (by omega), List.getD_eq_getElem?_getD, List.getElem?_eq_getElem (by omega)]
          rfl)
        rw [addr_add, Nat.zero_add] at e
        exact e
      · have hm : (O ++ raw c.b su q).getD j 0 ∈ (tokAt c.b s.L p x s.r1).1 := by
          rw [hT, List.getD_eq_getElem?_getD, List.getElem?_eq_getElem (by omega)]
          exact List.getElem_mem _
        exact tok_lt c.b_lt hx _ _ _ hm
    loc := ⟨fun T off n cap e hn => by
      injection e with e1 e2 e3
      injection e1 with e1
      injection e1 with e4 e5
      subst e4
      refine ⟨fun e => own_ne hd.esc hd.row (congrArg some e), fun _ => ?_⟩
      have e6 : (((s.mid q v O).ln l).more (.slice (some ⟨g3, 0, none⟩) k cap3) (raw c.b su q)).xs.length = k := by
        simp [DS.more, DS.ln, DS.mid, raw_length]; omega
      rw [e6]; omega⟩
    L := rfl
    cap := rfl
    r0 := rfl
    skip := rfl
    r1 := hq.symm
    le := by show s.r1 ≤ q; omega
    ok := by
      show s.r0 + (((s.mid q v O).ln l).more (.slice (some ⟨g3, 0, none⟩) k cap3) (raw c.b su q)).xs.length ≤ q
      have e6 : (((s.mid q v O).ln l).more (.slice (some ⟨g3, 0, none⟩) k cap3) (raw c.b su q)).xs.length = k := by
        simp [DS.more, DS.ln, DS.mid, raw_length]; omega
      rw [e6]; omega
    skips := fun h => by rw [hsk] at h; cases h
    says := fun _ => by
      rw [hT, hlen]
      exact ⟨rfl, fun j _ => rfl⟩ }

end Go.Proofs.YticdagnbnmnidaaGreatDoor
namespace Go.Proofs.YticdagnbnmnidaaGreatDoor

section
variable {P : Program} {ops : Array Oper} {Q : Exit → Act → World → Prop} {md : Region.Mode} {b : Nat} {S : World → Prop}

/-- Whatever order is picked, and S holds behind each operation but number b. -/
def wpTill (P : Program) (md : Region.Mode) (ops : Array Oper) (Q : Exit → Act → World → Prop) (b : Nat) (S : World → Prop) : Nat → Array Bool → Act → World → Prop
  | 0, l, a, w => Region.ready md ops l = [] ∧ Q .normal a w
  | n + 1, l, a, w => (Region.ready md ops l = [] → Q .normal a w) ∧
      ∀ i ∈ Region.ready md ops l, wpOp P ops Q i (fun a' w' => (i ≠ b → S w') ∧ wpTill P md ops Q b S n (l.setIfInBounds i true) a' w') a w

theorem wpTill_any : ∀ (n : Nat) (l : Array Bool) (a : Act) (w : World), wpTill P md ops Q b S n l a w → wpAny P md ops Q n l a w
  | 0, _, _, _, h => h
  | n + 1, _, _, _, h => ⟨h.1, fun i hi => wpOp_mono (fun a' w' h' => wpTill_any n _ a' w' h'.2) (h.2 i hi)⟩

/-- who is ready waits for nobody that is not listed -/
theorem ready_no_wait {i j : Nat} {o : Oper} {l : Array Bool} (hi : l.getD i true = false) (hj : j ∈ Region.ready md ops l) (ho : ops[j]? = some o) :
    ∀ e ∈ o.after, Region.binds md e = true → e.on ≠ i := by
  obtain ⟨_, o', ho', hall⟩ := mem_ready.1 hj
  rw [ho] at ho'
  obtain rfl := Option.some.inj ho'
  intro e he hb h
  have h1 := hall e he hb
  rw [h] at h1
  rcases Nat.lt_or_ge i l.size with hl | hl
  · simp [hl] at hi h1
    rw [hi] at h1; cases h1
  · simp [Array.getElem?_eq_none hl] at h1

theorem wpTill_first {i : Nat} {oi ob : Oper} {v : Value} (hi : ops[i]? = some oi) (hb : ops[b]? = some ob) (hw : ∃ e ∈ ob.after, Region.binds md e = true ∧ e.on = i) (hib : i ≠ b)
    (hsel : ∀ (j : Nat) (o : Oper) cs b, ops[j]? = some o → o.op ≠ .select cs b)
    (hQ : ∀ c a w, Q (.panic c) (a.put oi.dst v) w → Q (.panic c) a w) :
    ∀ (n : Nat) (l : Array Bool) (a : Act) (w : World),
      (∀ j oj, ops[j]? = some oj → j ≠ i → l.getD j true = false → (∀ e ∈ oj.after, Region.binds md e = true → e.on ≠ i) → oi.apart ops oj = true) →
      i ∈ Region.ready md ops l → YieldsIf P ops S oi v a → S w →
      wpTill P md ops Q b S n (l.setIfInBounds i true) (a.put oi.dst v) w → wpTill P md ops Q b S (n + 1) l a w := by
  intro n
  induction n with
  | zero =>
    intro l a w _ hr hy hS H
    refine ⟨fun h => (by rw [h] at hr; cases hr), fun j hj => ?_⟩
    rcases Nat.decEq j i with hji | rfl
    · have h0 := ready_mono hj hji
      rw [H.1] at h0
      cases h0
    · exact hy.wpOp hi hS ⟨fun _ => hS, H⟩
  | succ n ih =>
    intro l a w hfree hr hy hS H
    refine ⟨fun h => (by rw [h] at hr; cases hr), fun j hj => ?_⟩
    rcases Nat.decEq j i with hji | rfl
    · obtain ⟨hun, oj, hoj, _⟩ := mem_ready.1 hj
      have hiu := (mem_ready.1 hr).1
      have hno := ready_no_wait hiu hj hoj
      have hjb : j ≠ b := fun e => by
        subst e
        rw [hoj] at hb
        obtain rfl := Option.some.inj hb
        obtain ⟨e, he, h1, h2⟩ := hw
        exact hno e he h1 h2
      refine wpOp_mono (fun a' w' h => ⟨fun _ => h.2.1 hjb, ih _ a' w' (fun k ok hk hki hku hkn => hfree k ok hk hki ?_ hkn) (ready_mono hr (Ne.symm hji)) h.1 (h.2.1 hjb) ?_⟩)
        (wpOp_putIf hoj (hfree j oj hoj hji hun hno) (fun cs b => hsel i oi cs b hi) (fun cs b => hsel j oj cs b hoj) hQ hy (H.2 j (ready_mono hj hji)))
      · by_cases hjk : j = k
        · subst hjk; exact hun
        · rwa [getD_set_ne true hjk] at hku
      · rw [Array.setIfInBounds_comm _ _ hji]
        exact h.2.2
    · exact hy.wpOp hi hS ⟨fun _ => hS, H⟩

/-- does number b wait for number i -/
def waits (md : Region.Mode) (ops : Array Oper) (b i : Nat) : Bool := match ops[b]? with
  | some ob => ob.after.any fun e => Region.binds md e && e.on == i
  | none => false

/-- take number i first -/
theorem wpTill_take {i : Nat} {oi : Oper} {v : Value} {n : Nat} {l : Array Bool} {a : Act} {w : World} (hi : ops[i]? = some oi) (hw : waits md ops b i = true) (hib : i ≠ b)
    (hs : Region.noSelect ops = true) (hf : Region.free md ops l i = true) (hr : (Region.ready md ops l).contains i = true)
    (hQ : ∀ c a w, Q (.panic c) (a.put oi.dst v) w → Q (.panic c) a w) (hy : YieldsIf P ops S oi v a) (hS : S w)
    (h : wpTill P md ops Q b S n (l.setIfInBounds i true) (a.put oi.dst v) w) : wpTill P md ops Q b S (n + 1) l a w := by
  unfold waits at hw
  split at hw
  case h_1 ob hob =>
    obtain ⟨e, he, h1⟩ := Array.any_eq_true'.1 hw
    simp only [Bool.and_eq_true, beq_iff_eq] at h1
    exact wpTill_first hi hob ⟨e, he, h1.1, h1.2⟩ hib (Region.noSelect_spec hs) hQ n l a w (Region.free_spec hi hf) (by simpa using hr) hy hS h
  case h_2 => cases hw

/-- just number i can come up -/
theorem wpTill_one {i : Nat} {o : Oper} {n : Nat} {l : Array Bool} {a : Act} {w : World} (ho : ops[i]? = some o) (hr : Region.ready md ops l = [i])
    (h : ∀ K' : Act → World → Prop, Shut (∀ a w, (i ≠ b → S w) → wpTill P md ops Q b S n (l.setIfInBounds i true) a w → K' a w) →
      if Region.wanted o (yielded ops a.tmps) = true then Oper.wp P o a w K' Q else K' (a.put o.dst undef) w) : wpTill P md ops Q b S (n + 1) l a w := by
  refine ⟨fun h0 => (by rw [hr] at h0; cases h0), fun j hj => ?_⟩
  rw [hr] at hj
  obtain rfl := List.mem_singleton.1 hj
  exact wpOp_step ho (fun K' hK => h K' (fun a w hS hW => hK a w ⟨hS, hW⟩))

/-- all have come up -/
theorem wpTill_done {l : Array Bool} {a : Act} {w : World} (hr : Region.ready md ops l = []) (h : Q .normal a w) : ∀ n, wpTill P md ops Q b S n l a w
  | 0 => ⟨hr, h⟩
  | _ + 1 => ⟨fun _ => h, by rw [hr]; simp⟩

/-- the beginning -/
theorem wp_region_till {id : Nat} {a : Act} {w : World} (b : Nat) (S : World → Prop) (hm : P.follows .mixedOrders = true)
    (h : wpTill P .any ops Q b S ops.size (Array.replicate ops.size false) a w.drew) : (Code.region id ops true).wp P Q a w :=
  wp_region_any hm (wpTill_any _ _ _ _ h)
end
end Go.Proofs.YticdagnbnmnidaaGreatDoor
