/- How the decoder tells a syntax fault: a new error; the part is the rest of the line then, or stays the end. Conditions: none. append onto a slice of the call's own, told more closely: what stood in its first cells stands there still. Conditions: none. -/
import Derived.Test.YticdagnbnmnidaaGreatDoorSaTake
import Derived.Test.YticdagnbnmnidaaGreatDoorSaBase
set_option linter.unusedSimpArgs false
set_option linter.unusedVariables false
namespace Go.Proofs.YticdagnbnmnidaaGreatDoor
open Go.RowKit

/-- a call that turns nothing, inside a region, behind draws -/
theorem quiet2 {P : Program} {f : FuncId} {args : Array Value} {w : World} {n0 n : Nat} {v : Value}
    (h : Calls P f args (w.drewN (n0 + n)) fun e w' => e = .returned v ∧ w' = w.drewN (n0 + n)) : Calls P f args (w.drewN (n0 + n)) fun e w'' => e = .returned v ∧ ∃ m, w'' = w.drewN (n0 + m) :=
  h.mono fun _ _ ⟨he, hm⟩ => ⟨he, n, hm⟩

/-- the part behind a fault -/
def faultSec (x : Nat) : Nat := if x = 5 then 5 else 4
def DS.fault (s : DS) : DS := { s with sec := faultSec s.sec }

/-- the error at g, a *DecodeError that holds x -/
def errAt (g : Nat) : Value := .iface 204 (.pointer (some ⟨g, 0, none⟩))
def ErrRow (w : World) (g : Nat) (x : Value) : Prop := ∃ ln col : Int, Row w g 207 #[.int .i64 ln, .int .i64 col, x]

def Faults (c : DC) (s : DS) (x : Value) (w : World) (e : Ending) (w' : World) : Prop :=
  ∃ g, w.heap.size ≤ g ∧ ErrRow w' g x ∧ Turns c (errAt g) s.fault w e w'

/-- a cut of the text reads as its bytes -/
theorem rd_text {w : World} {c : DC} {s : DS} (h : Dec w c s) {a n k : Nat} {A : Option Addr} (ha : a + n ≤ s.L) (hA : 0 < n → A = some ⟨c.T, a, none⟩) (hk : n ≤ k) (hk' : k ≤ 9223372036854775807) :
    Rd w (.slice A n k) n (fun j => c.b (a + j)) := by
  refine ⟨⟨A, k, rfl, hk, Nat.le_trans hk' (by decide), fun hn => ⟨c.T, a, hA hn, fun j hj => ?_⟩⟩, fun j _ => c.b_lt _⟩
  exact h.byte (by have := h.L_le; omega)

theorem row_new' {W : World} {g : Nat} {t : TypeId} {cs : Array Value} (h : W.heap.size = g) : Row (W.alloc (.cells cs t)) g t cs := by subst h; exact Row.new _ _ _
theorem fault4 {s : DS} (h : ¬ s.sec = 5) : s.fault = { s with sec := 4 } := by unfold DS.fault faultSec; rw [if_neg h]
theorem fault5 {s : DS} (h : s.sec = 5) : s.fault = s := by
  cases s
  simp only at h
  subst h
  rfl

set_option maxRecDepth 20000 in
set_option maxHeartbeats 6400000 in
theorem syntaxErrorf_any (c : DC) (s : DS) (o : Nat) (tx : TypeId) (y : Value) (w : World) (h : Dec w c s) (ho : o ≤ s.r1 - s.r0) :
    Calls Tryz.prog 131 #[.pointer (some ⟨c.D, 0, none⟩), .int .i64 o, .iface tx y] w (Faults c s (.iface tx y) w) := by
  have f1 := h.f1
  have f2 := h.f2
  have f3 := h.f3
  have f5 := h.f5
  have f8 := h.f8
  have fr5 := h.fr 5
  have h0 := h.r0_le
  have h1 := h.L_le
  have h2 := h.big
  have h3 := h.r1_le
  have h4 := h.capBig
  have h5 := h.cap_le
  have hRd1 : ∀ (A : Option Addr) (k : Nat), (0 < o → A = some ⟨c.T, s.r0, none⟩) → o ≤ k → k ≤ 9223372036854775807 → Rd w (.slice A o k) o (fun j => c.b (s.r0 + j)) := fun A k hA hk hk' => rd_text h (by omega) hA hk hk'
  have hRd2 : ∀ (A : Option Addr) (k : Nat), (0 < s.r1 - (s.r0 + o) → A = some ⟨c.T, s.r0 + o, none⟩) → s.r1 - (s.r0 + o) ≤ k → k ≤ 9223372036854775807 → Rd w (.slice A (s.r1 - (s.r0 + o)) k) (s.r1 - (s.r0 + o)) (fun j => c.b (s.r0 + o + j)) := fun A k hA hk hk' => rd_text h (by omega) hA hk hk'
  have H1 := hid hRd1
  have H2 := hid hRd2
  have H := hid h
  clear h hRd1 hRd2
  by_cases hs5 : s.sec = 5
  · have hs5b : ((s.sec : Int) != 5) = false := by rw [hs5]; rfl
    have Hs5 := hid hs5
    clear hs5
    go_enter Tryz.func131, Tryz.ntmps131
    go_wp2_with fail
    go_quiet (fail)
    go_wp2_with fail
    all_goals
      refine (lastIndexB_any _ o 10 _ _ ((H1.out _ _ (by first | exact fun _ => rfl | exact fun h => absurd h (by omega)) (by omega) (by omega)).same (same_drewN _ _)) (by omega)).mono ?_
      rintro e w1 ⟨i, hi, rfl, rfl⟩
      rcases hi with ⟨rfl, hi⟩ | ⟨k, hk, rfl, hi⟩
      all_goals clear hi
      all_goals try (exfalso; omega)
      all_goals
        go_wp2_with fail
        all_goals try (exfalso; omega)
        all_goals
          go_quiet (fail)
          go_wp2_with fail
          all_goals try (exfalso; omega)
          all_goals
            go_quiet ((go_at_call 168; exact quiet2 (zzCount_any _ (s.r1 - (s.r0 + o)) 10 _ _ ((H2.out _ _ (by first | exact fun _ => rfl | exact fun h => absurd h (by omega)) (by omega) (by omega)).same (same_drewN _ _)) (by omega))))
            go_wp2_with fail
            go_ret
            refine ⟨w.heap.size, Nat.le_refl _, ⟨_, _, row_new' rfl⟩, rfl, ?_, ((Keep.refl (fun k => k = c.D) w).drewN _).alloc _⟩
            rw [fault5 Hs5.out]
            exact (H.out.same (same_drewN w _)).same ((Keep.refl _ _).alloc _)
  · have hs5b : ((s.sec : Int) != 5) = true := by rw [bne_iff_ne]; omega
    have Hs5 := hid hs5
    clear hs5
    go_enter Tryz.func131, Tryz.ntmps131
    go_wp2_with fail
    go_quiet (fail)
    go_wp2_with fail
    all_goals
      refine (lastIndexB_any _ o 10 _ _ ((H1.out _ _ (by first | exact fun _ => rfl | exact fun h => absurd h (by omega)) (by omega) (by omega)).same (same_drewN _ _)) (by omega)).mono ?_
      rintro e w1 ⟨i, hi, rfl, rfl⟩
      rcases hi with ⟨rfl, hi⟩ | ⟨k, hk, rfl, hi⟩
      all_goals clear hi
      all_goals try (exfalso; omega)
      all_goals
        go_wp2_with fail
        all_goals try (exfalso; omega)
        all_goals
          go_quiet (fail)
          go_wp2_with fail
          all_goals try (exfalso; omega)
          all_goals
            go_quiet ((go_at_call 168; exact quiet2 (zzCount_any _ (s.r1 - (s.r0 + o)) 10 _ _ ((H2.out _ _ (by first | exact fun _ => rfl | exact fun h => absurd h (by omega)) (by omega) (by omega)).same (same_drewN _ _)) (by omega))))
            go_wp2_with fail
            go_ret
            refine ⟨w.heap.size, Nat.le_refl _, ⟨_, _, row_new' (by simp [World.setCell])⟩, rfl, ?_, (((Keep.refl (fun k => k = c.D) w).drewN _).setCell (fun _ => rfl) _).alloc _⟩
            rw [fault4 Hs5.out]
            exact ((H.out.same (same_drewN w _)).set_sec 4).same ((Keep.refl _ _).alloc _)
end Go.Proofs.YticdagnbnmnidaaGreatDoor
namespace Go.Proofs.YticdagnbnmnidaaGreatDoor
open Go.RowKit

/-- What an append of these cells leaves. -/
structure Grow (w w' : World) (base : Nat) (e : TypeId) (size : Nat) (v v' : Value) (n m : Nat) (xs news : List Value) : Prop where
  own : w'.ownsRow base e size v' (n + m) (xs ++ news)
  keep : w.grownBy w' v.ownBlock
  place : v'.ownBlock = v.ownBlock ∨ v'.ownBlock = some w.heap.size
  old : ∀ b j u, w.cell? ⟨b, j, none⟩ = some u → (v.ownBlock = some b → j < n * size) → w'.cell? ⟨b, j, none⟩ = some u

theorem cell_alloc_old {w : World} {o : Obj} {p : Addr} {u : Value} (h : w.cell? p = some u) : (w.alloc o).cell? p = some u := by
  rw [World.cell?_alloc_lt w o p (block_lt_of_cell h)]; exact h

section
variable {P : Program} (w : World)
theorem run_append_all (base : Nat) (t ty e : TypeId) (i : TypeInfo) (z : Value) (size bytes : Nat) (ht : P.underlying t = some (.slice e)) (hi : P.info? e = some i) (hz : i.zero = some z)
    (hsize : i.size = size) (hby : i.bytes = bytes) (hzs : z.cells.size = size) (hsz : 0 < size)
    (v : Value) (n : Nat) (xs : List Value) (hown : w.ownsRow base e size v n xs)
    (a : Addr) (m c : Nat) (news : List Value) (hl : news.length = m * size) (hnews : ∀ j u, news[j]? = some u → w.cell? (a.add j) = some u) (h1 : ∀ u ∈ news, u.oneCell' = true)
    (h63 : n + m ≤ maxLen) (hbytes : (n + m) * bytes ≤ 140737488355328) (hbase : base ≤ w.heap.size) :
    ∃ v' w', (Builtin.append_ #[t, t] ty #[v, .slice (some a) m c]).run P w = .ok v' w' ∧ Grow w w' base e size v v' n m xs news := by
  obtain ⟨v', w', hrun, hown', hgrow, _⟩ := run_append_own (P := P) w base t ty e i z size bytes ht hi hz hsize hby hzs hsz v n xs hown a m c news hl hnews h1 h63 hbytes hbase
  refine ⟨v', w', hrun, ?_⟩
  subst hsize
  subst hby
  have hsmall : n + m ≤ 9223372036854775807 := by simp only [maxLen] at h63; omega
  rcases hown.2 with ⟨rfl, rfl⟩ | ⟨g, cap, cur, rfl, hbg, hg, hnc, hcm, hcs, htake⟩
  · by_cases hm : m = 0
    · subst hm
      have hx : xs = [] := List.eq_nil_of_length_eq_zero (by simpa using hown.1)
      have hn : news = [] := List.eq_nil_of_length_eq_zero (by simpa using hl)
      subst hx
      subst hn
      have hr : (Builtin.append_ #[t, t] ty #[.slice none 0 0, .slice (some a) 0 c]).run P w = .ok (.slice none 0 0) w := by
        simp [Builtin.append_, run_underlying ht, sizeOf, typeInfo, hi, Builtin.lenOf, Builtin.firstCells, loadCells, loadCellsFrom]
      rw [hr] at hrun
      injection hrun with e1 e2
      subst e1; subst e2
      exact ⟨hown', hgrow, .inl rfl, fun _ _ _ h _ => h⟩
    · have hr := run_append_nil (P := P) w t ty e i z ht hi hz a m c news hl hnews (by omega) (by omega) (by have hb := hbytes; simp only [Nat.zero_add] at hb; omega)
      rw [hr] at hrun
      injection hrun with e1 e2
      subst e1; subst e2
      exact ⟨hown', hgrow, .inr rfl, fun b j u h _ => cell_alloc_old (w := w.drew) h⟩
  · by_cases hroom : n + m ≤ cap
    · have hfit : n * i.size + news.length ≤ cur.size := by rw [hl, hcs, ← Nat.add_mul]; exact Nat.mul_le_mul_right _ hroom
      have hr := run_append_room (P := P) w t ty e i ht hi g n cap cur hg a m c news hl hnews h1 hroom hfit
      rw [hr] at hrun
      injection hrun with e1 e2
      subst e1; subst e2
      refine ⟨hown', hgrow, .inl rfl, fun b j u h hj => ?_⟩
      by_cases hb : b = g
      · subst hb
        have hlt := hj rfl
        rw [cell_of_row w b j cur e (0, 0) hg] at h
        rw [cell_setRow_same w b j cur _ e (0, 0) hg]
        rw [List.getElem?_toArray, List.append_assoc, List.getElem?_append_left (by simp; omega), List.getElem?_take, if_pos hlt]
        simpa using h
      · rw [cell_setRow_other w g _ _ hb]; exact h
    · have holds : ∀ j u, xs[j]? = some u → w.cell? ((⟨g, 0, none⟩ : Addr).add j) = some u := hown.cells (g := g) rfl
      have hr := run_append_grow (P := P) w t ty e i z ht hi hz ⟨g, 0, none⟩ n cap xs hown.1 holds a m c news hl hnews (by omega) (by omega) (growslice_fits (by omega) hbytes)
      rw [hr] at hrun
      injection hrun with e1 e2
      subst e1; subst e2
      exact ⟨hown', hgrow, .inr rfl, fun b j u h _ => cell_alloc_old (w := w.drew) h⟩

theorem wpList_append_all {ops : Array Oper} {rest : List Oper} {o : Oper} {a : Act} {Q : Exit → Act → World → Prop} (hgd : o.guard = none) (s x : Operand) (t : TypeId)
    (ho : o.op = .call { callee := .builtin .append, args := #[s, x], argTypes := #[t, t] })
    (base : Nat) (e : TypeId) (i : TypeInfo) (z : Value) (size bytes : Nat) (ht : P.underlying t = some (.slice e)) (hi : P.info? e = some i) (hz : i.zero = some z)
    (hsize : i.size = size) (hby : i.bytes = bytes) (hzs : z.cells.size = size) (hsz : 0 < size)
    (v : Value) (n : Nat) (xs : List Value) (hs : a.eval s = v) (hown : w.ownsRow base e size v n xs)
    (ad : Addr) (m c : Nat) (news : List Value) (hx : a.eval x = .slice (some ad) m c) (hl : news.length = m * size) (hnews : ∀ j u, news[j]? = some u → w.cell? (ad.add j) = some u) (h1 : ∀ u ∈ news, u.oneCell' = true)
    (h63 : n + m ≤ maxLen) (hbytes : (n + m) * bytes ≤ 140737488355328) (hbase : base ≤ w.heap.size)
    (h : ∀ v' w', Grow w w' base e size v v' n m xs news → wpList P ops Q rest (a.put o.dst v') w') : wpList P ops Q (o :: rest) a w := by
  refine wpList_plain hgd fun K hK => ?_
  obtain ⟨v', w', hr, hg⟩ := run_append_all (P := P) w base t o.type e i z size bytes ht hi hz hsize hby hzs hsz v n xs hown ad m c news hl hnews h1 h63 hbytes hbase
  unfold Oper.wp execOp
  simp only [ho, resolve, invoke, builtin, Sem.run_bind, Sem.run_pure, Result.andThen_ok, List.map_toArray, List.map_cons, List.map_nil, hs, hx, hr]
  exact hK _ _ (h v' w' hg)
end

theorem info5 : (Tryz.prog.info? 5).map (fun i => (i.zero, i.size, i.bytes)) = some (some (.int .u8 0), 1, 1) := by kernel_rfl

/-- append onto a slice of bytes of the call's own, of the bytes of another slice -/
theorem wpList_append_bytes (w : World) {ops : Array Oper} {rest : List Oper} {o : Oper} {a : Act} {Q : Exit → Act → World → Prop} (hgd : o.guard = none) (s x : Operand)
    (ho : o.op = .call { callee := .builtin .append, args := #[s, x], argTypes := #[75, 75] })
    (base : Nat) (v : Value) (n : Nat) (xs : List Value) (hs : a.eval s = v) (hown : w.ownsRow base 5 1 v n xs)
    (T off m c : Nat) (news : List Nat) (hx : a.eval x = .slice (some ⟨T, off, none⟩) m c) (hl : news.length = m) (hnews : ∀ j, j < m → w.cell? ⟨T, off + j, none⟩ = some (.int .u8 (news.getD j 0 : Nat)))
    (h63 : n + m ≤ 1000000000000) (hbase : base ≤ w.heap.size)
    (h : ∀ v' w', Grow w w' base 5 1 v v' n m xs (news.map fun b : Nat => Value.int .u8 b) → wpList Tryz.prog ops Q rest (a.put o.dst v') w') : wpList Tryz.prog ops Q (o :: rest) a w := by
  obtain ⟨i5, hi, hz0, hz1, hz2⟩ := info_parts info5
  refine wpList_append_all (P := Tryz.prog) w hgd s x 75 ho base 5 i5 (.int .u8 0) 1 1 Tryz.underlying75 hi hz0 hz1 hz2 rfl (by decide) v n xs hs hown ⟨T, off, none⟩ m c _ hx (by simp [hl]) ?_ ?_ (by unfold maxLen; omega) (by omega) hbase h
  · intro j u hj
    rw [List.getElem?_map] at hj
    by_cases hlt : j < m
    · have e : news[j]? = some (news.getD j 0) := by rw [List.getD_eq_getElem?_getD, List.getElem?_eq_getElem (by omega)]; rfl
      rw [e] at hj
      obtain rfl := Option.some.inj hj
      have hadd : (⟨T, off, none⟩ : Addr).add j = ⟨T, off + j, none⟩ := by unfold Addr.add; split <;> simp_all
      rw [hadd]
      exact hnews j hlt
    · rw [List.getElem?_eq_none (by omega)] at hj; cases hj
  · intro u hu
    obtain ⟨b, _, rfl⟩ := List.mem_map.1 hu
    rfl
end Go.Proofs.YticdagnbnmnidaaGreatDoor
