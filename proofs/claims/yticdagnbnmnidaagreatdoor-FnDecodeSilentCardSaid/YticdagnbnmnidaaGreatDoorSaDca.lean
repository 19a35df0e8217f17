/- Decimals of many digits, as strconv has them: what their memory holds, and the small functions over them. Conditions: none. Decimals of many digits: the shift to the left. Conditions: none. -/
import Derived.Test.YticdagnbnmnidaaGreatDoorSaFla
import Derived.Test.YticdagnbnmnidaaGreatDoorSaDecim
import Derived.Deep.LoopGhost
import Derived.Deep.DeepCutAuto
set_option linter.unusedSimpArgs false
set_option linter.unusedVariables false
namespace Go.Proofs.YticdagnbnmnidaaGreatDoor
open Go.RowKit

/-- A decimal: its 800 bytes, how many of them are digits, where the point is. -/
structure Dm where
  b : Nat → Nat
  nd : Nat
  dp : Int
  neg : Bool
  tr : Bool

/-- Block g holds this decimal. -/
structure DmAt (w : World) (g : Nat) (c : Dm) : Prop where
  row : ∃ cs, Row w g 306 cs ∧ cs.size = 804 ∧ (∀ i, i < 800 → cs[i]? = some (.int .u8 (c.b i : Nat))) ∧ cs[800]? = some (.int .i64 c.nd) ∧ cs[801]? = some (.int .i64 c.dp) ∧ cs[802]? = some (.bool c.neg) ∧ cs[803]? = some (.bool c.tr)

namespace DmAt
variable {w w' : World} {g : Nat} {c : Dm} {S : Nat → Prop}
theorem byte (h : DmAt w g c) {i : Nat} (hi : i < 800) : w.cell? ⟨g, i, none⟩ = some (.int .u8 (c.b i : Nat)) := let ⟨_, hr, _, hb, _⟩ := h.row; (hr.cell i).trans (hb i hi)
theorem nd (h : DmAt w g c) : w.cell? ⟨g, 800, none⟩ = some (.int .i64 c.nd) := let ⟨_, hr, _, _, h1, _⟩ := h.row; (hr.cell 800).trans h1
theorem dp (h : DmAt w g c) : w.cell? ⟨g, 801, none⟩ = some (.int .i64 c.dp) := let ⟨_, hr, _, _, _, h1, _⟩ := h.row; (hr.cell 801).trans h1
theorem neg (h : DmAt w g c) : w.cell? ⟨g, 802, none⟩ = some (.bool c.neg) := let ⟨_, hr, _, _, _, _, h1, _⟩ := h.row; (hr.cell 802).trans h1
theorem tr (h : DmAt w g c) : w.cell? ⟨g, 803, none⟩ = some (.bool c.tr) := let ⟨_, hr, _, _, _, _, _, h1⟩ := h.row; (hr.cell 803).trans h1
theorem frozen (h : DmAt w g c) (i : Nat) : w.frozen? ⟨g, i, none⟩ = false := let ⟨_, hr, _⟩ := h.row; hr.frozen i
theorem lt (h : DmAt w g c) : g < w.heap.size := let ⟨_, hr, _⟩ := h.row; hr.lt
theorem keep (h : DmAt w g c) (hk : Keep S w w') (hn : ¬ S g) : DmAt w' g c := let ⟨cs, hr, r⟩ := h.row; ⟨cs, hr.keep hk hn, r⟩
theorem same (h : DmAt w g c) (hk : Same w w') : DmAt w' g c := h.keep hk id
theorem drewN (h : DmAt w g c) (n : Nat) : DmAt (w.drewN n) g c := h.same ((Keep.refl _ w).drewN n)
theorem set_b (h : DmAt w g c) {i : Nat} (hi : i < 800) (v : Nat) : DmAt (w.setCell ⟨g, i, none⟩ (.int .u8 v)) g { c with b := fun j => if j = i then v else c.b j } := by
  obtain ⟨cs, hr, hs, hb, h1, h2, h3, h4⟩ := h.row
  refine ⟨_, hr.set i _, by simpa using hs, fun j hj => ?_, ?_, ?_, ?_, ?_⟩
  · rw [Array.getElem?_setIfInBounds]
    by_cases e : i = j
    · subst e; simp [show i < cs.size by omega]
    · rw [if_neg e]
      show cs[j]? = some (.int .u8 ((if j = i then v else c.b j : Nat) : Int))
      rw [if_neg (fun e' => e e'.symm)]; exact hb j hj
  all_goals (rw [Array.getElem?_setIfInBounds, if_neg (by omega)]; assumption)
theorem set_far {i : Nat} (hi : 800 ≤ i) {cs : Array Value} {v : Value} (hb : ∀ j, j < 800 → cs[j]? = some (.int .u8 (c.b j : Nat))) (j : Nat) (hj : j < 800) : (cs.setIfInBounds i v)[j]? = some (.int .u8 (c.b j : Nat)) := by
  rw [Array.getElem?_setIfInBounds, if_neg (by omega)]; exact hb j hj
theorem set_nd (h : DmAt w g c) (n : Nat) : DmAt (w.setCell ⟨g, 800, none⟩ (.int .i64 n)) g { c with nd := n } := by
  obtain ⟨cs, hr, hs, hb, h1, h2, h3, h4⟩ := h.row
  refine ⟨_, hr.set 800 _, by simpa using hs, set_far (Nat.le_refl _) hb, ?_, ?_, ?_, ?_⟩
  · rw [Array.getElem?_setIfInBounds, if_pos rfl, if_pos (by omega)]
  all_goals (rw [Array.getElem?_setIfInBounds, if_neg (by omega)]; assumption)
theorem set_dp (h : DmAt w g c) (n : Int) : DmAt (w.setCell ⟨g, 801, none⟩ (.int .i64 n)) g { c with dp := n } := by
  obtain ⟨cs, hr, hs, hb, h1, h2, h3, h4⟩ := h.row
  refine ⟨_, hr.set 801 _, by simpa using hs, set_far (by omega) hb, ?_, ?_, ?_, ?_⟩
  · rw [Array.getElem?_setIfInBounds, if_neg (by omega)]; assumption
  · rw [Array.getElem?_setIfInBounds, if_pos rfl, if_pos (by omega)]
  all_goals (rw [Array.getElem?_setIfInBounds, if_neg (by omega)]; assumption)
theorem set_neg (h : DmAt w g c) (n : Bool) : DmAt (w.setCell ⟨g, 802, none⟩ (.bool n)) g { c with neg := n } := by
  obtain ⟨cs, hr, hs, hb, h1, h2, h3, h4⟩ := h.row
  refine ⟨_, hr.set 802 _, by simpa using hs, set_far (by omega) hb, ?_, ?_, ?_, ?_⟩
  · rw [Array.getElem?_setIfInBounds, if_neg (by omega)]; assumption
  · rw [Array.getElem?_setIfInBounds, if_neg (by omega)]; assumption
  · rw [Array.getElem?_setIfInBounds, if_pos rfl, if_pos (by omega)]
  · rw [Array.getElem?_setIfInBounds, if_neg (by omega)]; assumption
theorem set_tr (h : DmAt w g c) (n : Bool) : DmAt (w.setCell ⟨g, 803, none⟩ (.bool n)) g { c with tr := n } := by
  obtain ⟨cs, hr, hs, hb, h1, h2, h3, h4⟩ := h.row
  refine ⟨_, hr.set 803 _, by simpa using hs, set_far (by omega) hb, ?_, ?_, ?_, ?_⟩
  · rw [Array.getElem?_setIfInBounds, if_neg (by omega)]; assumption
  · rw [Array.getElem?_setIfInBounds, if_neg (by omega)]; assumption
  · rw [Array.getElem?_setIfInBounds, if_neg (by omega)]; assumption
  · rw [Array.getElem?_setIfInBounds, if_pos rfl, if_pos (by omega)]
end DmAt

/-- the cell of a place in the block alone is turned -/
theorem keepG (w : World) (g i : Nat) (v : Value) : Keep (fun k => k = g) w (w.setCell ⟨g, i, none⟩ v) := (Keep.refl (fun k => k = g) w).setCell (fun _ => rfl) _

/-- A decimal that is not 0 and has its digits. -/
structure Dm.Ok (c : Dm) : Prop where
  pos : 0 < c.nd
  le : c.nd ≤ 800
  dig : ∀ i, i < c.nd → 48 ≤ c.b i ∧ c.b i ≤ 57
  first : c.b 0 ≠ 48

/-- What trim leaves. -/
def Trims (g : Nat) (c : Dm) (w : World) (e : Ending) (w' : World) : Prop := ∃ n, 0 < n ∧ n ≤ c.nd ∧ e = .returned (.tuple #[]) ∧ DmAt w' g { c with nd := n } ∧ Keep (fun k => k = g) w w'

set_option maxRecDepth 20000 in
set_option maxHeartbeats 800000 in
theorem trim_any (g : Nat) (c : Dm) (w : World) (h : DmAt w g c) (hc : c.Ok) : Calls Tryz.prog 266 #[.pointer (some ⟨g, 0, none⟩)] w (Trims g c w) := by
  have h1 := hc.pos
  have h2 := hc.le
  have H := hid h
  have Hf := hid hc.first
  clear h hc
  go_enter Tryz.func266, Tryz.ntmps266
  go_wp2_with fail
  go_loopg [] c.nd (fun q wr => 0 < q ∧ q ≤ c.nd ∧ Hid (DmAt wr g { c with nd := q }) ∧ Hid (Keep (fun k => k = g) w wr))
  case atStart => exact ⟨h1, Nat.le_refl _, H.out, Keep.refl _ _⟩
  case round =>
    obtain ⟨hq, hq2, hD, hK⟩ := hrel
    obtain ⟨q, rfl⟩ : ∃ q, gk = q + 1 := ⟨gk - 1, by omega⟩
    have f0 : wr.cell? ⟨g, 800, none⟩ = some (.int .i64 ((q : Int) + 1)) := by have := hD.out.nd; simpa using this
    have fb : wr.cell? ⟨g, q, none⟩ = some (.int .u8 (c.b q : Nat)) := hD.out.byte (by omega)
    have fr := hD.out.frozen 800
    by_cases hz : c.b q = 48
    · have hzb : ((c.b q : Int) == 48) = true := by simp [hz]
      have hq0 : 0 < q := by
        rcases Nat.eq_zero_or_pos q with e | e
        · subst e; exact absurd hz Hf.out
        · exact e
      have Hz := hid hz
      clear hz
      go_wp2_with fail
      go_quiet (fail)
      go_wp2_with fail
      go_roundg q
      case measure => omega
      case rel => exact ⟨hq0, by omega, (hD.out.drewN _).set_nd q, (hK.out.drewN _).setCell (fun _ => rfl) _⟩
    · have hzb : ((c.b q : Int) == 48) = false := by simp; omega
      clear hz
      go_wp2_with fail
      go_quiet (fail)
      go_wp2_with fail
      go_end0
      exact ⟨q + 1, hq, hq2, rfl, hD.out.drewN _, hK.out.drewN _⟩
/-- the digits of a cutoff -/
def cutD (s : ByteArray) (t : Nat) : Nat := (s.data.toList.getD t 0).toNat - 48
/-- the digits of a decimal -/
def Dm.d (c : Dm) (t : Nat) : Nat := c.b t - 48

theorem pv_congr {f f' : Nat → Nat} : ∀ n, (∀ t, t < n → f t = f' t) → Plain.pv f n = Plain.pv f' n := by
  intro n
  induction n with
  | zero => intro _; rfl
  | succ n ih => intro h; simp only [Plain.pv]; rw [ih fun t ht => h t (by omega), h n (by omega)]

theorem cut_get (s : ByteArray) {k : Nat} (h : k < s.size) : s[k].toNat = (s.data.toList.getD k 0).toNat := by
  have h' : k < s.data.toList.length := by simpa using h
  rw [List.getD_eq_getElem?_getD, List.getElem?_eq_getElem h']
  rfl

/-- whether nd digits are less than m of a cutoff, from the i-th on -/
def plt (f cs : Nat → Nat) (nd m : Nat) : Nat → Nat → Bool
  | 0, _ => false
  | n + 1, i => if i < m then (if nd ≤ i then true else if f i = cs i then plt f cs nd m n (i + 1) else decide (f i < cs i)) else false
theorem plt_less {f cs : Nat → Nat} {nd m : Nat} : ∀ n i, Plain.pv f i = Plain.pv cs i → i ≤ m → i ≤ nd → m - i < n → ∃ j, Plain.Less f nd cs m j (plt f cs nd m n i) := by
  intro n
  induction n with
  | zero => intro i _ _ _ h; omega
  | succ n ih =>
    intro i hp hm hn hlt
    simp only [plt]
    by_cases h1 : i < m
    · rw [if_pos h1]
      by_cases h2 : nd ≤ i
      · rw [if_pos h2]; exact ⟨i, hp, hm, hn, .inr (.inl ⟨h1, by omega, rfl⟩)⟩
      · rw [if_neg h2]
        by_cases h3 : f i = cs i
        · rw [if_pos h3]
          exact ih (i + 1) (by simp only [Plain.pv]; rw [hp, h3]) (by omega) (by omega) (by omega)
        · rw [if_neg h3]
          by_cases h4 : f i < cs i
          · rw [decide_eq_true h4]; exact ⟨i, hp, hm, hn, .inr (.inr (.inl ⟨h1, by omega, h4, rfl⟩))⟩
          · rw [decide_eq_false h4]; exact ⟨i, hp, hm, hn, .inr (.inr (.inr ⟨h1, by omega, by omega, rfl⟩))⟩
    · rw [if_neg h1]; exact ⟨i, hp, hm, hn, .inl ⟨by omega, rfl⟩⟩
/-- .. from the first on -/
def pltB (f : Nat → Nat) (nd : Nat) (s : ByteArray) : Bool := plt f (cutD s) nd s.size (s.size + 1) 0
theorem pltB_less (f : Nat → Nat) (nd : Nat) (s : ByteArray) : ∃ j, Plain.Less f nd (cutD s) s.size j (pltB f nd s) := plt_less _ 0 rfl (Nat.zero_le _) (Nat.zero_le _) (by omega)
theorem plt_at {f cs : Nat → Nat} {nd m k n : Nat} (h : n = (m - k) + 1) (hk : k < m) : plt f cs nd m n k = if nd ≤ k then true else if f k = cs k then plt f cs nd m (m - (k + 1) + 1) (k + 1) else decide (f k < cs k) := by
  subst h
  conv => lhs; unfold plt
  rw [if_pos hk, show m - k = m - (k + 1) + 1 by omega]

/-- What prefixIsLessThan answers. -/
def Cuts (f : Nat → Nat) (nd : Nat) (s : ByteArray) (w : World) (e : Ending) (w' : World) : Prop := e = .returned (.bool (pltB f nd s)) ∧ ∃ n, w' = w.drewN n

set_option maxRecDepth 20000 in
set_option maxHeartbeats 1600000 in
theorem prefixLess_any (g nd cap : Nat) (B : Nat → Nat) (s : ByteArray) (w : World) (hB : ∀ i, i < nd → w.cell? ⟨g, i, none⟩ = some (.int .u8 (B i : Nat))) (h48 : ∀ i, i < nd → 48 ≤ B i)
    (hs48 : ∀ i, i < s.size → 48 ≤ (s.data.toList.getD i 0).toNat) (hs : s.size ≤ 1000) (hnd : nd ≤ 800) (hcap : nd ≤ cap) :
    Calls Tryz.prog 284 #[.slice (some ⟨g, 0, none⟩) nd cap, .string s] w (Cuts (fun t => B t - 48) nd s w) := by
  have HB := hid hB
  have H48 := hid h48
  have Hs48 := hid hs48
  clear hB h48 hs48
  go_enter Tryz.func284, Tryz.ntmps284
  go_wp2_with fail
  go_loopw [5] (fun i wr => ∃ k : Nat, k ≤ s.size ∧ k ≤ nd ∧ i = .int .i64 k ∧ Hid (pltB (fun t => B t - 48) nd s = plt (fun t => B t - 48) (cutD s) nd s.size (s.size - k + 1) k) ∧ Hid (∃ n, wr = w.drewN n)) (fun i _ => s.size - (intOf i).toNat)
  case atStart => exact ⟨0, Nat.zero_le _, Nat.zero_le _, rfl, rfl, 0, rfl⟩
  case round =>
    obtain ⟨k, hk, hkn, rfl, hall, hsm⟩ := hrel
    obtain ⟨n0, rfl⟩ := hsm.out
    clear hsm
    by_cases hlt : k < s.size
    · have Hcg := hid (cut_get s hlt)
      by_cases hlt2 : k < nd
      · have hv : w.cell? ⟨g, k, none⟩ = some (.int .u8 (B k : Nat)) := HB.out k hlt2
        have Hst := hid (plt_at (f := fun t => B t - 48) (cs := cutD s) (nd := nd) (m := s.size) (n := s.size - k + 1) rfl hlt)
        have Hf : Hid (cutD s k = s[k].toNat - 48) := by show _ = _; rw [cut_get s hlt]; rfl
        have i1 : (k : Int) < (nd : Int) := by omega
        have i2 : (k : Int) < (s.size : Int) := by omega
        have q1 := H48.out k hlt2
        have q2 := Hs48.out k hlt
        by_cases heq : B k = s[k].toNat
        · have hb : ((B k : Int) != (s[k].toNat : Int)) = false := by simp [heq]
          have Heq := hid heq
          clear heq q1 q2
          go_wp2_with fail
          go_quiet (fail)
          go_wp2_with fail
          go_roundw
          case rel =>
            refine ⟨k + 1, by omega, by omega, by go_num, ?_, _, rfl⟩
            show _ = _
            rw [hall.out, Hst.out, if_neg (by omega), if_pos (by rw [Hf.out, ← Heq.out])]
          case measure => simp [intOf]; omega
        · have hb : ((B k : Int) != (s[k].toNat : Int)) = true := by simp; omega
          by_cases hl : B k < s[k].toNat
          · have hlI : (B k : Int) < (s[k].toNat : Int) := by omega
            have Hl := hid hl
            have Q1 := hid q1
            have Q2 := hid q2
            clear heq hl q1 q2
            go_wp2_with fail
            go_quiet (fail)
            go_wp2_with fail
            go_quiet (fail)
            go_wp2_with fail
            go_ret
            have a1 := Hf.out
            have a2 := Hl.out
            have a3 := Q1.out
            refine ⟨?_, _, by rw [World.drewN_drewN, World.drewN_drewN]⟩
            have e1 : decide ((fun t => B t - 48) k < cutD s k) = true := decide_eq_true (by show B k - 48 < cutD s k; rw [a1]; omega)
            have e2 : ¬ (fun t => B t - 48) k = cutD s k := by show ¬ B k - 48 = cutD s k; rw [a1]; omega
            rw [hall.out, Hst.out, if_neg (by omega), if_neg e2, e1]
            rfl
          · have hlI : ¬ (B k : Int) < (s[k].toNat : Int) := by omega
            have Hl := hid hl
            have Hq := hid heq
            have Q1 := hid q1
            have Q2 := hid q2
            clear heq hl q1 q2
            go_wp2_with fail
            go_quiet (fail)
            go_wp2_with fail
            go_quiet (fail)
            go_wp2_with fail
            go_ret
            have a1 := Hf.out
            have a2 := Hl.out
            have a3 := Q2.out
            have a4 := Hq.out
            have a5 := Hcg.out
            refine ⟨?_, _, by rw [World.drewN_drewN, World.drewN_drewN]⟩
            have e1 : decide ((fun t => B t - 48) k < cutD s k) = false := decide_eq_false (by show ¬ B k - 48 < cutD s k; rw [a1]; omega)
            have e2 : ¬ (fun t => B t - 48) k = cutD s k := by show ¬ B k - 48 = cutD s k; rw [a1]; omega
            rw [hall.out, Hst.out, if_neg (by omega), if_neg e2, e1]
            first | rfl | (rw [decide_eq_false (by omega)]; rfl)
      · obtain rfl : k = nd := by omega
        go_wp2_with fail
        go_ret
        refine ⟨?_, _, rfl⟩
        rw [hall.out, plt_at rfl hlt, if_pos (Nat.le_refl _)]
        rfl
    · obtain rfl : k = s.size := by omega
      go_wp2_with fail
      go_ret
      refine ⟨?_, _, rfl⟩
      rw [hall.out]
      simp only [plt, if_neg (Nat.lt_irrefl _)]
      rfl
end Go.Proofs.YticdagnbnmnidaaGreatDoor
namespace Go.Proofs.YticdagnbnmnidaaGreatDoor
open Go.RowKit

/-- the table of the shifts to the left -/
def CheatTab (w : World) : Prop := ∃ b off cap, w.cell? ⟨12, 0, none⟩ = some (.slice (some ⟨b, off, none⟩) 61 cap) ∧ ∀ k, 1 ≤ k → k ≤ 60 → ∃ (D : Nat) (s : ByteArray),
  w.cell? ⟨b, off + k * 2, none⟩ = some (.int .i64 D) ∧ w.cell? ⟨b, off + k * 2 + 1, none⟩ = some (.string s) ∧ Plain.Cheat k s.size D (cutD s) ∧ s.size ≤ 100 ∧ ∀ i, i < s.size → 48 ≤ (s.data.toList.getD i 0).toNat
theorem CheatTab.lay {w0 w : World} (h : CheatTab w0) (hl : Lay w0 w) : CheatTab w := by
  obtain ⟨b, off, cap, h0, h1⟩ := h
  refine ⟨b, off, cap, hl.cell h0, fun k hk hk2 => ?_⟩
  obtain ⟨D, s, a1, a2, a3⟩ := h1 k hk hk2
  exact ⟨D, s, hl.cell a1, hl.cell a2, a3⟩

theorem under304 : Tryz.prog.underlying 304 = some (.array (Tryz.prog.arrayLen 304) (Tryz.prog.elem 304)) := by kernel_rfl
theorem len304 : Tryz.prog.arrayLen 304 = 800 := by kernel_rfl
theorem size304 (W : World) : (sizeOf (Tryz.prog.elem 304)).run Tryz.prog W = .ok 1 W := by kernel_rfl
/-- the digits of a decimal, as a slice -/
theorem slice800 (g n : Nat) (hn : n ≤ 800) (W : World) : (Instr.sliceAt 304 (.pointer (some ⟨g, 0, none⟩)) (some (.int .i64 0)) (some (.int .i64 n)) none).run Tryz.prog W = .ok (.slice (some ⟨g, 0, none⟩) n 800) W := by
  rw [run_sliceAt_array_lh W 304 _ under304 .i64 .i64 0 n (by omega) (by omega) (by rw [len304]; omega), size304, len304]
  simp [slicedAt, Result.andThen, Addr.add]

/-- how many digits are new where a decimal is shifted by k to the left -/
structure Shl (k : Nat) (c : Dm) (δ : Nat) : Prop where
  lt : Plain.pv c.d c.nd * 2 ^ k < 10 ^ (c.nd + δ)
  ge : 10 ^ (c.nd + δ) ≤ Plain.pv c.d c.nd * 2 ^ k * 10
  most : δ ≤ 60
  some : 4 ≤ k → 1 ≤ δ

theorem dig_d {c : Dm} (h : c.Ok) : ∀ t, t < c.nd → c.d t ≤ 9 := fun t ht => by have := h.dig t ht; unfold Dm.d; omega
theorem first_d {c : Dm} (h : c.Ok) : c.d 0 ≠ 0 := by have := h.dig 0 h.pos; have := h.first; unfold Dm.d; omega
theorem cheat_two {k m D : Nat} {cs : Nat → Nat} (h : Plain.Cheat k m D cs) (hk : 4 ≤ k) : 2 ≤ D := by
  have h1 := h.two_hi
  have h2 : 2 ^ 4 ≤ 2 ^ k := Nat.pow_le_pow_right (by omega) hk
  rcases (by omega : D = 0 ∨ D = 1 ∨ 2 ≤ D) with e | e | e
  · subst e; omega
  · subst e; omega
  · exact e
theorem plw {k D : Nat} {s : ByteArray} {c : Dm} {b : Bool} {j : Nat} (hch : Plain.Cheat k s.size D (cutD s)) (hc : c.Ok) (hk : k ≤ 60) (hl : Plain.Less (fun t => c.b t - 48) c.nd (cutD s) s.size j b) : Shl k c (if b then D - 1 else D) := by
  have h := Plain.cheat_width hch (dig_d hc) hc.pos (first_d hc) hl
  have hn := hch.new
  have hp := hch.pos
  have hle := hch.le
  refine ⟨h.1, h.2, by split <;> omega, fun h4 => ?_⟩
  have := cheat_two hch h4
  split <;> omega
theorem cheat_pos {k m D : Nat} {cs : Nat → Nat} (h : Plain.Cheat k m D cs) : 1 ≤ D := by have := h.new; omega

/-- how a decimal stands while its q first digits are still to be shifted by k, δ new ones coming -/
structure L1 (c : Dm) (k δ q : Nat) (c' : Dm) : Prop where
  nd : c'.nd = c.nd
  dp : c'.dp = c.dp
  neg : c'.neg = c.neg
  old : ∀ j, j < q + δ → c'.b j = c.b j
  new : ∀ j, q + δ ≤ j → j < c.nd + δ → j < 800 → c'.b j = 48 + Plain.dgt (Plain.pv c.d c.nd * 2 ^ k) (c.nd + δ) j
theorem L1.init (c : Dm) (k δ : Nat) : L1 c k δ c.nd c := ⟨rfl, rfl, rfl, fun _ _ => rfl, fun j h1 h2 _ => by omega⟩

theorem pow60 {k : Nat} (h : k ≤ 60) : 2 ^ k ≤ 1152921504606846976 := Nat.pow_le_pow_right (n := 2) (by omega) h
theorem u64_id {n : Int} (h0 : 0 ≤ n) (h1 : n < 18446744073709551616) : IntKind.u64.wrap n = n := by
  simp [IntKind.wrap, IntKind.bits, IntKind.signed]
  omega
/-- the numbers of a round of the shift -/
theorem shl_nums {N P : Nat} (hN : N < 1152921504606846976) (hP : P ≤ 9 * 1152921504606846976) :
    IntKind.u64.wrap ((N : Int) + (P : Int)) = ((N + P : Nat) : Int) ∧ IntKind.u64.wrap (((N + P : Nat) : Int) / 10) = (((N + P) / 10 : Nat) : Int) ∧
    IntKind.u64.wrap (10 * (((N + P) / 10 : Nat) : Int)) = ((10 * ((N + P) / 10) : Nat) : Int) ∧ IntKind.u64.wrap (((N + P : Nat) : Int) - ((10 * ((N + P) / 10) : Nat) : Int)) = (((N + P) % 10 : Nat) : Int) := by
  have e : ((N + P : Nat) : Int) / 10 = (((N + P) / 10 : Nat) : Int) := by omega
  refine ⟨?_, ?_, ?_, ?_⟩
  · rw [u64_id (by omega) (by omega)]; omega
  · rw [e, u64_id (by omega) (by omega)]
  · rw [u64_id (by omega) (by omega)]; omega
  · rw [u64_id (by omega) (by omega)]; omega
theorem L1.step {c c' : Dm} {k δ q R : Nat} (h : L1 c k δ (q + 1) c') (hq : q + 1 ≤ c.nd) (hR : (Plain.car c.d c.nd k (c.nd - (q + 1)) + c.d q * 2 ^ k) % 10 = R) : L1 c k δ q { c' with b := fun j => if j = q + δ then R + 48 else c'.b j } := by
  refine ⟨h.nd, h.dp, h.neg, fun j hj => ?_, fun j h1 h2 h3 => ?_⟩
  · show (if j = q + δ then R + 48 else c'.b j) = _
    rw [if_neg (by omega)]; exact h.old j (by omega)
  · show (if j = q + δ then R + 48 else c'.b j) = _
    by_cases e : j = q + δ
    · rw [if_pos e]
      have hd := Plain.car_dig c.d c.nd k (c.nd - (q + 1)) (c.nd + δ) (by omega) (by omega)
      rw [show c.nd - 1 - (c.nd - (q + 1)) = q by omega, hR, show c.nd + δ - 1 - (c.nd - (q + 1)) = j by omega] at hd
      omega
    · rw [if_neg e]; exact h.new j (by omega) h2 h3
theorem L1.step' {c c' : Dm} {k δ q : Nat} (h : L1 c k δ (q + 1) c') (h8 : ¬ q + δ < 800) : L1 c k δ q c' :=
  ⟨h.nd, h.dp, h.neg, fun j hj => h.old j (by omega), fun j h1 h2 h3 => by omega⟩
theorem L1.tr {c c' : Dm} {k δ q : Nat} (h : L1 c k δ q c') (b : Bool) : L1 c k δ q { c' with tr := b } := ⟨h.nd, h.dp, h.neg, h.old, h.new⟩
theorem car_next {c : Dm} {k q : Nat} (hq : q + 1 ≤ c.nd) : (Plain.car c.d c.nd k (c.nd - (q + 1)) + c.d q * 2 ^ k) / 10 = Plain.car c.d c.nd k (c.nd - q) := by
  have h := Plain.car_step c.d c.nd k (c.nd - (q + 1))
  rw [show c.nd - 1 - (c.nd - (q + 1)) = q by omega, show c.nd - (q + 1) + 1 = c.nd - q by omega] at h
  exact h

/-- .. while v digits ahead are still to be written -/
structure L2 (c : Dm) (k δ v : Nat) (c' : Dm) : Prop where
  nd : c'.nd = c.nd
  dp : c'.dp = c.dp
  neg : c'.neg = c.neg
  new : ∀ j, v ≤ j → j < c.nd + δ → j < 800 → c'.b j = 48 + Plain.dgt (Plain.pv c.d c.nd * 2 ^ k) (c.nd + δ) j
theorem L1.two {c c' : Dm} {k δ : Nat} (h : L1 c k δ 0 c') : L2 c k δ δ c' := ⟨h.nd, h.dp, h.neg, fun j h1 h2 h3 => h.new j (by omega) h2 h3⟩
theorem L2.tr {c c' : Dm} {k δ q : Nat} (h : L2 c k δ q c') (b : Bool) : L2 c k δ q { c' with tr := b } := ⟨h.nd, h.dp, h.neg, h.new⟩
theorem L2.step {c c' : Dm} {k δ v R : Nat} (h : L2 c k δ (v + 1) c') (hv : v + 1 ≤ δ) (hR : Plain.pv c.d c.nd * 2 ^ k / 10 ^ (c.nd + (δ - (v + 1))) % 10 = R) : L2 c k δ v { c' with b := fun j => if j = v then R + 48 else c'.b j } := by
  refine ⟨h.nd, h.dp, h.neg, fun j h1 h2 h3 => ?_⟩
  show (if j = v then R + 48 else c'.b j) = _
  by_cases e : j = v
  · rw [if_pos e]
    have hd := Plain.rem_dig (Plain.pv c.d c.nd * 2 ^ k) (c.nd + δ) (c.nd + (δ - (v + 1))) (by omega)
    rw [hR, show c.nd + δ - 1 - (c.nd + (δ - (v + 1))) = j by omega] at hd
    omega
  · rw [if_neg e]; exact h.new j (by omega) h2 h3
theorem L2.step' {c c' : Dm} {k δ v : Nat} (h : L2 c k δ (v + 1) c') (h8 : ¬ v < 800) : L2 c k δ v c' :=
  ⟨h.nd, h.dp, h.neg, fun j h1 h2 h3 => by omega⟩
/-- the decimal behind the shift -/
def Dm.shl (c c' : Dm) (δ : Nat) : Dm := { c' with nd := min (c.nd + δ) 800, dp := c.dp + δ }
theorem L2.ok {c c' : Dm} {k δ : Nat} (h : L2 c k δ 0 c') (hc : c.Ok) (hS : Shl k c δ) : (c.shl c' δ).Ok := by
  have hp := hc.pos
  have hl := hc.le
  have hd : ∀ i, i < min (c.nd + δ) 800 → (c.shl c' δ).b i = 48 + Plain.dgt (Plain.pv c.d c.nd * 2 ^ k) (c.nd + δ) i := fun i hi => h.new i (Nat.zero_le _) (by omega) (by omega)
  refine ⟨by show 0 < min _ _; omega, by show min _ _ ≤ 800; omega, fun i hi => ?_, ?_⟩
  · rw [hd i hi]
    have := Plain.dgt_le (Plain.pv c.d c.nd * 2 ^ k) (c.nd + δ) i
    omega
  · rw [hd 0 (by omega)]
    have := Plain.dgt_top_pos (Z := Plain.pv c.d c.nd * 2 ^ k) (M := c.nd + δ) (by omega) hS.lt hS.ge
    omega
theorem L2.first {c c' : Dm} {k δ : Nat} (h : L2 c k δ 0 c') (hc : c.Ok) (hS : Shl k c δ) (h0 : δ = 0) : 2 ^ k * c.d 0 ≤ (c.shl c' δ).d 0 := by
  subst h0
  have hp := hc.pos
  have e := h.new 0 (Nat.zero_le _) (by omega) (by omega)
  have hlt := hS.lt
  rw [Nat.add_zero] at hlt e
  have := Plain.dgt_top_ge hp hlt
  show _ ≤ c'.b 0 - 48
  rw [e]
  omega

/-- What the shift to the left leaves. -/
def LShift (g k : Nat) (c : Dm) (w : World) (e : Ending) (w' : World) : Prop :=
  ∃ (c' : Dm) (δ : Nat), e = .returned (.tuple #[]) ∧ DmAt w' g c' ∧ c'.Ok ∧ Keep (fun b => b = g) w w' ∧ c'.neg = c.neg ∧ c'.dp = c.dp + δ ∧ δ ≤ 60 ∧ (4 ≤ k → 1 ≤ δ) ∧ (δ = 0 → 2 ^ k * c.d 0 ≤ c'.d 0)

set_option maxRecDepth 20000 in
set_option maxHeartbeats 3200000 in
theorem leftShift_any (g k : Nat) (c : Dm) (w : World) (h : DmAt w g c) (hc : c.Ok) (hk1 : 1 ≤ k) (hk2 : k ≤ 60) (ht : CheatTab w) (hdp : -1000000000 ≤ c.dp) (hdp' : c.dp ≤ 1000000000) :
    Calls Tryz.prog 267 #[.pointer (some ⟨g, 0, none⟩), .int .u64 k] w (LShift g k c w) := by
  obtain ⟨b, off, cap, t0, tk⟩ := ht
  obtain ⟨D, s, t1, t2, hch, hs, h48⟩ := tk k hk1 hk2
  have hsl := slice800 g c.nd hc.le
  have f0 := h.nd
  have h1 := hc.pos
  have h2 := hc.le
  have H := hid h
  have HC := hid hc
  have Hch := hid hch
  have H48 := hid h48
  clear h hc tk hch h48
  go_enter Tryz.func267, Tryz.ntmps267
  go_wp2_with fail
  have HB : Hid (∀ (W : World), (∃ n, W = w.drewN n) → ∀ i, i < c.nd → W.cell? ⟨g, i, none⟩ = some (.int .u8 (c.b i : Nat))) := by
    rintro W ⟨n, rfl⟩ i hi
    exact (H.out.drewN n).byte (by omega)
  go_quiet ((go_at_call 284; refine (prefixLess_any g c.nd 800 c.b s _ (HB.out _ ⟨_, rfl⟩) (fun i hi => (HC.out.dig i hi).1) H48.out (by omega) h2 h2).mono ?_; rintro e w' ⟨rfl, m, rfl⟩; exact ⟨rfl, _, by rw [World.drewN_drewN]⟩))
  obtain ⟨jl, hless⟩ := pltB_less (fun t => c.b t - 48) c.nd s
  have Hw := hid (plw Hch.out HC.out hk2 hless)
  have hD := cheat_pos Hch.out
  have hDle : D ≤ 60 := by have := Hch.out.new; have := Hch.out.pos; have := Hch.out.le; omega
  have Hless := hid hless
  clear hless
  generalize pltB (fun t => c.b t - 48) c.nd s = bl at Hless Hw ⊢
  have fN : ∀ i, i < 800 → w.cell? ⟨g, i, none⟩ = some (.int .u8 (c.b i : Nat)) := fun i hi => H.out.byte hi
  clear fN
  go_upto_if 30 with fail
  go_cut [4] (fun x wc => ∃ δ : Nat, x = .int .i64 δ ∧ Hid (Shl k c δ) ∧ Hid (∃ n, wc = w.drewN n))
  case first => as_aux_lemma =>
    cases bl
    · go_wp2_with fail
      go_meet
      case rel => exact ⟨D, rfl, Hw.out, _, rfl⟩
    · go_wp2_with fail
      go_meet
      case rel => exact ⟨D - 1, congrArg (Value.int .i64) (by omega), Hw.out, _, rfl⟩
  case rest => as_aux_lemma =>
    obtain ⟨δ, rfl, hS, hwc⟩ := hcut
    obtain ⟨n0, rfl⟩ := hwc.out
    have hδ := hS.out.most
    clear hwc t0 t1 t2 hsl HB Hch H48 Hless Hw hs hD hDle
    go_wp2_with fail
    go_loopw [5, 6, 7] (fun r v n wr => ∃ (q : Nat) (c' : Dm), q ≤ c.nd ∧ r = .int .i64 ((q : Int) - 1) ∧ v = .int .i64 ((q + δ : Nat) : Int) ∧ n = .int .u64 (Plain.car c.d c.nd k (c.nd - q) : Nat) ∧ Hid (DmAt wr g c') ∧ Hid (L1 c k δ q c') ∧ Hid (Keep (fun b => b = g) w wr)) (fun r _ _ _ => (intOf r + 1).toNat)
    case atStart => exact ⟨c.nd, c, Nat.le_refl _, rfl, rfl, by rw [Nat.sub_self, Plain.car_zero]; rfl, H.out.drewN _, L1.init c k δ, (Keep.refl _ _).drewN _⟩
    case round =>
      obtain ⟨q, c', hq, rfl, rfl, rfl, hD, hL, hK⟩ := hrel
      rcases Nat.eq_zero_or_pos q with e | hq0
      · as_aux_lemma =>
        subst e
        have Hl2 := hid hL.out.two
        have hce := Plain.car_end c.d c.nd k
        have hcar := Plain.car_lt (dig_d HC.out) k c.nd (Nat.le_refl _)
        have h60 := pow60 hk2
        have hZ : Hid (Plain.car c.d c.nd k (c.nd - 0) = Plain.pv c.d c.nd * 2 ^ k / 10 ^ (c.nd + (δ - δ))) := by
          show _ = _
          rw [Nat.sub_self, Nat.add_zero, Nat.sub_zero, hce]
        rw [hZ.out]
        rw [hce] at hcar
        have Hcar := hid hcar
        clear hce hcar hL hZ
        go_wp2_with fail
        go_loopw [6, 7] (fun v n wr => ∃ (q : Nat) (c' : Dm), q ≤ δ ∧ v = .int .i64 (q : Nat) ∧ n = .int .u64 (Plain.pv c.d c.nd * 2 ^ k / 10 ^ (c.nd + (δ - q)) : Nat) ∧ Hid (DmAt wr g c') ∧ Hid (L2 c k δ q c') ∧ Hid (Keep (fun b => b = g) w wr)) (fun v _ _ => (intOf v).toNat)
        case atStart => exact ⟨δ, c', Nat.le_refl _, by simp, rfl, hD.out, Hl2.out, hK.out⟩
        case round =>
          clear hD hK Hl2
          obtain ⟨q, c', hq, rfl, rfl, hD, hL, hK⟩ := hrel
          have hXlt : Plain.pv c.d c.nd * 2 ^ k / 10 ^ (c.nd + (δ - q)) < 1152921504606846976 := by
            have e1 : Plain.pv c.d c.nd * 2 ^ k / 10 ^ (c.nd + (δ - q)) = Plain.pv c.d c.nd * 2 ^ k / 10 ^ c.nd / 10 ^ (δ - q) := by rw [Nat.div_div_eq_div_mul, Nat.pow_add]
            rw [e1]
            exact Nat.lt_of_le_of_lt (Nat.div_le_self _ _) (Nat.lt_of_lt_of_le Hcar.out h60)
          by_cases hX : 0 < Plain.pv c.d c.nd * 2 ^ k / 10 ^ (c.nd + (δ - q))
          · have hroom := Plain.room (M := c.nd + δ) hS.out.lt hX
            obtain ⟨q, rfl⟩ : ∃ p, q = p + 1 := ⟨q - 1, by omega⟩
            have Hst : Hid (∀ R, Plain.pv c.d c.nd * 2 ^ k / 10 ^ (c.nd + (δ - (q + 1))) % 10 = R → L2 c k δ q { c' with b := fun j => if j = q then R + 48 else c'.b j }) := fun R hR => hL.out.step hq hR
            have Hnx : Hid (Plain.pv c.d c.nd * 2 ^ k / 10 ^ (c.nd + (δ - (q + 1))) / 10 = Plain.pv c.d c.nd * 2 ^ k / 10 ^ (c.nd + (δ - q))) := by
              show _ = _
              rw [Plain.quo_step, show c.nd + (δ - (q + 1)) + 1 = c.nd + (δ - q) by omega]
            clear hroom
            generalize Plain.pv c.d c.nd * 2 ^ k / 10 ^ (c.nd + (δ - (q + 1))) = X at hXlt hX Hst Hnx ⊢
            obtain ⟨x1, x2, x3, x4⟩ := shl_nums (N := X) (P := 0) hXlt (by omega)
            rw [Nat.add_zero] at x2 x3 x4
            clear x1
            have HstR := hid (Hst.out _ rfl)
            have hY : Hid (X / 10 = Plain.pv c.d c.nd * 2 ^ k / 10 ^ (c.nd + (δ - q))) := Hnx.out
            have hR9 : X % 10 ≤ 9 := by omega
            have hXI : (0 : Int) < (X : Int) := by omega
            generalize X % 10 = R at *
            generalize 10 * (X / 10) = Y10 at *
            generalize X / 10 = Y at *
            have x5 : IntKind.u64.wrap ((R : Int) + 48) = ((R + 48 : Nat) : Int) := by rw [u64_id (by omega) (by omega)]; omega
            have x6 : ((R + 48 : Nat) : Int) % 256 = ((R + 48 : Nat) : Int) := by omega
            generalize R + 48 = V at x5 x6 HstR
            clear Hst Hnx hXlt
            have h8 : q < 800 := by omega
            have fv : wr.cell? ⟨g, q, none⟩ = some (.int .u8 (c'.b q : Nat)) := hD.out.byte h8
            have fr := hD.out.frozen q
            have Hset := hid (hD.out.set_b h8 V)
            have Hkk := hid (hK.out.setCell (p := ⟨g, q, none⟩) (fun _ => rfl) (.int .u8 (V : Nat)))
            go_wp2_with fail
            go_roundw
            case rel => exact ⟨q, _, by omega, rfl, by rw [hY.out], Hset.out, HstR.out, Hkk.out⟩
            case measure => simp [intOf]
          · have hX0 : Plain.pv c.d c.nd * 2 ^ k / 10 ^ (c.nd + (δ - q)) = 0 := Nat.eq_zero_of_not_pos hX
            have hsp := Plain.spent hS.out.ge (by omega) hX0
            obtain rfl : q = 0 := by omega
            rw [hX0]
            have Hok := hid (hL.out.ok HC.out hS.out)
            have Hfi := hid (hL.out.first HC.out hS.out)
            clear hX hX0 hXlt hsp
            have f0 : wr.cell? ⟨g, 800, none⟩ = some (.int .i64 (c.nd : Nat)) := by rw [← hL.out.nd]; exact hD.out.nd
            have f1 : wr.cell? ⟨g, 801, none⟩ = some (.int .i64 c.dp) := by rw [← hL.out.dp]; exact hD.out.dp
            have e0 := hD.out.frozen 800
            have e1 := hD.out.frozen 801
            go_upto_if 123 with fail
            go_cut [] (fun wc => Hid (DmAt wc g { c' with nd := min (c.nd + δ) 800 }) ∧ Hid (Keep (fun b => b = g) w wc))
            case first => as_aux_lemma =>
              by_cases h8 : c.nd + δ < 800
              · go_wp2_with fail
                go_meet
                case rel => exact ⟨by rw [Nat.min_eq_left (by omega)]; exact hD.out.set_nd (c.nd + δ), hK.out.setCell (p := ⟨g, 800, none⟩) (fun _ => rfl) _⟩
              · go_wp2_with fail
                go_meet
                case rel => exact ⟨by rw [Nat.min_eq_right (by omega)]; exact (hD.out.set_nd (c.nd + δ)).set_nd 800, (hK.out.setCell (p := ⟨g, 800, none⟩) (fun _ => rfl) _).setCell (p := ⟨g, 800, none⟩) (fun _ => rfl) _⟩
            case rest => as_aux_lemma =>
              obtain ⟨hD2, hK2⟩ := hcut
              have f1 : wc.cell? ⟨g, 801, none⟩ = some (.int .i64 c.dp) := by rw [← hL.out.dp]; exact hD2.out.dp
              have e1 := hD2.out.frozen 801
              have hD3 : DmAt (wc.setCell ⟨g, 801, none⟩ (.int .i64 (c.dp + δ))) g (c.shl c' δ) := hD2.out.set_dp (c.dp + δ)
              have HD3 := hid hD3
              have HK3 := hid (hK2.out.setCell (p := ⟨g, 801, none⟩) (fun _ => rfl) (.int .i64 (c.dp + δ)))
              have HN := hid hL.out.neg
              clear hD hK hD2 hK2 hD3 f0 e0
              go_wp2_with fail
              refine (trim_any g (c.shl c' δ) _ HD3.out Hok.out).mono ?_
              rintro e w3 ⟨n, hn0, hn, rfl, hd4, hk4⟩
              have HD4 := hid hd4
              have HK4 := hid hk4
              clear hd4 hk4
              go_wp2_with fail
              go_end0
              have ho := Hok.out
              exact ⟨_, δ, rfl, HD4.out, ⟨hn0, Nat.le_trans hn ho.le, fun i hi => ho.dig i (Nat.lt_of_lt_of_le hi hn), ho.first⟩, HK3.out.trans HK4.out, HN.out, rfl, hδ, hS.out.some, Hfi.out⟩
      · obtain ⟨q, rfl⟩ : ∃ p, q = p + 1 := ⟨q - 1, by omega⟩
        have e0 : ((q + 1 : Nat) : Int) - 1 = (q : Int) := by omega
        rw [e0]
        clear e0
        obtain ⟨dd, hdd, hd9⟩ : ∃ dd, c.b q = dd + 48 ∧ dd ≤ 9 := ⟨c.b q - 48, by have := HC.out.dig q (by omega); omega, by have := HC.out.dig q (by omega); omega⟩
        have fb : wr.cell? ⟨g, q, none⟩ = some (.int .u8 ((dd + 48 : Nat) : Int)) := by rw [← hdd, ← hL.out.old q (by omega)]; exact hD.out.byte (by omega)
        have hdq : c.d q = dd := by unfold Dm.d; omega
        have hcar := Plain.car_lt (dig_d HC.out) k (c.nd - (q + 1)) (by omega)
        have Hst : Hid (∀ R, (Plain.car c.d c.nd k (c.nd - (q + 1)) + dd * 2 ^ k) % 10 = R → L1 c k δ q { c' with b := fun j => if j = q + δ then R + 48 else c'.b j }) := fun R hR => hL.out.step hq (by rw [hdq]; exact hR)
        have Hnx : Hid ((Plain.car c.d c.nd k (c.nd - (q + 1)) + dd * 2 ^ k) / 10 = Plain.car c.d c.nd k (c.nd - q)) := by have := car_next (k := k) hq; rw [hdq] at this; exact this
        have h60 := pow60 hk2
        have hP9 : dd * 2 ^ k ≤ 9 * 1152921504606846976 := Nat.mul_le_mul hd9 h60
        have hPI : IntKind.u64.wrap ((dd : Int) * 2 ^ k) = ((dd * 2 ^ k : Nat) : Int) := by
          have e : ((dd * 2 ^ k : Nat) : Int) = (dd : Int) * 2 ^ k := by simp
          rw [← e]; exact u64_id (by omega) (by omega)
        clear hdd hdq
        generalize Plain.car c.d c.nd k (c.nd - (q + 1)) = N at *
        generalize dd * 2 ^ k = P at *
        obtain ⟨x1, x2, x3, x4⟩ := shl_nums (N := N) (P := P) (by omega) hP9
        have hY : Hid ((N + P) / 10 = Plain.car c.d c.nd k (c.nd - q)) := Hnx.out
        have hR9 : (N + P) % 10 ≤ 9 := by omega
        have HstR := hid (Hst.out _ rfl)
        generalize (N + P) % 10 = R at *
        generalize 10 * ((N + P) / 10) = Y10 at *
        generalize (N + P) / 10 = Y at *
        generalize N + P = X at *
        clear hcar h60 hP9 Hnx Hst
        have x5 : IntKind.u64.wrap ((R : Int) + 48) = ((R + 48 : Nat) : Int) := by rw [u64_id (by omega) (by omega)]; omega
        have x6 : ((R + 48 : Nat) : Int) % 256 = ((R + 48 : Nat) : Int) := by omega
        generalize R + 48 = V at x5 x6 HstR
        by_cases h8 : q + δ < 800
        · have fv : wr.cell? ⟨g, q + δ, none⟩ = some (.int .u8 (c'.b (q + δ) : Nat)) := hD.out.byte h8
          have fr := hD.out.frozen (q + δ)
          have Hset := hid (hD.out.set_b h8 V)
          have Hkk := hid (hK.out.setCell (p := ⟨g, q + δ, none⟩) (fun _ => rfl) (.int .u8 (V : Nat)))
          go_wp2_with fail
          go_roundw
          case rel => exact ⟨q, _, by omega, rfl, congrArg (Value.int .i64) (by omega), by rw [hY.out], Hset.out, HstR.out, Hkk.out⟩
          case measure => simp [intOf]
        · have ft : wr.cell? ⟨g, 803, none⟩ = some (.bool c'.tr) := hD.out.tr
          have fr := hD.out.frozen 803
          have Hl := hid (hL.out.step' h8)
          go_wp2_with fail
          · go_roundw
            case rel => exact ⟨q, _, by omega, rfl, congrArg (Value.int .i64) (by omega), by rw [hY.out], hD.out.set_tr true, Hl.out.tr true, hK.out.setCell (p := ⟨g, 803, none⟩) (fun _ => rfl) _⟩
            case measure => simp [intOf]
          · go_roundw
            case rel => exact ⟨q, _, by omega, rfl, congrArg (Value.int .i64) (by omega), by rw [hY.out], hD.out, Hl.out, hK.out⟩
            case measure => simp [intOf]
end Go.Proofs.YticdagnbnmnidaaGreatDoor
