/- laws.lAsked. Conditions: none. The law FnDecodeSilent over a contract of DecodeScript. Conditions: none. -/
import Derived.Test.YticdagnbnmnidaaGreatDoorSaTail
import Derived.Deep.CutBlock
import Derived.Deep.DeepCutAuto
import Derived.Lib.SliceRun
import Derived.Deep.QuietTactic
import Derived.BigQuiet
import Derived.BigGuardPart
set_option linter.unusedSimpArgs false
set_option linter.unusedVariables false
namespace Go.Proofs.YticdagnbnmnidaaGreatDoor
open Go.RowKit

/-- a call that is asked -/
structure AskOk (op pr : Int) : Prop where
  lo : 0 ≤ op
  hi : op ≤ 6
  pr : op = 6 → 0 ≤ pr ∧ pr ≤ 3

/-- the calls lie there -/
structure Asks (w : World) (A : Option Addr) (n : Nat) (op pr df : Nat → Int) : Prop where
  at_ : 0 < n → ∃ T off, A = some ⟨T, off, none⟩ ∧ ∀ i, i < n → w.cell? ⟨T, off + i * 3, none⟩ = some (.int .i64 (op i)) ∧ w.cell? ⟨T, off + i * 3 + 1, none⟩ = some (.int .i64 (pr i)) ∧ w.cell? ⟨T, off + i * 3 + 2, none⟩ = some (.int .i64 (df i))
theorem Asks.same {w w' : World} {A : Option Addr} {n : Nat} {op pr df : Nat → Int} (h : Asks w A n op pr df) (hk : Same w w') : Asks w' A n op pr df := ⟨fun hn => by
  obtain ⟨T, off, hA, hc⟩ := h.at_ hn
  refine ⟨T, off, hA, fun i hi => ?_⟩
  obtain ⟨c0, c1, c2⟩ := hc i hi
  exact ⟨by rw [← c0]; exact World.cell?_of_block (hk.block T (lt_of_cell c0) id), by rw [← c1]; exact World.cell?_of_block (hk.block T (lt_of_cell c1) id), by rw [← c2]; exact World.cell?_of_block (hk.block T (lt_of_cell c2) id)⟩⟩

set_option maxRecDepth 20000 in
set_option maxHeartbeats 3200000 in
theorem lAsked_any (s : ByteArray) (A : Option Addr) (n cap : Nat) (op pr df : Nat → Int) (w : World) (ha : Asks w A n op pr df) (hn : n ≤ 9223372036854775807) (hs : s.size ≤ 9223372036854775807) :
    Calls Tryz.prog 13 #[.string s, .slice none 0 0, .slice A n cap] w fun e w' => ∃ b : Bool, e = .returned (.bool b) ∧ Same w w' ∧ (b = true → s.size ≤ 800 ∧ n ≤ 200 ∧ ∀ i, i < n → AskOk (op i) (pr i)) := by
  have HA := hid ha
  clear ha
  go_enter Tryz.func13, Tryz.ntmps13
  go_wp2_with fail
  go_loopw [11] (fun i wr => ∃ k : Nat, k ≤ n ∧ i = .int .i64 k ∧ Same w wr ∧ Hid (∀ j, j < k → AskOk (op j) (pr j))) (fun i _ => n - (intOf i).toNat)
  case atStart => exact ⟨0, Nat.zero_le _, rfl, Keep.refl _ _, fun j hj => absurd hj (by omega)⟩
  case round =>
    obtain ⟨k, hk, rfl, hS, hall⟩ := hrel
    have HS := hid hS
    by_cases hlt : k < n
    · obtain ⟨T, off, rfl, hc⟩ := (HA.out.same hS).at_ (by omega)
      obtain ⟨c0, c1, c2⟩ := hc k hlt
      have hI : (k : Int) < (n : Int) := by omega
      clear hc hS
      obtain ⟨o, ho⟩ : ∃ o, o = op k := ⟨_, rfl⟩
      obtain ⟨p, hp⟩ : ∃ p, p = pr k := ⟨_, rfl⟩
      obtain ⟨d, hd⟩ : ∃ d, d = df k := ⟨_, rfl⟩
      rw [← ho] at c0
      rw [← hp] at c1
      rw [← hd] at c2
      have Ho := hid ho
      have Hp := hid hp
      clear ho hp hd
      go_upto_region 4 with fail
      go_cut [42] (fun y wc => (∃ t : Bool, y = .bool t ∧ (t = false → AskOk o p)) ∧ Same w wc)
      case first =>
        as_aux_lemma =>
          by_cases h1 : o < 0
          · go_wp2_with fail
            all_goals (go_meet; case rel => exact ⟨⟨true, rfl, fun h => by cases h⟩, HS.out.alloc _⟩)
          · by_cases h2 : 6 < o
            · go_wp2_with fail
              all_goals (go_meet; case rel => exact ⟨⟨true, rfl, fun h => by cases h⟩, HS.out.alloc _⟩)
            · by_cases h3 : o = 6
              · subst h3
                by_cases h4 : p < 0
                · go_wp2_with fail
                  all_goals (go_meet; case rel => exact ⟨⟨true, rfl, fun h => by cases h⟩, HS.out.alloc _⟩)
                · by_cases h5 : 3 < p
                  · go_wp2_with fail
                    all_goals (go_meet; case rel => exact ⟨⟨true, rfl, fun h => by cases h⟩, HS.out.alloc _⟩)
                  · go_wp2_with fail
                    all_goals (go_meet; case rel => exact ⟨⟨_, rfl, fun _ => ⟨by omega, by omega, fun _ => ⟨by omega, by omega⟩⟩⟩, HS.out.alloc _⟩)
              · have b6 : (o == 6) = false := by simpa using h3
                go_wp2_with fail
                all_goals (go_meet; case rel => exact ⟨⟨_, rfl, fun _ => ⟨by omega, by omega, fun h => absurd h h3⟩⟩, HS.out.alloc _⟩)
      case rest =>
        as_aux_lemma =>
          obtain ⟨⟨t, rfl, ht⟩, hw⟩ := hcut
          have HW := hid hw
          clear hw c0 c1 c2
          cases t
          · have hok := ht rfl
            clear ht
            have Hok := hid hok
            clear hok
            go_wp2_with fail
            go_roundw
            case rel =>
              refine ⟨k + 1, by omega, by go_num, HW.out, fun j hj => ?_⟩
              rcases Nat.lt_or_ge j k with h | h
              · exact hall.out j h
              · obtain rfl : j = k := by omega
                rw [← Ho.out, ← Hp.out]; exact Hok.out
            case measure => simp [intOf]; omega
          · clear ht
            go_wp2_with fail
            go_ret
            exact ⟨false, rfl, HW.out, fun h => by cases h⟩
    · obtain rfl : k = n := by omega
      clear hS
      as_aux_lemma =>
        have b800 : decide ((s.size : Int) ≤ 800) = decide (s.size ≤ 800) := decide_eq_decide.2 (by omega)
        by_cases h8 : s.size ≤ 800
        · by_cases h2 : k ≤ 200
          · go_upto_region 7 with fail
            have i8 : (s.size : Int) ≤ 800 := by omega
            have i2 : (k : Int) ≤ 200 := by omega
            go_wp2_with fail
            go_ret
            exact ⟨_, rfl, HS.out, fun _ => ⟨h8, h2, hall.out⟩⟩
          · have i8 : (s.size : Int) ≤ 800 := by omega
            have i2 : decide ((k : Int) ≤ 200) = false := decide_eq_false (by omega)
            go_wp2_with fail
            go_ret
            exact ⟨false, rfl, HS.out, fun h => by cases h⟩
        · have i8 : decide ((s.size : Int) ≤ 800) = false := decide_eq_false (by omega)
          go_wp2_with fail
          go_ret
          exact ⟨false, rfl, HS.out, fun h => by cases h⟩
end Go.Proofs.YticdagnbnmnidaaGreatDoor
namespace Go.Proofs.YticdagnbnmnidaaGreatDoor
open Go.RowKit

/-- behind a fault, up to the next Next -/
def over (op : Nat → Int) (f : Nat → Bool) : Nat → Bool
  | 0 => false
  | k + 1 => if op k = 0 then false else (over op f k || f k)
/-- what the law asks -/
def Silent (op : Nat → Int) (b f : Nat → Bool) (n : Nat) : Prop := ∀ k, k < n → op k ≠ 0 → over op f k = true → f k = false ∧ b k = (op k == 6)

/-- What DecodeScript gives. -/
def GivesDS (op : Nat → Int) (n : Nat) (w : World) (e : Ending) (w' : World) : Prop :=
  ∃ (A : Option Addr) (cap : Nat) (fl : Bool) (b f : Nat → Bool), e = .returned (.tuple #[.slice A n cap, .bool fl, .bool true]) ∧ Same w w' ∧ Silent op b f n ∧
    (0 < n → ∃ T, A = some ⟨T, 0, none⟩ ∧ ∀ i, i < n → w'.cell? ⟨T, i * 15, none⟩ = some (.bool (b i)) ∧ w'.cell? ⟨T, i * 15 + 11, none⟩ = some (.bool (f i)))

set_option maxRecDepth 20000 in
set_option maxHeartbeats 3200000 in
theorem law_any (s : ByteArray) (A : Option Addr) (n cap : Nat) (op pr df : Nat → Int) (w : World) (ha : Asks w A n op pr df) (hn : n ≤ 9223372036854775807) (hs : s.size ≤ 9223372036854775807)
    (hDS : ∀ w1, Same w w1 → s.size ≤ 800 → n ≤ 200 → (∀ i, i < n → AskOk (op i) (pr i)) → Calls Tryz.prog 14 #[.string s, .slice none 0 0, .bool false, .slice A n cap] w1 (GivesDS op n w1)) :
    Calls Tryz.prog 5 #[.string s, .slice A n cap] w fun e w' => e = .returned (.bool true) ∧ Same w w' := by
  have HA := hid ha
  have HD := hid hDS
  clear ha hDS
  by_cases hz : 2147483647 < s.size
  · have hzi : (2147483647 : Int) < (s.size : Int) := by omega
    go_enter Tryz.func5, Tryz.ntmps5
    go_wp2_with fail
    go_ret
    exact ⟨rfl, Keep.refl _ _⟩
  have hzi : decide ((2147483647 : Int) < (s.size : Int)) = false := decide_eq_false (by omega)
  by_cases hzn : 2147483647 < n
  · have hzj : (2147483647 : Int) < (n : Int) := by omega
    go_enter Tryz.func5, Tryz.ntmps5
    go_wp2_with fail
    go_ret
    exact ⟨rfl, Keep.refl _ _⟩
  have hzj : decide ((2147483647 : Int) < (n : Int)) = false := decide_eq_false (by omega)
  go_enter Tryz.func5, Tryz.ntmps5
  go_wp2_with fail
  refine (lAsked_any s A n cap op pr df _ HA.out hn hs).mono ?_
  rintro e w1 ⟨t, rfl, hk1, hasked⟩
  have H1 := hid hk1
  clear hk1
  cases t
  · go_wp2_with fail
    go_ret
    exact ⟨rfl, H1.out⟩
  obtain ⟨h800, h200, hok⟩ := hasked rfl
  have Hok := hid hok
  clear hasked hok
  go_wp2_with fail
  refine (HD.out _ H1.out h800 h200 Hok.out).mono ?_
  rintro e w2 ⟨B, capB, fl, b, f, rfl, hk2, hsil, hcells⟩
  have H2 := hid (H1.out.trans hk2)
  have Hs := hid hsil
  have Hc := hid hcells
  clear hk2 hsil hcells HD
  go_wp2_with fail
  go_loopw [41, 8] (fun i o wr => ∃ k : Nat, k ≤ n ∧ i = .int .i64 k ∧ o = .bool (over op f k) ∧ Same w2 wr) (fun i _ _ => n - (intOf i).toNat)
  case atStart => exact ⟨0, Nat.zero_le _, rfl, rfl, Keep.refl _ _⟩
  case round =>
    obtain ⟨k, hk, rfl, rfl, hS⟩ := hrel
    have HS := hid hS
    clear hS
    by_cases hlt : k < n
    ·
      as_aux_lemma =>
        obtain ⟨T, off, rfl, hc⟩ := (HA.out.same (H2.out.trans HS.out)).at_ (by omega)
        obtain ⟨c0, c1, c2⟩ := hc k hlt
        obtain ⟨TB, rfl, hb⟩ := Hc.out (by omega)
        obtain ⟨b0, b1⟩ := hb k hlt
        have bb0 : wr.cell? ⟨TB, k * 15, none⟩ = some (.bool (b k)) := by rw [← b0]; exact World.cell?_of_block (HS.out.block TB (lt_of_cell b0) id)
        have bb1 : wr.cell? ⟨TB, k * 15 + 11, none⟩ = some (.bool (f k)) := by rw [← b1]; exact World.cell?_of_block (HS.out.block TB (lt_of_cell b1) id)
        have hI : (k : Int) < (n : Int) := by omega
        clear hc hb b0 b1
        have hov : over op f (k + 1) = if op k = 0 then false else (over op f k || f k) := rfl
        have hsk := Hs.out k hlt
        obtain ⟨o, ho⟩ : ∃ o, o = op k := ⟨_, rfl⟩
        obtain ⟨p, hp⟩ : ∃ p, p = pr k := ⟨_, rfl⟩
        obtain ⟨d, hd⟩ : ∃ d, d = df k := ⟨_, rfl⟩
        obtain ⟨ov, hv⟩ : ∃ ov, ov = over op f k := ⟨_, rfl⟩
        obtain ⟨fk, hf⟩ : ∃ fk, fk = f k := ⟨_, rfl⟩
        obtain ⟨bk, hbk⟩ : ∃ bk, bk = b k := ⟨_, rfl⟩
        rw [← ho] at c0 hsk hov
        rw [← hp] at c1
        rw [← hd] at c2
        rw [← hv] at hsk hov ⊢
        rw [← hf] at bb1 hsk hov
        rw [← hbk] at bb0 hsk
        have Hov := hid hov
        have Hsk := hid hsk
        clear ho hp hd hv hf hbk hov hsk
        by_cases h0 : o = 0
        ·
          as_aux_lemma =>
            subst h0
            go_wp2_with fail
            go_roundw
            case rel => exact ⟨k + 1, by omega, by go_num, by rw [Hov.out]; rfl, HS.out.alloc _⟩
            case measure => simp [intOf]; omega
        ·
          have hb0 : (o == 0) = false := by simpa using h0
          go_upto_region 14 with fail
          go_cut [68] (fun y wc => y = .bool false ∧ Same wr wc)
          case first =>
            as_aux_lemma =>
              cases ov
              · go_quiet (fail)
                go_wp2_with fail
                go_meet
                case rel => exact ⟨rfl, ((Keep.refl _ _).alloc _).drewN _⟩
              · obtain ⟨rfl, rfl⟩ := Hsk.out h0 rfl
                have y0 : (wr.alloc (.cells #[.int .i64 o, .int .i64 p, .int .i64 d] 61)).cell? ⟨TB, k * 15, none⟩ = some (.bool (o == 6)) := cell_alloc_old bb0
                have y1 : (wr.alloc (.cells #[.int .i64 o, .int .i64 p, .int .i64 d] 61)).cell? ⟨TB, k * 15 + 11, none⟩ = some (.bool false) := cell_alloc_old bb1
                have y2 : (wr.alloc (.cells #[.int .i64 o, .int .i64 p, .int .i64 d] 61)).cell? ⟨wr.heap.size, 0, none⟩ = some (.int .i64 o) := (Row.new wr 61 _).cell 0
                have hS1 : Same wr (wr.alloc (.cells #[.int .i64 o, .int .i64 p, .int .i64 d] 61)) := (Keep.refl _ _).alloc _
                have HS1 := hid hS1
                clear hS1 c0 c1 c2 bb0 bb1
                generalize wr.alloc (.cells #[.int .i64 o, .int .i64 p, .int .i64 d] 61) = wy at *
                go_quiet (fail)
                go_wp2_with fail
                go_meet
                case rel => exact ⟨by simp, HS1.out.drewN _⟩
          case rest =>
            as_aux_lemma =>
              obtain ⟨rfl, hw⟩ := hcut
              have bx1 : wc.cell? ⟨TB, k * 15 + 11, none⟩ = some (.bool fk) := by rw [← bb1]; exact World.cell?_of_block (hw.block TB (lt_of_cell bb1) id)
              have HW := hid hw
              clear hw c0 c1 c2 bb0 bb1
              cases ov
              · go_wp2_with fail
                go_roundw
                case rel => exact ⟨k + 1, by omega, by go_num, by rw [Hov.out, if_neg h0]; rfl, HS.out.trans HW.out⟩
                case measure => simp [intOf]; omega
              · go_wp2_with fail
                go_roundw
                case rel => exact ⟨k + 1, by omega, by go_num, by rw [Hov.out, if_neg h0]; rfl, HS.out.trans HW.out⟩
                case measure => simp [intOf]; omega
    ·
      as_aux_lemma =>
        obtain rfl : k = n := by omega
        go_wp2_with fail
        go_ret
        exact ⟨rfl, H2.out.trans HS.out⟩
end Go.Proofs.YticdagnbnmnidaaGreatDoor
