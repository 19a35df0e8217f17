/- strconv.ParseFloat: what reads its text. Conditions: none. -/
import Derived.Test.YticdagnbnmnidaaGreatDoorSaFlb
import Derived.Deep.DeepCutAuto
import Derived.Outline
set_option linter.unusedSimpArgs false
set_option linter.unusedVariables false
namespace Go.Proofs.YticdagnbnmnidaaGreatDoor
open Go.RowKit

theorem lower_any (c : Int) (w : World) : Calls Tryz.prog 255 #[.int .u8 c] w (GivesI .u8 w) := by
  go_enter Tryz.func255, Tryz.ntmps255
  go_wp2_with fail
  go_ret
  exact ⟨⟨_, rfl⟩, rfl⟩

set_option maxRecDepth 20000 in
set_option maxHeartbeats 800000 in
theorem prefixLen_any (s p : ByteArray) (w : World) (hs : s.size ≤ 3000000) (hp : p.size ≤ 3000000) :
    Calls Tryz.prog 303 #[.string s, .string p] w (fun e w' => (∃ n : Nat, n ≤ p.size ∧ n ≤ s.size ∧ e = .returned (.int .i64 n)) ∧ w = w') := by
  obtain ⟨m, hm, hm1, hm2⟩ : ∃ m : Nat, Hid (min (p.size : Int) (s.size : Int) = (m : Nat)) ∧ m ≤ p.size ∧ m ≤ s.size := ⟨min p.size s.size, by show _ = _; omega, by omega, by omega⟩
  go_enter Tryz.func303, Tryz.ntmps303
  go_wp2_with fail
  rw [hm.out]
  go_loop [6] (fun i => ∃ k : Nat, k ≤ m ∧ i = .int .i64 k) (fun i => m - (intOf i).toNat)
  case atStart => exact ⟨0, Nat.zero_le _, rfl⟩
  case round =>
    obtain ⟨k, hk, rfl⟩ := hrel
    by_cases hlt : k < m
    · have h1 : k < p.size := by omega
      have h2 : k < s.size := by omega
      go_upto_region 6 with fail
      go_cut [26] (fun c wc => (∃ t : Bool, c = .bool t) ∧ Hid (w = wc))
      case first =>
        go_wp2_with fail
        all_goals
          go_meet
          case rel => exact ⟨⟨_, rfl⟩, rfl⟩
      case rest =>
        obtain ⟨⟨t, rfl⟩, hw⟩ := hcut
        obtain rfl := hw.out
        clear hw
        cases t
        all_goals
          go_wp2_with fail
          · go_ret
            exact ⟨⟨k, by omega, by omega, rfl⟩, rfl⟩
          · go_round
            case rel => exact ⟨k + 1, by omega, by go_num⟩
            case measure => simp [intOf]; omega
    · obtain rfl : k = m := by omega
      go_wp2_with fail
      go_ret
      exact ⟨⟨k, by omega, by omega, rfl⟩, rfl⟩
theorem inf_any (x : Int) (w : World) : Calls Tryz.prog 304 #[.int .i64 x] w (GivesF w) := by
  have hb := frombits_run
  go_enter Tryz.func304, Tryz.ntmps304
  go_wp2_with fail
  all_goals
    go_ret
    exact ⟨⟨_, rfl⟩, rfl⟩
theorem nan_any (w : World) : Calls Tryz.prog 305 #[] w (GivesF w) := by
  have hb := frombits_run
  go_enter Tryz.func305, Tryz.ntmps305
  go_wp2_with fail
  go_ret
  exact ⟨⟨_, rfl⟩, rfl⟩

/-- a float, how far it is read, and whether -/
def GivesFIB (w : World) (e : Ending) (w' : World) : Prop := (∃ (n : Nat) (i : Int) (b : Bool), e = .returned (.tuple #[.float .f64 n, .int .i64 i, .bool b])) ∧ w = w'

set_option maxRecDepth 20000 in
set_option maxHeartbeats 1600000 in
theorem special_any (s : ByteArray) (w : World) (hs : s.size ≤ 3000000) : Calls Tryz.prog 287 #[.string s] w (GivesFIB w) := by
  by_cases h0 : s.size = 0
  · have hI : ((s.size : Int) == 0) = true := by simp [h0]
    go_enter Tryz.func287, Tryz.ntmps287
    go_wp2_with fail
    go_ret3
    exact ⟨⟨_, _, _, rfl⟩, rfl⟩
  · have hpos : 0 < s.size := by omega
    have hI : ((s.size : Int) == 0) = false := by simpa using h0
    have hsz : (s.extract 1 s.size).size ≤ 3000000 := by rw [ByteArray.size_extract]; omega
    clear h0
    go_enter Tryz.func287, Tryz.ntmps287
    go_wp2_with fail
    all_goals first
      | (go_ret3; exact ⟨⟨_, _, _, rfl⟩, rfl⟩)
      | (refine (prefixLen_any _ _ _ (by first | exact hs | exact hsz) (by decide)).mono ?_
         rintro e w' ⟨⟨n, h1, h2, rfl⟩, rfl⟩
         have h8 : n ≤ 8 := Nat.le_trans h1 (by decide)
         clear h1 h2
         go_wp2_with (first
           | (go_at_call 304; refine (inf_any _ _).mono ?_; rintro e w' ⟨⟨f, rfl⟩, rfl⟩)
           | (go_at_call 305; refine (nan_any _).mono ?_; rintro e w' ⟨⟨f, rfl⟩, rfl⟩))
         all_goals (go_ret3; exact ⟨⟨_, _, _, rfl⟩, rfl⟩))
/-- a bool, the world as it was -/
def GivesB (w : World) (e : Ending) (w' : World) : Prop := (∃ b : Bool, e = .returned (.bool b)) ∧ w = w'

set_option maxRecDepth 20000 in
set_option maxHeartbeats 3200000 in
theorem underscore_any (s : ByteArray) (w : World) (hs : s.size ≤ 3000000) : Calls Tryz.prog 276 #[.string s] w (GivesB w) := by
  go_enter Tryz.func276, Tryz.ntmps276
  go_upto_region 3 with fail
  go_cut [18] (fun c wc => (∃ t : Bool, c = .bool t ∧ (t = true → 1 ≤ s.size)) ∧ Hid (w = wc))
  case first =>
    by_cases h1 : 1 ≤ s.size
    · go_wp2_with fail
      all_goals
        go_meet
        case rel => exact ⟨⟨_, rfl, fun _ => h1⟩, rfl⟩
    · have hd : decide (1 ≤ (s.size : Int)) = false := decide_eq_false (by omega)
      go_wp2_with fail
      all_goals
        go_meet
        case rel => exact ⟨⟨false, rfl, fun h => by cases h⟩, rfl⟩
  case rest =>
    obtain ⟨⟨t, rfl, ht⟩, hw⟩ := hcut
    obtain rfl := hw.out
    clear hw
    go_upto_if 18 with fail
    go_cut [0] (fun v wc => (∃ u : ByteArray, v = .string u ∧ u.size ≤ 3000000) ∧ Hid (w = wc))
    case first =>
      cases t
      · clear ht
        go_wp2_with fail
        go_meet
        case rel => exact ⟨⟨_, rfl, hs⟩, rfl⟩
      · have h1 : 1 ≤ s.size := ht rfl
        clear ht
        go_wp2_with fail
        go_meet
        case rel => exact ⟨⟨_, rfl, by rw [ByteArray.size_extract]; omega⟩, rfl⟩
    case rest =>
      obtain ⟨⟨u, rfl, hu⟩, hw⟩ := hcut
      obtain rfl := hw.out
      clear hw ht hs
      go_upto_region 6 with fail
      go_cut [46] (fun c wc => (∃ t : Bool, c = .bool t ∧ (t = true → 2 ≤ u.size)) ∧ Hid (w = wc))
      case first =>
        by_cases h1 : 2 ≤ u.size
        · go_wp2_with (go_at_call 255; refine (lower_any _ _).mono ?_; rintro e w' ⟨⟨f, rfl⟩, rfl⟩)
          all_goals
            go_meet
            case rel => exact ⟨⟨_, rfl, fun _ => h1⟩, rfl⟩
        · have hd : decide (2 ≤ (u.size : Int)) = false := decide_eq_false (by omega)
          go_wp2_with fail
          all_goals
            go_meet
            case rel => exact ⟨⟨false, rfl, fun h => by cases h⟩, rfl⟩
      case rest =>
        obtain ⟨⟨t2, rfl, ht⟩, hw⟩ := hcut
        obtain rfl := hw.out
        clear hw
        go_upto_if 46 with fail
        go_cut [4, 3, 5] (fun i x h wc => (∃ (k : Nat) (n : Int) (b : Bool), k ≤ u.size ∧ i = .int .i64 k ∧ x = .int .i32 n ∧ h = .bool b) ∧ Hid (w = wc))
        case first =>
          cases t2
          · clear ht
            go_wp2_with fail
            go_meet
            case rel => exact ⟨⟨0, _, _, Nat.zero_le _, rfl, rfl, rfl⟩, rfl⟩
          · have h1 : 2 ≤ u.size := ht rfl
            clear ht
            go_wp2_with (go_at_call 255; refine (lower_any _ _).mono ?_; rintro e w' ⟨⟨f, rfl⟩, rfl⟩)
            go_meet
            case rel => exact ⟨⟨2, _, _, h1, rfl, rfl, rfl⟩, rfl⟩
        case rest =>
          obtain ⟨⟨k0, n0, b, hk0, rfl, rfl, rfl⟩, hw⟩ := hcut
          obtain rfl := hw.out
          clear hw ht
          go_wp2_with fail
          go_loop [4, 3] (fun i x => ∃ (k : Nat) (n : Int), k ≤ u.size ∧ i = .int .i64 k ∧ x = .int .i32 n) (fun i _ => u.size - (intOf i).toNat)
          case atStart => exact ⟨k0, n0, hk0, rfl, rfl⟩
          case round =>
            obtain ⟨k, n, hk, rfl, rfl⟩ := hrel
            clear hk0
            by_cases hlt : k < u.size
            · go_upto_region 12 with fail
              go_cut [83] (fun c wc => (∃ t : Bool, c = .bool t) ∧ Hid (w = wc))
              case first =>
                cases b
                all_goals
                  go_wp2_with (go_at_call 255; refine (lower_any _ _).mono ?_; rintro e w' ⟨⟨f, rfl⟩, rfl⟩)
                  all_goals
                    go_meet
                    case rel => exact ⟨⟨_, rfl⟩, rfl⟩
              case rest =>
                obtain ⟨⟨t, rfl⟩, hw⟩ := hcut
                obtain rfl := hw.out
                clear hw
                cases t
                all_goals
                  go_wp2_with fail
                  all_goals first
                    | (go_ret; exact ⟨⟨_, rfl⟩, rfl⟩)
                    | (go_round
                       case rel => exact ⟨k + 1, _, by omega, by go_num, rfl⟩
                       case measure => simp [intOf]; omega)
            · obtain rfl : k = u.size := by omega
              go_wp2_with fail
              go_ret
              exact ⟨⟨_, rfl⟩, rfl⟩
end Go.Proofs.YticdagnbnmnidaaGreatDoor
