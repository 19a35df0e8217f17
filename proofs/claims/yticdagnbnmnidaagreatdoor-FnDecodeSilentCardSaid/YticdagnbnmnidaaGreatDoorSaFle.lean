/- strconv.ParseFloat: readFloat. Conditions: none. -/
import Derived.Test.YticdagnbnmnidaaGreatDoorSaFld
import Derived.Deep.CutBlock
import Derived.Deep.LoopGhost
set_option linter.unusedSimpArgs false
set_option linter.unusedVariables false
namespace Go.Proofs.YticdagnbnmnidaaGreatDoor
open Go.RowKit

theorem results_tmp7 {fn : Func} {a b c d e f g : Tmp} (h : fn.results = #[.tmp a, .tmp b, .tmp c, .tmp d, .tmp e, .tmp f, .tmp g]) (tmps : Array Value) (P : Program) (w : World) :
    (results fn tmps).run P w = .ok (.tuple #[tmps.getD a undef, tmps.getD b undef, tmps.getD c undef, tmps.getD d undef, tmps.getD e undef, tmps.getD f undef, tmps.getD g undef]) w := by simp [results, h]

/-- a uint64 -/
def U64 (n : Int) : Prop := 0 ≤ n ∧ n < 18446744073709551616
theorem u64_wrap (n : Int) : U64 (IntKind.u64.wrap n) := by
  unfold U64
  simp [IntKind.wrap, IntKind.bits, IntKind.signed]
  omega
theorem u64_mod (n : Int) : U64 (n % 18446744073709551616) := by unfold U64; omega
theorem u64_zero : U64 0 := by unfold U64; omega

/-- what readFloat hands back -/
def GivesRead (s : ByteArray) (w : World) (e : Ending) (w' : World) : Prop :=
  (∃ (m x : Int) (i : Nat) (neg tr hex ok : Bool), U64 m ∧ i ≤ s.size ∧ e = .returned (.tuple #[.int .u64 m, .int .i64 x, .bool neg, .bool tr, .bool hex, .int .i64 i, .bool ok])) ∧ w = w'

set_option maxRecDepth 100000 in
theorem readFloat_0 (s : ByteArray) (w : World) (h0 : s.size = 0) : Calls Tryz.prog 288 #[.string s] w (GivesRead s w) := by
  obtain rfl : s = ByteArray.empty := by simpa using h0
  clear h0
  go_enter Tryz.func288, Tryz.ntmps288
  go_wp2_with fail
  go_step3
  go_wp2_with fail
  try rw [Exit.noGoto_ret]
  refine bodyPost_ret (results_tmp7 rfl _ _ _) rfl ?_
  exact ⟨⟨0, 0, 0, _, _, _, _, u64_zero, Nat.zero_le _, rfl⟩, rfl⟩

set_option maxRecDepth 100000 in
set_option maxHeartbeats 4000000 in
theorem readFloat_any (s : ByteArray) (w : World) (hs : s.size ≤ 3000000) : Calls Tryz.prog 288 #[.string s] w (GivesRead s w) := by
  by_cases h0 : s.size = 0
  · exact readFloat_0 s w h0
  have hpos : 0 < s.size := by omega
  have hne : ¬ s = ByteArray.empty := fun h => h0 (by rw [h]; rfl)
  clear h0
  go_enter Tryz.func288, Tryz.ntmps288
  go_wp2_with fail
  go_step3
  go_upto_block 0 with fail
  go_cut [7, 4] (fun i ng wc => (∃ (k : Nat) (b : Bool), k ≤ s.size ∧ i = .int .i64 k ∧ ng = .bool b) ∧ Hid (w = wc))
  case first => as_aux_lemma =>
    go_wp2_with fail
    all_goals
      go_meet
      case rel => first | exact ⟨⟨1, _, by omega, rfl, rfl⟩, rfl⟩ | exact ⟨⟨0, _, by omega, rfl, rfl⟩, rfl⟩
  case rest => as_aux_lemma =>
    obtain ⟨⟨k1, neg, hk1, rfl, rfl⟩, hw⟩ := hcut
    obtain rfl := hw.out
    clear hw
    go_upto_region 12 with fail
    go_cut [54] (fun c wc => (∃ t : Bool, c = .bool t ∧ (t = true → k1 + 2 < s.size)) ∧ Hid (w = wc))
    case first => as_aux_lemma =>
      by_cases h1 : k1 + 2 < s.size
      · go_wp2_with (go_at_call 255; refine (lower_any _ _).mono ?_; rintro e w' ⟨⟨f, rfl⟩, rfl⟩)
        all_goals
          go_meet
          case rel => exact ⟨⟨_, rfl, fun _ => h1⟩, rfl⟩
      · go_wp2_with fail
        all_goals
          go_meet
          case rel => exact ⟨⟨false, rfl, fun h => by cases h⟩, rfl⟩
    case rest => as_aux_lemma =>
      obtain ⟨⟨t, rfl, ht⟩, hw⟩ := hcut
      obtain rfl := hw.out
      clear hw
      go_upto_if 54 with fail
      go_cut [10, 11, 7, 12, 6] (fun b mm i ec hx wc => (∃ (k : Nat) (n mx c : Int) (h : Bool), k ≤ s.size ∧ b = .int .u64 n ∧ mm = .int .i64 mx ∧ i = .int .i64 k ∧ ec = .int .u8 c ∧ hx = .bool h) ∧ Hid (w = wc))
      case first => as_aux_lemma =>
        cases t
        · clear ht
          go_wp2_with fail
          go_meet
          case rel => exact ⟨⟨k1, _, _, _, _, hk1, rfl, rfl, rfl, rfl, rfl⟩, rfl⟩
        · have h1 : k1 + 2 < s.size := ht rfl
          clear ht
          go_wp2_with fail
          go_meet
          case rel => exact ⟨⟨k1 + 2, _, _, _, _, by omega, rfl, rfl, by go_num, rfl, rfl⟩, rfl⟩
      case rest => as_aux_lemma =>
        obtain ⟨⟨k2, base, mx, ec, hx, hk2, rfl, rfl, rfl, rfl, rfl⟩, hw⟩ := hcut
        obtain rfl := hw.out
        clear hw ht hk1
        obtain ⟨bb, hbb⟩ : ∃ bb : Bool, (base == 16) = bb := ⟨_, rfl⟩
        go_wp2_with fail
        go_step3
        go_upto_block 1 with fail
        go_cut [2, 5, 7, 9, 13, 14, 15, 16, 17] (fun m tr i un sd sg nd nm dp wc => (∃ (n : Int) (t1 t2 t3 t4 : Bool) (k : Nat) (a b c : Int), U64 n ∧ k ≤ s.size ∧ m = .int .u64 n ∧ tr = .bool t1 ∧ i = .int .i64 k ∧ un = .bool t2 ∧ sd = .bool t3 ∧ sg = .bool t4 ∧ nd = .int .i64 a ∧ nm = .int .i64 b ∧ dp = .int .i64 c) ∧ Hid (w = wc))
        case first => as_aux_lemma =>
          go_wp2_with fail
          go_loop [2, 5, 7, 9, 13, 14, 15, 16, 17] (fun m tr i un sd sg nd nm dp => (∃ (n : Int) (t1 t2 t3 t4 : Bool) (k : Nat) (a b c : Int), U64 n ∧ k ≤ s.size ∧ m = .int .u64 n ∧ tr = .bool t1 ∧ i = .int .i64 k ∧ un = .bool t2 ∧ sd = .bool t3 ∧ sg = .bool t4 ∧ nd = .int .i64 a ∧ nm = .int .i64 b ∧ dp = .int .i64 c)) (fun _ _ i _ _ _ _ _ _ => s.size - (intOf i).toNat)
          case atStart => exact ⟨0, _, _, _, _, k2, _, _, _, u64_zero, hk2, rfl, rfl, rfl, rfl, rfl, rfl, rfl, rfl, rfl⟩
          case round =>
            obtain ⟨n, t1, t2, t3, t4, k, a, b, c, hn, hk, rfl, rfl, rfl, rfl, rfl, rfl, rfl, rfl, rfl⟩ := hrel
            have Hn := hid hn
            clear hn hk2
            by_cases hlt : k < s.size
            · obtain ⟨c0, hc0⟩ : ∃ c0 : Nat, s[k].toNat = c0 := ⟨_, rfl⟩
              by_cases q95 : c0 = 95
              · as_aux_lemma =>
                subst q95
                go_wp2_with (go_at_call 255; refine (lower_any _ _).mono ?_; rintro e w' ⟨⟨f, rfl⟩, rfl⟩)
                all_goals first
                  | (go_round
                     case rel => first
                       | exact ⟨_, _, _, _, _, k + 1, _, _, _, Hn.out, by omega, rfl, rfl, by go_num, rfl, rfl, rfl, rfl, rfl, rfl⟩
                       | exact ⟨_, _, _, _, _, k + 1, _, _, _, u64_wrap _, by omega, rfl, rfl, by go_num, rfl, rfl, rfl, rfl, rfl, rfl⟩
                       | exact ⟨_, _, _, _, _, k + 1, _, _, _, u64_mod _, by omega, rfl, rfl, by go_num, rfl, rfl, rfl, rfl, rfl, rfl⟩
                     case measure => simp [intOf]; omega)
                  | (go_meet
                     case rel => exact ⟨⟨_, _, _, _, _, k, _, _, _, Hn.out, by omega, rfl, rfl, rfl, rfl, rfl, rfl, rfl, rfl, rfl⟩, rfl⟩)
              have h95 : ((c0 : Int) == 95) = false := by simp; omega
              clear q95
              by_cases q46 : c0 = 46
              · as_aux_lemma =>
                subst q46
                clear h95
                go_wp2_with (go_at_call 255; refine (lower_any _ _).mono ?_; rintro e w' ⟨⟨f, rfl⟩, rfl⟩)
                all_goals first
                  | (go_round
                     case rel => first
                       | exact ⟨_, _, _, _, _, k + 1, _, _, _, Hn.out, by omega, rfl, rfl, by go_num, rfl, rfl, rfl, rfl, rfl, rfl⟩
                       | exact ⟨_, _, _, _, _, k + 1, _, _, _, u64_wrap _, by omega, rfl, rfl, by go_num, rfl, rfl, rfl, rfl, rfl, rfl⟩
                       | exact ⟨_, _, _, _, _, k + 1, _, _, _, u64_mod _, by omega, rfl, rfl, by go_num, rfl, rfl, rfl, rfl, rfl, rfl⟩
                     case measure => simp [intOf]; omega)
                  | (go_meet
                     case rel => exact ⟨⟨_, _, _, _, _, k, _, _, _, Hn.out, by omega, rfl, rfl, rfl, rfl, rfl, rfl, rfl, rfl, rfl⟩, rfl⟩)
              have h46 : ((c0 : Int) == 46) = false := by simp; omega
              clear q46
              by_cases q48 : 48 ≤ c0
              · by_cases q57 : c0 ≤ 57
                · as_aux_lemma =>
                  by_cases qz : c0 = 48
                  · as_aux_lemma =>
                    subst qz
                    clear h95 h46
                    go_wp2_with fail
                    all_goals first
                      | (go_round
                         case rel => first
                           | exact ⟨_, _, _, _, _, k + 1, _, _, _, Hn.out, by omega, rfl, rfl, by go_num, rfl, rfl, rfl, rfl, rfl, rfl⟩
                           | exact ⟨_, _, _, _, _, k + 1, _, _, _, u64_wrap _, by omega, rfl, rfl, by go_num, rfl, rfl, rfl, rfl, rfl, rfl⟩
                           | exact ⟨_, _, _, _, _, k + 1, _, _, _, u64_mod _, by omega, rfl, rfl, by go_num, rfl, rfl, rfl, rfl, rfl, rfl⟩
                         case measure => simp [intOf]; omega)
                      | (go_meet
                         case rel => exact ⟨⟨_, _, _, _, _, k, _, _, _, Hn.out, by omega, rfl, rfl, rfl, rfl, rfl, rfl, rfl, rfl, rfl⟩, rfl⟩)
                  · as_aux_lemma =>
                    have hz : ((c0 : Int) == 48) = false := by simp; omega
                    clear qz
                    go_wp2_with fail
                    all_goals first
                      | (go_round
                         case rel => first
                           | exact ⟨_, _, _, _, _, k + 1, _, _, _, Hn.out, by omega, rfl, rfl, by go_num, rfl, rfl, rfl, rfl, rfl, rfl⟩
                           | exact ⟨_, _, _, _, _, k + 1, _, _, _, u64_wrap _, by omega, rfl, rfl, by go_num, rfl, rfl, rfl, rfl, rfl, rfl⟩
                           | exact ⟨_, _, _, _, _, k + 1, _, _, _, u64_mod _, by omega, rfl, rfl, by go_num, rfl, rfl, rfl, rfl, rfl, rfl⟩
                         case measure => simp [intOf]; omega)
                      | (go_meet
                         case rel => exact ⟨⟨_, _, _, _, _, k, _, _, _, Hn.out, by omega, rfl, rfl, rfl, rfl, rfl, rfl, rfl, rfl, rfl⟩, rfl⟩)
                · as_aux_lemma =>
                  go_wp2_with (go_at_call 255; refine (lower_any _ _).mono ?_; rintro e w' ⟨⟨f, rfl⟩, rfl⟩)
                  all_goals first
                    | (go_round
                       case rel => first
                         | exact ⟨_, _, _, _, _, k + 1, _, _, _, Hn.out, by omega, rfl, rfl, by go_num, rfl, rfl, rfl, rfl, rfl, rfl⟩
                         | exact ⟨_, _, _, _, _, k + 1, _, _, _, u64_wrap _, by omega, rfl, rfl, by go_num, rfl, rfl, rfl, rfl, rfl, rfl⟩
                         | exact ⟨_, _, _, _, _, k + 1, _, _, _, u64_mod _, by omega, rfl, rfl, by go_num, rfl, rfl, rfl, rfl, rfl, rfl⟩
                       case measure => simp [intOf]; omega)
                    | (go_meet
                       case rel => exact ⟨⟨_, _, _, _, _, k, _, _, _, Hn.out, by omega, rfl, rfl, rfl, rfl, rfl, rfl, rfl, rfl, rfl⟩, rfl⟩)
              · as_aux_lemma =>
                go_wp2_with (go_at_call 255; refine (lower_any _ _).mono ?_; rintro e w' ⟨⟨f, rfl⟩, rfl⟩)
                all_goals first
                  | (go_round
                     case rel => first
                       | exact ⟨_, _, _, _, _, k + 1, _, _, _, Hn.out, by omega, rfl, rfl, by go_num, rfl, rfl, rfl, rfl, rfl, rfl⟩
                       | exact ⟨_, _, _, _, _, k + 1, _, _, _, u64_wrap _, by omega, rfl, rfl, by go_num, rfl, rfl, rfl, rfl, rfl, rfl⟩
                       | exact ⟨_, _, _, _, _, k + 1, _, _, _, u64_mod _, by omega, rfl, rfl, by go_num, rfl, rfl, rfl, rfl, rfl, rfl⟩
                     case measure => simp [intOf]; omega)
                  | (go_meet
                     case rel => exact ⟨⟨_, _, _, _, _, k, _, _, _, Hn.out, by omega, rfl, rfl, rfl, rfl, rfl, rfl, rfl, rfl, rfl⟩, rfl⟩)
            · obtain rfl : k = s.size := by omega
              go_wp2_with fail
              go_meet
              case rel => exact ⟨⟨_, _, _, _, _, s.size, _, _, _, Hn.out, Nat.le_refl _, rfl, rfl, rfl, rfl, rfl, rfl, rfl, rfl, rfl⟩, rfl⟩
        case rest => as_aux_lemma =>
          obtain ⟨⟨n, tr, un, sd, sg, k, nd, nm, dp, hn, hk, rfl, rfl, rfl, rfl, rfl, rfl, rfl, rfl, rfl⟩, hw⟩ := hcut
          obtain rfl := hw.out
          have Hn := hid hn
          clear hw hn hk2
          cases sg
          · as_aux_lemma =>
            go_wp2_with fail
            try rw [Exit.noGoto_ret]
            refine bodyPost_ret (results_tmp7 rfl _ _ _) rfl ?_
            exact ⟨⟨n, _, k, _, _, _, _, Hn.out, hk, rfl⟩, rfl⟩
          · as_aux_lemma =>
            go_upto_if 142 with fail
            go_cut [17] (fun x wc => (∃ a : Int, x = .int .i64 a) ∧ Hid (w = wc))
            case first => as_aux_lemma => --live
              cases sd
              all_goals
                go_wp2_with fail
                go_meet
                case rel => exact ⟨⟨_, rfl⟩, rfl⟩
            case rest => as_aux_lemma =>
              obtain ⟨⟨dp1, rfl⟩, hw⟩ := hcut
              obtain rfl := hw.out
              clear hw
              go_upto_if 145 with fail
              go_cut [17, 16] (fun x y wc => (∃ a b : Int, x = .int .i64 a ∧ y = .int .i64 b) ∧ Hid (w = wc))
              case first => as_aux_lemma => --live
                cases bb
                all_goals
                  go_wp2_with fail
                  go_meet
                  case rel => exact ⟨⟨_, _, rfl, rfl⟩, rfl⟩
              case rest => as_aux_lemma =>
                obtain ⟨⟨dp2, nm2, rfl, rfl⟩, hw⟩ := hcut
                obtain rfl := hw.out
                clear hw
                go_upto_region 57 with fail
                go_cut [161] (fun x wc => (∃ t : Bool, x = .bool t ∧ (t = true → k < s.size)) ∧ Hid (w = wc))
                case first => as_aux_lemma => --live
                  by_cases hlt : k < s.size
                  · go_wp2_with (go_at_call 255; refine (lower_any _ _).mono ?_; rintro e w' ⟨⟨f, rfl⟩, rfl⟩)
                    all_goals
                      go_meet
                      case rel => exact ⟨⟨_, rfl, fun _ => hlt⟩, rfl⟩
                  · go_wp2_with fail
                    all_goals
                      go_meet
                      case rel => exact ⟨⟨false, rfl, fun h => by cases h⟩, rfl⟩
                case rest => as_aux_lemma =>
                  obtain ⟨⟨te, rfl, hte⟩, hw⟩ := hcut
                  obtain rfl := hw.out
                  clear hw
                  go_upto_if 161 with fail
                  go_cut [7, 9, 17] (fun x y z wc => (∃ (q : Nat) (t : Bool) (a : Int), q ≤ s.size ∧ x = .int .i64 q ∧ y = .bool t ∧ z = .int .i64 a) ∧ Hid (w = wc))
                  case first => as_aux_lemma => --live
                    cases te
                    · as_aux_lemma =>
                      clear hte
                      cases bb
                      · go_wp2_with fail
                        go_meet
                        case rel => exact ⟨⟨k, _, _, hk, rfl, rfl, rfl⟩, rfl⟩
                      · go_wp2_with fail
                        try rw [Exit.noGoto_ret]
                        refine bodyPost_ret (results_tmp7 rfl _ _ _) rfl ?_
                        exact ⟨⟨n, _, k, _, _, _, _, Hn.out, hk, rfl⟩, rfl⟩
                    · have hlt : k < s.size := hte rfl
                      clear hte
                      by_cases hlt2 : k + 1 < s.size
                      · as_aux_lemma =>
                        go_upto_block 4 with fail
                        go_cut [7, 19] (fun x y wc => (∃ (q : Nat) (a : Int), q ≤ s.size ∧ x = .int .i64 q ∧ y = .int .i64 a) ∧ Hid (w = wc))
                        case first => as_aux_lemma => --live
                          go_wp2_with fail
                          all_goals
                            go_meet
                            case rel => first | exact ⟨⟨k + 1 + 1, _, by omega, by go_num, rfl⟩, rfl⟩ | exact ⟨⟨k + 1, _, by omega, by go_num, rfl⟩, rfl⟩
                        case rest => as_aux_lemma =>
                          obtain ⟨⟨q, es, hq, rfl, rfl⟩, hw⟩ := hcut
                          obtain rfl := hw.out
                          clear hw hk hlt hlt2
                          go_upto_region 67 with fail
                          go_cut [194] (fun x wc => (∃ t : Bool, x = .bool t) ∧ Hid (w = wc))
                          case first => as_aux_lemma => --live
                            by_cases hlt : q < s.size
                            · go_wp2_with fail
                              all_goals
                                go_meet
                                case rel => exact ⟨⟨_, rfl⟩, rfl⟩
                            · go_wp2_with fail
                              all_goals
                                go_meet
                                case rel => exact ⟨⟨_, rfl⟩, rfl⟩
                          case rest => as_aux_lemma =>
                            obtain ⟨⟨t9, rfl⟩, hw⟩ := hcut
                            obtain rfl := hw.out
                            clear hw
                            cases t9
                            · as_aux_lemma =>
                              go_wp2_with fail
                              go_loop [7, 9, 20] (fun x y z => ∃ (q : Nat) (t : Bool) (a : Int), q ≤ s.size ∧ x = .int .i64 q ∧ y = .bool t ∧ z = .int .i64 a) (fun i _ _ => s.size - (intOf i).toNat)
                              case atStart => exact ⟨q, _, _, hq, rfl, rfl, rfl⟩
                              case round =>
                                clear hq
                                obtain ⟨j, t, a, hj, rfl, rfl, rfl⟩ := hrel
                                go_upto_region 69 with fail
                                go_cut [216] (fun x wc => (∃ t : Bool, x = .bool t ∧ (t = true → j < s.size)) ∧ Hid (w = wc))
                                case first => as_aux_lemma => --live
                                  by_cases hlt : j < s.size
                                  · go_wp2_with fail
                                    all_goals
                                      go_meet
                                      case rel => exact ⟨⟨_, rfl, fun _ => hlt⟩, rfl⟩
                                  · go_wp2_with fail
                                    all_goals
                                      go_meet
                                      case rel => exact ⟨⟨false, rfl, fun h => by cases h⟩, rfl⟩
                                case rest => as_aux_lemma =>
                                  obtain ⟨⟨t8, rfl, ht8⟩, hw⟩ := hcut
                                  obtain rfl := hw.out
                                  clear hw
                                  cases t8
                                  · as_aux_lemma =>
                                    clear ht8
                                    go_wp2_with fail
                                    go_meet
                                    case rel => exact ⟨⟨j, _, _, hj, rfl, rfl, rfl⟩, rfl⟩
                                  · as_aux_lemma =>
                                    have hlt : j < s.size := ht8 rfl
                                    clear ht8
                                    go_wp2_with fail
                                    all_goals
                                      go_round
                                      case rel => exact ⟨j + 1, _, _, by omega, by go_num, rfl, rfl⟩
                                      case measure => simp [intOf]; omega
                            · as_aux_lemma =>
                              go_wp2_with fail
                              try rw [Exit.noGoto_ret]
                              refine bodyPost_ret (results_tmp7 rfl _ _ _) rfl ?_
                              exact ⟨⟨n, _, q, _, _, _, _, Hn.out, hq, rfl⟩, rfl⟩
                      · as_aux_lemma =>
                        have hle : (s.size : Int) ≤ (k : Int) + 1 := by omega
                        clear hlt2
                        go_wp2_with fail
                        try rw [Exit.noGoto_ret]
                        refine bodyPost_ret (results_tmp7 rfl _ _ _) rfl ?_
                        have hk1 : k + 1 ≤ s.size := hlt
                        have ek : Value.int .i64 ((k : Int) + 1) = Value.int .i64 ((k + 1 : Nat) : Int) := by simp
                        refine ⟨⟨n, 0, k + 1, neg, tr, hx, false, Hn.out, hk1, ?_⟩, rfl⟩
                        rw [← ek]
                        with_unfolding_all rfl
                  case rest => as_aux_lemma =>
                    obtain ⟨⟨q, t, a, hq, rfl, rfl, rfl⟩, hw⟩ := hcut
                    obtain rfl := hw.out
                    clear hw hte hk
                    obtain ⟨b0, hb0⟩ : ∃ b0 : Bool, (n != 0) = b0 := ⟨_, rfl⟩
                    go_upto_if 241 with fail
                    go_cut [3] (fun x wc => (∃ a : Int, x = .int .i64 a) ∧ Hid (w = wc))
                    case first => as_aux_lemma => --live
                      cases b0
                      all_goals
                        go_wp2_with fail
                        go_meet
                        case rel => exact ⟨⟨_, rfl⟩, rfl⟩
                    case rest => as_aux_lemma =>
                      obtain ⟨⟨x, rfl⟩, hw⟩ := hcut
                      obtain rfl := hw.out
                      clear hw
                      go_upto_region 79 with fail
                      go_cut [252] (fun x wc => (∃ t : Bool, x = .bool t) ∧ Hid (w = wc))
                      case first => as_aux_lemma => --live
                        have hsz : (s.extract 0 q).size ≤ 3000000 := by rw [ByteArray.size_extract]; omega
                        cases t
                        · go_wp2_with fail
                          go_meet
                          case rel => exact ⟨⟨_, rfl⟩, rfl⟩
                        · go_wp2_with (go_at_call 276; refine (underscore_any _ _ hsz).mono ?_; rintro e w' ⟨⟨f, rfl⟩, rfl⟩)
                          go_meet
                          case rel => exact ⟨⟨_, rfl⟩, rfl⟩
                      case rest => as_aux_lemma =>
                        obtain ⟨⟨t7, rfl⟩, hw⟩ := hcut
                        obtain rfl := hw.out
                        clear hw
                        cases t7
                        all_goals
                          go_wp2_with fail
                          try rw [Exit.noGoto_ret]
                          refine bodyPost_ret (results_tmp7 rfl _ _ _) rfl ?_
                          exact ⟨⟨n, _, q, _, _, _, _, Hn.out, hq, rfl⟩, rfl⟩
end Go.Proofs.YticdagnbnmnidaaGreatDoor
