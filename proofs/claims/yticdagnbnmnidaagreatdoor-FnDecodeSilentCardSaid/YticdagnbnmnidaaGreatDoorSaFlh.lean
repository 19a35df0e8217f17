/- strconv.ParseFloat: the hexadecimal way. Conditions: none. -/
import Derived.Test.YticdagnbnmnidaaGreatDoorSaFle
import Derived.Test.YticdagnbnmnidaaGreatDoorSaDca
import Derived.LaidEqlPtr
import Derived.Laws.BitsAllLaws
set_option linter.unusedSimpArgs false
set_option linter.unusedVariables false
namespace Go.Proofs.YticdagnbnmnidaaGreatDoor
open Go.RowKit

theorem ofNat64 {a : Nat} (ha : a < 18446744073709551616) : (BitVec.ofInt 64 (a : Int)).toNat = a := by
  rw [BitVec.ofInt_natCast, BitVec.toNat_ofNat]; exact Nat.mod_eq_of_lt (by omega)
theorem wrapNat {n : Nat} (h : n < 18446744073709551616) : IntKind.u64.wrap (n : Int) = (n : Int) := by
  simp [IntKind.wrap, IntKind.bits, IntKind.signed]
  omega
theorem or_u64 {a b : Nat} (ha : a < 18446744073709551616) (hb : b < 18446744073709551616) : bits .or .u64 (a : Int) (b : Int) = ((a ||| b : Nat) : Int) ∧ a ||| b < 18446744073709551616 := by
  have h : a ||| b < 2 ^ 64 := Nat.or_lt_two_pow (by omega) (by omega)
  refine ⟨?_, by omega⟩
  show IntKind.u64.wrap ((BitVec.ofInt 64 (a : Int) ||| BitVec.ofInt 64 (b : Int)).toNat : Int) = _
  rw [BitVec.toNat_or, ofNat64 ha, ofNat64 hb]
  exact wrapNat (by omega)
theorem and_one_u64' {a : Nat} (ha : a < 18446744073709551616) : bits .and .u64 (a : Int) 1 = ((a % 2 : Nat) : Int) := by
  show IntKind.u64.wrap ((BitVec.ofInt 64 (a : Int) &&& BitVec.ofInt 64 ((1 : Nat) : Int)).toNat : Int) = _
  rw [BitVec.toNat_and, ofNat64 ha, ofNat64 (by omega), Nat.and_one_is_mod]
  exact wrapNat (by omega)
/-- a mantissa halved, its last bit kept -/
def halve (m : Nat) : Nat := m / 2 ||| m % 2
theorem or_one_le (x : Nat) : x ||| 1 ≤ x + 1 := by
  have h : (x ||| 1) / 2 = x / 2 ||| 1 / 2 := Nat.or_div_two
  have h0 : x / 2 ||| 1 / 2 = x / 2 := by rw [show 1 / 2 = 0 from rfl, Nat.or_zero]
  rw [h0] at h
  omega
theorem halve_lt {m : Nat} (h : 2 ≤ m) : halve m < m := by
  unfold halve
  rcases Nat.mod_two_eq_zero_or_one m with e | e
  · rw [e, Nat.or_zero]; omega
  · rw [e]
    have := or_one_le (m / 2)
    omega

/-- the formats' blocks -/
def InfoRow (w : World) : Prop := ∃ ca ta cb tb, w.heap[16]? = some (.cells ca ta (0, 0)) ∧ w.heap[15]? = some (.cells cb tb (0, 0))
theorem row355 : (Tryz.prog.info? 357).map (·.size) = some 3 := by kernel_rfl
theorem ptr_ne {w : World} (h : InfoRow w) : (binOp .eql 355 (.pointer (some ⟨16, 0, none⟩)) (.pointer (some ⟨15, 0, none⟩))).run Tryz.prog w = .ok (.bool false) w := by
  obtain ⟨ca, ta, cb, tb, h1, h2⟩ := h
  obtain ⟨j, hj, hsz⟩ := Option.map_eq_some_iff.1 row355
  exact run_eql_ptr_other w Tryz.underlying355 hj (by rw [hsz]; decide) (by decide) h1 h2

/-- what a round of halving does to the mantissa, as the walk spells it -/
theorem halve_run {M : Nat} (hM : M < 18446744073709551616) :
    bits .and .u64 (M : Int) 1 = ((M % 2 : Nat) : Int) ∧ (M : Int) / 2 = ((M / 2 : Nat) : Int) ∧ bits .or .u64 ((M / 2 : Nat) : Int) ((M % 2 : Nat) : Int) = (halve M : Nat) ∧ halve M < 18446744073709551616 := by
  obtain ⟨h1, h2⟩ := or_u64 (a := M / 2) (b := M % 2) (by omega) (by omega)
  exact ⟨and_one_u64' hM, by omega, h1, h2⟩

set_option maxRecDepth 100000 in
set_option maxHeartbeats 4000000 in
theorem hex_any (s : ByteArray) (m x : Int) (neg tr : Bool) (w : World) (hm : U64 m) (hi : InfoTab w) (hr : InfoRow w) :
    Calls Tryz.prog 289 #[.string s, .pointer (some ⟨16, 0, none⟩), .int .u64 m, .int .i64 x, .bool neg, .bool tr] w (GivesFE w) := by
  obtain ⟨M, rfl⟩ : ∃ M : Nat, m = M := ⟨m.toNat, by have := hm.1; omega⟩
  have hM : M < 18446744073709551616 := by have := hm.2; omega
  have i0 := hi.mant
  have i1 := hi.exp
  have i2 := hi.bias
  have hfb := frombits_run
  have Hr := hid hr
  clear hm hi hr
  go_enter Tryz.func289, Tryz.ntmps289
  go_wp2_with fail
  go_quiet (fail)
  go_wp2_with fail
  go_loop [2, 3] (fun y z => ∃ (M : Nat) (X : Int), M < 18446744073709551616 ∧ y = .int .u64 M ∧ z = .int .i64 X) (fun y _ => 18014398509481984 - (intOf y).toNat)
  case atStart => exact ⟨M, _, hM, rfl, rfl⟩
  case round =>
    clear hM
    obtain ⟨M, X, hM, rfl, rfl⟩ := hrel
    go_upto_region 4 with fail
    go_cut [53] (fun y wc => (∃ t : Bool, y = .bool t ∧ (t = true → M ≠ 0 ∧ M < 18014398509481984)) ∧ Hid (w.drewN nq = wc))
    case first => as_aux_lemma =>
      by_cases h0 : M = 0
      · subst h0
        go_wp2_with fail
        go_meet
        case rel => exact ⟨⟨false, rfl, fun h => by cases h⟩, rfl⟩
      · have hb : ((M : Int) != 0) = true := by simp; omega
        by_cases hlt : M < 18014398509481984
        · have hq : (M : Int) / 18014398509481984 = 0 := by omega
          have Ht : Hid (M ≠ 0 ∧ M < 18014398509481984) := ⟨h0, hlt⟩
          clear h0
          go_wp2_with fail
          go_meet
          case rel => exact ⟨⟨true, rfl, fun _ => Ht.out⟩, rfl⟩
        · have hq : ((M : Int) / 18014398509481984 == 0) = false := by simp; omega
          clear h0
          go_wp2_with fail
          go_meet
          case rel => exact ⟨⟨false, rfl, fun h => by cases h⟩, rfl⟩
    case rest => as_aux_lemma =>
      obtain ⟨⟨t, rfl, ht⟩, hw⟩ := hcut
      obtain rfl := hw.out
      clear hw
      cases t
      · as_aux_lemma =>
        clear ht
        go_upto_if 58 with fail
        go_cut [2] (fun y wc => (∃ M : Nat, M < 18446744073709551616 ∧ y = .int .u64 M) ∧ Hid (w.drewN nq = wc))
        case first => as_aux_lemma =>
          cases tr
          · go_wp2_with fail
            go_meet
            case rel => exact ⟨⟨M, hM, rfl⟩, rfl⟩
          · obtain ⟨ho, hol⟩ := or_u64 (a := M) (b := 1) hM (by omega)
            have ho' : bits .or .u64 (M : Int) 1 = ((M ||| 1 : Nat) : Int) := ho
            clear ho
            generalize M ||| 1 = M1 at ho' hol
            go_wp2_with fail
            go_meet
            case rel => exact ⟨⟨M1, hol, rfl⟩, rfl⟩
        case rest => as_aux_lemma =>
          clear hM
          obtain ⟨⟨M, hM, rfl⟩, hw⟩ := hcut
          obtain rfl := hw.out
          clear hw
          go_wp2_with fail
          go_loop [2, 3] (fun y z => ∃ (M : Nat) (X : Int), M < 18446744073709551616 ∧ y = .int .u64 M ∧ z = .int .i64 X) (fun y _ => (intOf y).toNat)
          case atStart => exact ⟨M, _, hM, rfl, rfl⟩
          case round =>
            clear hM
            obtain ⟨M, X, hM, rfl, rfl⟩ := hrel
            by_cases hbig : 36028797018963968 ≤ M
            · as_aux_lemma =>
              have hb : ((M : Int) / 36028797018963968 != 0) = true := by simp; omega
              obtain ⟨y1, y2, y3, y4⟩ := halve_run hM
              have Hlt := hid (halve_lt (m := M) (by omega))
              generalize halve M = M1 at y3 y4 Hlt
              generalize M / 2 = A at y2 y3
              generalize M % 2 = B at y1 y3
              clear hbig
              go_wp2_with fail
              go_round
              case rel => exact ⟨M1, _, y4, rfl, rfl⟩
              case measure => have := Hlt.out; simp [intOf]; omega
            · as_aux_lemma =>
              have hb : ((M : Int) / 36028797018963968 != 0) = false := by simp; omega
              clear hbig
              go_wp2_with fail
              go_loop [2, 3] (fun y z => ∃ (M : Nat) (X : Int), M < 18446744073709551616 ∧ y = .int .u64 M ∧ z = .int .i64 X) (fun y _ => (intOf y).toNat)
              case atStart => exact ⟨M, _, hM, rfl, rfl⟩
              case round =>
                clear hM hb
                obtain ⟨M, X, hM, rfl, rfl⟩ := hrel
                go_upto_region 12 with fail
                go_cut [84] (fun y wc => (∃ t : Bool, y = .bool t ∧ (t = true → 2 ≤ M)) ∧ Hid (w.drewN nq = wc))
                case first => as_aux_lemma =>
                  by_cases h2 : 2 ≤ M
                  · go_wp2_with fail
                    go_meet
                    case rel => exact ⟨⟨_, rfl, fun _ => h2⟩, rfl⟩
                  · go_wp2_with fail
                    go_meet
                    case rel => exact ⟨⟨false, rfl, fun h => by cases h⟩, rfl⟩
                case rest => as_aux_lemma =>
                  obtain ⟨⟨t, rfl, ht⟩, hw⟩ := hcut
                  obtain rfl := hw.out
                  clear hw
                  cases t
                  · as_aux_lemma =>
                    clear ht
                    go_upto_if 103 with fail
                    go_cut [2, 3] (fun y z wc => (∃ n x : Int, y = .int .u64 n ∧ z = .int .i64 x) ∧ Hid (w.drewN nq = wc))
                    case first => as_aux_lemma =>
                      go_wp2_with fail
                      all_goals
                        go_meet
                        case rel => exact ⟨⟨_, _, rfl, rfl⟩, rfl⟩
                    case rest => as_aux_lemma =>
                      clear hM
                      obtain ⟨⟨n, x2, rfl, rfl⟩, hw⟩ := hcut
                      obtain rfl := hw.out
                      clear hw
                      go_upto_if 124 with fail
                      go_cut [3] (fun z wc => (∃ x : Int, z = .int .i64 x) ∧ Hid (w.drewN nq = wc))
                      case first => as_aux_lemma =>
                        go_wp2_with fail
                        all_goals
                          go_meet
                          case rel => exact ⟨⟨_, rfl⟩, rfl⟩
                      case rest => as_aux_lemma =>
                        obtain ⟨⟨x3, rfl⟩, hw⟩ := hcut
                        obtain rfl := hw.out
                        clear hw
                        go_upto_if 131 with fail
                        go_cut [2, 3, 17] (fun y z er wc => (∃ n x : Int, y = .int .u64 n ∧ z = .int .i64 x ∧ (er = .nilIface ∨ er = .iface 315 (.int .i64 1))) ∧ Hid (w.drewN nq = wc))
                        case first => as_aux_lemma =>
                          go_wp2_with fail
                          all_goals
                            go_meet
                            case rel => first | exact ⟨⟨_, _, rfl, rfl, .inl rfl⟩, rfl⟩ | exact ⟨⟨_, _, rfl, rfl, .inr rfl⟩, rfl⟩
                        case rest => as_aux_lemma =>
                          obtain ⟨⟨n2, x4, rfl, rfl, her⟩, hw⟩ := hcut
                          obtain rfl := hw.out
                          clear hw
                          have hpe1 : ∀ a, (binOp .eql 355 (.pointer (some ⟨16, 0, none⟩)) (.pointer (some ⟨15, 0, none⟩))).run Tryz.prog (w.drewN a) = .ok (.bool false) (w.drewN a) := fun a => ptr_ne Hr.out
                          have hpe2 : ∀ a b, (binOp .eql 355 (.pointer (some ⟨16, 0, none⟩)) (.pointer (some ⟨15, 0, none⟩))).run Tryz.prog ((w.drewN a).drewN b) = .ok (.bool false) ((w.drewN a).drewN b) := fun a b => ptr_ne Hr.out
                          have hpe3 : ∀ a b c, (binOp .eql 355 (.pointer (some ⟨16, 0, none⟩)) (.pointer (some ⟨15, 0, none⟩))).run Tryz.prog (((w.drewN a).drewN b).drewN c) = .ok (.bool false) (((w.drewN a).drewN b).drewN c) := fun a b c => ptr_ne Hr.out
                          rcases her with rfl | rfl
                          · as_aux_lemma =>
                            cases neg
                            · go_wp2_with fail
                              go_quiet (fail)
                              go_wp2_with fail
                              go_ret2
                              exact ⟨⟨_, .inl rfl⟩, by repeat (first | exact Keep.refl _ _ | refine Keep.drewN ?_ _)⟩
                            · go_wp2_with fail
                              go_quiet (fail)
                              go_wp2_with fail
                              go_quiet (fail)
                              go_wp2_with fail
                              go_ret2
                              exact ⟨⟨_, .inl rfl⟩, by repeat (first | exact Keep.refl _ _ | refine Keep.drewN ?_ _)⟩
                          · as_aux_lemma =>
                            cases neg
                            · go_wp2_with fail
                              go_quiet (fail)
                              go_wp2_with fail
                              go_ret2
                              exact ⟨⟨_, .inr (.inl rfl)⟩, by repeat (first | exact Keep.refl _ _ | refine Keep.drewN ?_ _)⟩
                            · go_wp2_with fail
                              go_quiet (fail)
                              go_wp2_with fail
                              go_quiet (fail)
                              go_wp2_with fail
                              go_ret2
                              exact ⟨⟨_, .inr (.inl rfl)⟩, by repeat (first | exact Keep.refl _ _ | refine Keep.drewN ?_ _)⟩
                  · as_aux_lemma =>
                    have h2 : 2 ≤ M := ht rfl
                    clear ht
                    obtain ⟨y1, y2, y3, y4⟩ := halve_run hM
                    have Hlt := hid (halve_lt h2)
                    generalize halve M = M1 at y3 y4 Hlt
                    generalize M / 2 = A at y2 y3
                    generalize M % 2 = B at y1 y3
                    go_wp2_with fail
                    go_round
                    case rel => exact ⟨M1, _, y4, rfl, rfl⟩
                    case measure => have := Hlt.out; simp [intOf]; omega
      · as_aux_lemma =>
        obtain ⟨hne, hlt⟩ := ht rfl
        have x1 : IntKind.u64.wrap ((M : Int) * 2) = ((M * 2 : Nat) : Int) := by rw [u64_id (by omega) (by omega)]; omega
        have HX : Hid (M * 2 < 18446744073709551616 ∧ M < M * 2) := ⟨by omega, by omega⟩
        clear hne ht
        generalize M * 2 = M2 at x1 HX
        go_wp2_with fail
        go_round
        case rel => exact ⟨M2, _, HX.out.1, rfl, rfl⟩
        case measure => have := HX.out.2; simp [intOf]; omega
end Go.Proofs.YticdagnbnmnidaaGreatDoor
