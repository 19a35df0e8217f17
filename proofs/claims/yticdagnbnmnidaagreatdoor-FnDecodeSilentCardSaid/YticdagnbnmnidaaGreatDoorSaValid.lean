/- utf8.word. Conditions: none. utf8.Valid. Conditions: none. -/
import Derived.Test.YticdagnbnmnidaaGreatDoorSaTail
import Derived.Deep.QuietTactic
import Derived.BigQuiet
import Derived.BigGuardPart
import Derived.Deep.CutBlock
import Derived.Deep.DeepCutAuto
import Derived.Outline
set_option linter.unusedSimpArgs false
set_option linter.unusedVariables false
namespace Go.Proofs.YticdagnbnmnidaaGreatDoor
open Go.RowKit

def wordZ (f : Nat → Nat) : Int := (bits BinOp.or IntKind.u64 (bits BinOp.or IntKind.u64 (bits BinOp.or IntKind.u64 (bits BinOp.or IntKind.u64 (bits BinOp.or IntKind.u64 (bits BinOp.or IntKind.u64 (bits BinOp.or IntKind.u64 (IntKind.u64.wrap (f 0 : Nat)) (IntKind.u64.wrap (IntKind.u64.wrap (f 1 : Nat) * 256))) (IntKind.u64.wrap (IntKind.u64.wrap (f 2 : Nat) * 65536))) (IntKind.u64.wrap (IntKind.u64.wrap (f 3 : Nat) * 16777216))) (IntKind.u64.wrap (IntKind.u64.wrap (f 4 : Nat) * 4294967296))) (IntKind.u64.wrap (IntKind.u64.wrap (f 5 : Nat) * 1099511627776))) (IntKind.u64.wrap (IntKind.u64.wrap (f 6 : Nat) * 281474976710656))) (IntKind.u64.wrap (IntKind.u64.wrap (f 7 : Nat) * 72057594037927936)))

set_option maxRecDepth 100000 in
set_option maxHeartbeats 3200000 in
theorem word_any (T off n cap : Nat) (f : Nat → Nat) (h8 : 8 ≤ n) (hn : n ≤ 3000000) (hf : ∀ j, j < 8 → f j < 256) :
    ∀ w : World, (∀ j, j < n → w.cell? ⟨T, off + j, none⟩ = some (.int .u8 (f j : Nat))) → Calls Tryz.prog 214 #[.slice (some ⟨T, off, none⟩) n cap] w fun e w' => e = .returned (.int .u64 (wordZ f)) ∧ ∃ k, w' = w.drewN k := by
  intro w hc
  · have c0 := hc 0 (by omega)
    have c1 := hc 1 (by omega)
    have c2 := hc 2 (by omega)
    have c3 := hc 3 (by omega)
    have c4 := hc 4 (by omega)
    have c5 := hc 5 (by omega)
    have c6 := hc 6 (by omega)
    have c7 := hc 7 (by omega)
    have h0 : (0 : Int) < (n : Int) := by omega
    have h1 : (1 : Int) < (n : Int) := by omega
    have h2 : (2 : Int) < (n : Int) := by omega
    have h3 : (3 : Int) < (n : Int) := by omega
    have h4 : (4 : Int) < (n : Int) := by omega
    have h5 : (5 : Int) < (n : Int) := by omega
    have h6 : (6 : Int) < (n : Int) := by omega
    have h7 : (7 : Int) < (n : Int) := by omega
    rw [Nat.add_zero] at c0
    clear hc
    go_enter Tryz.func214, Tryz.ntmps214
    go_wp2_with fail
    go_quiet (fail)
    go_wp2_with fail
    go_ret
    exact ⟨rfl, _, rfl⟩
end Go.Proofs.YticdagnbnmnidaaGreatDoor
namespace Go.Proofs.YticdagnbnmnidaaGreatDoor
open Go.RowKit

/-- the two tables of unicode/utf8 hold bytes -/
structure U8Tabs (w : World) : Prop where
  first : ∀ i, i < 256 → ∃ n : Nat, n < 256 ∧ w.cell? ⟨1, i, none⟩ = some (.int .u8 n)
  acc : ∀ i, i < 32 → ∃ n : Nat, n < 256 ∧ w.cell? ⟨2, i, none⟩ = some (.int .u8 n)
theorem U8Tabs.lay {w0 w : World} (h : U8Tabs w0) (hl : Lay w0 w) : U8Tabs w := by
  refine ⟨fun i hi => ?_, fun i hi => ?_⟩
  · obtain ⟨n, hn, hc⟩ := h.first i hi
    exact ⟨n, hn, by rw [← hc]; exact World.cell?_of_block (hl 1 (lt_of_cell hc))⟩
  · obtain ⟨n, hn, hc⟩ := h.acc i hi
    exact ⟨n, hn, by rw [← hc]; exact World.cell?_of_block (hl 2 (lt_of_cell hc))⟩
theorem U8Tabs.same {w w' : World} (h : U8Tabs w) (hk : Same w w') : U8Tabs w' := by
  refine ⟨fun i hi => ?_, fun i hi => ?_⟩
  · obtain ⟨n, hn, hc⟩ := h.first i hi
    exact ⟨n, hn, by rw [← hc]; exact World.cell?_of_block (hk.block 1 (lt_of_cell hc) id)⟩
  · obtain ⟨n, hn, hc⟩ := h.acc i hi
    exact ⟨n, hn, by rw [← hc]; exact World.cell?_of_block (hk.block 2 (lt_of_cell hc) id)⟩

/-- n bytes lie at A -/
structure Pc (w : World) (A : Option Addr) (n : Nat) (f : Nat → Nat) : Prop where
  le : n ≤ 3000000
  at_ : 0 < n → ∃ T off, A = some ⟨T, off, none⟩ ∧ ∀ j, j < n → w.cell? ⟨T, off + j, none⟩ = some (.int .u8 (f j : Nat))
  lt : ∀ j, j < n → f j < 256
theorem Pc.same {w w' : World} {A : Option Addr} {n : Nat} {f : Nat → Nat} (h : Pc w A n f) (hk : Same w w') : Pc w' A n f := by
  refine ⟨h.le, fun hn => ?_, h.lt⟩
  obtain ⟨T, off, hA, hc⟩ := h.at_ hn
  exact ⟨T, off, hA, fun j hj => by rw [← hc j hj]; exact World.cell?_of_block (hk.block T (lt_of_cell (hc j hj)) id)⟩
theorem Pc.cut {w : World} {T off n : Nat} {f : Nat → Nat} (h : Pc w (some ⟨T, off, none⟩) n f) (k : Nat) (hk : k < n) : Pc w (some ⟨T, off + k, none⟩) (n - k) (fun j => f (k + j)) := by
  have := h.le
  refine ⟨by omega, fun _ => ⟨T, off + k, rfl, fun j hj => ?_⟩, fun j hj => h.lt _ (by omega)⟩
  obtain ⟨T', off', hA, hc⟩ := h.at_ (by omega)
  cases hA
  rw [Nat.add_assoc]
  exact hc _ (by omega)
theorem Pc.none {w : World} (A : Option Addr) (f : Nat → Nat) : Pc w A 0 f := ⟨by omega, fun h => absurd h (by omega), fun j hj => absurd hj (by omega)⟩

/-- where the loop stands -/
def AtP (w : World) (v : Value) (wr : World) : Prop := ∃ A n f, v = .slice A n n ∧ Pc wr A n f ∧ Same w wr
def lenOf : Value → Nat | .slice _ n _ => n | _ => 0

/-- a shorter piece -/
def MidV (w : World) (n : Nat) (v : Value) (wr : World) : Prop := ∃ A n1 f, v = .slice A n1 n1 ∧ Pc wr A n1 f ∧ Same w wr ∧ n1 < n

/-- a shorter piece, and a truth behind which it has more than k bytes -/
def MidB (k : Nat) (w : World) (n : Nat) (v b : Value) (wr : World) : Prop := ∃ (t : Bool) (A : Option Addr) (n1 : Nat) (f : Nat → Nat), v = .slice A n1 n1 ∧ Pc wr A n1 f ∧ Same w wr ∧ n1 < n ∧ b = .bool t ∧ (t = true → k < n1)
theorem Pc.drewN {w : World} {A : Option Addr} {n : Nat} {f : Nat → Nat} (h : Pc w A n f) (q : Nat) : Pc (w.drewN q) A n f := h.same ((Keep.refl _ w).drewN q)

/-- the accepted range lies in a block of its own -/
def AtAcc (w : World) (T off n : Nat) (f : Nat → Nat) (z y : Value) (wc : World) : Prop := ∃ (k : Int) (g lo hi : Nat), z = .int .i64 k ∧ y = .pointer (some ⟨g, 0, none⟩) ∧
  wc.cell? ⟨g, 0, none⟩ = some (.int .u8 (lo : Nat)) ∧ wc.cell? ⟨g, 1, none⟩ = some (.int .u8 (hi : Nat)) ∧ Same w wc ∧ Pc wc (some ⟨T, off, none⟩) n f
/-- a truth behind which, where it is false, there are k bytes -/
def Gd (k : Nat) (w : World) (T off n : Nat) (f : Nat → Nat) (b : Value) (wc : World) : Prop := ∃ t : Bool, b = .bool t ∧ (t = false → k ≤ n) ∧ Same w wc ∧ Pc wc (some ⟨T, off, none⟩) n f

/-- utf8.word at a piece that is long enough -/
theorem word_pc {w : World} {T off n cap : Nat} {f : Nat → Nat} (h : Pc w (some ⟨T, off, none⟩) n f) (k : Nat) (hk : k + 8 ≤ n) :
    ∀ q, Calls Tryz.prog 214 #[.slice (some ⟨T, off + k, none⟩) (n - k) cap] (w.drewN q) fun e w' => e = .returned (.int .u64 (wordZ fun j => f (k + j))) ∧ ∃ m, w' = (w.drewN q).drewN m := fun q => by
  have hle := h.le
  refine word_any T (off + k) (n - k) cap (fun j => f (k + j)) (by omega) (by omega) (fun j hj => h.lt _ (by omega)) (w.drewN q) (fun j hj => ?_)
  obtain ⟨T', off', hA, hc⟩ := h.at_ (by omega)
  cases hA
  rw [Nat.add_assoc]
  exact hc _ (by omega)

set_option maxRecDepth 100000 in
set_option maxHeartbeats 12800000 in
theorem valid_any (v : Value) (n : Nat) (f : Nat → Nat) (w : World) (hr : Rd w v n f) (hn : n ≤ 3000000) (ht : U8Tabs w) : Calls Tryz.prog 169 #[v] w (GivesBool w) := by
  obtain ⟨⟨A, cap, rfl, h1, h2, h3⟩, h4⟩ := hr
  have hP : Pc w A n f := ⟨hn, h3, h4⟩
  have HP := hid hP
  have HT := hid ht
  clear hP ht h3 h4
  go_enter Tryz.func169, Tryz.ntmps169
  go_upto_region 1 with fail
  go_cut [0] (fun y wc => AtP w y wc)
  case first =>
    as_aux_lemma =>
      rcases A with _ | a
      · go_big_wp2_with fail
        go_meet
        case rel => exact ⟨_, n, f, rfl, HP.out, Keep.refl _ _⟩
      · go_big_wp2_with fail
        go_meet
        case rel => exact ⟨_, n, f, rfl, HP.out, Keep.refl _ _⟩
  case rest =>
    clear HP h1 h2 hn
    go_big_wp2_with fail
    go_loopw [0] (fun y wr => AtP w y wr) (fun y _ => lenOf y)
    case atStart => exact hcut
    case round =>
      clear hcut
      obtain ⟨A, n, f, rfl, hP, hS⟩ := hrel
      have hle := hP.le
      rcases Nat.eq_zero_or_pos n with rfl | hn
      ·
        as_aux_lemma =>
          have HS := hid hS
          clear hP hS
          go_big_wp2_with fail
          go_ret
          exact ⟨_, rfl, HS.out⟩
      · obtain ⟨T, off, rfl, hc⟩ := hP.at_ hn
        have c0 := hc 0 hn
        rw [Nat.add_zero] at c0
        have hn' : (0 : Int) < (n : Int) := by omega
        have l0 := hP.lt 0 hn
        have HC := hid hc
        have HP := hid hP
        have HS := hid hS
        have HT' := hid (HT.out.same hS)
        clear hc hP hS
        by_cases ha : f 0 < 128
        · have hai : (f 0 : Int) < 128 := by omega
          clear HT HT'
          go_upto_region 5 with fail
          go_cut [0] (fun y wc => MidV w n y wc)
          case first =>
            as_aux_lemma =>
              rcases Nat.eq_or_lt_of_le hn with h1 | h1
              · obtain rfl : n = 1 := by omega
                go_big_wp2_with fail
                go_meet
                case rel => exact ⟨_, 0, f, rfl, Pc.none _ _, HS.out, by omega⟩
              · obtain ⟨m, rfl⟩ : ∃ m, n = m + 1 := ⟨n - 1, by omega⟩
                have hm : 0 < m := by omega
                have hm' : ¬ m = 0 := by omega
                have hP1 := hid (HP.out.cut 1 (by omega))
                clear hle h1
                go_big_wp2_with fail
                go_meet
                case rel => exact ⟨_, m, _, rfl, hP1.out, HS.out, by omega⟩
          case rest =>
            clear HP HC HS c0 l0 ha hai hn'
            obtain ⟨A1, n1, f1, rfl, hP1, hS1, hlt⟩ := hcut
            have hle1 := hP1.le
            have HP1 := hid hP1
            have HS1 := hid hS1
            clear hP1 hS1
            go_upto_region 6 with fail
            go_cut [0, 31] (fun y b wc => MidB 8 w n y b wc)
            case first =>
              as_aux_lemma =>
                by_cases h8 : 8 < n1
                · obtain ⟨T1, off1, rfl, hc1⟩ := HP1.out.at_ (by omega)
                  have hw := word_pc (cap := n1) HP1.out 0 (by omega)
                  obtain ⟨z, hz⟩ : ∃ z, z = wordZ fun j => f1 (0 + j) := ⟨_, rfl⟩
                  rw [← hz] at hw
                  have h8' : (8 : Int) < (n1 : Int) := by omega
                  clear hz hc1
                  go_big_wp2_with (go_at_call 214; refine (hw 0).mono ?_; rintro e w' ⟨rfl, q, rfl⟩)
                  go_meet
                  case rel => exact ⟨_, _, _, _, rfl, HP1.out.drewN _, HS1.out.drewN _, hlt, rfl, fun _ => h8⟩
                · have hd : decide ((8 : Int) < (n1 : Int)) = false := decide_eq_false (by omega)
                  go_big_wp2_with fail
                  go_meet
                  case rel => exact ⟨false, _, _, _, rfl, HP1.out, HS1.out, hlt, rfl, fun h => by cases h⟩
            case rest =>
              clear HP1 HS1 hlt hle1
              obtain ⟨t, A1, n1, f1, rfl, hP1, hS1, hlt, rfl, ht⟩ := hcut
              have hle1 := hP1.le
              have HP1 := hid hP1
              have HS1 := hid hS1
              clear hP1 hS1
              cases t
              ·
                as_aux_lemma =>
                  clear ht
                  go_big_wp2_with fail
                  go_roundw
                  case rel => exact ⟨_, _, _, rfl, HP1.out, HS1.out⟩
                  case measure => simp [lenOf]; omega
              · have h8 : 8 < n1 := ht rfl
                clear ht
                obtain ⟨T1, off1, rfl, hc1⟩ := HP1.out.at_ (by omega)
                clear hc1
                obtain ⟨m1, rfl⟩ : ∃ m, n1 = m + 8 := ⟨n1 - 8, by omega⟩
                have hm1 : 0 < m1 := by omega
                have hm1' : ¬ m1 = 0 := by omega
                go_upto_region 7 with fail
                go_cut [0] (fun y wc => MidV w n y wc)
                case first =>
                  as_aux_lemma =>
                    have hP1 := hid (HP1.out.cut 8 (by omega))
                    go_big_wp2_with fail
                    go_meet
                    case rel => exact ⟨_, m1, _, rfl, hP1.out, HS1.out, by omega⟩
                case rest =>
                  clear HP1 HS1 hlt hle1 h8 hm1 hm1'
                  obtain ⟨A1, n1, f1, rfl, hP1, hS1, hlt⟩ := hcut
                  have hle1 := hP1.le
                  have HP1 := hid hP1
                  have HS1 := hid hS1
                  clear hP1 hS1
                  go_upto_region 8 with fail
                  go_cut [0, 46] (fun y b wc => MidB 16 w n y b wc)
                  case first =>
                    as_aux_lemma =>
                      by_cases h16 : 16 < n1
                      · obtain ⟨T1, off1, rfl, hc1⟩ := HP1.out.at_ (by omega)
                        have hne : ¬ n1 = 8 := by omega
                        have hw := word_pc (cap := n1) HP1.out 0 (by omega)
                        have hw8 := word_pc (cap := n1 - 8) HP1.out 8 (by omega)
                        obtain ⟨z, hz⟩ : ∃ z, z = wordZ fun j => f1 (0 + j) := ⟨_, rfl⟩
                        rw [← hz] at hw
                        obtain ⟨z8, hz8⟩ : ∃ z, z = wordZ fun j => f1 (8 + j) := ⟨_, rfl⟩
                        rw [← hz8] at hw8
                        have h16' : (16 : Int) < (n1 : Int) := by omega
                        have h8' : (8 : Int) ≤ (n1 : Int) := by omega
                        clear hz hz8 hc1
                        as_aux_lemma =>
                          refine wp_region_quiet_lit (by kernel_rfl) (by kernel_rfl) ?_
                          iterate 5 quiet_step (fail)
                          quiet_step ((go_at_call 214; exact Calls.quiet_of (hw _)))
                          iterate 2 quiet_step (fail)
                          quiet_step ((go_at_call 214; exact Calls.quiet_of (hw8 _)))
                          as_aux_lemma =>
                            iterate 3 quiet_step (fail)
                            as_aux_lemma =>
                              quiet_step (fail)
                              refine wpQuiet_nil ?_
                              intro _ hw'
                              obtain ⟨nq, hw''⟩ := hw'
                              subst hw''
                              as_aux_lemma =>
                                go_big_wp2_with fail
                                go_meet
                                case rel => exact ⟨_, _, _, _, rfl, HP1.out.drewN _, HS1.out.drewN _, hlt, rfl, fun _ => h16⟩
                      · have hd : decide ((16 : Int) < (n1 : Int)) = false := decide_eq_false (by omega)
                        as_aux_lemma =>
                          go_quiet (fail)
                          go_big_wp2_with fail
                          go_meet
                          case rel => exact ⟨false, _, _, _, rfl, HP1.out.drewN _, HS1.out.drewN _, hlt, rfl, fun h => by cases h⟩
                  case rest =>
                    clear HP1 HS1 hlt hle1
                    obtain ⟨t, A1, n1, f1, rfl, hP1, hS1, hlt, rfl, ht⟩ := hcut
                    have hle1 := hP1.le
                    have HP1 := hid hP1
                    have HS1 := hid hS1
                    clear hP1 hS1
                    cases t
                    ·
                      as_aux_lemma =>
                        clear ht
                        go_big_wp2_with fail
                        go_roundw
                        case rel => exact ⟨_, _, _, rfl, HP1.out, HS1.out⟩
                        case measure => simp [lenOf]; omega
                    · have h16 : 16 < n1 := ht rfl
                      clear ht
                      go_upto_region 9 with fail
                      go_cut [0] (fun y wc => MidV w n y wc)
                      case first =>
                        as_aux_lemma =>
                          obtain ⟨T1, off1, rfl, hc1⟩ := HP1.out.at_ (by omega)
                          clear hc1
                          obtain ⟨m1, rfl⟩ : ∃ m, n1 = m + 16 := ⟨n1 - 16, by omega⟩
                          have hm1 : 0 < m1 := by omega
                          have hm1' : ¬ m1 = 0 := by omega
                          have hP1 := hid (HP1.out.cut 16 (by omega))
                          go_big_wp2_with fail
                          go_meet
                          case rel => exact ⟨_, m1, _, rfl, hP1.out, HS1.out, by omega⟩
                      case rest =>
                        clear HP1 HS1 hlt hle1 h16
                        go_big_wp2_with fail
                        go_loopw [0] (fun y wr => MidV w n y wr) (fun y _ => lenOf y)
                        case atStart => exact hcut
                        case round =>
                          clear hcut
                          obtain ⟨A1, n1, f1, rfl, hP1, hS1, hlt⟩ := hrel
                          have hle1 := hP1.le
                          have HP1 := hid hP1
                          have HS1 := hid hS1
                          clear hP1 hS1
                          go_upto_region 10 with fail
                          go_cut [0, 69] (fun y b wc => MidB 32 w (n1 + 1) y b wc)
                          case first =>
                            as_aux_lemma =>
                              by_cases h32 : 32 < n1
                              · obtain ⟨T1, off1, rfl, hc1⟩ := HP1.out.at_ (by omega)
                                have hne8 : ¬ n1 = 8 := by omega
                                have hne16 : ¬ n1 = 16 := by omega
                                have hne24 : ¬ n1 = 24 := by omega
                                have hw := word_pc (cap := n1) HP1.out 0 (by omega)
                                have hw8 := word_pc (cap := n1 - 8) HP1.out 8 (by omega)
                                have hw16 := word_pc (cap := n1 - 16) HP1.out 16 (by omega)
                                have hw24 := word_pc (cap := n1 - 24) HP1.out 24 (by omega)
                                obtain ⟨z, hz⟩ : ∃ z, z = wordZ fun j => f1 (0 + j) := ⟨_, rfl⟩
                                rw [← hz] at hw
                                obtain ⟨z8, hz8⟩ : ∃ z, z = wordZ fun j => f1 (8 + j) := ⟨_, rfl⟩
                                rw [← hz8] at hw8
                                obtain ⟨z16, hz16⟩ : ∃ z, z = wordZ fun j => f1 (16 + j) := ⟨_, rfl⟩
                                rw [← hz16] at hw16
                                obtain ⟨z24, hz24⟩ : ∃ z, z = wordZ fun j => f1 (24 + j) := ⟨_, rfl⟩
                                rw [← hz24] at hw24
                                have h32' : (32 : Int) < (n1 : Int) := by omega
                                have h8' : (8 : Int) ≤ (n1 : Int) := by omega
                                have h16' : (16 : Int) ≤ (n1 : Int) := by omega
                                have h24' : (24 : Int) ≤ (n1 : Int) := by omega
                                clear hz hz8 hz16 hz24 hc1
                                as_aux_lemma =>
                                  refine wp_region_quiet_lit (by kernel_rfl) (by kernel_rfl) ?_
                                  repeat quiet_step (fail)
                                  quiet_step ((go_at_call 214; exact Calls.quiet_of (hw _)))
                                  repeat quiet_step (fail)
                                  quiet_step ((go_at_call 214; exact Calls.quiet_of (hw8 _)))
                                  repeat quiet_step (fail)
                                  quiet_step ((go_at_call 214; exact Calls.quiet_of (hw16 _)))
                                  repeat quiet_step (fail)
                                  quiet_step ((go_at_call 214; exact Calls.quiet_of (hw24 _)))
                                  repeat quiet_step (fail)
                                  refine wpQuiet_nil ?_
                                  intro _ hw'
                                  obtain ⟨nq, hw''⟩ := hw'
                                  subst hw''
                                  go_big_wp2_with fail
                                  go_meet
                                  case rel => exact ⟨_, _, _, _, rfl, HP1.out.drewN _, HS1.out.drewN _, by omega, rfl, fun _ => h32⟩
                              · have hd : decide ((32 : Int) < (n1 : Int)) = false := decide_eq_false (by omega)
                                as_aux_lemma =>
                                  go_quiet (fail)
                                  go_big_wp2_with fail
                                  go_meet
                                  case rel => exact ⟨false, _, _, _, rfl, HP1.out.drewN _, HS1.out.drewN _, by omega, rfl, fun h => by cases h⟩
                          case rest =>
                            clear HP1 HS1 hle1
                            obtain ⟨t, A2, n2, f2, rfl, hP2, hS2, hlt2, rfl, ht⟩ := hcut
                            have hle2 := hP2.le
                            have HP2 := hid hP2
                            have HS2 := hid hS2
                            clear hP2 hS2
                            cases t
                            ·
                              as_aux_lemma =>
                                clear ht
                                go_big_wp2_with fail
                                go_roundw
                                case rel => exact ⟨_, _, _, rfl, HP2.out, HS2.out⟩
                                case measure => simp [lenOf]; omega
                            · have h32 : 32 < n2 := ht rfl
                              clear ht
                              as_aux_lemma =>
                                obtain ⟨T1, off1, rfl, hc1⟩ := HP2.out.at_ (by omega)
                                clear hc1
                                obtain ⟨m1, rfl⟩ : ∃ m, n2 = m + 32 := ⟨n2 - 32, by omega⟩
                                have hm1 : 0 < m1 := by omega
                                have hm1' : ¬ m1 = 0 := by omega
                                have hP1 := hid (HP2.out.cut 32 (by omega))
                                go_big_wp2_with fail
                                go_roundw
                                case rel => exact ⟨_, m1, _, rfl, hP1.out, HS2.out, by omega⟩
                                case measure => simp [lenOf]; omega
        · have hai : ¬ (f 0 : Int) < 128 := by omega
          have hd0 : decide ((f 0 : Int) < 128) = false := decide_eq_false hai
          obtain ⟨xx, hxx, cxx⟩ := HT'.out.first (f 0) l0
          obtain ⟨lo, hlo, clo⟩ := HT'.out.acc (xx / 16 * 2) (by omega)
          obtain ⟨hi, hhi, chi⟩ := HT'.out.acc (xx / 16 * 2 + 1) (by omega)
          have hx16 : xx / 16 < 16 := by omega
          clear HT HT' HC
          go_upto_region 14 with fail
          go_cut [5, 6] (fun z y wc => AtAcc w T off n f z y wc)
          case first =>
            as_aux_lemma =>
              go_big_wp2_with fail
              go_meet
              case rel => exact ⟨_, _, lo, hi, rfl, rfl, (Row.new _ _ _).cell 0, (Row.new _ _ _).cell 1, HS.out.alloc _, HP.out.same ((Keep.refl _ _).alloc _)⟩
          case rest =>
            clear HS HP c0 l0 ha hai cxx clo chi hxx hlo hhi hn' hx16 hd0
            obtain ⟨k, g, lo, hi, rfl, rfl, clo, chi, hS2, hP2⟩ := hcut
            have HS2 := hid hS2
            have HP2 := hid hP2
            clear hS2 hP2
            by_cases hk2 : k = 2
            · subst hk2
              go_upto_region 18 with fail
              go_cut [103] (fun b wc => Gd 2 w T off n f b wc)
              case first =>
                as_aux_lemma =>
                  by_cases hs : n < 2
                  · have hd : decide ((n : Int) < 2) = true := decide_eq_true (by omega)
                    as_aux_lemma =>
                      go_quiet (fail)
                      go_big_wp2_with fail
                      go_meet
                      case rel => exact ⟨true, rfl, (fun h => by cases h), HS2.out.drewN _, HP2.out.drewN _⟩
                  · have hd : decide ((n : Int) < 2) = false := decide_eq_false (by omega)
                    obtain ⟨T', off', hA, hc⟩ := HP2.out.at_ (by omega)
                    cases hA
                    have c1 := hc 1 (by omega)
                    have i1 : (1 : Int) < (n : Int) := by omega
                    clear hc
                    have hI0 : decide (((f 1 : Nat) : Int) < (lo : Int)) = decide (f 1 < lo) := decide_eq_decide.2 (by omega)
                    cases hb0 : decide (f 1 < lo)
                    all_goals rw [hb0] at hI0
                    rotate_left
                    ·
                      as_aux_lemma =>
                        go_quiet (fail)
                        go_big_wp2_with fail
                        go_meet
                        case rel => exact ⟨_, rfl, (fun _ => by omega), HS2.out.drewN _, HP2.out.drewN _⟩
                    have hI1 : decide ((hi : Int) < ((f 1 : Nat) : Int)) = decide (hi < f 1) := decide_eq_decide.2 (by omega)
                    cases hb1 : decide (hi < f 1)
                    all_goals rw [hb1] at hI1
                    rotate_left
                    ·
                      as_aux_lemma =>
                        go_quiet (fail)
                        go_big_wp2_with fail
                        go_meet
                        case rel => exact ⟨_, rfl, (fun _ => by omega), HS2.out.drewN _, HP2.out.drewN _⟩
                    as_aux_lemma =>
                      go_quiet (fail)
                      go_big_wp2_with fail
                      go_meet
                      case rel => exact ⟨_, rfl, (fun _ => by omega), HS2.out.drewN _, HP2.out.drewN _⟩
              case rest =>
                clear HS2 HP2 clo chi
                obtain ⟨t, rfl, ht, hS3, hP3⟩ := hcut
                have HS3 := hid hS3
                have HP3 := hid hP3
                clear hS3 hP3
                cases t
                · have hs : 2 ≤ n := ht rfl
                  clear ht
                  as_aux_lemma =>
                    rcases Nat.eq_or_lt_of_le hs with h1 | h1
                    · obtain rfl : n = 2 := by omega
                      go_big_wp2_with fail
                      go_roundw
                      case rel => exact ⟨_, 0, f, rfl, Pc.none _ _, HS3.out⟩
                      case measure => simp [lenOf]
                    · obtain ⟨m, rfl⟩ : ∃ m, n = m + 2 := ⟨n - 2, by omega⟩
                      have hm : 0 < m := by omega
                      have hm' : ¬ m = 0 := by omega
                      have hP1 := hid (HP3.out.cut 2 (by omega))
                      clear hle h1 hs
                      go_big_wp2_with fail
                      go_roundw
                      case rel => exact ⟨_, m, _, rfl, hP1.out, HS3.out⟩
                      case measure => simp [lenOf]
                ·
                  as_aux_lemma =>
                    clear ht
                    go_big_wp2_with fail
                    go_ret
                    exact ⟨_, rfl, HS3.out⟩
            by_cases hk3 : k = 3
            · subst hk3
              go_upto_region 22 with fail
              go_cut [138] (fun b wc => Gd 3 w T off n f b wc)
              case first =>
                as_aux_lemma =>
                  by_cases hs : n < 3
                  · have hd : decide ((n : Int) < 3) = true := decide_eq_true (by omega)
                    as_aux_lemma =>
                      go_quiet (fail)
                      go_big_wp2_with fail
                      go_meet
                      case rel => exact ⟨true, rfl, (fun h => by cases h), HS2.out.drewN _, HP2.out.drewN _⟩
                  · have hd : decide ((n : Int) < 3) = false := decide_eq_false (by omega)
                    obtain ⟨T', off', hA, hc⟩ := HP2.out.at_ (by omega)
                    cases hA
                    have c1 := hc 1 (by omega)
                    have i1 : (1 : Int) < (n : Int) := by omega
                    have c2 := hc 2 (by omega)
                    have i2 : (2 : Int) < (n : Int) := by omega
                    clear hc
                    have hI0 : decide (((f 1 : Nat) : Int) < (lo : Int)) = decide (f 1 < lo) := decide_eq_decide.2 (by omega)
                    cases hb0 : decide (f 1 < lo)
                    all_goals rw [hb0] at hI0
                    rotate_left
                    ·
                      as_aux_lemma =>
                        go_quiet (fail)
                        go_big_wp2_with fail
                        go_meet
                        case rel => exact ⟨_, rfl, (fun _ => by omega), HS2.out.drewN _, HP2.out.drewN _⟩
                    have hI1 : decide ((hi : Int) < ((f 1 : Nat) : Int)) = decide (hi < f 1) := decide_eq_decide.2 (by omega)
                    cases hb1 : decide (hi < f 1)
                    all_goals rw [hb1] at hI1
                    rotate_left
                    ·
                      as_aux_lemma =>
                        go_quiet (fail)
                        go_big_wp2_with fail
                        go_meet
                        case rel => exact ⟨_, rfl, (fun _ => by omega), HS2.out.drewN _, HP2.out.drewN _⟩
                    have hI2 : decide (((f 2 : Nat) : Int) < 128) = decide (f 2 < 128) := decide_eq_decide.2 (by omega)
                    cases hb2 : decide (f 2 < 128)
                    all_goals rw [hb2] at hI2
                    rotate_left
                    ·
                      as_aux_lemma =>
                        go_quiet (fail)
                        go_big_wp2_with fail
                        go_meet
                        case rel => exact ⟨_, rfl, (fun _ => by omega), HS2.out.drewN _, HP2.out.drewN _⟩
                    have hI3 : decide (191 < ((f 2 : Nat) : Int)) = decide (191 < f 2) := decide_eq_decide.2 (by omega)
                    cases hb3 : decide (191 < f 2)
                    all_goals rw [hb3] at hI3
                    rotate_left
                    ·
                      as_aux_lemma =>
                        go_quiet (fail)
                        go_big_wp2_with fail
                        go_meet
                        case rel => exact ⟨_, rfl, (fun _ => by omega), HS2.out.drewN _, HP2.out.drewN _⟩
                    as_aux_lemma =>
                      go_quiet (fail)
                      go_big_wp2_with fail
                      go_meet
                      case rel => exact ⟨_, rfl, (fun _ => by omega), HS2.out.drewN _, HP2.out.drewN _⟩
              case rest =>
                clear HS2 HP2 clo chi
                obtain ⟨t, rfl, ht, hS3, hP3⟩ := hcut
                have HS3 := hid hS3
                have HP3 := hid hP3
                clear hS3 hP3
                cases t
                · have hs : 3 ≤ n := ht rfl
                  clear ht
                  as_aux_lemma =>
                    rcases Nat.eq_or_lt_of_le hs with h1 | h1
                    · obtain rfl : n = 3 := by omega
                      go_big_wp2_with fail
                      go_roundw
                      case rel => exact ⟨_, 0, f, rfl, Pc.none _ _, HS3.out⟩
                      case measure => simp [lenOf]
                    · obtain ⟨m, rfl⟩ : ∃ m, n = m + 3 := ⟨n - 3, by omega⟩
                      have hm : 0 < m := by omega
                      have hm' : ¬ m = 0 := by omega
                      have hP1 := hid (HP3.out.cut 3 (by omega))
                      clear hle h1 hs
                      go_big_wp2_with fail
                      go_roundw
                      case rel => exact ⟨_, m, _, rfl, hP1.out, HS3.out⟩
                      case measure => simp [lenOf]
                ·
                  as_aux_lemma =>
                    clear ht
                    go_big_wp2_with fail
                    go_ret
                    exact ⟨_, rfl, HS3.out⟩
            by_cases hk4 : k = 4
            · subst hk4
              go_upto_region 26 with fail
              go_cut [185] (fun b wc => Gd 4 w T off n f b wc)
              case first =>
                as_aux_lemma =>
                  by_cases hs : n < 4
                  · have hd : decide ((n : Int) < 4) = true := decide_eq_true (by omega)
                    as_aux_lemma =>
                      go_quiet (fail)
                      go_big_wp2_with fail
                      go_meet
                      case rel => exact ⟨true, rfl, (fun h => by cases h), HS2.out.drewN _, HP2.out.drewN _⟩
                  · have hd : decide ((n : Int) < 4) = false := decide_eq_false (by omega)
                    obtain ⟨T', off', hA, hc⟩ := HP2.out.at_ (by omega)
                    cases hA
                    have c1 := hc 1 (by omega)
                    have i1 : (1 : Int) < (n : Int) := by omega
                    have c2 := hc 2 (by omega)
                    have i2 : (2 : Int) < (n : Int) := by omega
                    have c3 := hc 3 (by omega)
                    have i3 : (3 : Int) < (n : Int) := by omega
                    clear hc
                    have hI0 : decide (((f 1 : Nat) : Int) < (lo : Int)) = decide (f 1 < lo) := decide_eq_decide.2 (by omega)
                    cases hb0 : decide (f 1 < lo)
                    all_goals rw [hb0] at hI0
                    rotate_left
                    ·
                      as_aux_lemma =>
                        go_quiet (fail)
                        go_big_wp2_with fail
                        go_meet
                        case rel => exact ⟨_, rfl, (fun _ => by omega), HS2.out.drewN _, HP2.out.drewN _⟩
                    have hI1 : decide ((hi : Int) < ((f 1 : Nat) : Int)) = decide (hi < f 1) := decide_eq_decide.2 (by omega)
                    cases hb1 : decide (hi < f 1)
                    all_goals rw [hb1] at hI1
                    rotate_left
                    ·
                      as_aux_lemma =>
                        go_quiet (fail)
                        go_big_wp2_with fail
                        go_meet
                        case rel => exact ⟨_, rfl, (fun _ => by omega), HS2.out.drewN _, HP2.out.drewN _⟩
                    have hI2 : decide (((f 2 : Nat) : Int) < 128) = decide (f 2 < 128) := decide_eq_decide.2 (by omega)
                    cases hb2 : decide (f 2 < 128)
                    all_goals rw [hb2] at hI2
                    rotate_left
                    ·
                      as_aux_lemma =>
                        go_quiet (fail)
                        go_big_wp2_with fail
                        go_meet
                        case rel => exact ⟨_, rfl, (fun _ => by omega), HS2.out.drewN _, HP2.out.drewN _⟩
                    have hI3 : decide (191 < ((f 2 : Nat) : Int)) = decide (191 < f 2) := decide_eq_decide.2 (by omega)
                    cases hb3 : decide (191 < f 2)
                    all_goals rw [hb3] at hI3
                    rotate_left
                    ·
                      as_aux_lemma =>
                        go_quiet (fail)
                        go_big_wp2_with fail
                        go_meet
                        case rel => exact ⟨_, rfl, (fun _ => by omega), HS2.out.drewN _, HP2.out.drewN _⟩
                    have hI4 : decide (((f 3 : Nat) : Int) < 128) = decide (f 3 < 128) := decide_eq_decide.2 (by omega)
                    cases hb4 : decide (f 3 < 128)
                    all_goals rw [hb4] at hI4
                    rotate_left
                    ·
                      as_aux_lemma =>
                        go_quiet (fail)
                        go_big_wp2_with fail
                        go_meet
                        case rel => exact ⟨_, rfl, (fun _ => by omega), HS2.out.drewN _, HP2.out.drewN _⟩
                    have hI5 : decide (191 < ((f 3 : Nat) : Int)) = decide (191 < f 3) := decide_eq_decide.2 (by omega)
                    cases hb5 : decide (191 < f 3)
                    all_goals rw [hb5] at hI5
                    rotate_left
                    ·
                      as_aux_lemma =>
                        go_quiet (fail)
                        go_big_wp2_with fail
                        go_meet
                        case rel => exact ⟨_, rfl, (fun _ => by omega), HS2.out.drewN _, HP2.out.drewN _⟩
                    as_aux_lemma =>
                      go_quiet (fail)
                      go_big_wp2_with fail
                      go_meet
                      case rel => exact ⟨_, rfl, (fun _ => by omega), HS2.out.drewN _, HP2.out.drewN _⟩
              case rest =>
                clear HS2 HP2 clo chi
                obtain ⟨t, rfl, ht, hS3, hP3⟩ := hcut
                have HS3 := hid hS3
                have HP3 := hid hP3
                clear hS3 hP3
                cases t
                · have hs : 4 ≤ n := ht rfl
                  clear ht
                  as_aux_lemma =>
                    rcases Nat.eq_or_lt_of_le hs with h1 | h1
                    · obtain rfl : n = 4 := by omega
                      go_big_wp2_with fail
                      go_roundw
                      case rel => exact ⟨_, 0, f, rfl, Pc.none _ _, HS3.out⟩
                      case measure => simp [lenOf]
                    · obtain ⟨m, rfl⟩ : ∃ m, n = m + 4 := ⟨n - 4, by omega⟩
                      have hm : 0 < m := by omega
                      have hm' : ¬ m = 0 := by omega
                      have hP1 := hid (HP3.out.cut 4 (by omega))
                      clear hle h1 hs
                      go_big_wp2_with fail
                      go_roundw
                      case rel => exact ⟨_, m, _, rfl, hP1.out, HS3.out⟩
                      case measure => simp [lenOf]
                ·
                  as_aux_lemma =>
                    clear ht
                    go_big_wp2_with fail
                    go_ret
                    exact ⟨_, rfl, HS3.out⟩
            ·
              as_aux_lemma =>
                have b2 : (k == 2) = false := by simpa using hk2
                have b3 : (k == 3) = false := by simpa using hk3
                have b4 : (k == 4) = false := by simpa using hk4
                clear hk2 hk3 hk4
                go_big_wp2_with fail
                go_ret
                exact ⟨_, rfl, HS2.out⟩
end Go.Proofs.YticdagnbnmnidaaGreatDoor
