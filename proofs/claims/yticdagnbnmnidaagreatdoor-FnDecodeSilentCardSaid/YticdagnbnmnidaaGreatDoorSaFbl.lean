/- Decimals of many digits: the bits of the nearest float, the walk. Conditions: none. -/
import Derived.Test.YticdagnbnmnidaaGreatDoorSaFbits
import Derived.Deep.CutBlock
import Derived.Deep.LoopGhost
import Derived.Deep.DeepCutAuto
set_option linter.unusedSimpArgs false
set_option linter.unusedVariables false
namespace Go.Proofs.YticdagnbnmnidaaGreatDoor
open Go.RowKit

theorem Lay.keepG {w0 w wr : World} {g : Nat} (hl : Lay w0 w) (hg : w0.heap.size ≤ g) (hk : Keep (fun k => k = g) w wr) : Lay w0 wr :=
  hl.keep hk (fun k hlt e => by have e' : k = g := e; omega)

/-- the decimal as it stands within floatBits -/
structure Fb (g : Nat) (w w0 : World) (c : Dm) (wr : World) : Prop where
  at_ : DmAt wr g c
  ok : c.Ok
  keep : Keep (fun k => k = g) w wr
  tabs : FTabs wr
theorem Fb.drewN {g : Nat} {w w0 wr : World} {c : Dm} (h : Fb g w w0 c wr) (n : Nat) : Fb g w w0 c (wr.drewN n) :=
  ⟨h.at_.drewN n, h.ok, h.keep.drewN n, h.tabs.lay (fun _ _ => rfl)⟩
theorem Fb.next {g : Nat} {w w0 wr w2 : World} {c c2 : Dm} (h : Fb g w w0 c wr) (hl : Lay w0 w) (hg : w0.heap.size ≤ g) (ht : FTabs w0) (h1 : DmAt w2 g c2) (h2 : c2.Ok) (h3 : Keep (fun k => k = g) wr w2) : Fb g w w0 c2 w2 :=
  ⟨h1, h2, h.keep.trans h3, ht.lay (hl.keepG hg (h.keep.trans h3))⟩
theorem Fb.d0 {g : Nat} {w w0 wr : World} {c : Dm} (h : Fb g w w0 c wr) : 1 ≤ c.d 0 ∧ c.d 0 ≤ 9 := by
  have a := h.ok.dig 0 h.ok.pos
  have b := h.ok.first
  unfold Dm.d
  omega

set_option maxRecDepth 1000000 in
set_option maxHeartbeats 16000000 in
theorem floatBits_any (g : Nat) (c : Dm) (w w0 : World) (h : DmAt w g c) (hc : c.SetOk) (hl : Lay w0 w) (hg : w0.heap.size ≤ g) (ht : FTabs w0) :
    Calls Tryz.prog 295 #[.pointer (some ⟨g, 0, none⟩), .pointer (some ⟨16, 0, none⟩)] w (GivesBits g w) := by
  have T : FTabs w := ht.lay hl
  have i0 := T.info.mant
  have i1 := T.info.exp
  have i2 := T.info.bias
  have f0 := h.nd
  have f1 := h.dp
  have Hi : Hid (InfoTab w) := T.info
  have Hn : Hid (∃ b : Bool, w.cell? ⟨g, 802, none⟩ = some (.bool b)) := ⟨_, h.neg⟩
  have HT := hid T
  have HL := hid hl
  have HTT := hid ht
  have H := hid h
  have HC := hid hc
  clear T hl ht h hc
  go_enter Tryz.func295, Tryz.ntmps295
  go_wp2_with fail
  refine wp_scope_two (AtOut g w) (AtOver g w) (rest0 := rest295 0) (rest1 := rest295 1) (by with_unfolding_all rfl) (by with_unfolding_all rfl) (out_295 g w) (over_295 g w) ?_
  by_cases hz : c.nd = 0
  · have hzb : ((c.nd : Int) == 0) = true := by simp [hz]
    clear hz
    go_wp2_with fail
    go_step3
    refine .inl ⟨rfl, ?_⟩
    unfold AtOut
    exact ⟨_, _, _, _, _, _, _, _, _, _, _, _, _, _, _, _, _, _, _, _, _, _, _, _, _, _, _, _, _, _, _, _, _, _, _, _, _, _, _, _, _, _, _, _, _, _, _, _, _, _, _, _, _, _, _, _, _, _, _, _, _, _, _, _, _, _, _, _, _, _, _, _, _, _, _, _, _, _, _, _, _, _, _, _, _, _, _, _, _, _, _, _, _, _, _, _, _, _, _, _, _, _, _, _, _, _, _, _, _, _, _, _, _, _, _, _, _, _, _, _, _, _, _, _, _, _, _, _, _, _, _, _, _, _, _, _, _, _, _, _, _, _, _, _, _, _, _, _, _, _, _, _, _, _, _, _, _, _, _, _, _, _, _, _, _, _, _, _, _, _, _, _, _, _, _, _, _, _, _, _, _, _, _, _, _, _, _, _, _, _, _, _, _, _, _, _, _, _, _, _, _, _, _, _, _, _, _, _, _, _, _, _, _, _, _, _, _, _, _, _, _, _, _, _, _, _, _, _, _, _, _, _, _, _, _, _, _, _, _, _, _, rfl, Hi, Hn, Keep.refl _ _⟩
  have hzb : ((c.nd : Int) == 0) = false := by simp; omega
  have HO := hid (HC.out.ok (by omega))
  clear hz
  by_cases hb : 310 < c.dp
  · go_wp2_with fail
    go_step3
    refine .inr ⟨rfl, ?_⟩
    unfold AtOver
    exact ⟨_, _, _, _, _, _, _, _, _, _, _, _, _, _, _, _, _, _, _, _, _, _, _, _, _, _, _, _, _, _, _, _, _, _, _, _, _, _, _, _, _, _, _, _, _, _, _, _, _, _, _, _, _, _, _, _, _, _, _, _, _, _, _, _, _, _, _, _, _, _, _, _, _, _, _, _, _, _, _, _, _, _, _, _, _, _, _, _, _, _, _, _, _, _, _, _, _, _, _, _, _, _, _, _, _, _, _, _, _, _, _, _, _, _, _, _, _, _, _, _, _, _, _, _, _, _, _, _, _, _, _, _, _, _, _, _, _, _, _, _, _, _, _, _, _, _, _, _, _, _, _, _, _, _, _, _, _, _, _, _, _, _, _, _, _, _, _, _, _, _, _, _, _, _, _, _, _, _, _, _, _, _, _, _, _, _, _, _, _, _, _, _, _, _, _, _, _, _, _, _, _, _, _, _, _, _, _, _, _, _, _, _, _, _, _, _, _, _, _, _, _, _, _, _, _, _, _, _, _, _, _, _, _, _, _, _, _, _, _, _, _, rfl, Hi, Hn, Keep.refl _ _⟩
  by_cases hs : c.dp < -330
  · go_wp2_with fail
    go_step3
    refine .inl ⟨rfl, ?_⟩
    unfold AtOut
    exact ⟨_, _, _, _, _, _, _, _, _, _, _, _, _, _, _, _, _, _, _, _, _, _, _, _, _, _, _, _, _, _, _, _, _, _, _, _, _, _, _, _, _, _, _, _, _, _, _, _, _, _, _, _, _, _, _, _, _, _, _, _, _, _, _, _, _, _, _, _, _, _, _, _, _, _, _, _, _, _, _, _, _, _, _, _, _, _, _, _, _, _, _, _, _, _, _, _, _, _, _, _, _, _, _, _, _, _, _, _, _, _, _, _, _, _, _, _, _, _, _, _, _, _, _, _, _, _, _, _, _, _, _, _, _, _, _, _, _, _, _, _, _, _, _, _, _, _, _, _, _, _, _, _, _, _, _, _, _, _, _, _, _, _, _, _, _, _, _, _, _, _, _, _, _, _, _, _, _, _, _, _, _, _, _, _, _, _, _, _, _, _, _, _, _, _, _, _, _, _, _, _, _, _, _, _, _, _, _, _, _, _, _, _, _, _, _, _, _, _, _, _, _, _, _, _, _, _, _, _, _, _, _, _, _, _, _, _, _, _, _, _, _, rfl, Hi, Hn, Keep.refl _ _⟩
  go_upto_block 0 with fail
  go_cut [6] (fun x wc => ∃ (X : Int) (c2 : Dm), x = .int .i64 X ∧ 0 ≤ X ∧ X ≤ 400000 ∧ Hid (Fb g w w0 c2 wc) ∧ -900 ≤ c2.dp ∧ c2.dp ≤ 0)
  case first => as_aux_lemma =>
    have HF : Hid (Fb g w w0 c w) := ⟨H.out, HO.out, Keep.refl _ _, HT.out⟩
    have hd := HF.out.d0
    clear i0 i1 i2 f0
    go_wp2_with fail
    go_loopg [6] (10 * c.dp + (c.d 0 : Int) + 8630).toNat (fun q x wr => ∃ (X : Int) (c2 : Dm), x = .int .i64 X ∧ 0 ≤ X ∧ X ≤ 27 * (11740 - (q : Int)) ∧ Hid (Fb g w w0 c2 wr) ∧ -900 ≤ c2.dp ∧ c2.dp ≤ 310 ∧ (q : Int) = 10 * c2.dp + (c2.d 0 : Int) + 8630)
    case atStart => exact ⟨0, c, rfl, by omega, by omega, HF.out, by omega, by omega, by omega⟩
    case round =>
      clear f1 hzb hb hs hd
      obtain ⟨X, c2, rfl, hx1, hx2, hF, hp1, hp2, hq⟩ := hrel
      have f1 := hF.out.at_.dp
      by_cases hp : 0 < c2.dp
      · obtain ⟨pb, po, pc, p0, p1⟩ := hF.out.tabs.pw
        go_wp2_with fail
        go_quiet (fail)
        go_upto_if 46 with fail
        go_cut [8] (fun y wc => ∃ (n m : Nat), 1 ≤ n ∧ n ≤ 27 ∧ y = .int .i64 n ∧ Hid (wc = wr.drewN m))
        case first => as_aux_lemma =>
          clear hq hx1 hx2
          obtain ⟨D, hD⟩ : ∃ D : Nat, c2.dp = D := ⟨c2.dp.toNat, by omega⟩
          rw [hD] at f1 hp ⊢
          by_cases h9 : 9 ≤ D
          · have g9 : decide ((9 : Int) ≤ (D : Int)) = true := decide_eq_true (by omega)
            clear p1
            go_wp2_with fail
            go_meet
            case rel => exact ⟨27, _, by omega, by omega, rfl, rfl⟩
          · have g9 : decide ((9 : Int) ≤ (D : Int)) = false := decide_eq_false (by omega)
            have p2 := p1 D (by omega)
            obtain ⟨y1, y2, -, -⟩ := pwt_le (i := D) (by omega)
            have gi : (D : Int) < 9 := by omega
            generalize pwt D = n at p2 y1 y2
            clear p1 h9
            go_wp2_with fail
            go_quiet (fail)
            go_wp2_with fail
            go_meet
            case rel => exact ⟨n, _, y1, by omega, rfl, World.drewN_drewN ..⟩
        case rest => as_aux_lemma =>
          obtain ⟨n, m, hn1, hn2, rfl, hw⟩ := hcut
          obtain rfl := hw.out
          clear hw f1
          go_wp2_with fail
          refine (shiftR_any g n c2 _ (hF.out.at_.drewN m) hF.out.ok hn1 (by omega) (by omega) (by omega)).mono ?_
          rintro e w' ⟨c3, r, rfl, hD3, hO3, hK3, -, hp3, hr1, hr2, -, hr3⟩
          have HF3 := hid ((hF.out.drewN m).next HL.out hg HTT.out hD3 hO3 hK3)
          have hd3 := HF3.out.d0
          have hd2 := hF.out.d0
          have hlt : 10 * c3.dp + (c3.d 0 : Int) < 10 * c2.dp + (c2.d 0 : Int) := by
            rcases Nat.lt_or_ge r 2 with h | h
            · have := hr3 (by omega); omega
            · omega
          have hge : 0 ≤ 10 * c3.dp + (c3.d 0 : Int) + 8630 := by omega
          clear hD3 hO3 hK3 hr3
          obtain ⟨q3, hq3⟩ : ∃ q3 : Nat, (q3 : Int) = 10 * c3.dp + (c3.d 0 : Int) + 8630 := ⟨(10 * c3.dp + (c3.d 0 : Int) + 8630).toNat, by omega⟩
          have HQ := hid hq3
          have hx3 : X + (n : Int) ≤ 27 * (11740 - (q3 : Int)) := by omega
          have hm3 : q3 < gk := by omega
          have hp31 : -900 ≤ c3.dp := by omega
          have hp32 : c3.dp ≤ 310 := by omega
          have hx1' : 0 ≤ X + (n : Int) := by omega
          have hxw : X + (n : Int) ≤ 400000 := by omega
          clear hq3 hlt hge hp3 hr1 hr2 hd3 hd2 hq
          go_wp2_with fail
          go_roundg q3
          case measure => exact hm3
          case rel => exact ⟨X + n, c3, rfl, hx1', hx3, HF3.out, hp31, hp32, HQ.out⟩
      · go_wp2_with fail
        go_meet
        case rel => exact ⟨X, c2, rfl, hx1, by omega, hF.out, hp1, by omega⟩
  case rest => as_aux_lemma =>
    clear f0 f1 hzb hb hs i0 i1 i2
    obtain ⟨X, c1, rfl, hx1, hx2, hF1, hp1, hp2⟩ := hcut
    go_upto_block 2 with fail
    go_cut [6] (fun x wc => ∃ (X : Int) (c2 : Dm), x = .int .i64 X ∧ -280000 ≤ X ∧ X ≤ 400000 ∧ Hid (Fb g w w0 c2 wc) ∧ -900 ≤ c2.dp ∧ c2.dp ≤ 60)
    case first => as_aux_lemma =>
      have hd := hF1.out.d0
      go_wp2_with fail
      go_loopg [6] (620 - 10 * c1.dp - (c1.d 0 : Int)).toNat (fun q x wr => ∃ (X : Int) (c2 : Dm), x = .int .i64 X ∧ X ≤ 400000 ∧ -27 * (9640 - (q : Int)) ≤ X ∧ Hid (Fb g w w0 c2 wr) ∧ -900 ≤ c2.dp ∧ c2.dp ≤ 60 ∧ (q : Int) = 620 - 10 * c2.dp - (c2.d 0 : Int))
      case atStart => exact ⟨X, c1, rfl, by omega, by omega, hF1.out, by omega, by omega, by omega⟩
      case round =>
        clear hx1 hx2 hF1 hp1 hp2 hd
        clear X c1
        obtain ⟨X, c2, rfl, hx1, hx2, hF, hp1, hp2, hq⟩ := hrel
        have f1 := hF.out.at_.dp
        have fb := hF.out.at_.byte (i := 0) (by omega)
        go_upto_region 18 with fail
        go_cut [80] (fun y wc => (∃ t : Bool, y = .bool t ∧ (t = true → c2.dp ≤ 0)) ∧ Hid (wr = wc))
        case first => as_aux_lemma =>
          by_cases h1 : c2.dp < 0
          · go_wp2_with fail
            go_meet
            case rel => exact ⟨⟨true, rfl, fun _ => by omega⟩, rfl⟩
          · by_cases h2 : c2.dp = 0
            · rw [h2] at f1
              have H2 := hid h2
              clear h1 h2 hq hp1 hp2
              go_wp2_with fail
              go_meet
              case rel => exact ⟨⟨_, rfl, fun _ => by have := H2.out; omega⟩, rfl⟩
            · have h2b : (c2.dp == 0) = false := by simp; omega
              clear h2
              go_wp2_with fail
              go_meet
              case rel => exact ⟨⟨false, rfl, fun h => by cases h⟩, rfl⟩
        case rest => as_aux_lemma =>
          obtain ⟨⟨t, rfl, hdp⟩, hw⟩ := hcut
          obtain rfl := hw.out
          clear hw fb
          cases t
          · clear hdp
            go_wp2_with fail
            go_meet
            case rel => exact ⟨X, c2, rfl, by omega, hx1, hF.out, hp1, hp2⟩
          · have hp := hdp rfl
            clear hdp
            obtain ⟨pb, po, pc, p0, p1⟩ := hF.out.tabs.pw
            go_wp2_with fail
            go_quiet (fail)
            go_upto_if 88 with fail
            go_cut [9] (fun y wc => ∃ (n m : Nat), 1 ≤ n ∧ n ≤ 27 ∧ y = .int .i64 n ∧ Hid (wc = wr.drewN m))
            case first => as_aux_lemma =>
              clear hq hx1 hx2
              obtain ⟨D, hD⟩ : ∃ D : Nat, c2.dp = -(D : Int) := ⟨(-c2.dp).toNat, by omega⟩
              rw [hD] at f1 hp ⊢
              by_cases h9 : 9 ≤ D
              · have g9 : decide ((9 : Int) ≤ (D : Int)) = true := decide_eq_true (by omega)
                clear p1
                go_wp2_with fail
                go_meet
                case rel => exact ⟨27, _, by omega, by omega, rfl, rfl⟩
              · have g9 : decide ((9 : Int) ≤ (D : Int)) = false := decide_eq_false (by omega)
                have p2 := p1 D (by omega)
                obtain ⟨y1, y2, -, -⟩ := pwt_le (i := D) (by omega)
                have gi : (D : Int) < 9 := by omega
                generalize pwt D = n at p2 y1 y2
                clear p1 h9
                go_wp2_with fail
                go_quiet (fail)
                go_wp2_with fail
                go_meet
                case rel => exact ⟨n, _, y1, by omega, rfl, World.drewN_drewN ..⟩
            case rest => as_aux_lemma =>
              obtain ⟨n, m, hn1, hn2, rfl, hw⟩ := hcut
              obtain rfl := hw.out
              clear hw f1
              go_wp2_with fail
              refine (shiftL_any g n c2 _ (hF.out.at_.drewN m) hF.out.ok hn1 (by omega) (hF.out.drewN m).tabs.cheat (by omega) (by omega)).mono ?_
              rintro e w' ⟨c3, r, rfl, hD3, hO3, hK3, -, hp3, hr1, -, hr3⟩
              have HF3 := hid ((hF.out.drewN m).next HL.out hg HTT.out hD3 hO3 hK3)
              have hd3 := HF3.out.d0
              have hd2 := hF.out.d0
              have hlt : 620 - 10 * c3.dp - (c3.d 0 : Int) < 620 - 10 * c2.dp - (c2.d 0 : Int) := by
                rcases Nat.lt_or_ge r 1 with h | h
                · have h3 := hr3 (by omega)
                  have h4 : 2 * c2.d 0 ≤ 2 ^ n * c2.d 0 := Nat.mul_le_mul_right _ (by
                    calc 2 = 2 ^ 1 := rfl
                      _ ≤ 2 ^ n := Nat.pow_le_pow_right (by omega) hn1)
                  omega
                · clear hr3; omega
              clear hD3 hO3 hK3 hr3
              have hge : 0 ≤ 620 - 10 * c3.dp - (c3.d 0 : Int) := by omega
              obtain ⟨q3, hq3⟩ : ∃ q3 : Nat, (q3 : Int) = 620 - 10 * c3.dp - (c3.d 0 : Int) := ⟨(620 - 10 * c3.dp - (c3.d 0 : Int)).toNat, by omega⟩
              have HQ := hid hq3
              have hx3 : -27 * (9640 - (q3 : Int)) ≤ X - (n : Int) := by omega
              have hm3 : q3 < gk := by omega
              have hp31 : -900 ≤ c3.dp := by omega
              have hp32 : c3.dp ≤ 60 := by omega
              have hx1' : X - (n : Int) ≤ 400000 := by omega
              have hxw : -280000 ≤ X - (n : Int) := by omega
              clear hq3 hlt hge hp3 hr1 hd3 hd2 hq
              go_wp2_with fail
              go_roundg q3
              case measure => exact hm3
              case rel => exact ⟨X - n, c3, rfl, hx1', hx3, HF3.out, hp31, hp32, HQ.out⟩
    case rest => as_aux_lemma =>
      clear hx1 hx2 hF1 hp1 hp2
      obtain ⟨X2, c2, rfl, hx1, hx2, hF, hp1, hp2⟩ := hcut
      have i0 := hF.out.tabs.info.mant
      have i1 := hF.out.tabs.info.exp
      have i2 := hF.out.tabs.info.bias
      go_upto_if 111 with fail
      go_cut [6] (fun x wc => ∃ (X : Int) (c3 : Dm), x = .int .i64 X ∧ -300000 ≤ X ∧ X ≤ 500000 ∧ Hid (Fb g w w0 c3 wc) ∧ -300000000 ≤ c3.dp ∧ c3.dp ≤ 60)
      case first => as_aux_lemma =>
        by_cases hn : X2 - 1 < -1022
        · obtain ⟨n, hN⟩ : ∃ n : Nat, (n : Int) = -1022 - (X2 - 1) := ⟨(-1022 - (X2 - 1)).toNat, by omega⟩
          have HN := hid hN
          have n1 : 1 ≤ n := by omega
          have n2 : n ≤ 300000 := by omega
          clear hN
          go_upto_region 27 with fail
          go_cut [10] (fun y w2 => y = .int .i64 n ∧ Hid (wc = w2))
          case first =>
            go_wp2_with fail
            go_meet
            case rel => exact ⟨congrArg _ (by have := HN.out; omega), rfl⟩
          obtain ⟨rfl, hw⟩ := hcut
          obtain rfl := hw.out
          clear hw
          go_wp2_with fail
          refine (shiftRn_any g n c2 _ hF.out.at_ hF.out.ok n1 n2 (by omega) (by omega)).mono ?_
          rintro e w' ⟨c3, rfl, hD3, hO3, hK3, -, hp3, hp4⟩
          have HF3 := hid (hF.out.next HL.out hg HTT.out hD3 hO3 hK3)
          have q1 : -300000000 ≤ c3.dp := by omega
          have q2 : c3.dp ≤ 60 := by omega
          clear hD3 hO3 hK3 hp3 hp4
          go_wp2_with fail
          go_meet
          case rel => exact ⟨_, c3, rfl, by omega, by omega, HF3.out, q1, q2⟩
        · go_wp2_with fail
          go_meet
          case rel => exact ⟨_, c2, rfl, by omega, by omega, hF.out, by omega, by omega⟩
      case rest => as_aux_lemma =>
        clear hx1 hx2 hF hp1 hp2 i0 i1 i2
        obtain ⟨X3, c3, rfl, hx1, hx2, hF, hp1, hp2⟩ := hcut
        have i0 := hF.out.tabs.info.mant
        have i1 := hF.out.tabs.info.exp
        have i2 := hF.out.tabs.info.bias
        have Hi3 : Hid (InfoTab _) := hF.out.tabs.info
        go_wp2_with fail
        go_quiet (fail)
        go_wp2_with fail
        · go_step3
          refine .inr ⟨rfl, ?_⟩
          unfold AtOver
          exact ⟨_, _, _, _, _, _, _, _, _, _, _, _, _, _, _, _, _, _, _, _, _, _, _, _, _, _, _, _, _, _, _, _, _, _, _, _, _, _, _, _, _, _, _, _, _, _, _, _, _, _, _, _, _, _, _, _, _, _, _, _, _, _, _, _, _, _, _, _, _, _, _, _, _, _, _, _, _, _, _, _, _, _, _, _, _, _, _, _, _, _, _, _, _, _, _, _, _, _, _, _, _, _, _, _, _, _, _, _, _, _, _, _, _, _, _, _, _, _, _, _, _, _, _, _, _, _, _, _, _, _, _, _, _, _, _, _, _, _, _, _, _, _, _, _, _, _, _, _, _, _, _, _, _, _, _, _, _, _, _, _, _, _, _, _, _, _, _, _, _, _, _, _, _, _, _, _, _, _, _, _, _, _, _, _, _, _, _, _, _, _, _, _, _, _, _, _, _, _, _, _, _, _, _, _, _, _, _, _, _, _, _, _, _, _, _, _, _, _, _, _, _, _, _, _, _, _, _, _, _, _, _, _, _, _, _, _, _, _, _, _, _, rfl, (hF.out.drewN nq).tabs.info, ⟨_, (hF.out.drewN nq).at_.neg⟩, (hF.out.drewN nq).keep⟩
        · refine (shiftL_any g 53 c3 _ (hF.out.drewN nq).at_ hF.out.ok (by omega) (by omega) (hF.out.drewN nq).tabs.cheat (by omega) (by omega)).mono ?_
          rintro e w' ⟨c4, r, rfl, hD3, hO3, hK3, -, hp3, hr1, -, -⟩
          have HF4 := hid ((hF.out.drewN nq).next HL.out hg HTT.out hD3 hO3 hK3)
          have q1 : -1000000000 ≤ c4.dp := by omega
          have q2 : c4.dp ≤ 1000000000 := by omega
          clear hD3 hO3 hK3 hp3 hp1 hp2 hF i0 i1 i2 hr1 Hi3
          have i0 := HF4.out.tabs.info.mant
          have i1 := HF4.out.tabs.info.exp
          have i2 := HF4.out.tabs.info.bias
          go_wp2_with fail
          refine (rounded_any g c4 _ HF4.out.at_ HF4.out.ok q1 q2).mono ?_
          rintro e w2 ⟨⟨M, rfl⟩, rfl⟩
          go_wp2_with fail
          · go_quiet (fail)
            go_wp2_with fail
            · go_step3
              refine .inr ⟨rfl, ?_⟩
              unfold AtOver
              exact ⟨_, _, _, _, _, _, _, _, _, _, _, _, _, _, _, _, _, _, _, _, _, _, _, _, _, _, _, _, _, _, _, _, _, _, _, _, _, _, _, _, _, _, _, _, _, _, _, _, _, _, _, _, _, _, _, _, _, _, _, _, _, _, _, _, _, _, _, _, _, _, _, _, _, _, _, _, _, _, _, _, _, _, _, _, _, _, _, _, _, _, _, _, _, _, _, _, _, _, _, _, _, _, _, _, _, _, _, _, _, _, _, _, _, _, _, _, _, _, _, _, _, _, _, _, _, _, _, _, _, _, _, _, _, _, _, _, _, _, _, _, _, _, _, _, _, _, _, _, _, _, _, _, _, _, _, _, _, _, _, _, _, _, _, _, _, _, _, _, _, _, _, _, _, _, _, _, _, _, _, _, _, _, _, _, _, _, _, _, _, _, _, _, _, _, _, _, _, _, _, _, _, _, _, _, _, _, _, _, _, _, _, _, _, _, _, _, _, _, _, _, _, _, _, _, _, _, _, _, _, _, _, _, _, _, _, _, _, _, _, _, _, rfl, (HF4.out.drewN _).tabs.info, ⟨_, (HF4.out.drewN _).at_.neg⟩, (HF4.out.drewN _).keep⟩
            all_goals
              go_step3
              refine .inl ⟨rfl, ?_⟩
              unfold AtOut
              exact ⟨_, _, _, _, _, _, _, _, _, _, _, _, _, _, _, _, _, _, _, _, _, _, _, _, _, _, _, _, _, _, _, _, _, _, _, _, _, _, _, _, _, _, _, _, _, _, _, _, _, _, _, _, _, _, _, _, _, _, _, _, _, _, _, _, _, _, _, _, _, _, _, _, _, _, _, _, _, _, _, _, _, _, _, _, _, _, _, _, _, _, _, _, _, _, _, _, _, _, _, _, _, _, _, _, _, _, _, _, _, _, _, _, _, _, _, _, _, _, _, _, _, _, _, _, _, _, _, _, _, _, _, _, _, _, _, _, _, _, _, _, _, _, _, _, _, _, _, _, _, _, _, _, _, _, _, _, _, _, _, _, _, _, _, _, _, _, _, _, _, _, _, _, _, _, _, _, _, _, _, _, _, _, _, _, _, _, _, _, _, _, _, _, _, _, _, _, _, _, _, _, _, _, _, _, _, _, _, _, _, _, _, _, _, _, _, _, _, _, _, _, _, _, _, _, _, _, _, _, _, _, _, _, _, _, _, _, _, _, _, _, _, rfl, (HF4.out.drewN _).tabs.info, ⟨_, (HF4.out.drewN _).at_.neg⟩, (HF4.out.drewN _).keep⟩
          all_goals
            go_step3
            refine .inl ⟨rfl, ?_⟩
            unfold AtOut
            exact ⟨_, _, _, _, _, _, _, _, _, _, _, _, _, _, _, _, _, _, _, _, _, _, _, _, _, _, _, _, _, _, _, _, _, _, _, _, _, _, _, _, _, _, _, _, _, _, _, _, _, _, _, _, _, _, _, _, _, _, _, _, _, _, _, _, _, _, _, _, _, _, _, _, _, _, _, _, _, _, _, _, _, _, _, _, _, _, _, _, _, _, _, _, _, _, _, _, _, _, _, _, _, _, _, _, _, _, _, _, _, _, _, _, _, _, _, _, _, _, _, _, _, _, _, _, _, _, _, _, _, _, _, _, _, _, _, _, _, _, _, _, _, _, _, _, _, _, _, _, _, _, _, _, _, _, _, _, _, _, _, _, _, _, _, _, _, _, _, _, _, _, _, _, _, _, _, _, _, _, _, _, _, _, _, _, _, _, _, _, _, _, _, _, _, _, _, _, _, _, _, _, _, _, _, _, _, _, _, _, _, _, _, _, _, _, _, _, _, _, _, _, _, _, _, _, _, _, _, _, _, _, _, _, _, _, _, _, _, _, _, _, _, rfl, HF4.out.tabs.info, ⟨_, HF4.out.at_.neg⟩, HF4.out.keep⟩
end Go.Proofs.YticdagnbnmnidaaGreatDoor
