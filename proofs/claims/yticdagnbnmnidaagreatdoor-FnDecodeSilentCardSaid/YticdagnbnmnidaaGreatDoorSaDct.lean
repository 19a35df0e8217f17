/- Decimals of many digits: rounding to a whole number. Conditions: none. Decimals of many digits: what is read of a text. Conditions: none. -/
import Derived.Test.YticdagnbnmnidaaGreatDoorSaDcr
import Derived.Test.YticdagnbnmnidaaGreatDoorSaFld
import Derived.StillTailTactics
set_option linter.unusedSimpArgs false
set_option linter.unusedVariables false
namespace Go.Proofs.YticdagnbnmnidaaGreatDoor
open Go.RowKit

set_option maxRecDepth 200000 in
set_option maxHeartbeats 1600000 in
theorem roundUp_any (g : Nat) (x : Int) (c : Dm) (w : World) (h : DmAt w g c) (hc : c.Ok) (hx : x ≤ 1000000000) (hx' : -1000000000 ≤ x) :
    Calls Tryz.prog 269 #[.pointer (some ⟨g, 0, none⟩), .int .i64 x] w (GivesB w) := by
  have f0 := h.nd
  have f3 := h.tr
  have h1 := hc.pos
  have h2 := hc.le
  by_cases hneg : x < 0
  · clear h hc
    go_enter Tryz.func269, Tryz.ntmps269
    go_wp2_with fail
    go_ret
    exact ⟨⟨_, rfl⟩, rfl⟩
  obtain ⟨q, rfl⟩ : ∃ q : Nat, x = q := ⟨x.toNat, by omega⟩
  clear hneg hx'
  by_cases hq : q < c.nd
  · by_cases hq0 : q = 0
    · subst hq0
      have fq : w.cell? ⟨g, 0, none⟩ = some (.int .u8 (c.b 0 : Nat)) := h.byte (by omega)
      clear h hc hx hq
      have e0 : ((0 : Nat) : Int) = 0 := rfl
      rw [e0]
      clear e0
      obtain ⟨N, hN⟩ : ∃ N, c.nd = N := ⟨_, rfl⟩
      rw [hN] at f0 h1
      clear hN h2
      by_cases h1N : N = 1
      · subst h1N
        clear h1
        go_enter Tryz.func269, Tryz.ntmps269
        go_wp2_with fail
        all_goals
          go_ret
          exact ⟨⟨_, rfl⟩, rfl⟩
      · have hb : ((1 : Int) == (N : Int)) = false := by simp; omega
        have hI : (0 : Int) < (N : Int) := by omega
        clear h1N h1
        go_enter Tryz.func269, Tryz.ntmps269
        go_wp2_with fail
        all_goals
          go_ret
          exact ⟨⟨_, rfl⟩, rfl⟩
    · obtain ⟨p, rfl⟩ : ∃ p, q = p + 1 := ⟨q - 1, by omega⟩
      have fq : w.cell? ⟨g, p + 1, none⟩ = some (.int .u8 (c.b (p + 1) : Nat)) := h.byte (by omega)
      have fp : w.cell? ⟨g, p, none⟩ = some (.int .u8 (c.b p : Nat)) := h.byte (by omega)
      clear h hc hq0
      obtain ⟨N, hN⟩ : ∃ N, c.nd = N := ⟨_, rfl⟩
      rw [hN] at f0 h1 h2 hq
      clear hN h1 hx
      by_cases h1N : N = p + 1 + 1
      · subst h1N
        clear hq
        go_enter Tryz.func269, Tryz.ntmps269
        go_wp2_with fail
        all_goals
          go_ret
          exact ⟨⟨_, rfl⟩, rfl⟩
      · have hb : ((p : Int) + 1 + 1 == (N : Int)) = false := by simp; omega
        have hI : (p : Int) + 1 < (N : Int) := by omega
        clear h1N hq
        go_enter Tryz.func269, Tryz.ntmps269
        go_wp2_with fail
        all_goals
          go_ret
          exact ⟨⟨_, rfl⟩, rfl⟩
  · clear h hc
    go_enter Tryz.func269, Tryz.ntmps269
    go_wp2_with fail
    go_ret
    exact ⟨⟨_, rfl⟩, rfl⟩

set_option maxRecDepth 200000 in
set_option maxHeartbeats 1600000 in
theorem rounded_any (g : Nat) (c : Dm) (w : World) (h : DmAt w g c) (hc : c.Ok) (hdp : -1000000000 ≤ c.dp) (hdp' : c.dp ≤ 1000000000) :
    Calls Tryz.prog 307 #[.pointer (some ⟨g, 0, none⟩)] w (GivesI .u64 w) := by
  have f0 := h.nd
  have f1 := h.dp
  have h1 := hc.pos
  have h2 := hc.le
  have H := hid h
  have HC := hid hc
  clear h hc
  by_cases h20 : 20 < c.dp
  · go_enter Tryz.func307, Tryz.ntmps307
    go_wp2_with fail
    go_ret
    exact ⟨⟨_, rfl⟩, rfl⟩
  · go_enter Tryz.func307, Tryz.ntmps307
    go_wp2_with fail
    go_loop [3, 4] (fun x y => ∃ (k : Nat) (n : Int), k ≤ c.nd ∧ x = .int .i64 k ∧ y = .int .u64 n) (fun x _ => c.nd - (intOf x).toNat)
    case atStart => exact ⟨0, 0, Nat.zero_le _, rfl, rfl⟩
    case round =>
      obtain ⟨k, n, hk, rfl, rfl⟩ := hrel
      by_cases hin : (k : Int) < c.dp ∧ k < c.nd
      · obtain ⟨hd, hn⟩ := hin
        have fq : w.cell? ⟨g, k, none⟩ = some (.int .u8 (c.b k : Nat)) := H.out.byte (by omega)
        go_wp2_with fail
        go_round
        case rel => exact ⟨k + 1, _, by omega, by go_num, rfl⟩
        case measure => simp [intOf]; omega
      · by_cases hd : (k : Int) < c.dp
        · have hn : ¬ k < c.nd := fun e => hin ⟨hd, e⟩
          clear hin
          go_wp2_with fail
          go_loop [3, 4] (fun x y => ∃ (k : Nat) (n : Int), k ≤ 1000 ∧ x = .int .i64 k ∧ y = .int .u64 n) (fun x _ => (c.dp - intOf x).toNat)
          case atStart => exact ⟨k, n, by omega, rfl, rfl⟩
          case round =>
            clear hd hn hk
            obtain ⟨k, n, hk, rfl, rfl⟩ := hrel
            by_cases hd : (k : Int) < c.dp
            · go_wp2_with fail
              go_round
              case rel => exact ⟨k + 1, _, by omega, by go_num, rfl⟩
              case measure => simp [intOf]; omega
            · go_wp2_with fail
              refine (roundUp_any g c.dp c _ H.out HC.out hdp' hdp).mono ?_
              rintro e w' ⟨⟨b, rfl⟩, rfl⟩
              cases b
              all_goals
                go_wp2_with fail
                go_ret
                exact ⟨⟨_, rfl⟩, rfl⟩
        · clear hin
          go_wp2_with fail
          go_loop [3, 4] (fun x y => ∃ (k : Nat) (n : Int), k ≤ 1000 ∧ x = .int .i64 k ∧ y = .int .u64 n) (fun x _ => (c.dp - intOf x).toNat)
          case atStart => exact ⟨k, n, by omega, rfl, rfl⟩
          case round =>
            clear hd hk
            obtain ⟨k, n, hk, rfl, rfl⟩ := hrel
            by_cases hd : (k : Int) < c.dp
            · go_wp2_with fail
              go_round
              case rel => exact ⟨k + 1, _, by omega, by go_num, rfl⟩
              case measure => simp [intOf]; omega
            · go_wp2_with fail
              refine (roundUp_any g c.dp c _ H.out HC.out hdp' hdp).mono ?_
              rintro e w' ⟨⟨b, rfl⟩, rfl⟩
              cases b
              all_goals
                go_wp2_with fail
                go_ret
                exact ⟨⟨_, rfl⟩, rfl⟩
end Go.Proofs.YticdagnbnmnidaaGreatDoor
namespace Go.Proofs.YticdagnbnmnidaaGreatDoor
open Go.RowKit

/-- A decimal with its digits, 0 or not. -/
structure Dm.SetOk (c : Dm) : Prop where
  le : c.nd ≤ 800
  dig : ∀ i, i < c.nd → 48 ≤ c.b i ∧ c.b i ≤ 57
  first : 0 < c.nd → c.b 0 ≠ 48
theorem Dm.SetOk.ok {c : Dm} (h : c.SetOk) (hn : 0 < c.nd) : c.Ok := ⟨hn, h.le, h.dig, h.first hn⟩
theorem Dm.SetOk.push {c : Dm} (h : c.SetOk) (h8 : c.nd < 800) {v : Nat} (h1 : 48 ≤ v) (h2 : v ≤ 57) (h0 : c.nd = 0 → v ≠ 48) : ({ c with b := fun j => if j = c.nd then v else c.b j, nd := c.nd + 1 } : Dm).SetOk := by
  refine ⟨h8, fun i hi => ?_, fun _ => ?_⟩
  · show 48 ≤ (if i = c.nd then v else c.b i) ∧ (if i = c.nd then v else c.b i) ≤ 57
    by_cases e : i = c.nd
    · rw [if_pos e]; exact ⟨h1, h2⟩
    · rw [if_neg e]; exact h.dig i (by have : i < c.nd + 1 := hi; omega)
  · show (if 0 = c.nd then v else c.b 0) ≠ 48
    by_cases e : 0 = c.nd
    · rw [if_pos e]; exact h0 e.symm
    · rw [if_neg e]; exact h.first (by omega)
theorem Dm.SetOk.dp' {c : Dm} (h : c.SetOk) (x : Int) : ({ c with dp := x } : Dm).SetOk := ⟨h.le, h.dig, h.first⟩
theorem Dm.SetOk.tr' {c : Dm} (h : c.SetOk) (x : Bool) : ({ c with tr := x } : Dm).SetOk := ⟨h.le, h.dig, h.first⟩
theorem Dm.SetOk.neg' {c : Dm} (h : c.SetOk) (x : Bool) : ({ c with neg := x } : Dm).SetOk := ⟨h.le, h.dig, h.first⟩

/-- how it stands while a text is read: its block, and its digits -/
structure SetW (g : Nat) (w : World) (c : Dm) (wr : World) : Prop where
  at_ : DmAt wr g c
  ok : c.SetOk
  keep : Keep (fun b => b = g) w wr
namespace SetW
variable {g : Nat} {w wr : World} {c : Dm}
theorem dp' (h : SetW g w c wr) (x : Int) : SetW g w { c with dp := x } (wr.setCell ⟨g, 801, none⟩ (.int .i64 x)) := ⟨h.at_.set_dp x, h.ok.dp' x, h.keep.setCell (fun _ => rfl) _⟩
theorem tr' (h : SetW g w c wr) (x : Bool) : SetW g w { c with tr := x } (wr.setCell ⟨g, 803, none⟩ (.bool x)) := ⟨h.at_.set_tr x, h.ok.tr' x, h.keep.setCell (fun _ => rfl) _⟩
theorem neg' (h : SetW g w c wr) (x : Bool) : SetW g w { c with neg := x } (wr.setCell ⟨g, 802, none⟩ (.bool x)) := ⟨h.at_.set_neg x, h.ok.neg' x, h.keep.setCell (fun _ => rfl) _⟩
theorem push (h : SetW g w c wr) (h8 : c.nd < 800) {v : Nat} (h1 : 48 ≤ v) (h2 : v ≤ 57) (h0 : c.nd = 0 → v ≠ 48) : SetW g w { c with b := fun j => if j = c.nd then v else c.b j, nd := c.nd + 1 } ((wr.setCell ⟨g, c.nd, none⟩ (.int .u8 v)).setCell ⟨g, 800, none⟩ (.int .i64 (c.nd + 1 : Nat))) :=
  ⟨(h.at_.set_b h8 v).set_nd (c.nd + 1), h.ok.push h8 h1 h2 h0, (h.keep.setCell (p := ⟨g, c.nd, none⟩) (fun _ => rfl) _).setCell (p := ⟨g, 800, none⟩) (fun _ => rfl) _⟩
theorem drewN (h : SetW g w c wr) (n : Nat) : SetW g w c (wr.drewN n) := ⟨h.at_.drewN n, h.ok, h.keep.drewN n⟩
end SetW

/-- What reading leaves. -/
def SetP (g : Nat) (w : World) (e : Ending) (w' : World) : Prop := ∃ (ok : Bool) (c : Dm), e = .returned (.bool ok) ∧ SetW g w c w' ∧ -10000000 ≤ c.dp ∧ c.dp ≤ 10000000

set_option maxRecDepth 100000 in
set_option maxHeartbeats 4000000 in
theorem dset_any (g : Nat) (s : ByteArray) (c : Dm) (w : World) (h : SetW g w c w) (hs : s.size ≤ 3000000) (hd : c.dp = 0) (hn : c.nd = 0) :
    Calls Tryz.prog 294 #[.pointer (some ⟨g, 0, none⟩), .string s] w (SetP g w) := by
  have f2 := h.at_.neg
  have f3 := h.at_.tr
  have e2 := h.at_.frozen 802
  have e3 := h.at_.frozen 803
  have H0 : Hid (SetW g w { c with neg := false, tr := false } ((w.setCell ⟨g, 802, none⟩ (.bool false)).setCell ⟨g, 803, none⟩ (.bool false))) := (h.neg' false).tr' false
  have Hd : Hid (c.dp = 0) := hd
  have Hn : Hid (c.nd = 0) := hn
  clear h hd hn
  by_cases h0 : s.size = 0
  · obtain rfl : s = ByteArray.empty := by simpa using h0
    clear h0
    go_enter Tryz.func294, Tryz.ntmps294
    go_wp2_with fail
    go_ret
    exact ⟨false, _, rfl, H0.out, by show -10000000 ≤ c.dp; rw [Hd.out]; omega, by show c.dp ≤ _; rw [Hd.out]; omega⟩
  have hpos : 0 < s.size := by omega
  have hne : ¬ s = ByteArray.empty := fun h => h0 (by rw [h]; rfl)
  clear h0
  go_enter Tryz.func294, Tryz.ntmps294
  go_upto_block 0 with fail
  go_cut [5] (fun i wc => ∃ (k : Nat) (c' : Dm), k ≤ s.size ∧ i = .int .i64 k ∧ c'.dp = 0 ∧ Hid (SetW g w c' wc))
  case first => as_aux_lemma =>
    go_wp2_with fail
    all_goals
      go_meet
      case rel =>
        first
          | (refine ⟨1, _, by omega, rfl, ?_, H0.out⟩; exact Hd.out)
          | (refine ⟨0, _, by omega, rfl, ?_, H0.out⟩; exact Hd.out)
          | (refine ⟨1, _, by omega, rfl, ?_, H0.out.neg' true⟩; exact Hd.out)
  case rest => as_aux_lemma =>
    obtain ⟨k, c1, hk, rfl, hd1, h1⟩ := hcut
    go_upto_block 1 with fail
    go_cut [5, 6, 7] (fun i x y wc => ∃ (k : Nat) (t1 t2 : Bool) (c' : Dm), k ≤ s.size ∧ i = .int .i64 k ∧ x = .bool t1 ∧ y = .bool t2 ∧ -(k : Int) ≤ c'.dp ∧ c'.dp ≤ 800 ∧ Hid (SetW g w c' wc))
    case first => as_aux_lemma =>
      go_wp2_with fail
      go_loopw [5, 6, 7] (fun i x y wr => ∃ (k : Nat) (t1 t2 : Bool) (c' : Dm), k ≤ s.size ∧ i = .int .i64 k ∧ x = .bool t1 ∧ y = .bool t2 ∧ -(k : Int) ≤ c'.dp ∧ c'.dp ≤ 800 ∧ Hid (SetW g w c' wr)) (fun i _ _ _ => s.size - (intOf i).toNat)
      case atStart => exact ⟨k, _, _, c1, hk, rfl, rfl, rfl, by omega, by omega, h1.out⟩
      case round =>
        clear hd1 hk
        clear h1
        obtain ⟨k, t1, t2, c', hk, rfl, rfl, rfl, hd1, hd2, h1⟩ := hrel
        by_cases hlt : k < s.size
        · obtain ⟨c0, hc0⟩ : ∃ c0 : Nat, s[k].toNat = c0 := ⟨_, rfl⟩
          have f0 : wr.cell? ⟨g, 800, none⟩ = some (.int .i64 (c'.nd : Nat)) := h1.out.at_.nd
          have f1 : wr.cell? ⟨g, 801, none⟩ = some (.int .i64 c'.dp) := h1.out.at_.dp
          have fr0 := h1.out.at_.frozen 800
          have fr1 := h1.out.at_.frozen 801
          have hle := h1.out.ok.le
          by_cases q95 : c0 = 95
          · as_aux_lemma =>
            subst q95
            go_wp2_with fail
            go_roundw
            case rel => exact ⟨k + 1, _, _, c', by omega, by go_num, rfl, rfl, by omega, hd2, h1.out⟩
            case measure => simp [intOf]; omega
          have h95 : ((c0 : Int) == 95) = false := by simp; omega
          clear q95
          by_cases q46 : c0 = 46
          · as_aux_lemma =>
            subst q46
            clear h95
            cases t1
            · go_wp2_with fail
              go_roundw
              case rel => exact ⟨k + 1, _, _, _, by omega, by go_num, rfl, rfl, by show -((k + 1 : Nat) : Int) ≤ (c'.nd : Int); omega, by show (c'.nd : Int) ≤ 800; omega, h1.out.dp' (c'.nd : Int)⟩
              case measure => simp [intOf]; omega
            · go_wp2_with fail
              go_ret
              exact ⟨false, c', rfl, h1.out, by omega, by omega⟩
          have h46 : ((c0 : Int) == 46) = false := by simp; omega
          clear q46
          by_cases q48 : 48 ≤ c0 ∧ c0 ≤ 57
          · obtain ⟨q48, q57⟩ := q48
            by_cases hz : c0 = 48 ∧ c'.nd = 0
            · as_aux_lemma =>
              obtain ⟨hz1, hz2⟩ := hz
              rw [hz2] at f0
              subst hz1
              clear hz2 h95 h46
              go_wp2_with fail
              go_roundw
              case rel => exact ⟨k + 1, _, _, _, by omega, by go_num, rfl, rfl, by show -((k + 1 : Nat) : Int) ≤ c'.dp - 1; omega, by show c'.dp - 1 ≤ 800; omega, h1.out.dp' (c'.dp - 1)⟩
              case measure => simp [intOf]; omega
            · have Hz : Hid (c'.nd = 0 → c0 ≠ 48) := fun h1 h2 => hz ⟨h2, h1⟩
              clear hz
              by_cases hc48 : c0 = 48
              · have hnd0 : 0 < c'.nd := Nat.pos_of_ne_zero fun h => Hz.out h hc48
                have hb : ((c'.nd : Int) == 0) = false := by simp; omega
                subst hc48
                clear h95 h46
                by_cases h8 : c'.nd < 800
                · as_aux_lemma =>
                  have fv : wr.cell? ⟨g, c'.nd, none⟩ = some (.int .u8 (c'.b c'.nd : Nat)) := h1.out.at_.byte h8
                  have frv := h1.out.at_.frozen c'.nd
                  have i1 : (c'.nd : Int) < 800 := by omega
                  have i2 : (k : Int) < (s.size : Int) := by omega
                  go_upto_region 25 with fail
                  go_still_tail 11, (by kernel_rfl)
                  change wpList _ _ _ _ _ wr.drew
                  have hw2 : SetW g w c' wr.drew := ⟨h1.out.at_.same ((Keep.refl _ _).drew), h1.out.ok, h1.out.keep.drew⟩
                  clear fv frv f0 f1 fr0 fr1 h1
                  generalize wr.drew = w2 at hw2 ⊢
                  have Hpush := hid (hw2.push h8 (by omega) (by omega) Hz.out)
                  have fv : w2.cell? ⟨g, c'.nd, none⟩ = some (.int .u8 (c'.b c'.nd : Nat)) := hw2.at_.byte h8
                  have frv := hw2.at_.frozen c'.nd
                  have f0 : w2.cell? ⟨g, 800, none⟩ = some (.int .i64 (c'.nd : Nat)) := hw2.at_.nd
                  have fr0 := hw2.at_.frozen 800
                  have hne8 : ¬ c'.nd = 800 := by omega
                  have hne8' : ¬ 800 = c'.nd := by omega
                  clear hw2
                  go_wp2_with fail
                  go_roundw
                  case rel => exact ⟨k + 1, _, _, _, by omega, by go_num, rfl, rfl, by show -((k + 1 : Nat) : Int) ≤ c'.dp; omega, by exact hd2, Hpush.out⟩
                  case measure => simp [intOf]; omega
                · as_aux_lemma =>
                  have ft : wr.cell? ⟨g, 803, none⟩ = some (.bool c'.tr) := h1.out.at_.tr
                  have frt := h1.out.at_.frozen 803
                  go_wp2_with fail
                  go_roundw
                  case rel => first
                    | exact ⟨k + 1, _, _, c', by omega, by go_num, rfl, rfl, by omega, hd2, h1.out⟩
                    | exact ⟨k + 1, _, _, _, by omega, by go_num, rfl, rfl, by show -((k + 1 : Nat) : Int) ≤ c'.dp; omega, by exact hd2, h1.out.tr' true⟩
                  case measure => simp [intOf]; omega
              · have hb48 : ((c0 : Int) == 48) = false := by simp; omega
                have hb48' : ((c0 : Int) != 48) = true := by simp; omega
                clear hc48
                by_cases h8 : c'.nd < 800
                · as_aux_lemma =>
                  have fv : wr.cell? ⟨g, c'.nd, none⟩ = some (.int .u8 (c'.b c'.nd : Nat)) := h1.out.at_.byte h8
                  have frv := h1.out.at_.frozen c'.nd
                  have i1 : (c'.nd : Int) < 800 := by omega
                  have i2 : (k : Int) < (s.size : Int) := by omega
                  go_upto_region 25 with fail
                  go_still_tail 11, (by kernel_rfl)
                  change wpList _ _ _ _ _ wr.drew
                  have hw2 : SetW g w c' wr.drew := ⟨h1.out.at_.same ((Keep.refl _ _).drew), h1.out.ok, h1.out.keep.drew⟩
                  clear fv frv f0 f1 fr0 fr1 h1
                  generalize wr.drew = w2 at hw2 ⊢
                  have Hpush := hid (hw2.push h8 q48 q57 Hz.out)
                  have fv : w2.cell? ⟨g, c'.nd, none⟩ = some (.int .u8 (c'.b c'.nd : Nat)) := hw2.at_.byte h8
                  have frv := hw2.at_.frozen c'.nd
                  have f0 : w2.cell? ⟨g, 800, none⟩ = some (.int .i64 (c'.nd : Nat)) := hw2.at_.nd
                  have fr0 := hw2.at_.frozen 800
                  have hne8 : ¬ c'.nd = 800 := by omega
                  have hne8' : ¬ 800 = c'.nd := by omega
                  clear hw2
                  go_wp2_with fail
                  go_roundw
                  case rel => exact ⟨k + 1, _, _, _, by omega, by go_num, rfl, rfl, by show -((k + 1 : Nat) : Int) ≤ c'.dp; omega, by exact hd2, Hpush.out⟩
                  case measure => simp [intOf]; omega
                · as_aux_lemma =>
                  have ft : wr.cell? ⟨g, 803, none⟩ = some (.bool c'.tr) := h1.out.at_.tr
                  have frt := h1.out.at_.frozen 803
                  go_wp2_with fail
                  go_roundw
                  case rel => first
                    | exact ⟨k + 1, _, _, c', by omega, by go_num, rfl, rfl, by omega, hd2, h1.out⟩
                    | exact ⟨k + 1, _, _, _, by omega, by go_num, rfl, rfl, by show -((k + 1 : Nat) : Int) ≤ c'.dp; omega, by exact hd2, h1.out.tr' true⟩
                  case measure => simp [intOf]; omega
          · as_aux_lemma =>
            have hd48 : ¬ (48 ≤ (c0 : Int) ∧ (c0 : Int) ≤ 57) := fun h => q48 ⟨by omega, by omega⟩
            have Hq := hid hd48
            clear q48 hd48
            by_cases q1 : 48 ≤ c0
            · have q2 : ¬ c0 ≤ 57 := fun h => Hq.out ⟨by omega, by omega⟩
              go_wp2_with fail
              go_meet
              case rel => exact ⟨k, _, _, c', hk, rfl, rfl, rfl, hd1, hd2, h1.out⟩
            · go_wp2_with fail
              go_meet
              case rel => exact ⟨k, _, _, c', hk, rfl, rfl, rfl, hd1, hd2, h1.out⟩
        · obtain rfl : k = s.size := by omega
          go_wp2_with fail
          go_meet
          case rel => exact ⟨s.size, _, _, c', Nat.le_refl _, rfl, rfl, rfl, hd1, hd2, h1.out⟩
    case rest => as_aux_lemma =>
      obtain ⟨k, t1, t2, c2, hk, rfl, rfl, rfl, hd1', hd2', h2⟩ := hcut
      have hlo : -3000000 ≤ c2.dp := by omega
      clear hd1 h1 hd1'
      cases t2
      · as_aux_lemma =>
        go_wp2_with fail
        go_ret
        exact ⟨false, c2, rfl, h2.out, by omega, by omega⟩
      · as_aux_lemma =>
        go_upto_if 120 with fail
        go_cut [] (fun wc => ∃ c' : Dm, -3000000 ≤ c'.dp ∧ c'.dp ≤ 800 ∧ Hid (SetW g w c' wc))
        case first => as_aux_lemma =>
          cases t1
          · have f0 : wc.cell? ⟨g, 800, none⟩ = some (.int .i64 (c2.nd : Nat)) := h2.out.at_.nd
            have f1 : wc.cell? ⟨g, 801, none⟩ = some (.int .i64 c2.dp) := h2.out.at_.dp
            have fr1 := h2.out.at_.frozen 801
            have hle := h2.out.ok.le
            go_wp2_with fail
            go_meet
            case rel => exact ⟨_, by show -3000000 ≤ (c2.nd : Int); omega, by show (c2.nd : Int) ≤ 800; omega, h2.out.dp' (c2.nd : Int)⟩
          · go_wp2_with fail
            go_meet
            case rel => exact ⟨c2, hlo, hd2', h2.out⟩
        case rest => as_aux_lemma =>
          clear h2 hlo hd2'
          obtain ⟨c3, hlo, hhi, h3⟩ := hcut
          go_upto_region 32 with fail
          go_cut [138] (fun x w4 => (∃ t : Bool, x = .bool t ∧ (t = true → k < s.size)) ∧ Hid (wc = w4))
          case first => as_aux_lemma =>
            by_cases hlt : k < s.size
            · go_wp2_with (go_at_call 255; refine (lower_any _ _).mono ?_; rintro e w' ⟨⟨f, rfl⟩, rfl⟩)
              all_goals
                go_meet
                case rel => exact ⟨⟨_, rfl, fun _ => hlt⟩, rfl⟩
            · go_wp2_with fail
              all_goals
                go_meet
                case rel => exact ⟨⟨false, rfl, fun h => by cases h⟩, rfl⟩
          case rest => as_aux_lemma =>
            obtain ⟨⟨te, rfl, hte⟩, hw⟩ := hcut
            obtain rfl := hw.out
            clear hw
            go_upto_if 138 with fail
            go_cut [5] (fun x w4 => ∃ (q : Nat) (c' : Dm), x = .int .i64 q ∧ q ≤ s.size ∧ -10000000 ≤ c'.dp ∧ c'.dp ≤ 10000000 ∧ Hid (SetW g w c' w4))
            case first => as_aux_lemma =>
              cases te
              · as_aux_lemma =>
                clear hte
                go_wp2_with fail
                go_meet
                case rel => exact ⟨k, c3, rfl, hk, by omega, by omega, h3.out⟩
              · have hlt : k < s.size := hte rfl
                clear hte
                by_cases hlt2 : k + 1 < s.size
                · as_aux_lemma =>
                  go_upto_block 4 with fail
                  go_cut [5, 8] (fun x y w4 => (∃ (q : Nat) (a : Int), q ≤ s.size ∧ x = .int .i64 q ∧ y = .int .i64 a ∧ (a = 1 ∨ a = -1)) ∧ Hid (wc = w4))
                  case first => as_aux_lemma =>
                    go_wp2_with fail
                    all_goals
                      go_meet
                      case rel => first | exact ⟨⟨k + 1 + 1, _, by omega, by go_num, rfl, .inl rfl⟩, rfl⟩ | exact ⟨⟨k + 1 + 1, _, by omega, by go_num, rfl, .inr rfl⟩, rfl⟩ | exact ⟨⟨k + 1, _, by omega, by go_num, rfl, .inl rfl⟩, rfl⟩
                  case rest => as_aux_lemma =>
                    obtain ⟨⟨q, es, hq, rfl, rfl, hes⟩, hw⟩ := hcut
                    obtain rfl := hw.out
                    have Hes := hid hes
                    clear hw hk hlt hlt2 hes
                    go_upto_region 42 with fail
                    go_cut [171] (fun x w4 => (∃ t : Bool, x = .bool t) ∧ Hid (wc = w4))
                    case first => as_aux_lemma =>
                      by_cases hlt : q < s.size
                      · go_wp2_with fail
                        all_goals
                          go_meet
                          case rel => exact ⟨⟨_, rfl⟩, rfl⟩
                      · go_wp2_with fail
                        all_goals
                          go_meet
                          case rel => exact ⟨⟨_, rfl⟩, rfl⟩
                    case rest => as_aux_lemma =>
                      obtain ⟨⟨t9, rfl⟩, hw⟩ := hcut
                      obtain rfl := hw.out
                      clear hw
                      cases t9
                      · as_aux_lemma =>
                        go_wp2_with fail
                        go_loop [5, 9] (fun x y => ∃ (q : Nat) (a : Int), q ≤ s.size ∧ x = .int .i64 q ∧ y = .int .i64 a ∧ 0 ≤ a ∧ a ≤ 200000) (fun i _ => s.size - (intOf i).toNat)
                        case atStart => exact ⟨q, 0, hq, rfl, rfl, by omega, by omega⟩
                        case round =>
                          clear hq
                          obtain ⟨j, a, hj, rfl, rfl, ha0, ha1⟩ := hrel
                          go_upto_region 44 with fail
                          go_cut [193] (fun x w4 => (∃ t : Bool, x = .bool t ∧ (t = true → ∃ h : j < s.size, s[j].toNat = 95 ∨ 48 ≤ s[j].toNat)) ∧ Hid (wc = w4))
                          case first => as_aux_lemma =>
                            by_cases hlt : j < s.size
                            · obtain ⟨c0, hc0⟩ : ∃ c0 : Nat, s[j].toNat = c0 := ⟨_, rfl⟩
                              by_cases q48 : 48 ≤ c0
                              · have hr : ∃ h : j < s.size, s[j].toNat = 95 ∨ 48 ≤ s[j].toNat := ⟨hlt, .inr (by rw [hc0]; exact q48)⟩
                                have Hr := hid hr
                                clear hr
                                go_wp2_with fail
                                all_goals
                                  go_meet
                                  case rel => exact ⟨⟨_, rfl, fun _ => Hr.out⟩, rfl⟩
                              · by_cases q95 : c0 = 95
                                · omega
                                · have h95 : ((c0 : Int) == 95) = false := by simp; omega
                                  clear q95
                                  go_wp2_with fail
                                  all_goals
                                    go_meet
                                    case rel => exact ⟨⟨false, rfl, fun h => by cases h⟩, rfl⟩
                            · go_wp2_with fail
                              all_goals
                                go_meet
                                case rel => exact ⟨⟨false, rfl, fun h => by cases h⟩, rfl⟩
                          case rest => as_aux_lemma =>
                            obtain ⟨⟨t8, rfl, ht8⟩, hw⟩ := hcut
                            obtain rfl := hw.out
                            clear hw
                            cases t8
                            · as_aux_lemma =>
                              clear ht8
                              have f1 : wc.cell? ⟨g, 801, none⟩ = some (.int .i64 c3.dp) := h3.out.at_.dp
                              have fr1 := h3.out.at_.frozen 801
                              rcases Hes.out with rfl | rfl
                              · go_wp2_with fail
                                go_meet
                                case rel => exact ⟨j, _, rfl, hj, by show -10000000 ≤ c3.dp + a; omega, by show c3.dp + a ≤ 10000000; omega, h3.out.dp' (c3.dp + a)⟩
                              · go_wp2_with fail
                                go_meet
                                case rel => exact ⟨j, _, rfl, hj, by show -10000000 ≤ c3.dp + -a; omega, by show c3.dp + -a ≤ 10000000; omega, h3.out.dp' (c3.dp + -a)⟩
                            · as_aux_lemma =>
                              obtain ⟨hlt, hor⟩ := ht8 rfl
                              clear ht8
                              have hb := UInt8.toNat_lt s[j]
                              obtain ⟨c0, hc0⟩ : ∃ c0 : Nat, s[j].toNat = c0 := ⟨_, rfl⟩
                              rw [hc0] at hor hb
                              by_cases q95 : c0 = 95
                              · subst q95
                                clear hor hb
                                go_wp2_with fail
                                go_round
                                case rel => exact ⟨j + 1, _, by omega, by go_num, rfl, by omega, by omega⟩
                                case measure => simp [intOf]; omega
                              · have h95 : ((c0 : Int) == 95) = false := by simp; omega
                                have q48 : 48 ≤ c0 := by omega
                                clear q95 hor
                                go_wp2_with fail
                                all_goals
                                  go_round
                                  case rel => exact ⟨j + 1, _, by omega, by go_num, rfl, by omega, by omega⟩
                                  case measure => simp [intOf]; omega
                      · as_aux_lemma =>
                        go_wp2_with fail
                        go_ret
                        exact ⟨false, c3, rfl, h3.out, by omega, by omega⟩
                · as_aux_lemma =>
                  have hle : (s.size : Int) ≤ (k : Int) + 1 := by omega
                  clear hlt2
                  go_wp2_with fail
                  go_ret
                  exact ⟨false, c3, rfl, h3.out, by omega, by omega⟩
            case rest => as_aux_lemma =>
              clear hte h3 hlo hhi
              obtain ⟨q, c4, rfl, hq, hlo, hhi, h4⟩ := hcut
              by_cases he : q = s.size
              · subst he
                go_wp2_with fail
                go_ret
                exact ⟨true, c4, rfl, h4.out, hlo, hhi⟩
              · have hb : ((q : Int) != (s.size : Int)) = true := by simp; omega
                clear he
                go_wp2_with fail
                go_ret
                exact ⟨false, c4, rfl, h4.out, hlo, hhi⟩
end Go.Proofs.YticdagnbnmnidaaGreatDoor
