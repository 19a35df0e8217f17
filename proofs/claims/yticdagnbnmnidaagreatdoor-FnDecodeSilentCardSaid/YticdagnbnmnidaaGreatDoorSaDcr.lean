/- Decimals of many digits: the shift to the right. Conditions: none. Decimals of many digits: shifts. Conditions: none. -/
import Derived.Test.YticdagnbnmnidaaGreatDoorSaDca
import Derived.Deep.CutBlock
import Derived.Laws.BitsAllLaws
set_option linter.unusedSimpArgs false
set_option linter.unusedVariables false
namespace Go.Proofs.YticdagnbnmnidaaGreatDoor
open Go.RowKit

theorem and_mask (N k : Nat) (hk : k ≤ 60) (hN : N < 18446744073709551616) : bits .and .u64 (N : Int) ((2 ^ k - 1 : Nat) : Int) = ((N % 2 ^ k : Nat) : Int) := by
  have h60 := pow60 hk
  have hp : 0 < 2 ^ k := Nat.two_pow_pos k
  show IntKind.u64.wrap ((BitVec.ofInt 64 (N : Int) &&& BitVec.ofInt 64 ((2 ^ k - 1 : Nat) : Int)).toNat : Int) = _
  rw [BitVec.toNat_and]
  have e1 : (BitVec.ofInt 64 (N : Int)).toNat = N := by rw [BitVec.ofInt_natCast, BitVec.toNat_ofNat]; exact Nat.mod_eq_of_lt (by omega)
  have e2 : (BitVec.ofInt 64 ((2 ^ k - 1 : Nat) : Int)).toNat = 2 ^ k - 1 := by rw [BitVec.ofInt_natCast, BitVec.toNat_ofNat]; exact Nat.mod_eq_of_lt (by omega)
  rw [e1, e2, Nat.and_two_pow_sub_one_eq_mod]
  have := Nat.mod_lt N hp
  exact u64_id (by omega) (by omega)

/-- the numbers of a shift to the right -/
structure Picked (c : Dm) (k r N : Nat) : Prop where
  pos : 1 ≤ r
  most : r ≤ c.nd + 64
  lo : 2 ^ k ≤ N
  hi : N < 10 * 2 ^ k
  one : r = 1 → N = c.d 0

/-- how a decimal stands while it is shifted to the right and v digits are put down -/
structure L3 (c : Dm) (k r0 N0 v : Nat) (c' : Dm) : Prop where
  nd : c'.nd = c.nd
  dp : c'.dp = c.dp - ((r0 : Int) - 1)
  neg : c'.neg = c.neg
  old : ∀ j, v ≤ j → c'.b j = c.b j
  dig : ∀ j, j < v → 48 ≤ c'.b j ∧ c'.b j ≤ 57
  first : 0 < v → c'.b 0 = 48 + N0 / 2 ^ k
theorem L3.tr {c c' : Dm} {k r0 N0 v : Nat} (h : L3 c k r0 N0 v c') (b : Bool) : L3 c k r0 N0 v { c' with tr := b } := ⟨h.nd, h.dp, h.neg, h.old, h.dig, h.first⟩
theorem L3.step {c c' : Dm} {k r0 N0 v N : Nat} (h : L3 c k r0 N0 v c') (hN : N < 10 * 2 ^ k) (h0 : v = 0 → N = N0) : L3 c k r0 N0 (v + 1) { c' with b := fun j => if j = v then N / 2 ^ k + 48 else c'.b j } := by
  have h9 : N / 2 ^ k < 10 := by
    rw [Nat.div_lt_iff_lt_mul (Nat.two_pow_pos k)]; exact hN
  refine ⟨h.nd, h.dp, h.neg, fun j hj => ?_, fun j hj => ?_, fun _ => ?_⟩
  · show (if j = v then _ else c'.b j) = _
    rw [if_neg (by omega)]; exact h.old j (by omega)
  · show 48 ≤ (if j = v then N / 2 ^ k + 48 else c'.b j) ∧ (if j = v then N / 2 ^ k + 48 else c'.b j) ≤ 57
    by_cases e : j = v
    · rw [if_pos e]
      obtain ⟨Y, hY⟩ : ∃ Y, N / 2 ^ k = Y := ⟨_, rfl⟩
      rw [hY] at h9 ⊢
      omega
    · rw [if_neg e]; exact h.dig j (by omega)
  · show (if 0 = v then N / 2 ^ k + 48 else c'.b 0) = _
    by_cases e : 0 = v
    · rw [if_pos e, h0 e.symm, Nat.add_comm]
    · rw [if_neg e]; exact h.first (by omega)
/-- the decimal behind the shift -/
theorem L3.ok {c c' : Dm} {k r0 N0 v : Nat} (h : L3 c k r0 N0 v c') (hv : 0 < v) (h8 : v ≤ 800) (hP : Picked c k r0 N0) : ({ c' with nd := v } : Dm).Ok :=
  ⟨hv, h8, h.dig, by
    have e := h.first hv
    have e2 := Nat.div_pos hP.lo (Nat.two_pow_pos k)
    obtain ⟨Y, hY⟩ : ∃ Y, N0 / 2 ^ k = Y := ⟨_, rfl⟩
    rw [hY] at e e2
    show c'.b 0 ≠ 48
    omega⟩
theorem low_div {N k i : Nat} (hi : i < k) (h : 2 ^ i ∣ N) : 2 ^ (i + 1) ∣ N % 2 ^ k * 10 := by
  have h1 : 2 ^ i ∣ N % 2 ^ k := (Nat.dvd_mod_iff (Nat.pow_dvd_pow 2 (Nat.le_of_lt hi))).2 h
  obtain ⟨m, hm⟩ := h1
  exact ⟨m * 5, by rw [hm, Nat.pow_succ]; generalize 2 ^ i = p; rw [Nat.mul_assoc, Nat.mul_assoc, Nat.mul_left_comm 2, ← Nat.mul_assoc]⟩

/-- What the shift to the right leaves. -/
def RShift (g k : Nat) (c : Dm) (w : World) (e : Ending) (w' : World) : Prop :=
  ∃ (c' : Dm) (r : Nat), e = .returned (.tuple #[]) ∧ DmAt w' g c' ∧ c'.Ok ∧ Keep (fun b => b = g) w w' ∧ c'.neg = c.neg ∧ c'.dp = c.dp - ((r : Int) - 1) ∧ 1 ≤ r ∧ r ≤ 864 ∧ (4 ≤ k → 2 ≤ r) ∧ (r = 1 → c'.d 0 < c.d 0)

set_option maxRecDepth 20000 in
set_option maxHeartbeats 3200000 in
theorem rightShift_any (g k : Nat) (c : Dm) (w : World) (h : DmAt w g c) (hc : c.Ok) (hk1 : 1 ≤ k) (hk2 : k ≤ 60) (hdp : -1000000000 ≤ c.dp) (hdp' : c.dp ≤ 1000000000) :
    Calls Tryz.prog 268 #[.pointer (some ⟨g, 0, none⟩), .int .u64 k] w (RShift g k c w) := by
  have f0 := h.nd
  have h1 := hc.pos
  have h2 := hc.le
  have h60 := pow60 hk2
  have hp := Nat.two_pow_pos k
  have hkI : min (k : Int).toNat 64 = k := by omega
  have H := hid h
  have HC := hid hc
  clear h hc
  go_enter Tryz.func268, Tryz.ntmps268
  go_upto_block 0 with fail
  go_cut [4, 6] (fun x y wc => ∃ r N : Nat, x = .int .i64 r ∧ y = .int .u64 N ∧ Hid (Picked c k r N) ∧ Hid (w = wc))
  case first => as_aux_lemma =>
    go_wp2_with fail
    go_loop [4, 6] (fun x y => ∃ r N : Nat, x = .int .i64 r ∧ y = .int .u64 N ∧ r ≤ c.nd ∧ N < 10 * 2 ^ k ∧ (1 ≤ r → 1 ≤ N) ∧ (r = 0 → N = 0) ∧ Hid (r = 1 → N = c.d 0)) (fun x _ => c.nd - (intOf x).toNat)
    case atStart => exact ⟨0, 0, rfl, rfl, Nat.zero_le _, by omega, by omega, fun _ => rfl, fun h => by cases h⟩
    case round =>
      obtain ⟨r, N, rfl, rfl, hr, hN, hN1, hN0, hone⟩ := hrel
      have HN1 := hid hN1
      have HN0 := hid hN0
      clear hN1 hN0
      by_cases hlo : N < 2 ^ k
      · have hq : (N : Int) / 2 ^ k = 0 := by
          have e : ((N / 2 ^ k : Nat) : Int) = (N : Int) / 2 ^ k := by simp
          rw [← e, Nat.div_eq_of_lt hlo]; rfl
        by_cases hr2 : r < c.nd
        · obtain ⟨V, hV, hV1, hV2⟩ : ∃ V, c.b r = V ∧ 48 ≤ V ∧ V ≤ 57 := ⟨_, rfl, (HC.out.dig r hr2).1, (HC.out.dig r hr2).2⟩
          have fb : w.cell? ⟨g, r, none⟩ = some (.int .u8 (V : Nat)) := by rw [← hV]; exact H.out.byte (by omega)
          have x1 : IntKind.u64.wrap ((N : Int) * 10) = ((N * 10 : Nat) : Int) := by rw [u64_id (by omega) (by omega)]; omega
          have x2 : IntKind.u64.wrap (((N * 10 : Nat) : Int) + (V : Int)) = ((N * 10 + V : Nat) : Int) := by rw [u64_id (by omega) (by omega)]; omega
          have x3 : IntKind.u64.wrap (((N * 10 + V : Nat) : Int) - 48) = ((N * 10 + V - 48 : Nat) : Int) := by rw [u64_id (by omega) (by omega)]; omega
          have HX : Hid (N * 10 + V - 48 < 10 * 2 ^ k ∧ 1 ≤ N * 10 + V - 48 ∧ (r + 1 = 1 → N * 10 + V - 48 = c.d 0)) := by
            refine ⟨by omega, ?_, fun e => ?_⟩
            · rcases Nat.eq_zero_or_pos r with e | e
              · subst e
                have := HC.out.first
                omega
              · have := HN1.out e; omega
            · obtain rfl : r = 0 := by omega
              have := HN0.out rfl
              unfold Dm.d
              omega
          clear hV
          generalize N * 10 + V - 48 = X at x3 HX
          generalize N * 10 + V = A at x2 x3
          generalize N * 10 = N10 at x1 x2
          go_wp2_with fail
          go_round
          case rel =>
            obtain ⟨q1, q2, q3⟩ := HX.out
            exact ⟨r + 1, X, by go_num, rfl, by omega, q1, fun _ => q2, fun h => by omega, q3⟩
          case measure => simp [intOf]; omega
        · obtain rfl : r = c.nd := by omega
          have hN0 : 1 ≤ N := HN1.out h1
          go_wp2_with fail
          go_loop [4, 6] (fun x y => ∃ j M : Nat, x = .int .i64 (c.nd + j : Nat) ∧ y = .int .u64 M ∧ 1 ≤ M ∧ M < 10 * 2 ^ k ∧ Hid (2 ^ j ≤ M) ∧ Hid (j = 0 → M = N)) (fun _ y => 10 * 2 ^ k - (intOf y).toNat)
          case atStart => exact ⟨0, N, rfl, rfl, hN0, hN, hN0, fun _ => rfl⟩
          case round =>
            clear hq
            obtain ⟨j, M, rfl, rfl, hM1, hM, hj, hj0⟩ := hrel
            have hj64 : j ≤ 63 := by
              rcases Nat.lt_or_ge j 64 with h | h
              · omega
              · have a1 := hj.out
                have a2 : 2 ^ 64 ≤ 2 ^ j := Nat.pow_le_pow_right (by omega) h
                omega
            by_cases hlo2 : M < 2 ^ k
            · have hq : (M : Int) / 2 ^ k = 0 := by
                have e : ((M / 2 ^ k : Nat) : Int) = (M : Int) / 2 ^ k := by simp
                rw [← e, Nat.div_eq_of_lt hlo2]; rfl
              have x1 : IntKind.u64.wrap ((M : Int) * 10) = ((M * 10 : Nat) : Int) := by rw [u64_id (by omega) (by omega)]; omega
              have HX : Hid (1 ≤ M * 10 ∧ M * 10 < 10 * 2 ^ k ∧ 2 ^ (j + 1) ≤ M * 10 ∧ M < M * 10) := by
                have := hj.out
                exact ⟨by omega, by omega, by rw [Nat.pow_succ]; omega, by omega⟩
              generalize M * 10 = X at x1 HX
              go_wp2_with fail
              go_round
              case rel =>
                obtain ⟨q1, q2, q3, q4⟩ := HX.out
                exact ⟨j + 1, X, by go_num, rfl, q1, q2, q3, fun h => by omega⟩
              case measure =>
                obtain ⟨q1, q2, q3, q4⟩ := HX.out
                simp [intOf]; omega
            · have hq : (M : Int) / 2 ^ k = ((M / 2 ^ k : Nat) : Int) := by simp
              have hpos : 0 < M / 2 ^ k := Nat.div_pos (by omega) hp
              have hb : (((M / 2 ^ k : Nat) : Int) == 0) = false := by simp; omega
              generalize M / 2 ^ k = Y at hq hpos hb
              go_wp2_with fail
              go_meet
              case rel =>
                refine ⟨c.nd + j, M, rfl, rfl, ⟨by omega, by omega, by omega, hM, fun e => ?_⟩, rfl⟩
                have := hj0.out (by omega)
                omega
      · have hq : (N : Int) / 2 ^ k = ((N / 2 ^ k : Nat) : Int) := by simp
        have hpos : 0 < N / 2 ^ k := Nat.div_pos (by omega) hp
        have hb : (((N / 2 ^ k : Nat) : Int) == 0) = false := by simp; omega
        have hr0 : 1 ≤ r := by
          rcases Nat.eq_zero_or_pos r with e | e
          · have := HN0.out e; omega
          · exact e
        generalize N / 2 ^ k = Y at hq hpos hb
        go_wp2_with fail
        go_meet
        case rel => exact ⟨r, N, rfl, rfl, ⟨hr0, by omega, by omega, hN, hone.out⟩, rfl⟩
  case rest => as_aux_lemma =>
    obtain ⟨r0, N0, rfl, rfl, hP, hw⟩ := hcut
    obtain rfl := hw.out
    have q1 := hP.out.pos
    have q2 := hP.out.most
    have q3 := hP.out.hi
    have q4 := hP.out.lo
    have f1 : w.cell? ⟨g, 801, none⟩ = some (.int .i64 c.dp) := H.out.dp
    have e1 := H.out.frozen 801
    have m1 : IntKind.u64.wrap ((2 : Int) ^ k) = ((2 ^ k : Nat) : Int) := by
      have e : ((2 ^ k : Nat) : Int) = (2 : Int) ^ k := by simp
      rw [← e]; exact u64_id (by omega) (by omega)
    have m2 : IntKind.u64.wrap (((2 ^ k : Nat) : Int) - 1) = ((2 ^ k - 1 : Nat) : Int) := by rw [u64_id (by omega) (by omega)]; omega
    have Hand : Hid (∀ N : Nat, N < 10 * 2 ^ k → bits .and .u64 (N : Int) ((2 ^ k - 1 : Nat) : Int) = ((N % 2 ^ k : Nat) : Int)) := fun N hN => and_mask N k hk2 (by omega)
    have HD0 : Hid (DmAt (w.setCell ⟨g, 801, none⟩ (.int .i64 (c.dp - ((r0 : Int) - 1)))) g { c with dp := c.dp - ((r0 : Int) - 1) }) := H.out.set_dp _
    have HK0 := hid (keepG w g 801 (.int .i64 (c.dp - ((r0 : Int) - 1))))
    have HL0 : Hid (L3 c k r0 N0 0 { c with dp := c.dp - ((r0 : Int) - 1) }) := ⟨rfl, rfl, rfl, fun _ _ => rfl, fun j h => absurd h (by omega), fun h => absurd h (by omega)⟩
    obtain ⟨P2, hP2⟩ : ∃ P2, 2 ^ k = P2 := ⟨_, rfl⟩
    obtain ⟨MK, hMK⟩ : ∃ MK, 2 ^ k - 1 = MK := ⟨_, rfl⟩
    rw [hMK] at m2 Hand
    rw [hP2] at m1 m2
    have HP2 := hid hP2
    clear hw hP2 hMK
    go_wp2_with fail
    go_loopw [4, 5, 6] (fun x y z wr => ∃ (r v N : Nat) (c' : Dm), x = .int .i64 r ∧ y = .int .i64 v ∧ z = .int .u64 N ∧ r ≤ c.nd + 64 ∧ v + 1 ≤ r ∧ (v = 0 ∨ r ≤ c.nd) ∧ N < 10 * 2 ^ k ∧ Hid (v = 0 → N = N0) ∧ Hid (DmAt wr g c') ∧ Hid (L3 c k r0 N0 v c') ∧ Hid (Keep (fun b => b = g) w wr)) (fun x _ _ _ => c.nd - (intOf x).toNat)
    case atStart => exact ⟨r0, 0, N0, _, rfl, rfl, rfl, q2, by omega, .inl rfl, q3, fun _ => rfl, HD0.out, HL0.out, HK0.out⟩
    case round =>
      clear HD0 HK0 HL0 f1 e1 m1 m2
      obtain ⟨r, v, N, c', rfl, rfl, rfl, hr, hv, hor, hN, hv0, hD, hL, hK⟩ := hrel
      have f0 : wr.cell? ⟨g, 800, none⟩ = some (.int .i64 (c.nd : Nat)) := by rw [← hL.out.nd]; exact hD.out.nd
      have Hor := hid hor
      clear hor
      by_cases hlt : r < c.nd
      · as_aux_lemma =>
        have h8 : v < 800 := by omega
        obtain ⟨V, hV, hV1, hV2⟩ : ∃ V, c.b r = V ∧ 48 ≤ V ∧ V ≤ 57 := ⟨_, rfl, (HC.out.dig r hlt).1, (HC.out.dig r hlt).2⟩
        have fb : wr.cell? ⟨g, r, none⟩ = some (.int .u8 (V : Nat)) := by rw [← hV, ← hL.out.old r (by omega)]; exact hD.out.byte (by omega)
        have fv : wr.cell? ⟨g, v, none⟩ = some (.int .u8 (c'.b v : Nat)) := hD.out.byte h8
        have fr := hD.out.frozen v
        have hq : (N : Int) / 2 ^ k = ((N / 2 ^ k : Nat) : Int) := by simp
        have hand := Hand.out N hN
        have hY9 : N / 2 ^ k < 10 := by rw [Nat.div_lt_iff_lt_mul hp]; exact hN
        have hM := Nat.mod_lt N hp
        have Hst := hid (hL.out.step hN hv0.out)
        have Hset := hid (hD.out.set_b h8 (N / 2 ^ k + 48))
        have x1 : IntKind.u64.wrap (((N % 2 ^ k : Nat) : Int) * 10) = ((N % 2 ^ k * 10 : Nat) : Int) := by rw [u64_id (by omega) (by omega)]; omega
        have x2 : IntKind.u64.wrap (((N % 2 ^ k * 10 : Nat) : Int) + (V : Int)) = ((N % 2 ^ k * 10 + V : Nat) : Int) := by rw [u64_id (by omega) (by omega)]; omega
        have x3 : IntKind.u64.wrap (((N % 2 ^ k * 10 + V : Nat) : Int) - 48) = ((N % 2 ^ k * 10 + V - 48 : Nat) : Int) := by rw [u64_id (by omega) (by omega)]; omega
        have HX : N % 2 ^ k * 10 + V - 48 < 10 * 2 ^ k := by omega
        clear hV Hand
        generalize N % 2 ^ k * 10 + V - 48 = X at x3 HX
        generalize N % 2 ^ k * 10 + V = A at x2 x3
        generalize N % 2 ^ k * 10 = M10 at x1 x2
        generalize N % 2 ^ k = M at hand x1 hM
        generalize N / 2 ^ k = Y at hq hY9 Hst Hset
        have y1 : IntKind.u64.wrap ((Y : Int) + 48) = ((Y + 48 : Nat) : Int) := by rw [u64_id (by omega) (by omega)]; omega
        have y2 : ((Y + 48 : Nat) : Int) % 256 = ((Y + 48 : Nat) : Int) := by omega
        generalize Y + 48 = W at y1 y2 Hst Hset
        have Hkk := hid (hK.out.setCell (p := ⟨g, v, none⟩) (fun _ => rfl) (.int .u8 (W : Nat)))
        have hvr : ¬ r = v := by omega
        go_wp2_with fail
        go_roundw
        case rel => exact ⟨r + 1, v + 1, X, _, by go_num, by go_num, rfl, by omega, by omega, .inr (by omega), HX, fun h => by omega, Hset.out, Hst.out, Hkk.out⟩
        case measure => simp [intOf]; omega
      · as_aux_lemma =>
        have hv8 : v ≤ 800 := by rcases Hor.out with h | h <;> omega
        go_wp2_with fail
        go_loopg [5, 6] (k + 2) (fun gk y z wr => ∃ (v N : Nat) (c' : Dm), y = .int .i64 v ∧ z = .int .u64 N ∧ v ≤ 800 ∧ N < 10 * 2 ^ k ∧ gk ≤ k + 2 ∧ Hid (v = 0 → N = N0) ∧ Hid (N ≠ 0 → 2 ≤ gk ∧ 2 ^ (k + 2 - gk) ∣ N) ∧ Hid (DmAt wr g c') ∧ Hid (L3 c k r0 N0 v c') ∧ Hid (Keep (fun b => b = g) w wr))
        case atStart => exact ⟨v, N, c', rfl, rfl, hv8, hN, Nat.le_refl _, hv0.out, fun _ => ⟨by omega, by rw [Nat.sub_self]; exact Nat.one_dvd _⟩, hD.out, hL.out, hK.out⟩
        case round =>
          clear hD hL hK hv0 f0 Hor
          obtain ⟨v, N, c', rfl, rfl, hv8, hN, hgk, hv0, hdv, hD, hL, hK⟩ := hrel
          have e0 := hD.out.frozen 800
          have f0 : wr.cell? ⟨g, 800, none⟩ = some (.int .i64 (c.nd : Nat)) := by rw [← hL.out.nd]; exact hD.out.nd
          by_cases hN0 : N = 0
          · as_aux_lemma =>
            subst hN0
            have hvp : 0 < v := by
              rcases Nat.eq_zero_or_pos v with e | e
              · have := hv0.out e; omega
              · exact e
            have Hok := hid (hL.out.ok hvp hv8 hP.out)
            have Hset := hid (hD.out.set_nd v)
            have Hkk := hid (hK.out.setCell (p := ⟨g, 800, none⟩) (fun _ => rfl) (.int .i64 (v : Nat)))
            have Hfi : Hid (r0 = 1 → c'.b 0 - 48 < c.d 0) := by
              intro e
              have a1 := hL.out.first hvp
              have a2 := hP.out.one e
              have a3 : 0 < c.d 0 := Nat.pos_of_ne_zero (first_d HC.out)
              have a4 : c.d 0 / 2 ^ k < c.d 0 := Nat.div_lt_self a3 (by have := Nat.pow_le_pow_right (show 0 < 2 by omega) hk1; omega)
              rw [a2] at a1
              generalize c.d 0 / 2 ^ k = Y at a1 a4
              omega
            have H4 : Hid (4 ≤ k → 2 ≤ r0) := by
              intro h4
              rcases (by omega : r0 = 1 ∨ 2 ≤ r0) with e | e
              · have a2 := hP.out.one e
                have a3 := dig_d HC.out 0 h1
                have a4 : 2 ^ 4 ≤ 2 ^ k := Nat.pow_le_pow_right (by omega) h4
                omega
              · exact e
            have Hdp := hid hL.out.dp
            have Hng := hid hL.out.neg
            clear hL hK hD hv0 hdv
            go_wp2_with fail
            refine (trim_any g _ _ Hset.out Hok.out).mono ?_
            rintro e w3 ⟨n, hn0, hn, rfl, hd4, hk4⟩
            have HD4 := hid hd4
            have HK4 := hid hk4
            have Hn := hid hn
            clear hd4 hk4 hn
            go_wp2_with fail
            go_end0
            have ho := Hok.out
            exact ⟨_, r0, rfl, HD4.out, ⟨hn0, Nat.le_trans Hn.out ho.le, fun i hi => ho.dig i (Nat.lt_of_lt_of_le hi Hn.out), ho.first⟩, Hkk.out.trans HK4.out, Hng.out, Hdp.out, q1, by omega, H4.out, Hfi.out⟩
          · obtain ⟨hg2, hdvd⟩ := hdv.out hN0
            have hq : (N : Int) / 2 ^ k = ((N / 2 ^ k : Nat) : Int) := by simp
            have hand := Hand.out N hN
            have hY9 : N / 2 ^ k < 10 := by rw [Nat.div_lt_iff_lt_mul hp]; exact hN
            have hM := Nat.mod_lt N hp
            have hNI : (0 : Int) < (N : Int) := by omega
            have Hst := hid (hL.out.step hN hv0.out)
            have Hnx : Hid (N % 2 ^ k * 10 ≠ 0 → 2 ≤ gk - 1 ∧ 2 ^ (k + 2 - (gk - 1)) ∣ N % 2 ^ k * 10) := by
              intro hne
              by_cases e : gk = 2
              · subst e
                rw [show k + 2 - 2 = k by omega] at hdvd
                rw [Nat.mod_eq_zero_of_dvd hdvd] at hne
                omega
              · refine ⟨by omega, ?_⟩
                have := low_div (k := k) (i := k + 2 - gk) (by omega) hdvd
                rw [show k + 2 - (gk - 1) = k + 2 - gk + 1 by omega]
                exact this
            have x1 : IntKind.u64.wrap (((N % 2 ^ k : Nat) : Int) * 10) = ((N % 2 ^ k * 10 : Nat) : Int) := by rw [u64_id (by omega) (by omega)]; omega
            have HX : N % 2 ^ k * 10 < 10 * 2 ^ k := by omega
            clear Hand hdvd hdv
            generalize N % 2 ^ k * 10 = X at x1 HX Hnx
            generalize N % 2 ^ k = M at hand x1 hM
            by_cases h8 : v < 800
            · as_aux_lemma =>
              have fv : wr.cell? ⟨g, v, none⟩ = some (.int .u8 (c'.b v : Nat)) := hD.out.byte h8
              have fr := hD.out.frozen v
              have Hset := hid (hD.out.set_b h8 (N / 2 ^ k + 48))
              generalize N / 2 ^ k = Y at hq hY9 Hst Hset
              have y1 : IntKind.u64.wrap ((Y : Int) + 48) = ((Y + 48 : Nat) : Int) := by rw [u64_id (by omega) (by omega)]; omega
              have y2 : ((Y + 48 : Nat) : Int) % 256 = ((Y + 48 : Nat) : Int) := by omega
              generalize Y + 48 = W at y1 y2 Hst Hset
              have Hkk := hid (hK.out.setCell (p := ⟨g, v, none⟩) (fun _ => rfl) (.int .u8 (W : Nat)))
              have H0 : Hid (v + 1 = 0 → X = N0) := fun h => by omega
              clear hN0 f0 e0
              go_wp2_with fail
              go_roundg (gk - 1)
              case measure => omega
              case rel => exact ⟨v + 1, X, _, by go_num, rfl, by omega, HX, by omega, H0.out, Hnx.out, Hset.out, Hst.out, Hkk.out⟩
            · as_aux_lemma =>
              have ft : wr.cell? ⟨g, 803, none⟩ = some (.bool c'.tr) := hD.out.tr
              have fr := hD.out.frozen 803
              have H0 : Hid (v = 0 → X = N0) := fun h => by omega
              generalize N / 2 ^ k = Y at hq hY9 Hst
              clear hN0 f0 e0 Hst
              go_wp2_with fail
              · go_roundg (gk - 1)
                case measure => omega
                case rel => exact ⟨v, X, _, rfl, rfl, hv8, HX, by omega, H0.out, Hnx.out, hD.out.set_tr true, hL.out.tr true, hK.out.setCell (p := ⟨g, 803, none⟩) (fun _ => rfl) _⟩
              · go_roundg (gk - 1)
                case measure => omega
                case rel => exact ⟨v, X, _, rfl, rfl, hv8, HX, by omega, H0.out, Hnx.out, hD.out, hL.out, hK.out⟩
end Go.Proofs.YticdagnbnmnidaaGreatDoor
namespace Go.Proofs.YticdagnbnmnidaaGreatDoor
open Go.RowKit

set_option maxRecDepth 20000 in
set_option maxHeartbeats 800000 in
theorem shiftL_any (g k : Nat) (c : Dm) (w : World) (h : DmAt w g c) (hc : c.Ok) (hk1 : 1 ≤ k) (hk2 : k ≤ 60) (ht : CheatTab w) (hdp : -1000000000 ≤ c.dp) (hdp' : c.dp ≤ 1000000000) :
    Calls Tryz.prog 240 #[.pointer (some ⟨g, 0, none⟩), .int .i64 k] w (LShift g k c w) := by
  have f0 := h.nd
  have h1 := hc.pos
  have hI : ((c.nd : Int) == 0) = false := by simp; omega
  have H := hid h
  have HC := hid hc
  have Ht := hid ht
  clear h hc ht
  go_enter Tryz.func240, Tryz.ntmps240
  go_wp2_with fail
  go_loop [1] (fun x => x = .int .i64 k) (fun _ => 0)
  case atStart => rfl
  case round =>
    subst hrel
    go_wp2_with fail
    refine (leftShift_any g k c _ H.out HC.out hk1 hk2 Ht.out hdp hdp').mono ?_
    rintro e w' ⟨c', δ, rfl, hh⟩
    have Hh := hid hh
    clear hh
    go_wp2_with fail
    go_end0
    exact ⟨c', δ, rfl, Hh.out⟩

set_option maxRecDepth 20000 in
set_option maxHeartbeats 800000 in
theorem shiftR_any (g k : Nat) (c : Dm) (w : World) (h : DmAt w g c) (hc : c.Ok) (hk1 : 1 ≤ k) (hk2 : k ≤ 60) (hdp : -1000000000 ≤ c.dp) (hdp' : c.dp ≤ 1000000000) :
    Calls Tryz.prog 240 #[.pointer (some ⟨g, 0, none⟩), .int .i64 (-(k : Int))] w (RShift g k c w) := by
  have f0 := h.nd
  have h1 := hc.pos
  have hI : ((c.nd : Int) == 0) = false := by simp; omega
  have H := hid h
  have HC := hid hc
  clear h hc
  go_enter Tryz.func240, Tryz.ntmps240
  go_wp2_with fail
  go_loop [1] (fun x => x = .int .i64 (-(k : Int))) (fun _ => 0)
  case atStart => rfl
  case round =>
    subst hrel
    go_wp2_with fail
    refine (rightShift_any g k c _ H.out HC.out hk1 hk2 hdp hdp').mono ?_
    rintro e w' ⟨c', δ, rfl, hh⟩
    have Hh := hid hh
    clear hh
    go_wp2_with fail
    go_end0
    exact ⟨c', δ, rfl, Hh.out⟩

/-- What a great shift to the right leaves. -/
def RMany (g n : Nat) (c : Dm) (w : World) (e : Ending) (w' : World) : Prop :=
  ∃ (c' : Dm), e = .returned (.tuple #[]) ∧ DmAt w' g c' ∧ c'.Ok ∧ Keep (fun b => b = g) w w' ∧ c'.neg = c.neg ∧ c'.dp ≤ c.dp ∧ c.dp - 864 * (n : Int) ≤ c'.dp

set_option maxRecDepth 20000 in
set_option maxHeartbeats 800000 in
theorem shiftRn_any (g n : Nat) (c : Dm) (w : World) (h : DmAt w g c) (hc : c.Ok) (hk1 : 1 ≤ n) (hk2 : n ≤ 300000) (hdp : -10000000 ≤ c.dp) (hdp' : c.dp ≤ 10000000) :
    Calls Tryz.prog 240 #[.pointer (some ⟨g, 0, none⟩), .int .i64 (-(n : Int))] w (RMany g n c w) := by
  have f0 := h.nd
  have h1 := hc.pos
  have hI : ((c.nd : Int) == 0) = false := by simp; omega
  have hdn : decide ((n : Int) < 0) = false := decide_eq_false (by omega)
  have hdp2 : decide (0 < n) = true := decide_eq_true (by omega)
  have H := hid h
  have HC := hid hc
  clear h hc
  go_enter Tryz.func240, Tryz.ntmps240
  go_wp2_with fail
  go_loopw [1] (fun x wr => ∃ (m : Nat) (c' : Dm), x = .int .i64 (-(m : Int)) ∧ 1 ≤ m ∧ m ≤ n ∧ Hid (DmAt wr g c') ∧ Hid c'.Ok ∧ Hid (Keep (fun b => b = g) w wr) ∧ Hid (c'.neg = c.neg) ∧ c'.dp ≤ c.dp ∧ c.dp - 864 * ((n - m : Nat) : Int) ≤ c'.dp) (fun x _ => (- intOf x).toNat)
  case atStart => exact ⟨n, c, rfl, hk1, Nat.le_refl _, H.out, HC.out, Keep.refl _ _, rfl, by omega, by omega⟩
  case round =>
    obtain ⟨m, c', rfl, hm1, hm2, hD, hO, hK, hN, hd1, hd2⟩ := hrel
    clear f0
    by_cases hlt : 60 < m
    · go_wp2_with fail
      refine (rightShift_any g 60 c' _ hD.out hO.out (by omega) (by omega) (by omega) (by omega)).mono ?_
      rintro e w' ⟨c2, r, rfl, hD2, hO2, hK2, hN2, hdp2, hr1, hr2, -, -⟩
      have HD2 := hid hD2
      have HO2 := hid hO2
      have HK2 := hid (hK.out.trans hK2)
      have HN2 := hid (hN2.trans hN.out)
      have q1 : c2.dp ≤ c.dp := by omega
      have q2 : c.dp - 864 * ((n - (m - 60) : Nat) : Int) ≤ c2.dp := by omega
      clear hD2 hO2 hK2 hN2 hdp2 hd1 hd2
      go_wp2_with fail
      go_roundw
      case rel =>
        have hrel : ∃ (m' : Nat) (c' : Dm), Value.int .i64 (-(m : Int) + 60) = .int .i64 (-(m' : Int)) ∧ 1 ≤ m' ∧ m' ≤ n ∧ Hid (DmAt w' g c') ∧ Hid c'.Ok ∧ Hid (Keep (fun b => b = g) w w') ∧ Hid (c'.neg = c.neg) ∧ c'.dp ≤ c.dp ∧ c.dp - 864 * ((n - m' : Nat) : Int) ≤ c'.dp := ⟨m - 60, c2, congrArg (Value.int .i64) (by omega), by omega, by omega, HD2.out, HO2.out, HK2.out, HN2.out, q1, q2⟩
        first | exact hrel | exact ⟨_, _, _, _, _, _, _, hrel, rfl⟩
      case measure => simp [intOf]; omega
    · go_wp2_with fail
      refine (rightShift_any g m c' _ hD.out hO.out hm1 (by omega) (by omega) (by omega)).mono ?_
      rintro e w' ⟨c2, r, rfl, hD2, hO2, hK2, hN2, hdp2, hr1, hr2, -, -⟩
      have HD2 := hid hD2
      have HO2 := hid hO2
      have HK2 := hid (hK.out.trans hK2)
      have HN2 := hid (hN2.trans hN.out)
      have q1 : c2.dp ≤ c.dp := by omega
      have q2 : c.dp - 864 * (n : Int) ≤ c2.dp := by omega
      clear hD2 hO2 hK2 hN2 hdp2 hd1 hd2
      go_wp2_with fail
      go_end0
      exact ⟨c2, rfl, HD2.out, HO2.out, HK2.out, HN2.out, q1, q2⟩
end Go.Proofs.YticdagnbnmnidaaGreatDoor
