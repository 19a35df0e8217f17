/- Plain lemmas: decimals, shifts. Conditions: none. Plain facts on a decimal that is multiplied or divided by a power of two, digit by digit. No program in sight. Conditions: none. -/
set_option linter.unusedSimpArgs false
set_option linter.unusedVariables false
namespace Go.Proofs.Plain

/-- value of the first r digits -/
def pv (ds : Nat → Nat) : Nat → Nat
  | 0 => 0
  | r + 1 => 10 * pv ds r + ds r

/-- value of the j digits that end at nd -/
def sv (ds : Nat → Nat) (nd : Nat) : Nat → Nat
  | 0 => 0
  | j + 1 => ds (nd - 1 - j) * 10 ^ j + sv ds nd j

theorem sv_lt {ds : Nat → Nat} {nd : Nat} (hd : ∀ i, i < nd → ds i ≤ 9) : ∀ j, j ≤ nd → sv ds nd j < 10 ^ j := by
  intro j
  induction j with
  | zero => intro _; simp [sv]
  | succ j ih =>
    intro h
    have h1 := ih (by omega)
    have h2 := hd (nd - 1 - j) (by omega)
    have h3 : ds (nd - 1 - j) * 10 ^ j ≤ 9 * 10 ^ j := Nat.mul_le_mul_right _ h2
    simp only [sv, Nat.pow_succ]
    omega

/-- one step of the low to high multiplication -/
theorem sv_step (ds : Nat → Nat) (nd j k : Nat) :
    (sv ds nd (j + 1) * 2 ^ k) / 10 ^ j = ds (nd - 1 - j) * 2 ^ k + (sv ds nd j * 2 ^ k) / 10 ^ j := by
  have : sv ds nd (j + 1) * 2 ^ k = sv ds nd j * 2 ^ k + 10 ^ j * (ds (nd - 1 - j) * 2 ^ k) := by
    simp only [sv, Nat.add_mul]
    rw [Nat.mul_right_comm, Nat.mul_comm (ds (nd - 1 - j) * 2 ^ k) (10 ^ j), Nat.add_comm]
  rw [this, Nat.add_mul_div_left _ _ (Nat.pow_pos (by omega)), Nat.add_comm]

theorem sv_quo (ds : Nat → Nat) (nd j k : Nat) :
    ((sv ds nd j * 2 ^ k) / 10 ^ j) / 10 = (sv ds nd j * 2 ^ k) / 10 ^ (j + 1) := by
  rw [Nat.div_div_eq_div_mul, Nat.pow_succ]

/-- carry stays below 2^k -/
theorem sv_carry {ds : Nat → Nat} {nd : Nat} (hd : ∀ i, i < nd → ds i ≤ 9) (k j : Nat) (hj : j ≤ nd) :
    (sv ds nd j * 2 ^ k) / 10 ^ j < 2 ^ k := by
  rw [Nat.div_lt_iff_lt_mul (Nat.pow_pos (by omega)), Nat.mul_comm]
  exact Nat.mul_lt_mul_of_pos_left (sv_lt hd j hj) (Nat.pow_pos (by omega))


theorem ten_split {a b : Nat} (h : a ≤ b) : 10 ^ b = 10 ^ a * 10 ^ (b - a) := by rw [← Nat.pow_add]; congr 1; omega

theorem pv_lo (ds : Nat → Nat) (i : Nat) : ∀ n, i ≤ n → pv ds i * 10 ^ (n - i) ≤ pv ds n := by
  intro n
  induction n with
  | zero => intro h; obtain rfl : i = 0 := by omega
            simp [pv]
  | succ n ih =>
    intro h
    rcases Nat.lt_or_ge n i with hlt | hge
    · obtain rfl : i = n + 1 := by omega
      simp
    · have := ih hge
      rw [show n + 1 - i = (n - i) + 1 from by omega, Nat.pow_succ]
      simp only [pv]
      have h2 : pv ds i * (10 ^ (n - i) * 10) = 10 * (pv ds i * 10 ^ (n - i)) := by rw [← Nat.mul_assoc, Nat.mul_comm]
      omega

theorem pv_hi {ds : Nat → Nat} (i : Nat) : ∀ n, (∀ t, t < n → ds t ≤ 9) → i ≤ n → pv ds n < (pv ds i + 1) * 10 ^ (n - i) := by
  intro n
  induction n with
  | zero => intro _ h; obtain rfl : i = 0 := by omega
            simp [pv]
  | succ n ih =>
    intro hd h
    rcases Nat.lt_or_ge n i with hlt | hge
    · obtain rfl : i = n + 1 := by omega
      simp
    · have := ih (fun t ht => hd t (by omega)) hge
      have h9 := hd n (by omega)
      rw [show n + 1 - i = (n - i) + 1 from by omega, Nat.pow_succ]
      simp only [pv]
      have h2 : (pv ds i + 1) * (10 ^ (n - i) * 10) = 10 * ((pv ds i + 1) * 10 ^ (n - i)) := by rw [← Nat.mul_assoc, Nat.mul_comm]
      omega

/-- the value of all digits, by its suffixes -/
theorem pv_sv (ds : Nat → Nat) (nd : Nat) : ∀ j, j ≤ nd → pv ds nd = pv ds (nd - j) * 10 ^ j + sv ds nd j := by
  intro j
  induction j with
  | zero => intro _; simp [sv]
  | succ j ih =>
    intro h
    rw [ih (by omega)]
    have e : nd - j = (nd - (j + 1)) + 1 := by omega
    have e2 : nd - 1 - j = nd - (j + 1) := by omega
    rw [e]
    simp only [pv, sv, e2, Nat.pow_succ]
    rw [Nat.add_mul, Nat.mul_comm 10 (pv ds (nd - (j + 1))), Nat.mul_assoc, Nat.mul_comm 10 (10 ^ j)]
    omega

theorem pv_eq_sv (ds : Nat → Nat) (nd : Nat) : pv ds nd = sv ds nd nd := by
  have := pv_sv ds nd nd (Nat.le_refl _)
  simpa [pv] using this

/-- how a comparison of digits with a cutoff ends: 'true': it is less -/
structure Less (ds : Nat → Nat) (nd : Nat) (cs : Nat → Nat) (m i : Nat) (b : Bool) : Prop where
  same : pv ds i = pv cs i
  le : i ≤ m
  le' : i ≤ nd
  ends : (i = m ∧ b = false) ∨ (i < m ∧ i = nd ∧ b = true) ∨ (i < m ∧ i < nd ∧ ds i < cs i ∧ b = true) ∨ (i < m ∧ i < nd ∧ cs i < ds i ∧ b = false)

theorem pv_succ_lo (cs : Nat → Nat) {i m : Nat} (h : i < m) : (10 * pv cs i + cs i) * 10 ^ (m - i - 1) ≤ pv cs m := by
  have := pv_lo cs (i + 1) m (by omega)
  simpa [pv, Nat.sub_sub] using this
theorem pv_succ_hi {cs : Nat → Nat} {i m : Nat} (hc : ∀ t, t < m → cs t ≤ 9) (h : i < m) : pv cs m < (10 * pv cs i + cs i + 1) * 10 ^ (m - i - 1) := by
  have := pv_hi (ds := cs) (i + 1) m hc (by omega)
  simpa [pv, Nat.sub_sub] using this

theorem less_true {ds cs : Nat → Nat} {nd m i : Nat} (hd : ∀ t, t < nd → ds t ≤ 9) (hm : 0 < m) (hlast : cs (m - 1) ≠ 0)
    (h : Less ds nd cs m i true) : pv ds nd * 10 ^ m < pv cs m * 10 ^ nd := by
  obtain ⟨hs, _, _, he⟩ := h
  rcases he with ⟨_, hb⟩ | ⟨him, rfl, _⟩ | ⟨him, hin, hlt, _⟩ | ⟨_, _, _, hb⟩
  · cases hb
  · -- the digits end first
    rw [hs]
    have h1 : pv cs i * 10 ^ (m - i) < pv cs m := by
      have e : m = (m - 1) + 1 := by omega
      have h2 := pv_lo cs i (m - 1) (by omega)
      have h3 : pv cs m = 10 * pv cs (m - 1) + cs (m - 1) := by
        obtain ⟨q, rfl⟩ : ∃ q, m = q + 1 := ⟨m - 1, by omega⟩
        simp [pv]
      rw [h3, show m - i = (m - 1 - i) + 1 from by omega, Nat.pow_succ]
      have h4 : pv cs i * (10 ^ (m - 1 - i) * 10) = 10 * (pv cs i * 10 ^ (m - 1 - i)) := by rw [← Nat.mul_assoc, Nat.mul_comm]
      omega
    rw [ten_split (show i ≤ m by omega), Nat.mul_comm (10 ^ i), ← Nat.mul_assoc]
    exact Nat.mul_lt_mul_of_pos_right h1 (Nat.pow_pos (by omega))
  · have h1 := pv_succ_hi hd hin
    have h2 := pv_succ_lo cs him
    rw [hs] at h1
    have h3 : (10 * pv cs i + ds i + 1) * 10 ^ (nd - i - 1) ≤ (10 * pv cs i + cs i) * 10 ^ (nd - i - 1) := Nat.mul_le_mul_right _ (by omega)
    have h4 : pv ds nd < (10 * pv cs i + cs i) * 10 ^ (nd - i - 1) := Nat.lt_of_lt_of_le h1 h3
    have h5 : pv ds nd * 10 ^ m < (10 * pv cs i + cs i) * 10 ^ (nd - i - 1) * 10 ^ m := Nat.mul_lt_mul_of_pos_right h4 (Nat.pow_pos (by omega))
    have h6 : (10 * pv cs i + cs i) * 10 ^ (m - i - 1) * 10 ^ nd ≤ pv cs m * 10 ^ nd := Nat.mul_le_mul_right _ h2
    have h7 : (10 * pv cs i + cs i) * 10 ^ (nd - i - 1) * 10 ^ m = (10 * pv cs i + cs i) * 10 ^ (m - i - 1) * 10 ^ nd := by
      rw [Nat.mul_assoc, Nat.mul_assoc, ← Nat.pow_add, ← Nat.pow_add]; congr 2; omega
    omega
  · cases hb

theorem less_false {ds cs : Nat → Nat} {nd m i : Nat} (hc : ∀ t, t < m → cs t ≤ 9)
    (h : Less ds nd cs m i false) : pv cs m * 10 ^ nd ≤ pv ds nd * 10 ^ m := by
  obtain ⟨hs, _, hin', he⟩ := h
  rcases he with ⟨rfl, _⟩ | ⟨_, _, hb⟩ | ⟨_, _, _, hb⟩ | ⟨him, hin, hlt, _⟩
  · rw [← hs]
    have h1 := pv_lo ds i nd hin'
    rw [ten_split hin', Nat.mul_comm (10 ^ i), ← Nat.mul_assoc]
    exact Nat.mul_le_mul_right _ h1
  · cases hb
  · cases hb
  · have h1 := pv_succ_hi hc him
    have h2 := pv_succ_lo ds hin
    rw [hs] at h2
    have h3 : (10 * pv cs i + cs i + 1) * 10 ^ (m - i - 1) ≤ (10 * pv cs i + ds i) * 10 ^ (m - i - 1) := Nat.mul_le_mul_right _ (by omega)
    have h4 : pv cs m ≤ (10 * pv cs i + ds i) * 10 ^ (m - i - 1) := by omega
    have h5 : pv cs m * 10 ^ nd ≤ (10 * pv cs i + ds i) * 10 ^ (m - i - 1) * 10 ^ nd := Nat.mul_le_mul_right _ h4
    have h6 : (10 * pv cs i + ds i) * 10 ^ (nd - i - 1) * 10 ^ m ≤ pv ds nd * 10 ^ m := Nat.mul_le_mul_right _ h2
    have h7 : (10 * pv cs i + ds i) * 10 ^ (nd - i - 1) * 10 ^ m = (10 * pv cs i + ds i) * 10 ^ (m - i - 1) * 10 ^ nd := by
      rw [Nat.mul_assoc, Nat.mul_assoc, ← Nat.pow_add, ← Nat.pow_add]; congr 2; omega
    omega

/-- what the table says of a shift by k: its cutoff's digits are those of 5^k, and how many digits are new -/
structure Cheat (k m D : Nat) (cs : Nat → Nat) : Prop where
  val : pv cs m = 5 ^ k
  pos : 0 < m
  le : m ≤ k
  new : D = k - m + 1
  lo : 10 ^ (m - 1) ≤ 5 ^ k
  hi : 5 ^ k < 10 ^ m
  last : cs (m - 1) ≠ 0
  dig : ∀ t, t < m → cs t ≤ 9

theorem two_five (k : Nat) : 2 ^ k * 5 ^ k = 10 ^ k := by rw [← Nat.mul_pow]

theorem Cheat.two_hi {k m D : Nat} {cs : Nat → Nat} (h : Cheat k m D cs) : 2 ^ k ≤ 10 ^ D := by
  have h1 : 2 ^ k * 10 ^ (m - 1) ≤ 2 ^ k * 5 ^ k := Nat.mul_le_mul_left _ h.lo
  rw [two_five] at h1
  have h2 : 10 ^ k = 10 ^ D * 10 ^ (m - 1) := by rw [← Nat.pow_add, h.new]; congr 1; have := h.pos; have := h.le; omega
  rw [h2] at h1
  exact Nat.le_of_mul_le_mul_right h1 (Nat.pow_pos (by omega))

theorem Cheat.two_lo {k m D : Nat} {cs : Nat → Nat} (h : Cheat k m D cs) : 10 ^ (D - 1) ≤ 2 ^ k := by
  have h1 : 2 ^ k * 5 ^ k ≤ 2 ^ k * 10 ^ m := Nat.mul_le_mul_left _ (Nat.le_of_lt h.hi)
  rw [two_five] at h1
  have h2 : 10 ^ k = 10 ^ (D - 1) * 10 ^ m := by rw [← Nat.pow_add, h.new]; congr 1; have := h.pos; have := h.le; omega
  rw [h2] at h1
  exact Nat.le_of_mul_le_mul_right h1 (Nat.pow_pos (by omega))

/-- how many digits are new: δ is the number of digits ahead of the point of the shifted fraction -/
theorem cheat_width {k m D nd i : Nat} {ds cs : Nat → Nat} {b : Bool} (h : Cheat k m D cs) (hd : ∀ t, t < nd → ds t ≤ 9) (hnd : 0 < nd) (h0 : ds 0 ≠ 0)
    (hl : Less ds nd cs m i b) :
    let δ := if b then D - 1 else D
    pv ds nd * 2 ^ k < 10 ^ (nd + δ) ∧ 10 ^ (nd + δ) ≤ pv ds nd * 2 ^ k * 10 := by
  have hD : D - 1 + 1 = D := by have := h.new; omega
  have hDm : D - 1 + m = k := by have := h.new; have := h.le; omega
  cases b with
  | true =>
    have h1 := less_true hd h.pos h.last hl
    rw [h.val] at h1
    simp only [if_true]
    constructor
    · have h2 : pv ds nd * 10 ^ m * 2 ^ k < 5 ^ k * 10 ^ nd * 2 ^ k := Nat.mul_lt_mul_of_pos_right h1 (Nat.pow_pos (by omega))
      have e1 : pv ds nd * 10 ^ m * 2 ^ k = pv ds nd * 2 ^ k * 10 ^ m := Nat.mul_right_comm _ _ _
      have e2 : 5 ^ k * 10 ^ nd * 2 ^ k = 10 ^ (nd + (D - 1)) * 10 ^ m := by
        rw [Nat.mul_right_comm, Nat.mul_comm (5 ^ k), two_five, ← Nat.pow_add, ← Nat.pow_add]; congr 1; omega
      rw [e1, e2] at h2
      exact Nat.lt_of_mul_lt_mul_right h2
    · have h2 := pv_lo ds 1 nd hnd
      have h3 : 10 ^ (nd - 1) ≤ pv ds nd := by
        refine Nat.le_trans ?_ h2
        simp only [pv]
        exact Nat.le_mul_of_pos_left _ (by omega)
      have h4 : 10 ^ (nd - 1) * 10 = 10 ^ nd := by rw [← Nat.pow_succ]; congr 1; omega
      calc 10 ^ (nd + (D - 1)) = 10 ^ (nd - 1) * 10 * 10 ^ (D - 1) := by rw [h4, Nat.pow_add]
        _ ≤ 10 ^ (nd - 1) * 10 * 2 ^ k := Nat.mul_le_mul_left _ h.two_lo
        _ = 10 ^ (nd - 1) * (10 * 2 ^ k) := by rw [Nat.mul_assoc]
        _ ≤ pv ds nd * (10 * 2 ^ k) := Nat.mul_le_mul_right _ h3
        _ = pv ds nd * 2 ^ k * 10 := by rw [Nat.mul_comm 10, Nat.mul_assoc]
  | false =>
    have h1 := less_false h.dig hl
    rw [h.val] at h1
    simp only [Bool.false_eq_true, if_false]
    constructor
    · have h2 := pv_hi (ds := ds) 0 nd hd (Nat.zero_le _)
      simp [pv] at h2
      rw [Nat.pow_add]
      exact Nat.lt_of_lt_of_le (Nat.mul_lt_mul_of_pos_right h2 (Nat.pow_pos (by omega))) (Nat.mul_le_mul_left _ h.two_hi)
    · have h2 : 5 ^ k * 10 ^ nd * 2 ^ k ≤ pv ds nd * 10 ^ m * 2 ^ k := Nat.mul_le_mul_right _ h1
      have e1 : pv ds nd * 10 ^ m * 2 ^ k = pv ds nd * 2 ^ k * 10 ^ m := Nat.mul_right_comm _ _ _
      have e2 : 5 ^ k * 10 ^ nd * 2 ^ k = 10 ^ (nd + (D - 1)) * 10 ^ m := by
        rw [Nat.mul_right_comm, Nat.mul_comm (5 ^ k), two_five, ← Nat.pow_add, ← Nat.pow_add]; congr 1; omega
      rw [e1, e2] at h2
      have h3 := Nat.le_of_mul_le_mul_right h2 (Nat.pow_pos (by omega))
      have h4 : 10 ^ (nd + D) = 10 ^ (nd + (D - 1)) * 10 := by rw [← Nat.pow_succ]; congr 1; omega
      rw [h4]
      exact Nat.mul_le_mul_right _ h3

end Go.Proofs.Plain
namespace Go.Proofs.Plain

/-- the digit at place i of the M digits of Z -/
def dgt (Z M i : Nat) : Nat := Z / 10 ^ (M - 1 - i) % 10

theorem dgt_le (Z M i : Nat) : dgt Z M i ≤ 9 := by
  have := Nat.mod_lt (Z / 10 ^ (M - 1 - i)) (show 0 < 10 by omega)
  unfold dgt
  omega

/-- what the loop over the digits writes at its round t is a digit of the product -/
theorem sv_dig (ds : Nat → Nat) (nd t k : Nat) (ht : t < nd) : (sv ds nd (t + 1) * 2 ^ k) / 10 ^ t % 10 = pv ds nd * 2 ^ k / 10 ^ t % 10 := by
  have h := pv_sv ds nd (t + 1) (by omega)
  have e : pv ds nd * 2 ^ k = sv ds nd (t + 1) * 2 ^ k + 10 ^ t * (10 * (pv ds (nd - (t + 1)) * 2 ^ k)) := by
    rw [h, Nat.add_mul, Nat.pow_succ, Nat.add_comm]
    congr 1
    simp only [Nat.mul_assoc, Nat.mul_left_comm, Nat.mul_comm]
  rw [e, Nat.add_mul_div_left _ _ (Nat.pow_pos (by omega)), Nat.add_mul_mod_self_left]

/-- how much is carried at round t -/
def car (ds : Nat → Nat) (nd k t : Nat) : Nat := sv ds nd t * 2 ^ k / 10 ^ t

theorem car_zero (ds : Nat → Nat) (nd k : Nat) : car ds nd k 0 = 0 := by simp [car, sv]
theorem car_step (ds : Nat → Nat) (nd k t : Nat) : (car ds nd k t + ds (nd - 1 - t) * 2 ^ k) / 10 = car ds nd k (t + 1) := by
  unfold car
  rw [Nat.add_comm, ← sv_step, Nat.div_div_eq_div_mul, ← Nat.pow_succ]
theorem car_dig (ds : Nat → Nat) (nd k t M : Nat) (ht : t < nd) (hM : t < M) : (car ds nd k t + ds (nd - 1 - t) * 2 ^ k) % 10 = dgt (pv ds nd * 2 ^ k) M (M - 1 - t) := by
  unfold car dgt
  rw [Nat.add_comm, ← sv_step, sv_dig ds nd t k ht, show M - 1 - (M - 1 - t) = t by omega]
theorem car_lt {ds : Nat → Nat} {nd : Nat} (hd : ∀ i, i < nd → ds i ≤ 9) (k t : Nat) (ht : t ≤ nd) : car ds nd k t < 2 ^ k := sv_carry hd k t ht
theorem car_end (ds : Nat → Nat) (nd k : Nat) : car ds nd k nd = pv ds nd * 2 ^ k / 10 ^ nd := by
  unfold car
  rw [← pv_eq_sv]

/-- the first of M digits, where there are just so many -/
theorem dgt_top {Z M : Nat} (hM : 0 < M) (h : Z < 10 ^ M) : dgt Z M 0 = Z / 10 ^ (M - 1) := by
  unfold dgt
  rw [Nat.sub_zero]
  apply Nat.mod_eq_of_lt
  have e : 10 ^ M = 10 * 10 ^ (M - 1) := by rw [← Nat.pow_succ']; congr 1; omega
  rw [Nat.div_lt_iff_lt_mul (Nat.pow_pos (by omega)), ← e]
  exact h
theorem dgt_top_pos {Z M : Nat} (hM : 0 < M) (h : Z < 10 ^ M) (h' : 10 ^ M ≤ Z * 10) : 1 ≤ dgt Z M 0 := by
  rw [dgt_top hM h, Nat.le_div_iff_mul_le (Nat.pow_pos (by omega)), Nat.one_mul]
  have e : 10 ^ M = 10 ^ (M - 1) * 10 := by rw [← Nat.pow_succ]; congr 1; omega
  rw [e] at h'
  omega
theorem dgt_top_ge {ds : Nat → Nat} {nd k : Nat} (hnd : 0 < nd) (h : pv ds nd * 2 ^ k < 10 ^ nd) : 2 ^ k * ds 0 ≤ dgt (pv ds nd * 2 ^ k) nd 0 := by
  rw [dgt_top hnd h, Nat.le_div_iff_mul_le (Nat.pow_pos (by omega))]
  have h1 := pv_lo ds 1 nd hnd
  have e : pv ds 1 = ds 0 := by simp [pv]
  rw [e] at h1
  rw [Nat.mul_comm (2 ^ k), Nat.mul_right_comm]
  exact Nat.mul_le_mul_right _ h1

/-- while the carry is not spent there is room for another digit -/
theorem room {Z M t : Nat} (h : Z < 10 ^ M) (hn : 0 < Z / 10 ^ t) : t < M := by
  have h1 : 10 ^ t ≤ Z := by
    have := (Nat.le_div_iff_mul_le (k := 10 ^ t) (x := 1) (y := Z) (Nat.pow_pos (by omega))).1 hn
    omega
  have h2 : 10 ^ t < 10 ^ M := Nat.lt_of_le_of_lt h1 h
  exact (Nat.pow_lt_pow_iff_right (by omega)).1 h2
/-- where it is spent all digits are there -/
theorem spent {Z M t : Nat} (h' : 10 ^ M ≤ Z * 10) (hM : 0 < M) (hn : Z / 10 ^ t = 0) : M ≤ t := by
  have h1 : Z < 10 ^ t := by
    rcases Nat.lt_or_ge Z (10 ^ t) with h | h
    · exact h
    · have := Nat.div_pos h (Nat.pow_pos (by omega)); omega
  have e : 10 ^ M = 10 ^ (M - 1) * 10 := by rw [← Nat.pow_succ]; congr 1; omega
  have h2 : 10 ^ (M - 1) < 10 ^ t := by omega
  have := (Nat.pow_lt_pow_iff_right (show 1 < 10 by omega)).1 h2
  omega
theorem quo_step (Z t : Nat) : Z / 10 ^ t / 10 = Z / 10 ^ (t + 1) := by rw [Nat.div_div_eq_div_mul, Nat.pow_succ]
theorem rem_dig (Z M t : Nat) (ht : t < M) : Z / 10 ^ t % 10 = dgt Z M (M - 1 - t) := by
  unfold dgt
  rw [show M - 1 - (M - 1 - t) = t by omega]

end Go.Proofs.Plain
