/- Plain mathematics of division: one step of Knuth's, the reciprocal, a two-word number by one word; Plain mathematics of the division of two words by one; Plain facts on floats of 64 bits: which are finite, their sign, what they are worth; Plain mathematics of multiplication digit by digit, the least digit first. -/
import Ieee.Arith
set_option linter.unusedVariables false
namespace Go.Proofs.YtpfihjkhgfoijaaGreatDoor

/-! ### one digit (bits.Div64 with a normalized divisor) -/
theorem kn_le {b y1 y0 u u1 q r : Nat} (h : q * y1 + r = u) : q * (y1 * b + y0) ≤ u * b + u1 ↔ q * y0 ≤ b * r + u1 := by
  rw [← h, Nat.mul_add, ← Nat.mul_assoc, Nat.add_mul, Nat.mul_comm b r]
  omega
/-- the test of the loop says: too great -/
theorem kn_big {b y u u1 q : Nat} (hy : 0 < y) (hu : u < y) (hu1 : u1 < b) (h : b ≤ q ∨ u * b + u1 < q * y) : (u * b + u1) / y < q := by
  have hlt : (u * b + u1) / y < b := by
    rw [Nat.div_lt_iff_lt_mul hy]
    have : (u + 1) * b ≤ y * b := Nat.mul_le_mul_right _ hu
    rw [Nat.add_mul, Nat.one_mul] at this
    rw [Nat.mul_comm b y]
    omega
  rcases h with h | h
  · omega
  · rw [Nat.div_lt_iff_lt_mul hy]; exact h
/-- the loop's end: just the quotient -/
theorem kn_end {b y u u1 q : Nat} (hy : 0 < y) (h1 : (u * b + u1) / y ≤ q) (h2 : q * y ≤ u * b + u1) : q = (u * b + u1) / y :=
  Nat.le_antisymm ((Nat.le_div_iff_mul_le hy).2 h2) h1
/-- where the rest has grown to a digit, the quotient isn't too great -/
theorem kn_brk {b y1 y0 u u1 q r : Nat} (h : q * y1 + r = u) (hr : b ≤ r) (hq : q ≤ b) (hy0 : y0 < b) : q * (y1 * b + y0) ≤ u * b + u1 := by
  rw [kn_le h]
  have h1 : q * y0 ≤ b * y0 := Nat.mul_le_mul_right _ hq
  have h2 : b * y0 ≤ b * r := Nat.mul_le_mul_left _ (by omega)
  omega
/-- the first guess -/
theorem kn_first {b y1 y0 u u1 : Nat} (hb : b ≤ 2 * y1) (hb2 : 2 ≤ b) (hy0 : y0 < b) (hu : u < y1 * b + y0) (hu1 : u1 < b) : (u * b + u1) / (y1 * b + y0) ≤ u / y1 ∧ u / y1 ≤ b + 1 := by
  have hy1 : 0 < y1 := by omega
  constructor
  · rw [Nat.le_div_iff_mul_le hy1]
    have h1 : (u * b + u1) / (y1 * b + y0) * (y1 * b + y0) ≤ u * b + u1 := Nat.div_mul_le_self _ _
    generalize (u * b + u1) / (y1 * b + y0) = Q at *
    rw [Nat.mul_add, ← Nat.mul_assoc] at h1
    have h2 : Q * y1 * b < (u + 1) * b := by rw [Nat.add_mul]; omega
    have := Nat.lt_of_mul_lt_mul_right h2
    omega
  · rw [Nat.div_le_iff_le_mul_add_pred hy1]
    rw [Nat.mul_add, Nat.mul_one]
    have : y1 * b + y0 < y1 * b + 2 * y1 := by omega
    omega

/-! ### a two-word number by a normalized word, with the reciprocal -/
theorem dw_lo {B d M x1 x0 q : Nat} (hB : 0 < B) (hM : d * M ≤ B * B) (hd : d ≤ B) (hq : B * q ≤ x1 * M + x0) : d * q ≤ x1 * B + x0 := by
  refine Nat.le_of_mul_le_mul_left ?_ hB
  calc B * (d * q) = d * (B * q) := by rw [Nat.mul_left_comm]
    _ ≤ d * (x1 * M + x0) := Nat.mul_le_mul_left _ hq
    _ = x1 * (d * M) + d * x0 := by rw [Nat.mul_add, Nat.mul_left_comm]
    _ ≤ x1 * (B * B) + B * x0 := Nat.add_le_add (Nat.mul_le_mul_left _ hM) (Nat.mul_le_mul_right _ hd)
    _ = B * (x1 * B + x0) := by rw [Nat.mul_add, ← Nat.mul_assoc, Nat.mul_comm (x1 * B) B]
theorem dw_hi {B d M x1 x0 q : Nat} (hM : B * B ≤ d * M + d) (hd : d ≤ B) (hd0 : 0 < d) (hx1 : x1 < d) (hx0 : x0 < B) (hq : x1 * M + x0 < B * q + B) : x1 * B + x0 < d * q + B + d := by
  have hB : 0 < B := by omega
  refine Nat.lt_of_mul_lt_mul_left (a := B) ?_
  obtain ⟨e, rfl⟩ : ∃ e, B = d + e := ⟨B - d, by omega⟩
  have h1 : x1 * ((d + e) * (d + e)) ≤ x1 * (d * M + d) := Nat.mul_le_mul_left _ hM
  have h2 : d * (x1 * M + x0 + 1) ≤ d * ((d + e) * q + (d + e)) := Nat.mul_le_mul_left _ (by omega)
  have h3 : x1 * d ≤ (d - 1) * d := Nat.mul_le_mul_right _ (by omega)
  have h4 : e * x0 ≤ e * (d + e - 1) := Nat.mul_le_mul_left _ (by omega)
  have e1 : x1 * (d * M + d) = d * (x1 * M) + x1 * d := by rw [Nat.mul_add, Nat.mul_left_comm]
  have e2 : d * (x1 * M + x0 + 1) = d * (x1 * M) + d * x0 + d := by rw [Nat.mul_add, Nat.mul_add, Nat.mul_one]
  have e3 : (d - 1) * d + d = d * d := by rw [← Nat.succ_mul]; congr 1; omega
  have e4 : e * (d + e - 1) + e = e * d + e * e := by rw [← Nat.mul_succ, ← Nat.mul_add]; congr 1; omega
  have e5 : (d + e) * (x1 * (d + e) + x0) = x1 * ((d + e) * (d + e)) + (d * x0 + e * x0) := by
    rw [Nat.mul_add, Nat.add_mul d e x0, Nat.mul_left_comm]
  have e6 : (d + e) * (d * q + (d + e) + d) = d * ((d + e) * q) + ((d * d + d * e + (e * d + e * e)) + (d * d + e * d)) := by
    rw [Nat.mul_add, Nat.mul_add, Nat.mul_left_comm, Nat.mul_add (d + e) d e, Nat.add_mul d e d, Nat.add_mul d e e]; omega
  have e7 : d * ((d + e) * q + (d + e)) = d * ((d + e) * q) + (d * d + d * e) := by rw [Nat.mul_add, Nat.mul_add d d e]
  have e8 : d * e = e * d := Nat.mul_comm _ _
  generalize d * ((d + e) * q) = P1 at *
  generalize x1 * ((d + e) * (d + e)) = P2 at *
  generalize d * (x1 * M) = P3 at *
  generalize (d - 1) * d = P4 at *
  generalize e * (d + e - 1) = P5 at *
  generalize d * d = P6 at *
  generalize e * e = P7 at *
  generalize e * d = P8 at *
  generalize d * e = P9 at *
  generalize x1 * d = P10 at *
  generalize e * x0 = P11 at *
  generalize d * x0 = P12 at *
  omega
/-- the quotient's guess is a word -/
theorem dw_word {B d M x1 x0 : Nat} (hd : d ≤ B) (hM : d * M ≤ B * B - 1) (hMB : B ≤ M) (hx1 : x1 < d) (hx0 : x0 < B) : x1 * M + x0 < B * B := by
  have h1 : (x1 + 1) * M ≤ d * M := Nat.mul_le_mul_right _ hx1
  rw [Nat.add_mul, Nat.one_mul] at h1
  have : 0 < B * B := Nat.mul_pos (by omega) (by omega)
  omega
/-- the end: a rest below B + d becomes one below d -/
theorem dw_end {B d N q r : Nat} (hdB : d ≤ B) (hd : B ≤ 2 * d) (hN : N = d * q + r) (hr : r < B + d) :
    (B ≤ r → d ≤ r - d → N / d = q + 2 ∧ N % d = r - d - d) ∧ (B ≤ r → r - d < d → N / d = q + 1 ∧ N % d = r - d) ∧ (r < B → d ≤ r → N / d = q + 1 ∧ N % d = r - d) ∧ (r < d → N / d = q ∧ N % d = r) := by
  have key : ∀ q' r', N = d * q' + r' → r' < d → N / d = q' ∧ N % d = r' := by
    intro q' r' h1 h2
    subst h1
    constructor
    · rw [Nat.mul_add_div (by omega), Nat.div_eq_of_lt h2, Nat.add_zero]
    · rw [Nat.mul_add_mod, Nat.mod_eq_of_lt h2]
  have m1 : d * (q + 1) = d * q + d := Nat.mul_succ _ _
  have m2 : d * (q + 2) = d * q + d + d := by rw [show q + 2 = q + 1 + 1 from rfl, Nat.mul_succ, Nat.mul_succ]
  refine ⟨fun h1 h2 => key _ _ ?_ ?_, fun h1 h2 => key _ _ ?_ h2, fun h1 h2 => key _ _ ?_ ?_, fun h => key _ _ hN h⟩
  all_goals (try rw [m1]); (try rw [m2]); omega
/-- a common factor of both -/
theorem dw_scale {N y s : Nat} (hs : 0 < s) : N * s / (y * s) = N / y ∧ N * s % (y * s) = N % y * s :=
  ⟨Nat.mul_div_mul_right _ _ hs, Nat.mul_mod_mul_right _ _ _⟩
end Go.Proofs.YtpfihjkhgfoijaaGreatDoor
set_option linter.unusedVariables false
namespace Go.Proofs.YtpfihjkhgfoijaaGreatDoor

theorem rec_facts {B d M : Nat} (hd0 : 0 < d) (hdB : d < B) (hM : M = (B * B - 1) / d) : d * M ≤ B * B - 1 ∧ B * B ≤ d * M + d ∧ B ≤ M := by
  have hB : 0 < B := by omega
  have hBB : 0 < B * B := Nat.mul_pos hB hB
  have h1 := Nat.div_mul_le_self (B * B - 1) d
  have h2 := Nat.lt_div_mul_add (a := B * B - 1) hd0
  rw [← hM, Nat.mul_comm M d] at h1 h2
  refine ⟨h1, by omega, ?_⟩
  rw [hM, Nat.le_div_iff_mul_le hd0]
  have : B * d ≤ B * (B - 1) := Nat.mul_le_mul_left _ (by omega)
  have e : B * (B - 1) + B = B * B := by rw [← Nat.mul_succ]; congr 1; omega
  omega
/-- the guess, in the machine's words -/
theorem dw_guess {B d m X1 X0 : Nat} (hd0 : 0 < d) (hdB : d < B) (hm : m = (B * B - 1) / d - B) (hX1 : X1 < d) (hX0 : X0 < B) :
    ∃ T, T = (m * X1 / B + X1 + (m * X1 % B + X0 + 0) / B) % B ∧ T < B ∧ d * T ≤ X1 * B + X0 ∧ X1 * B + X0 < d * T + B + d := by
  have hB : 0 < B := by omega
  obtain ⟨h1, h2, h3⟩ := rec_facts (M := (B * B - 1) / d) hd0 hdB rfl
  generalize hMM : (B * B - 1) / d = M at *
  have hw := dw_word (Nat.le_of_lt hdB) h1 h3 hX1 hX0
  have hT : m * X1 / B + X1 + (m * X1 % B + X0 + 0) / B = (X1 * M + X0) / B := by
    have e : X1 * M + X0 = B * (m * X1 / B + X1) + (m * X1 % B + X0) := by
      have := Nat.div_add_mod (m * X1) B
      have e1 : X1 * M = m * X1 + B * X1 := by
        rw [Nat.mul_comm X1 M, show M = m + B from by omega, Nat.add_mul]
      rw [e1, Nat.mul_add]
      omega
    rw [e, Nat.mul_add_div hB, Nat.add_zero]
  have hlt : (X1 * M + X0) / B < B := by rw [Nat.div_lt_iff_lt_mul hB]; exact hw
  refine ⟨_, rfl, Nat.mod_lt _ hB, ?_, ?_⟩
  · rw [hT, Nat.mod_eq_of_lt hlt]
    exact dw_lo (M := M) hB (by omega) (Nat.le_of_lt hdB) (by rw [Nat.mul_comm B]; exact Nat.div_mul_le_self _ _)
  · rw [hT, Nat.mod_eq_of_lt hlt]
    exact dw_hi (M := M) h2 (Nat.le_of_lt hdB) hd0 hX1 hX0 (by
      have := Nat.lt_div_mul_add (a := X1 * M + X0) hB
      rw [Nat.mul_comm B]; exact this)
/-- the rest, in the machine's words -/
theorem dw_rest {B d X1 X0 T : Nat} (hdB : d < B) (hX1 : X1 < d) (hX0 : X0 < B) (hlo : d * T ≤ X1 * B + X0) (hhi : X1 * B + X0 < d * T + B + d) :
    ∃ R, X1 * B + X0 = d * T + R ∧ R < B + d ∧ (X0 + B - d * T % B - 0) % B = R % B ∧ (X1 + B - d * T / B - (if X0 < d * T % B + 0 then 1 else 0)) % B = R / B := by
  have hB : 0 < B := by omega
  obtain ⟨R, hR⟩ := Nat.exists_eq_add_of_le hlo
  refine ⟨R, hR, by omega, ?_, ?_⟩
  all_goals
    have e1 := Nat.div_add_mod (d * T) B
    have l1 := Nat.mod_lt (d * T) hB
    have e2 := Nat.div_add_mod R B
    have l2 := Nat.mod_lt R hB
    have hR2 : R / B ≤ 1 := by rw [Nat.div_le_iff_le_mul_add_pred hB]; omega
    generalize d * T / B = a at *
    generalize hb : d * T % B = b at *
    generalize R / B = r1 at *
    generalize R % B = r0 at *
  · by_cases hc : X0 < b
    · have : X0 + B - b - 0 = r0 := by
        have hk : X1 * B + X0 = B * a + b + (B * r1 + r0) := by omega
        have h3 : X0 + B = b + r0 ∨ X0 = b + r0 := by
          have hmod : (X1 * B + X0) % B = (B * a + b + (B * r1 + r0)) % B := by rw [hk]
          rw [Nat.mul_comm X1 B, Nat.mul_add_mod, Nat.mod_eq_of_lt hX0, show B * a + b + (B * r1 + r0) = B * (a + r1) + (b + r0) from by rw [Nat.mul_add]; omega, Nat.mul_add_mod] at hmod
          by_cases hs : b + r0 < B
          · rw [Nat.mod_eq_of_lt hs] at hmod; exact .inr hmod
          · rw [Nat.mod_eq_sub_mod (by omega), Nat.mod_eq_of_lt (by omega)] at hmod
            left; omega
        omega
      rw [this, Nat.mod_eq_of_lt l2]
    · have h3 : X0 = b + r0 ∨ X0 + B = b + r0 := by
        have hk : X1 * B + X0 = B * a + b + (B * r1 + r0) := by omega
        have hmod : (X1 * B + X0) % B = (B * a + b + (B * r1 + r0)) % B := by rw [hk]
        rw [Nat.mul_comm X1 B, Nat.mul_add_mod, Nat.mod_eq_of_lt hX0, show B * a + b + (B * r1 + r0) = B * (a + r1) + (b + r0) from by rw [Nat.mul_add]; omega, Nat.mul_add_mod] at hmod
        by_cases hs : b + r0 < B
        · rw [Nat.mod_eq_of_lt hs] at hmod; exact .inl hmod
        · rw [Nat.mod_eq_sub_mod (by omega), Nat.mod_eq_of_lt (by omega)] at hmod
          right; omega
      have : X0 + B - b - 0 = r0 + B := by omega
      rw [this, Nat.add_mod_right, Nat.mod_eq_of_lt l2]
  · have hk : X1 * B + X0 = B * a + b + (B * r1 + r0) := by omega
    have h3 : (X0 < b ∧ X0 + B = b + r0 ∧ X1 = a + r1 + 1) ∨ (¬ X0 < b ∧ X0 = b + r0 ∧ X1 = a + r1) := by
      have hmod : (X1 * B + X0) % B = (B * a + b + (B * r1 + r0)) % B := by rw [hk]
      rw [Nat.mul_comm X1 B, Nat.mul_add_mod, Nat.mod_eq_of_lt hX0, show B * a + b + (B * r1 + r0) = B * (a + r1) + (b + r0) from by rw [Nat.mul_add]; omega, Nat.mul_add_mod] at hmod
      by_cases hs : b + r0 < B
      · rw [Nat.mod_eq_of_lt hs] at hmod
        refine .inr ⟨by omega, hmod, ?_⟩
        have h4 : B * X1 = B * (a + r1) := by rw [Nat.mul_comm B X1, Nat.mul_add]; omega
        exact Nat.eq_of_mul_eq_mul_left hB h4
      · rw [Nat.mod_eq_sub_mod (by omega), Nat.mod_eq_of_lt (by omega)] at hmod
        refine .inl ⟨by omega, by omega, ?_⟩
        have h4 : B * X1 = B * (a + r1 + 1) := by rw [Nat.mul_comm B X1, Nat.mul_add, Nat.mul_add, Nat.mul_one]; omega
        exact Nat.eq_of_mul_eq_mul_left hB h4
    rcases h3 with ⟨h, _, hx⟩ | ⟨h, _, hx⟩
    · rw [if_pos (by omega), show X1 + B - a - 1 = r1 + B from by omega, Nat.add_mod_right, Nat.mod_eq_of_lt (by omega)]
    · rw [if_neg (by omega), show X1 + B - a - 0 = r1 + B from by omega, Nat.add_mod_right, Nat.mod_eq_of_lt (by omega)]
end Go.Proofs.YtpfihjkhgfoijaaGreatDoor
namespace Go.Proofs.YtpfihjkhgfoijaaGreatDoor

/-- the exponent's field -/
def fE (u : Nat) : Nat := u / 4503599627370496 % 2048
/-- the magnitude's digits -/
def fM (u : Nat) : Nat := if fE u = 0 then u % 4503599627370496 else u % 4503599627370496 + 4503599627370496
def fS (u : Nat) : Bool := decide (u / 9223372036854775808 % 2 = 1)
def fFin (u : Nat) : Prop := fE u ≠ 2047

theorem read_num {u : Nat} (h : fFin u) : Ieee.double.read u = .number (fS u) (fM u) (-1074 + ((fE u - 1 : Nat) : Int)) := by
  have e1 : Ieee.double.signWeight = 9223372036854775808 := by decide
  have e2 : Ieee.double.binade = 4503599627370496 := by decide
  have e3 : Ieee.double.infRung = 9218868437227405312 := by decide
  have e4 : Ieee.double.leastPlace = -1074 := by decide
  unfold fFin fE at h
  unfold Ieee.Format.read
  simp only [e1, e2, e3, e4]
  have hs : (u / 9223372036854775808 % 2 == 1) = fS u := by
    unfold fS
    by_cases hc : u / 9223372036854775808 % 2 = 1
    · rw [hc]; rfl
    · rw [decide_eq_false hc, beq_eq_false_iff_ne]; exact hc
  rw [hs]
  have hr : u % 9223372036854775808 / 4503599627370496 = u / 4503599627370496 % 2048 := by omega
  have hm : u % 9223372036854775808 % 4503599627370496 = u % 4503599627370496 := by omega
  unfold fM fE
  by_cases h0 : u % 9223372036854775808 < 4503599627370496
  · have hz : u / 4503599627370496 % 2048 = 0 := by omega
    rw [if_pos h0, if_pos hz, hz]
    congr 1; omega
  · have hz : ¬ u / 4503599627370496 % 2048 = 0 := by omega
    rw [if_neg h0, if_neg hz, if_pos (by omega), hr, hm]
    congr 1; omega
theorem read_inf {u : Nat} (h : ¬ fFin u) : (∃ s, Ieee.double.read u = .infinity s) ∨ (∃ s t, Ieee.double.read u = .nan s t) := by
  have e1 : Ieee.double.signWeight = 9223372036854775808 := by decide
  have e2 : Ieee.double.binade = 4503599627370496 := by decide
  have e3 : Ieee.double.infRung = 9218868437227405312 := by decide
  unfold fFin fE at h
  unfold Ieee.Format.read
  simp only [e1, e2, e3]
  rw [if_neg (by omega), if_neg (by omega)]
  by_cases hc : u % 9223372036854775808 = 9218868437227405312
  · rw [if_pos hc]; exact .inl ⟨_, rfl⟩
  · rw [if_neg hc]; exact .inr ⟨_, _, rfl⟩
theorem fM_le (u : Nat) : fM u < 9007199254740992 := by
  unfold fM
  have := Nat.mod_lt u (show 0 < 4503599627370496 by omega)
  split <;> omega
theorem fE_le (u : Nat) : fE u ≤ 2047 := by
  unfold fE; omega
/-- the greatest finite float, and its opposite -/
theorem read_max : Ieee.double.read 9218868437227405311 = .number false 9007199254740991 971 := by decide
theorem read_min : Ieee.double.read 18442240474082181119 = .number true 9007199254740991 971 := by decide
theorem read_zero : Ieee.double.read 0 = .number false 0 (-1074) := by decide

theorem cmp_eq_iff (a b : Int) : compare a b = .eq ↔ a = b := Int.compare_eq_eq
theorem cmp_lt_iff (a b : Int) : compare a b = .lt ↔ a < b := Int.compare_eq_lt
theorem cmp_gt_iff (a b : Int) : compare a b = .gt ↔ b < a := Int.compare_eq_gt
/-- a finite float is equal to itself -/
theorem ord_self {u : Nat} (h : fFin u) : Ieee.double.order u u = some .eq := by
  unfold Ieee.Format.order
  rw [read_num h]
  simp only [Ieee.Datum.order]
  rw [(cmp_eq_iff _ _).2 rfl]
theorem shl_eq (m k : Nat) : m <<< k = m * 2 ^ k := Nat.shiftLeft_eq m k
theorem ord_max {u : Nat} (h : fFin u) : Ieee.double.order u 9218868437227405311 ≠ some .gt ∧ Ieee.double.order u 18442240474082181119 ≠ some .lt := by
  unfold Ieee.Format.order
  rw [read_num h, read_max, read_min]
  simp only [Ieee.Datum.order]
  have h1 := fM_le u
  have h2 : fE u ≤ 2046 := by have := fE_le u; unfold fFin at h; omega
  generalize fM u = m at *
  generalize fE u = e at *
  have hb : min (-1074 + ((e - 1 : Nat) : Int)) 971 = -1074 + ((e - 1 : Nat) : Int) := by omega
  rw [hb]
  have hz : (-1074 + ((e - 1 : Nat) : Int) - (-1074 + ((e - 1 : Nat) : Int))).toNat = 0 := by omega
  rw [hz]
  generalize (971 - (-1074 + ((e - 1 : Nat) : Int))).toNat = k
  unfold Ieee.signed
  rw [shl_eq, shl_eq, Nat.pow_zero, Nat.mul_one]
  have hk : 9007199254740991 ≤ 9007199254740991 * 2 ^ k := Nat.le_mul_of_pos_right _ (Nat.two_pow_pos k)
  generalize 9007199254740991 * 2 ^ k = X at *
  constructor
  · intro hc
    injection hc with hc
    rw [cmp_gt_iff] at hc
    simp only [Bool.false_eq_true, if_false] at hc
    split at hc <;> omega
  · intro hc
    injection hc with hc
    rw [cmp_lt_iff] at hc
    simp only [if_true] at hc
    split at hc <;> omega
/-- a float that is equal to itself and beyond neither end is finite -/
theorem fin_of {u : Nat} (h1 : Ieee.double.order u u = some .eq) (h2 : Ieee.double.order u 9218868437227405311 ≠ some .gt) (h3 : Ieee.double.order u 18442240474082181119 ≠ some .lt) : fFin u := by
  apply Classical.byContradiction
  intro h
  rcases read_inf h with ⟨s, e⟩ | ⟨s, t, e⟩
  · unfold Ieee.Format.order at h2 h3
    rw [e, read_max] at h2
    rw [e, read_min] at h3
    simp only [Ieee.Datum.order] at h2 h3
    cases s <;> simp at h2 h3
  · unfold Ieee.Format.order at h1
    rw [e] at h1
    simp [Ieee.Datum.order] at h1
/-- the sign of a finite float: below 0 just if it has the sign and isn't 0 -/
theorem ord_zero {u : Nat} (h : fFin u) : Ieee.double.order u 0 = some (if fM u = 0 then .eq else if fS u then .lt else .gt) := by
  unfold Ieee.Format.order
  rw [read_num h, read_zero]
  simp only [Ieee.Datum.order]
  congr 1
  have hb : min (-1074 + ((fE u - 1 : Nat) : Int)) (-1074) = -1074 := by omega
  rw [hb]
  generalize (-1074 + ((fE u - 1 : Nat) : Int) - -1074).toNat = k
  generalize fM u = m
  unfold Ieee.signed
  rw [shl_eq, shl_eq, Nat.zero_mul]
  by_cases hm : m = 0
  · subst hm
    rw [if_pos rfl, Nat.zero_mul, cmp_eq_iff]
    split <;> rfl
  · rw [if_neg hm]
    have hp : 0 < m * 2 ^ k := Nat.mul_pos (by omega) (Nat.two_pow_pos k)
    cases fS u
    · simp only [Bool.false_eq_true, if_false]
      rw [cmp_gt_iff]; generalize m * 2 ^ k = X at *; simp; omega
    · simp only [if_true]
      rw [cmp_lt_iff]; generalize m * 2 ^ k = X at *; simp; omega
/-- the absolute value of a float, at most the greatest: it is finite -/
theorem fin_abs {u : Nat} (h : Ieee.double.order (u % 9223372036854775808) 9218868437227405311 = some .lt ∨ Ieee.double.order (u % 9223372036854775808) 9218868437227405311 = some .eq) : fFin u := by
  have hf : fFin (u % 9223372036854775808) ↔ fFin u := by unfold fFin fE; omega
  apply Classical.byContradiction
  intro hc
  rw [← hf] at hc
  rcases read_inf hc with ⟨s, e⟩ | ⟨s, t, e⟩
  · have hs : s = false := by
      have e1 : Ieee.double.signWeight = 9223372036854775808 := by decide
      have : (Ieee.double.read (u % 9223372036854775808)).neg = false := by
        unfold Ieee.Format.read
        simp only [e1]
        have hz : (u % 9223372036854775808) / 9223372036854775808 = 0 := Nat.div_eq_of_lt (Nat.mod_lt _ (by omega))
        rw [hz]
        split
        · rfl
        · split
          · rfl
          · split <;> rfl
      rw [e] at this; exact this
    subst hs
    unfold Ieee.Format.order at h
    rw [e, read_max] at h
    simp [Ieee.Datum.order] at h
  · unfold Ieee.Format.order at h
    rw [e] at h
    simp [Ieee.Datum.order] at h

/-- what a finite float is worth, times 2 to 1074 -/
def fW (u : Nat) : Int := if fS u then -((fM u * 2 ^ (fE u - 1) : Nat) : Int) else ((fM u * 2 ^ (fE u - 1) : Nat) : Int)
end Go.Proofs.YtpfihjkhgfoijaaGreatDoor
namespace Go.Proofs.YtpfihjkhgfoijaaGreatDoor

/-- the value of digits of base 256, the least first -/
def lv : List Nat → Nat
  | [] => 0
  | x :: xs => x + 256 * lv xs
theorem lv_append (a b : List Nat) : lv (a ++ b) = lv a + 256 ^ a.length * lv b := by
  induction a with
  | nil => simp [lv]
  | cons x xs ih => simp only [List.cons_append, lv, ih, List.length_cons, Nat.pow_succ]; rw [Nat.mul_add, Nat.mul_comm (256 ^ xs.length) 256, ← Nat.mul_assoc]; omega
theorem lv_lt {xs : List Nat} (h : ∀ x ∈ xs, x < 256) : lv xs < 256 ^ xs.length := by
  induction xs with
  | nil => simp [lv]
  | cons x xs ih =>
    have h1 := ih fun y hy => h y (List.mem_cons_of_mem _ hy)
    have h2 := h x List.mem_cons_self
    simp only [lv, List.length_cons, Nat.pow_succ]
    omega
theorem lv_set {ds : List Nat} {j : Nat} (h : j < ds.length) (v : Nat) : lv (ds.set j v) + ds.getD j 0 * 256 ^ j = lv ds + v * 256 ^ j := by
  induction ds generalizing j with
  | nil => simp at h
  | cons x xs ih =>
    cases j with
    | zero => simp [lv]; omega
    | succ j =>
      have := ih (j := j) (by simpa using h)
      simp only [List.set_cons_succ, lv, List.getD_cons_succ]
      rw [Nat.pow_succ, Nat.mul_comm (256 ^ j) 256, Nat.mul_left_comm, Nat.mul_left_comm v]
      omega
theorem lv_take (l : List Nat) (k : Nat) : lv (l.take (k + 1)) = lv (l.take k) + l.getD k 0 * 256 ^ k := by
  by_cases h : k < l.length
  · rw [List.take_succ_eq_append_getElem h, lv_append, List.length_take, Nat.min_eq_left (by omega)]
    simp [lv, h, Nat.mul_comm]
  · rw [List.take_of_length_le (by omega), List.take_of_length_le (by omega), List.getD_eq_getElem?_getD, List.getElem?_eq_none (by omega)]
    simp
theorem lv_zeros (n : Nat) : lv (List.replicate n 0) = 0 := by
  induction n with
  | zero => rfl
  | succ n ih => simp [List.replicate_succ, lv, ih]
/-- one digit of the inner loop -/
theorem mul_step {ds b : List Nat} {i k c ai L0 : Nat} (hj : i + k < ds.length) (h : lv ds + c * 256 ^ (i + k) = L0 + ai * 256 ^ i * lv (b.take k)) :
    lv (ds.set (i + k) ((ds.getD (i + k) 0 + ai * b.getD k 0 + c) % 256)) + (ds.getD (i + k) 0 + ai * b.getD k 0 + c) / 256 * 256 ^ (i + (k + 1)) = L0 + ai * 256 ^ i * lv (b.take (k + 1)) := by
  have h1 := lv_set hj ((ds.getD (i + k) 0 + ai * b.getD k 0 + c) % 256)
  rw [lv_take, Nat.mul_add, ← Nat.add_assoc i k 1, Nat.pow_succ]
  have e1 : ai * 256 ^ i * (b.getD k 0 * 256 ^ k) = ai * b.getD k 0 * 256 ^ (i + k) := by
    rw [Nat.pow_add, Nat.mul_assoc ai, Nat.mul_left_comm (256 ^ i), ← Nat.mul_assoc ai]
  rw [e1]
  generalize hd : ds.getD (i + k) 0 = d at *
  generalize hp : ai * b.getD k 0 = p at *
  generalize 256 ^ (i + k) = P at *
  generalize ai * 256 ^ i * lv (b.take k) = Q at *
  have e2 : (d + p + c) / 256 * (P * 256) = (d + p + c) / 256 * 256 * P := by rw [Nat.mul_comm P 256, Nat.mul_assoc]
  have e3 : (d + p + c) % 256 * P + (d + p + c) / 256 * 256 * P = d * P + p * P + c * P := by
    rw [← Nat.add_mul, ← Nat.add_mul, ← Nat.add_mul]; congr 1; omega
  rw [e2]
  omega
/-- a carry is left only at the next place -/
theorem mul_carry {ds a b : List Nat} {i k c : Nat} (ha : ∀ x ∈ a, x < 256) (hb : ∀ x ∈ b, x < 256) (hk : b.length ≤ k) (hc : 0 < c)
    (h : lv ds + c * 256 ^ (i + k) = lv (a.take i) * lv b + a.getD i 0 * 256 ^ i * lv (b.take k)) : k = b.length := by
  rw [List.take_of_length_le hk] at h
  have e : lv (a.take i) * lv b + a.getD i 0 * 256 ^ i * lv b = lv (a.take (i + 1)) * lv b := by rw [lv_take, Nat.add_mul]
  rw [e] at h
  have h1 : lv (a.take (i + 1)) < 256 ^ (i + 1) := by
    refine Nat.lt_of_lt_of_le (lv_lt fun x hx => ha x (List.mem_of_mem_take hx)) (Nat.pow_le_pow_right (by omega) ?_)
    rw [List.length_take]; omega
  have h2 := lv_lt hb
  have h3 : lv (a.take (i + 1)) * lv b < 256 ^ (i + 1) * 256 ^ b.length := by
    refine Nat.lt_of_le_of_lt (Nat.mul_le_mul_left _ (Nat.le_of_lt h2)) (Nat.mul_lt_mul_of_pos_right h1 (Nat.pow_pos (by omega)))
  rw [← Nat.pow_add] at h3
  have h4 : 256 ^ (i + k) ≤ c * 256 ^ (i + k) := Nat.le_mul_of_pos_left _ hc
  apply Classical.byContradiction
  intro hne
  have h5 : 256 ^ (i + 1 + b.length) ≤ 256 ^ (i + k) := Nat.pow_le_pow_right (by omega) (by omega)
  omega
theorem mul_done {ds a b : List Nat} {i k : Nat} (hk : b.length ≤ k) (h : lv ds + 0 * 256 ^ (i + k) = lv (a.take i) * lv b + a.getD i 0 * 256 ^ i * lv (b.take k)) : lv ds = lv (a.take (i + 1)) * lv b := by
  rw [List.take_of_length_le hk] at h
  rw [lv_take, Nat.add_mul]; omega
theorem mul_end {ds a b : List Nat} {i : Nat} (hi : a.length ≤ i) (h : lv ds = lv (a.take i) * lv b) : lv ds = lv a * lv b := by
  rwa [List.take_of_length_le hi] at h
/-- a number below 256 to n lies in its first n digits -/
theorem lv_short {ds : List Nat} {n : Nat} (hl : ds.length = n + 1) (h : lv ds < 256 ^ n) : lv (ds.take n) = lv ds := by
  have e := lv_take ds n
  rw [List.take_of_length_le (show ds.length ≤ n + 1 by omega)] at e
  have h0 : ds.getD n 0 = 0 := by
    apply Classical.byContradiction
    intro hc
    have : 256 ^ n ≤ ds.getD n 0 * 256 ^ n := Nat.le_mul_of_pos_left _ (by omega)
    omega
  rw [h0] at e
  omega
theorem lv_mul_lt {a b : List Nat} (ha : ∀ x ∈ a, x < 256) (hb : ∀ x ∈ b, x < 256) : lv a * lv b < 256 ^ (a.length + b.length) := by
  have h1 := lv_lt ha
  have h2 := lv_lt hb
  rw [Nat.pow_add]
  exact Nat.lt_of_le_of_lt (Nat.mul_le_mul_left _ (Nat.le_of_lt h2)) (Nat.mul_lt_mul_of_pos_right h1 (Nat.pow_pos (by omega)))
end Go.Proofs.YtpfihjkhgfoijaaGreatDoor
