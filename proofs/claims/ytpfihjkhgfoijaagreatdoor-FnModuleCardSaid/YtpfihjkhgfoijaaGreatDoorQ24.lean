/- Contracts of bitsDiv64: no high word; a normalized divisor; Contracts of the division of two words by one: bitsDiv, nlz, reciprocalWord, divWW; Contract of divWW: two words by one; Contracts of the division of a number by one word: divWVW, divW; Contracts of divisions by one word: divW, div. -/
import Derived.Deep.CutBlock
import Derived.Outline
import Derived.Test.YtpfihjkhgfoijaaGreatDoorQ07
import Derived.Test.YtpfihjkhgfoijaaGreatDoorQ01
import Derived.Test.YtpfihjkhgfoijaaGreatDoorQ10
import Derived.Test.YtpfihjkhgfoijaaGreatDoorQ22
set_option linter.unusedVariables false
set_option linter.unusedSimpArgs false
set_option maxRecDepth 100000
namespace Go.Proofs.YtpfihjkhgfoijaaGreatDoor
open Go.RowKit

theorem c271z (lo y : Nat) (hl : lo < 18446744073709551616) (hy : 0 < y) (hy2 : y < 18446744073709551616) (w : World) :
    Calls Tryz.prog 271 #[.int .u64 0, .int .u64 (lo : Int), .int .u64 (y : Int)] w fun e w' => e = .returned (.tuple #[.int .u64 ((lo / y : Nat) : Int), .int .u64 ((lo % y : Nat) : Int)]) ∧ Below w.heap.size w w' := by
  have q0 : ((y : Int) == 0) = false := by rw [beq_eq_false_iff_ne]; omega
  have q1 : ¬ ((y : Int) ≤ 0) := by omega
  go_enter Tryz.func271, Tryz.ntmps271
  have hw : IntKind.u64.wrap ((lo : Int) / (y : Int)) = ((lo / y : Nat) : Int) := by
    have h1 : lo / y ≤ lo := Nat.div_le_self _ _
    rw [show (lo : Int) / (y : Int) = ((lo / y : Nat) : Int) from by rw [Int.natCast_ediv], IntKind.wrap_u64]
    generalize lo / y = Q at *
    omega
  have hm : (lo : Int) % (y : Int) = ((lo % y : Nat) : Int) := by rw [Int.natCast_emod]
  have HM := Lib.hid hm
  clear hm
  generalize lo / y = Q at *
  go_wp2_with fail
  go_quiet (fail)
  go_wp2_with fail
  go_ret2
  refine ⟨ret_eq ?_, below_drewN' (Below.refl _ _) _⟩
  rw [← HM.out]; rfl
/-- one digit's loop: what it is fed and what it leaves -/
theorem bitLen_top {y : Nat} (h1 : 9223372036854775808 ≤ y) (h2 : y < 18446744073709551616) : Lib.bitLen y = 64 := by
  rw [bitLen_pos y (by omega) h2]
  have h3 : y.log2 < 64 := (Nat.log2_lt (by omega)).2 (by simpa using h2)
  have h4 : 63 ≤ y.log2 := (Nat.le_log2 (by omega)).2 (by simpa using h1)
  omega
/-- a digit: its bounds -/
theorem digit_facts {u l y Q : Nat} (hy : 0 < y) (hu : u < y) (hl : l < 4294967296) (hQ : Q = (u * 4294967296 + l) / y) : Q < 4294967296 ∧ Q * y ≤ u * 4294967296 + l ∧ u * 4294967296 + l < Q * y + y := by
  have h2 := Nat.div_mul_le_self (u * 4294967296 + l) y
  have h3 := Nat.lt_div_mul_add (a := u * 4294967296 + l) hy
  have h4 : (u * 4294967296 + l) / y < 4294967296 := by
    rw [Nat.div_lt_iff_lt_mul hy]
    have : (u + 1) * 4294967296 ≤ y * 4294967296 := Nat.mul_le_mul_right _ hu
    rw [Nat.add_mul, Nat.one_mul] at this
    rw [Nat.mul_comm 4294967296 y]
    omega
  rw [← hQ] at h2 h3 h4
  exact ⟨h4, h2, h3⟩
/-- the machine's words -/
theorem wr_id {x : Nat} (h : x < 18446744073709551616) : IntKind.u64.wrap (x : Int) = (x : Int) := by rw [IntKind.wrap_u64]; omega
theorem wr_mul {a b c : Nat} (h : a * b = c) : IntKind.u64.wrap ((a : Int) * (b : Int)) = ((c % 18446744073709551616 : Nat) : Int) := by
  rw [← h, ← Int.natCast_mul, IntKind.wrap_u64]; omega
theorem wr_mulc {a c : Nat} (h : a * 4294967296 = c) : IntKind.u64.wrap ((a : Int) * 4294967296) = ((c % 18446744073709551616 : Nat) : Int) := by rw [IntKind.wrap_u64]; omega
theorem wr_cmul {a c : Nat} (h : 4294967296 * a = c) (hc : c < 18446744073709551616) : IntKind.u64.wrap (4294967296 * (a : Int)) = (c : Int) := by rw [IntKind.wrap_u64]; omega
theorem wr_add (a b : Nat) : IntKind.u64.wrap ((a : Int) + (b : Int)) = (((a + b) % 18446744073709551616 : Nat) : Int) := by rw [IntKind.wrap_u64]; omega
theorem wr_add' {a b c : Nat} (h : c = a + b) (hc : c < 18446744073709551616) : IntKind.u64.wrap ((a : Int) + (b : Int)) = (c : Int) := by rw [IntKind.wrap_u64]; omega
theorem wr_pred {q q' : Nat} (h : q' + 1 = q) (hc : q < 18446744073709551616) : IntKind.u64.wrap ((q : Int) - 1) = (q' : Int) := by rw [IntKind.wrap_u64]; omega
theorem wr_sub {X l Y R : Nat} (h : Y + R = X + l) (hR : R < 18446744073709551616) : IntKind.u64.wrap ((((X % 18446744073709551616 + l) % 18446744073709551616 : Nat) : Int) - ((Y % 18446744073709551616 : Nat) : Int)) = (R : Int) := by rw [IntKind.wrap_u64]; omega
theorem wr_chain {u l Q y R : Nat} (h : Q * y + R = u * 4294967296 + l) (hR : R < 18446744073709551616) : ∃ a1 a2 a3 : Nat, IntKind.u64.wrap ((u : Int) * 4294967296) = (a1 : Int) ∧ IntKind.u64.wrap ((a1 : Int) + (l : Int)) = (a2 : Int) ∧ IntKind.u64.wrap ((Q : Int) * (y : Int)) = (a3 : Int) ∧ IntKind.u64.wrap ((a2 : Int) - (a3 : Int)) = (R : Int) :=
  ⟨_, _, _, wr_mulc rfl, wr_add _ _, wr_mul rfl, wr_sub h hR⟩
theorem wr_end {Q1 Q0 : Nat} (h1 : Q1 < 4294967296) (h0 : Q0 < 4294967296) : ∃ e1 e2 : Nat, IntKind.u64.wrap ((Q1 : Int) * 4294967296) = (e1 : Int) ∧ IntKind.u64.wrap ((e1 : Int) + (Q0 : Int)) = (e2 : Int) ∧ e2 = Q1 * 4294967296 + Q0 := by
  refine ⟨Q1 * 4294967296, Q1 * 4294967296 + Q0, ?_, ?_, rfl⟩
  · rw [IntKind.wrap_u64]; omega
  · rw [IntKind.wrap_u64]; omega
theorem guess {u y1 : Nat} (h1 : 2147483648 ≤ y1) (hy : u < 18446744073709551616) (hb : y1 < 4294967296) : u / y1 * y1 + u % y1 = u ∧ u % y1 < 4294967296 ∧ (u : Int) / (y1 : Int) = ((u / y1 : Nat) : Int) ∧ ((u / y1 : Nat) : Int) * (y1 : Int) = ((u / y1 * y1 : Nat) : Int) ∧ (u : Int) - ((u / y1 * y1 : Nat) : Int) = ((u % y1 : Nat) : Int) ∧ u / y1 * y1 ≤ u := by
  have e : u / y1 * y1 + u % y1 = u := by rw [Nat.mul_comm]; exact Nat.div_add_mod u y1
  have h2 := Nat.mod_lt u (show 0 < y1 by omega)
  refine ⟨e, by omega, by rw [Int.natCast_ediv], by rw [Int.natCast_mul], ?_, by omega⟩
  generalize u / y1 * y1 = P at *
  omega
theorem guess_le {u y1 y : Nat} (h1 : 2147483648 ≤ y1) (hu : u < y) (hyy : y < y1 * 4294967296 + 4294967296) : u / y1 ≤ 4294967297 := by
  rw [Nat.div_le_iff_le_mul_add_pred (by omega)]; omega
theorem halves (y : Nat) (h : 9223372036854775808 ≤ y) (h2 : y < 18446744073709551616) : 2147483648 ≤ y / 4294967296 ∧ y / 4294967296 < 4294967296 ∧ y % 4294967296 < 4294967296 ∧ y / 4294967296 * 4294967296 + y % 4294967296 = y ∧ (y : Int) / 4294967296 = ((y / 4294967296 : Nat) : Int) ∧ bits .and .u64 (y : Int) 4294967295 = ((y % 4294967296 : Nat) : Int) := by
  refine ⟨by omega, by omega, by omega, by omega, by omega, ?_⟩
  have := u64_and_nat y 4294967295 h2 (by omega)
  rw [show (4294967295 : Nat) = 2 ^ 32 - 1 from rfl, Nat.and_two_pow_sub_one_eq_mod] at this
  exact this
theorem halves' (y : Nat) (h2 : y < 18446744073709551616) : y / 4294967296 < 4294967296 ∧ y % 4294967296 < 4294967296 ∧ y / 4294967296 * 4294967296 + y % 4294967296 = y ∧ (y : Int) / 4294967296 = ((y / 4294967296 : Nat) : Int) ∧ bits .and .u64 (y : Int) 4294967295 = ((y % 4294967296 : Nat) : Int) := by
  refine ⟨by omega, by omega, by omega, by omega, ?_⟩
  have := u64_and_nat y 4294967295 h2 (by omega)
  rw [show (4294967295 : Nat) = 2 ^ 32 - 1 from rfl, Nat.and_two_pow_sub_one_eq_mod] at this
  exact this
theorem guess_ex {u y1 : Nat} (h1 : 2147483648 ≤ y1) (hy : u < 18446744073709551616) (hb : y1 < 4294967296) : ∃ q r p : Nat, q = u / y1 ∧ q * y1 + r = u ∧ r < 4294967296 ∧ (u : Int) / (y1 : Int) = (q : Int) ∧ (q : Int) * (y1 : Int) = (p : Int) ∧ (u : Int) - (p : Int) = (r : Int) ∧ p ≤ u :=
  ⟨_, _, _, rfl, guess h1 hy hb⟩
theorem halves_ex (y : Nat) (h : 9223372036854775808 ≤ y) (h2 : y < 18446744073709551616) : ∃ y1 y0, 2147483648 ≤ y1 ∧ y1 < 4294967296 ∧ y0 < 4294967296 ∧ y1 * 4294967296 + y0 = y ∧ (y : Int) / 4294967296 = (y1 : Int) ∧ bits .and .u64 (y : Int) 4294967295 = (y0 : Int) := ⟨_, _, halves y h h2⟩
theorem halves_ex' (y : Nat) (h2 : y < 18446744073709551616) : ∃ y1 y0, y1 < 4294967296 ∧ y0 < 4294967296 ∧ y1 * 4294967296 + y0 = y ∧ (y : Int) / 4294967296 = (y1 : Int) ∧ bits .and .u64 (y : Int) 4294967295 = (y0 : Int) := ⟨_, _, halves' y h2⟩
theorem or_none {hi lo : Nat} (h : hi < 18446744073709551616) (hl : lo < 18446744073709551616) : bits .or .u64 (hi : Int) ((lo : Int) / 18446744073709551616) = (hi : Int) := by
  have e : (lo : Int) / 18446744073709551616 = ((0 : Nat) : Int) := by omega
  rw [e, u64_or_nat hi 0 h (by omega), Nat.or_zero]
theorem two_digits_b {B W hi lo y l1 l0 Q1 R1 Q0 R0 : Nat} (hW : W = B * B) (hll : l1 * B + l0 = lo) (e1 : Q1 * y + R1 = hi * B + l1) (e2 : Q0 * y + R0 = R1 * B + l0) (hlt : R0 < y) : (hi * W + lo) / y = Q1 * B + Q0 ∧ (hi * W + lo) % y = R0 := by
  have e : hi * W + lo = y * (Q1 * B + Q0) + R0 := by
    have e3 : y * (Q1 * B + Q0) = (Q1 * y) * B + Q0 * y := by rw [Nat.mul_add, Nat.mul_comm y Q0, Nat.mul_comm y, Nat.mul_right_comm]
    rw [e3, ← hll, hW, ← Nat.mul_assoc]
    have e4 : hi * B * B + l1 * B = Q1 * y * B + R1 * B := by rw [← Nat.add_mul, ← Nat.add_mul, e1]
    rw [← Nat.add_assoc, e4, Nat.add_assoc, ← e2, Nat.add_assoc]
  constructor
  · rw [e, Nat.mul_add_div (by omega), Nat.div_eq_of_lt hlt, Nat.add_zero]
  · rw [e, Nat.mul_add_mod, Nat.mod_eq_of_lt hlt]
theorem two_digits {hi lo y l1 l0 Q1 R1 Q0 R0 : Nat} (hll : l1 * 4294967296 + l0 = lo) (e1 : Q1 * y + R1 = hi * 4294967296 + l1) (e2 : Q0 * y + R0 = R1 * 4294967296 + l0) (hlt : R0 < y) : (hi * 18446744073709551616 + lo) / y = Q1 * 4294967296 + Q0 ∧ (hi * 18446744073709551616 + lo) % y = R0 :=
  two_digits_b (B := 4294967296) (W := 18446744073709551616) (by decide) hll e1 e2 hlt
theorem py_lt {q y0 py : Nat} (h : py = q * y0) (hq : q ≤ 4294967297) (h0 : y0 < 4294967296) : py < 18446744073709551616 := by
  have : q * y0 ≤ 4294967297 * 4294967295 := Nat.mul_le_mul hq (by omega)
  omega
theorem br_lt {r l b0 br : Nat} (h : b0 = 4294967296 * r) (h2 : br = b0 + l) (hr : r < 4294967296) (hl : l < 4294967296) : b0 < 18446744073709551616 ∧ br < 18446744073709551616 := by omega
theorem ry_lt {r y1 ry : Nat} (h : ry = r + y1) (hr : r < 4294967296) (hl : y1 < 4294967296) : ry < 18446744073709551616 := by omega
theorem lt_of_b1 {q : Nat} (h : q ≤ 4294967297) : q < 18446744073709551616 := by omega
theorem e2_lt {a b : Nat} (h : a < 4294967296) (h2 : b < 4294967296) : a * 4294967296 + b < 18446744073709551616 := by omega
theorem dbl_le {y1 : Nat} (h : 2147483648 ≤ y1) : 4294967296 ≤ 2 * y1 := by omega
theorem ne_zero {y1 : Nat} (h : 2147483648 ≤ y1) : ¬ y1 = 0 := by omega
theorem pos_ne {y1 : Nat} (h : 2147483648 ≤ y1) : ((y1 : Int) == 0) = false := by rw [beq_eq_false_iff_ne]; omega
/-- one round of a digit's loop -/
theorem digit_round {y y1 y0 u l q r Q : Nat} (hyy : y1 * 4294967296 + y0 = y) (hy0 : y0 < 4294967296) (hy1 : 2147483648 ≤ y1) (hu : u < y) (hl : l < 4294967296) (hQ : Q = (u * 4294967296 + l) / y) (hqr : q * y1 + r = u) (hQq : Q ≤ q) (hq : q ≤ 4294967297) :
    (((4294967296 ≤ q ∨ 4294967296 * r + l < q * y0) → ∃ q', q' + 1 = q ∧ Q ≤ q' ∧ q' ≤ 4294967296 ∧ q' * y1 + (r + y1) = u ∧ (4294967296 ≤ r + y1 → q' = Q))) ∧ (¬ (4294967296 ≤ q ∨ 4294967296 * r + l < q * y0) → q = Q) := by
  have hyp : 0 < y := by omega
  have hle := kn_le (b := 4294967296) (y0 := y0) (u1 := l) hqr
  rw [hyy] at hle
  constructor
  · intro h
    have hlt : Q < q := by
      rw [hQ]
      refine kn_big hyp hu hl (h.imp id fun h => ?_)
      apply Classical.byContradiction
      intro hc
      have := hle.1 (by omega)
      omega
    refine ⟨q - 1, by omega, by omega, by omega, ?_, fun hb => ?_⟩
    · obtain ⟨k, rfl⟩ : ∃ k, q = k + 1 := ⟨q - 1, by omega⟩
      rw [← hqr, Nat.add_sub_cancel, Nat.add_mul, Nat.one_mul]; omega
    · have hqr' : (q - 1) * y1 + (r + y1) = u := by
        obtain ⟨k, rfl⟩ : ∃ k, q = k + 1 := ⟨q - 1, by omega⟩
        rw [← hqr, Nat.add_sub_cancel, Nat.add_mul, Nat.one_mul]; omega
      have h2 := kn_brk (b := 4294967296) (y0 := y0) (u1 := l) hqr' hb (by omega) hy0
      rw [hyy] at h2
      rw [hQ]
      exact kn_end hyp (by rw [← hQ]; omega) h2
  · intro h
    have h2 : q * y ≤ u * 4294967296 + l := hle.2 (by omega)
    rw [hQ]
    exact kn_end hyp (by rw [← hQ]; exact hQq) h2
set_option maxHeartbeats 8000000 in
theorem c271 (hi lo y : Nat) (hh0 : 0 < hi) (hh : hi < y) (hl : lo < 18446744073709551616) (hy : 9223372036854775808 ≤ y) (hy2 : y < 18446744073709551616) (w : World) :
    Calls Tryz.prog 271 #[.int .u64 (hi : Int), .int .u64 (lo : Int), .int .u64 (y : Int)] w fun e w' => e = .returned (.tuple #[.int .u64 (((hi * 18446744073709551616 + lo) / y : Nat) : Int), .int .u64 (((hi * 18446744073709551616 + lo) % y : Nat) : Int)]) ∧ Below w.heap.size w w' := by
  have q0 : ((y : Int) == 0) = false := by rw [beq_eq_false_iff_ne]; omega
  have q1 : ¬ ((y : Int) ≤ (hi : Int)) := by omega
  have q2 : ((hi : Int) == 0) = false := by rw [beq_eq_false_iff_ne]; omega
  have H := Tryz.bits_LeadingZeros64 (y : Int) w (by omega) (by omega)
  rw [Int.toNat_natCast, bitLen_top hy hy2] at H
  have H := Lib.hid H
  have f3 := or_none (Nat.lt_trans hh hy2) hl
  obtain ⟨y1, y0, by1a, by1b, by0, hyy, f1, f2⟩ := halves_ex y hy hy2
  obtain ⟨l1, l0, bl1, bl0, hll, f4, f5⟩ := halves_ex' lo hl
  have hyp : 0 < y := Nat.lt_of_lt_of_le (by decide) hy
  have hyB : y < y1 * 4294967296 + 4294967296 := by rw [← hyy]; exact Nat.add_lt_add_left by0 _
  have hhW := Nat.lt_trans hh hy2
  obtain ⟨Q1, hQ1⟩ : ∃ Q1, Q1 = (hi * 4294967296 + l1) / y := ⟨_, rfl⟩
  obtain ⟨D1a, D1b, D1c⟩ := digit_facts hyp hh bl1 hQ1
  obtain ⟨R1, hR1⟩ := Nat.exists_eq_add_of_le D1b
  have HR1 : R1 < y := by rw [hR1] at D1c; exact Nat.lt_of_add_lt_add_left D1c
  have HR1W := Nat.lt_trans HR1 hy2
  obtain ⟨Q0, hQ0⟩ : ∃ Q0, Q0 = (R1 * 4294967296 + l0) / y := ⟨_, rfl⟩
  obtain ⟨D0a, D0b, D0c⟩ := digit_facts hyp HR1 bl0 hQ0
  obtain ⟨R0, hR0⟩ := Nat.exists_eq_add_of_le D0b
  have HR0 : R0 < y := by rw [hR0] at D0c; exact Nat.lt_of_add_lt_add_left D0c
  have HR0W := Nat.lt_trans HR0 hy2
  have HEND := two_digits hll hR1.symm hR0.symm HR0
  obtain ⟨a1, a2, a3, g1, g2, g3, g4⟩ := wr_chain hR1.symm HR1W
  obtain ⟨e1, e2, g5, g6, he2⟩ := wr_end D1a D0a
  obtain ⟨c1, c2, c3, g7, g8, g9, g10⟩ := wr_chain hR0.symm HR0W
  obtain ⟨qs, rs, pp, hqsE, hqr, hrs2, f6, f7, f8, hpp2⟩ := guess_ex by1a hhW by1b
  obtain ⟨qt, rt, pt, hqtE, hqr2, hrt2, f9, f10, f11, hpt2⟩ := guess_ex by1a HR1W by1b
  have hqs2 := guess_le by1a hh hyB
  have hqt2 := guess_le by1a HR1 hyB
  rw [← hqsE] at hqs2
  rw [← hqtE] at hqt2
  have kf1 : Q1 ≤ qs := by
    have h1 := kn_first (b := 4294967296) (y1 := y1) (y0 := y0) (u := hi) (u1 := l1) (dbl_le by1a) (by decide) by0 (by rw [hyy]; exact hh) bl1
    rw [hyy, ← hQ1, ← hqsE] at h1
    exact h1.1
  have kf0 : Q0 ≤ qt := by
    have h1 := kn_first (b := 4294967296) (y1 := y1) (y0 := y0) (u := R1) (u1 := l0) (dbl_le by1a) (by decide) by0 (by rw [hyy]; exact HR1) bl0
    rw [hyy, ← hQ0, ← hqtE] at h1
    exact h1.1
  rw [HEND.1, HEND.2, ← he2]
  have hy1p : ((y1 : Int) == 0) = false := pos_ne by1a
  have hy1n : ¬ y1 = 0 := ne_zero by1a
  have HQR := Lib.hid hqr
  have HQR2 := Lib.hid hqr2
  have HQ1 := Lib.hid hQ1
  have HQ0 := Lib.hid hQ0
  have HHU := Lib.hid hh
  have HR1lt := Lib.hid HR1
  have HQS2 := Lib.hid hqs2
  have HQT2 := Lib.hid hqt2
  have HRS2 := Lib.hid hrs2
  have HRT2 := Lib.hid hrt2
  have KF1 := Lib.hid kf1
  have KF0 := Lib.hid kf0
  have BY1 := Lib.hid (And.intro by1a by1b)
  have BY0 := Lib.hid by0
  have BL1 := Lib.hid bl1
  have BL0 := Lib.hid bl0
  have HYY := Lib.hid hyy
  clear hQ1 D1a D1b D1c hR1 hQ0 D0a D0b D0c hR0 HEND hqsE hqtE hqr hqr2 he2 hrs2 hrt2 kf1 kf0 by1a by1b by0 bl1 bl0 hyy hll hyB HR1 HR0 hhW hyp
  go_enter Tryz.func271, Tryz.ntmps271
  go_wp2_with fail
  refine H.out.mono ?_
  rintro e w2 ⟨rfl, rfl⟩
  go_upto_block 0 with (fail)
  clear f1 f2 f3 f4 f5 f6 f7 f8 H hy hy2 hl hh hh0 q0 q1 q2 hpp2 hqs2
  go_cut [15, 16] from 67 to 85 (fun v _ wc => v = .int .u64 (Q1 : Int) ∧ wc = w2)
  case first =>
    go_wp2_with fail
    go_loop [15, 16] (fun v v' => ∃ q r : Nat, v = .int .u64 (q : Int) ∧ v' = .int .u64 (r : Int) ∧ Hid (q * y1 + r = hi) ∧ Hid (Q1 ≤ q) ∧ Hid (q ≤ 4294967297) ∧ Hid (r < 4294967296)) (fun v _ => (intOf v).toNat)
    case atStart => exact ⟨qs, rs, rfl, rfl, HQR.out, KF1.out, HQS2.out, HRS2.out⟩
    case round =>
      obtain ⟨q, r, rfl, rfl, hqr, hQq, hq, hr⟩ := hrel
      obtain ⟨py, hpy⟩ : ∃ py, py = q * y0 := ⟨_, rfl⟩
      have hpy2 : py < 18446744073709551616 := py_lt hpy hq.out BY0.out
      have k1 : IntKind.u64.wrap ((q : Int) * (y0 : Int)) = (py : Int) := by
        rw [wr_mul hpy.symm, Nat.mod_eq_of_lt hpy2]
      obtain ⟨b0, hb0⟩ : ∃ b0, b0 = 4294967296 * r := ⟨_, rfl⟩
      obtain ⟨br, hbr⟩ : ∃ br, br = b0 + l1 := ⟨_, rfl⟩
      have hbb := br_lt hb0 hbr hr.out BL1.out
      have k2 : IntKind.u64.wrap (4294967296 * (r : Int)) = (b0 : Int) := wr_cmul hb0.symm hbb.1
      have k5 : IntKind.u64.wrap ((b0 : Int) + (l1 : Int)) = (br : Int) := wr_add' hbr hbb.2
      obtain ⟨ry, hry⟩ : ∃ ry, ry = r + y1 := ⟨_, rfl⟩
      have hryl := ry_lt hry hr.out BY1.out.2
      have k4 : IntKind.u64.wrap ((r : Int) + (y1 : Int)) = (ry : Int) := wr_add' hry hryl
      have hRD := digit_round HYY.out BY0.out BY1.out.1 HHU.out BL1.out HQ1.out hqr.out hQq.out hq.out
      rw [← hpy, ← hb0, ← hbr, ← hry] at hRD
      by_cases hbig : 4294967296 ≤ q ∨ br < py
      · obtain ⟨q', hq', hQ', hqb, hqr', hbrk⟩ := hRD.1 hbig
        have k3 : IntKind.u64.wrap ((q : Int) - 1) = (q' : Int) := by exact wr_pred hq' (lt_of_b1 hq.out)
        have HQ' := Lib.hid hQ'
        have HQB : Hid (q' ≤ 4294967297) := by show _ ≤ _; omega
        have HQR' := Lib.hid hqr'
        have HLT : Hid (q' < q) := by show _ < _; omega
        by_cases hbk : 4294967296 ≤ ry
        · have hend : q' = Q1 := hbrk hbk
          have HEN := Lib.hid hend
          have t3 : (4294967296 : Int) ≤ (ry : Int) := by omega
          by_cases hqq : 4294967296 ≤ q
          · have t1 : (4294967296 : Int) ≤ (q : Int) := by omega
            clear hpy hpy2 hb0 hbr hry hbb hryl hRD hbig hq' hQ' hqb hqr' hbrk hbk hend hqq
            go_wp2_with fail
            go_meet
            exact ⟨by rw [HEN.out], rfl⟩
          · have t1 : ¬ (4294967296 : Int) ≤ (q : Int) := by omega
            have t2 : (br : Int) < (py : Int) := by omega
            clear hpy hpy2 hb0 hbr hry hbb hryl hRD hbig hq' hQ' hqb hqr' hbrk hbk hend hqq
            go_wp2_with fail
            go_meet
            exact ⟨by rw [HEN.out], rfl⟩
        · have t3 : ¬ (4294967296 : Int) ≤ (ry : Int) := by omega
          have HRY : Hid (ry < 4294967296) := by show _ < _; omega
          by_cases hqq : 4294967296 ≤ q
          · have t1 : (4294967296 : Int) ≤ (q : Int) := by omega
            clear hpy hpy2 hb0 hbr hry hbb hryl hRD hbig hq' hQ' hqb hqr' hbrk hbk hqq
            go_wp2_with fail
            go_round
            case rel => exact ⟨q', ry, rfl, rfl, HQR'.out, HQ'.out, HQB.out, HRY.out⟩
            case measure => have := HLT.out; simp [intOf]; omega
          · have t1 : ¬ (4294967296 : Int) ≤ (q : Int) := by omega
            have t2 : (br : Int) < (py : Int) := by omega
            clear hpy hpy2 hb0 hbr hry hbb hryl hRD hbig hq' hQ' hqb hqr' hbrk hbk hqq
            go_wp2_with fail
            go_round
            case rel => exact ⟨q', ry, rfl, rfl, HQR'.out, HQ'.out, HQB.out, HRY.out⟩
            case measure => have := HLT.out; simp [intOf]; omega
      · have HEN := Lib.hid (hRD.2 hbig)
        have t1 : ¬ (4294967296 : Int) ≤ (q : Int) := by omega
        have t2 : ¬ (br : Int) < (py : Int) := by omega
        clear hpy hpy2 hb0 hbr hry hbb hryl hRD hbig
        go_wp2_with fail
        go_meet
        exact ⟨by rw [HEN.out], rfl⟩
  case rest =>
    obtain ⟨rfl, rfl⟩ := hcut
    go_upto_block 2 with (fail)
    go_cut [18, 16] from 102 to 120 (fun v _ wd => v = .int .u64 (Q0 : Int) ∧ wd = wc)
    case first =>
      go_wp2_with fail
      go_loop [18, 16] (fun v v' => ∃ q r : Nat, v = .int .u64 (q : Int) ∧ v' = .int .u64 (r : Int) ∧ Hid (q * y1 + r = R1) ∧ Hid (Q0 ≤ q) ∧ Hid (q ≤ 4294967297) ∧ Hid (r < 4294967296)) (fun v _ => (intOf v).toNat)
      case atStart => exact ⟨qt, rt, rfl, rfl, HQR2.out, KF0.out, HQT2.out, HRT2.out⟩
      case round =>
        obtain ⟨q, r, rfl, rfl, hqr, hQq, hq, hr⟩ := hrel
        obtain ⟨py, hpy⟩ : ∃ py, py = q * y0 := ⟨_, rfl⟩
        have hpy2 : py < 18446744073709551616 := py_lt hpy hq.out BY0.out
        have k1 : IntKind.u64.wrap ((q : Int) * (y0 : Int)) = (py : Int) := by
          rw [wr_mul hpy.symm, Nat.mod_eq_of_lt hpy2]
        obtain ⟨b0, hb0⟩ : ∃ b0, b0 = 4294967296 * r := ⟨_, rfl⟩
        obtain ⟨br, hbr⟩ : ∃ br, br = b0 + l0 := ⟨_, rfl⟩
        have hbb := br_lt hb0 hbr hr.out BL0.out
        have k2 : IntKind.u64.wrap (4294967296 * (r : Int)) = (b0 : Int) := wr_cmul hb0.symm hbb.1
        have k5 : IntKind.u64.wrap ((b0 : Int) + (l0 : Int)) = (br : Int) := wr_add' hbr hbb.2
        obtain ⟨ry, hry⟩ : ∃ ry, ry = r + y1 := ⟨_, rfl⟩
        have hryl := ry_lt hry hr.out BY1.out.2
        have k4 : IntKind.u64.wrap ((r : Int) + (y1 : Int)) = (ry : Int) := wr_add' hry hryl
        have hRD := digit_round HYY.out BY0.out BY1.out.1 HR1lt.out BL0.out HQ0.out hqr.out hQq.out hq.out
        rw [← hpy, ← hb0, ← hbr, ← hry] at hRD
        by_cases hbig : 4294967296 ≤ q ∨ br < py
        · obtain ⟨q', hq', hQ', hqb, hqr', hbrk⟩ := hRD.1 hbig
          have k3 : IntKind.u64.wrap ((q : Int) - 1) = (q' : Int) := by exact wr_pred hq' (lt_of_b1 hq.out)
          have HQ' := Lib.hid hQ'
          have HQB : Hid (q' ≤ 4294967297) := by show _ ≤ _; omega
          have HQR' := Lib.hid hqr'
          have HLT : Hid (q' < q) := by show _ < _; omega
          by_cases hbk : 4294967296 ≤ ry
          · have hend : q' = Q0 := hbrk hbk
            have HEN := Lib.hid hend
            have t3 : (4294967296 : Int) ≤ (ry : Int) := by omega
            by_cases hqq : 4294967296 ≤ q
            · have t1 : (4294967296 : Int) ≤ (q : Int) := by omega
              clear hpy hpy2 hb0 hbr hry hbb hryl hRD hbig hq' hQ' hqb hqr' hbrk hbk hend hqq
              go_wp2_with fail
              go_meet
              exact ⟨by rw [HEN.out], rfl⟩
            · have t1 : ¬ (4294967296 : Int) ≤ (q : Int) := by omega
              have t2 : (br : Int) < (py : Int) := by omega
              clear hpy hpy2 hb0 hbr hry hbb hryl hRD hbig hq' hQ' hqb hqr' hbrk hbk hend hqq
              go_wp2_with fail
              go_meet
              exact ⟨by rw [HEN.out], rfl⟩
          · have t3 : ¬ (4294967296 : Int) ≤ (ry : Int) := by omega
            have HRY : Hid (ry < 4294967296) := by show _ < _; omega
            by_cases hqq : 4294967296 ≤ q
            · have t1 : (4294967296 : Int) ≤ (q : Int) := by omega
              clear hpy hpy2 hb0 hbr hry hbb hryl hRD hbig hq' hQ' hqb hqr' hbrk hbk hqq
              go_wp2_with fail
              go_round
              case rel => exact ⟨q', ry, rfl, rfl, HQR'.out, HQ'.out, HQB.out, HRY.out⟩
              case measure => have := HLT.out; simp [intOf]; omega
            · have t1 : ¬ (4294967296 : Int) ≤ (q : Int) := by omega
              have t2 : (br : Int) < (py : Int) := by omega
              clear hpy hpy2 hb0 hbr hry hbb hryl hRD hbig hq' hQ' hqb hqr' hbrk hbk hqq
              go_wp2_with fail
              go_round
              case rel => exact ⟨q', ry, rfl, rfl, HQR'.out, HQ'.out, HQB.out, HRY.out⟩
              case measure => have := HLT.out; simp [intOf]; omega
        · have HEN := Lib.hid (hRD.2 hbig)
          have t1 : ¬ (4294967296 : Int) ≤ (q : Int) := by omega
          have t2 : ¬ (br : Int) < (py : Int) := by omega
          clear hpy hpy2 hb0 hbr hry hbb hryl hRD hbig
          go_wp2_with fail
          go_meet
          exact ⟨by rw [HEN.out], rfl⟩
    case rest =>
      obtain ⟨rfl, rfl⟩ := hcut
      go_wp2_with fail
      go_ret2
      exact ⟨rfl, Below.refl _ _⟩
end Go.Proofs.YtpfihjkhgfoijaaGreatDoor
namespace Go.Proofs.YtpfihjkhgfoijaaGreatDoor
open Go.RowKit

/-- the quotient and the rest of two words by one -/
def DivP (N y : Nat) (w : World) (e : Ending) (w' : World) : Prop := ∃ q r : Nat, e = .returned (.tuple #[.int .u64 (q : Int), .int .u64 (r : Int)]) ∧ q = N / y ∧ r = N % y ∧ Below w.heap.size w w'
theorem c262 (hi lo y : Nat) (hh : hi < y) (hl : lo < 18446744073709551616) (hy : hi = 0 ∨ 9223372036854775808 ≤ y) (hy0 : 0 < y) (hy2 : y < 18446744073709551616) (w : World) :
    Calls Tryz.prog 262 #[.int .u64 (hi : Int), .int .u64 (lo : Int), .int .u64 (y : Int)] w (DivP (hi * 18446744073709551616 + lo) y w) := by
  have H : Hid (Calls Tryz.prog 271 #[.int .u64 (hi : Int), .int .u64 (lo : Int), .int .u64 (y : Int)] w (DivP (hi * 18446744073709551616 + lo) y w)) := by
    by_cases h0 : hi = 0
    · subst h0
      refine (c271z lo y hl hy0 hy2 w).mono ?_
      rintro e w1 ⟨rfl, hB⟩
      exact ⟨_, _, rfl, by rw [Nat.zero_mul, Nat.zero_add], by rw [Nat.zero_mul, Nat.zero_add], hB⟩
    · refine (c271 hi lo y (by omega) hh hl (hy.resolve_left h0) hy2 w).mono ?_
      rintro e w1 ⟨rfl, hB⟩
      exact ⟨_, _, rfl, rfl, rfl, hB⟩
  generalize hi * 18446744073709551616 + lo = N at *
  clear hh hl hy hy2
  go_enter Tryz.func262, Tryz.ntmps262
  go_wp2_with fail
  refine H.out.mono ?_
  rintro e w1 ⟨q, r, rfl, hq, hr, hB⟩
  have HQ := Lib.hid hq
  have HR := Lib.hid hr
  clear hq hr
  go_wp2_with fail
  go_ret2
  exact ⟨q, r, rfl, HQ.out, HR.out, hB⟩
/-- how many zeros stand ahead -/
def lz (y : Nat) : Nat := 63 - y.log2
theorem lz_facts {y : Nat} (h0 : 0 < y) (h2 : y < 18446744073709551616) : lz y < 64 ∧ (64 : Int) - (Lib.bitLen y : Int) = (lz y : Int) ∧ 9223372036854775808 ≤ y * 2 ^ lz y ∧ y * 2 ^ lz y < 18446744073709551616 := by
  have h3 : y.log2 < 64 := (Nat.log2_lt (by omega)).2 (by simpa using h2)
  have h4 : 2 ^ y.log2 ≤ y := (Nat.le_log2 (by omega)).1 (Nat.le_refl _)
  have h5 : y < 2 ^ (y.log2 + 1) := (Nat.log2_lt (by omega)).1 (by omega)
  have e1 : (9223372036854775808 : Nat) = 2 ^ y.log2 * 2 ^ lz y := by
    unfold lz; rw [← Nat.pow_add, show y.log2 + (63 - y.log2) = 63 from by omega]
  have e2 : (18446744073709551616 : Nat) = 2 ^ (y.log2 + 1) * 2 ^ lz y := by
    unfold lz; rw [← Nat.pow_add, show y.log2 + 1 + (63 - y.log2) = 64 from by omega]
  refine ⟨by unfold lz; omega, ?_, ?_, ?_⟩
  · rw [bitLen_pos y (by omega) h2]; unfold lz; omega
  · rw [e1]; exact Nat.mul_le_mul_right _ h4
  · rw [e2]; exact Nat.mul_lt_mul_of_pos_right h5 (Nat.two_pow_pos _)
theorem c247 (y : Nat) (h0 : 0 < y) (h2 : y < 18446744073709551616) (w : World) : Calls Tryz.prog 247 #[.int .u64 (y : Int)] w fun e w' => e = .returned (.int .u64 (lz y : Int)) ∧ w = w' := by
  have H := Tryz.bits_LeadingZeros (y : Int) w (by omega) (by omega)
  rw [Int.toNat_natCast, (lz_facts h0 h2).2.1] at H
  have H := Lib.hid H
  have hl := (lz_facts h0 h2).1
  generalize lz y = s at *
  go_enter Tryz.func247, Tryz.ntmps247
  go_wp2_with fail
  refine H.out.mono ?_
  rintro e w1 ⟨rfl, rfl⟩
  go_wp2_with fail
  go_ret
  exact ⟨rfl, rfl⟩
/-- the reciprocal of a word, moved to the left -/
def recW (y : Nat) : Nat := (18446744073709551616 * 18446744073709551616 - 1) / (y * 2 ^ lz y) - 18446744073709551616
theorem rec_eq {u : Nat} (h1 : 9223372036854775808 ≤ u) (h2 : u < 18446744073709551616) : ((18446744073709551615 - u) * 18446744073709551616 + 18446744073709551615) / u = (18446744073709551616 * 18446744073709551616 - 1) / u - 18446744073709551616 := by
  have e : 18446744073709551616 * 18446744073709551616 - 1 = u * 18446744073709551616 + ((18446744073709551615 - u) * 18446744073709551616 + 18446744073709551615) := by omega
  rw [e, Nat.mul_add_div (by omega), Nat.add_sub_cancel_left]
theorem wr_shl {y s u : Nat} (h : y * 2 ^ s = u) (hu : u < 18446744073709551616) : IntKind.u64.wrap ((y : Int) * 2 ^ s) = (u : Int) := by
  rw [show (y : Int) * 2 ^ s = ((y * 2 ^ s : Nat) : Int) from by simp, h, IntKind.wrap_u64]; omega
theorem nat_not (u : Nat) (h : u < 18446744073709551616) : 18446744073709551615 ^^^ u = 18446744073709551615 - u := by
  have h1 := congrArg BitVec.toNat (BitVec.not_def (x := BitVec.ofNat 64 u))
  rw [BitVec.toNat_not, BitVec.toNat_xor, BitVec.toNat_allOnes, BitVec.toNat_ofNat, Nat.mod_eq_of_lt (by simpa using h)] at h1
  simpa using h1.symm
theorem u64_not (u : Nat) (h : u < 18446744073709551616) : bits .xor .u64 (if IntKind.u64.signed = true then -1 else IntKind.u64.max) (u : Int) = ((18446744073709551615 - u : Nat) : Int) := by
  rw [← nat_not u h]
  exact u64_xor_nat 18446744073709551615 u (by omega) h
theorem c262r (u : Nat) (h1 : 9223372036854775808 ≤ u) (h2 : u < 18446744073709551616) (w : World) : ∃ v q : Nat, bits .xor .u64 (if IntKind.u64.signed = true then -1 else IntKind.u64.max) (u : Int) = (v : Int) ∧ q = (18446744073709551616 * 18446744073709551616 - 1) / u - 18446744073709551616 ∧
    Calls Tryz.prog 262 #[.int .u64 (v : Int), .int .u64 18446744073709551615, .int .u64 (u : Int)] w fun e w' => ∃ r : Nat, e = .returned (.tuple #[.int .u64 (q : Int), .int .u64 (r : Int)]) ∧ Below w.heap.size w w' := by
  refine ⟨18446744073709551615 - u, _, u64_not u h2, rfl, ?_⟩
  refine (c262 (18446744073709551615 - u) 18446744073709551615 u (by omega) (by omega) (.inr h1) (by omega) h2 w).mono ?_
  rintro e w1 ⟨q, r, rfl, hq, hr, hB⟩
  rw [rec_eq h1 h2] at hq
  exact ⟨r, by rw [hq], hB⟩
theorem c263 (y : Nat) (h0 : 0 < y) (h2 : y < 18446744073709551616) (w : World) : Calls Tryz.prog 263 #[.int .u64 (y : Int)] w fun e w' => e = .returned (.int .u64 (recW y : Int)) ∧ Below w.heap.size w w' := by
  have H := Lib.hid (c247 y h0 h2 w)
  obtain ⟨l1, _, l3, l4⟩ := lz_facts h0 h2
  have s3 := wr_shl (y := y) (s := lz y) rfl l4
  have m1 : min (lz y) 64 = lz y := by omega
  obtain ⟨v, q, nw, hq, HD⟩ := c262r _ l3 l4 w
  have HQ : Hid (recW y = q) := hq.symm
  have HD := Lib.hid HD
  clear hq l3 l4
  obtain ⟨s, hs⟩ : ∃ s, s = lz y := ⟨_, rfl⟩
  obtain ⟨u, hu⟩ : ∃ u, u = y * 2 ^ lz y := ⟨_, rfl⟩
  rw [← hu] at nw s3 HD
  rw [← hs] at m1 s3 H l1
  clear hu hs
  go_enter Tryz.func263, Tryz.ntmps263
  go_wp2_with fail
  refine H.out.mono ?_
  rintro e w1 ⟨rfl, rfl⟩
  go_upto_region 3 with (fail)
  go_wp2_with fail
  refine HD.out.mono ?_
  rintro e w1 ⟨r, rfl, hB⟩
  go_wp2_with fail
  go_ret
  exact ⟨by rw [HQ.out]; rfl, hB⟩
/-- both moved to the left -/
theorem dw_shift {y x1 x0 s d : Nat} (hs : s < 64) (hd : d = y * 2 ^ s) (hdW : d < WB) (hx1 : x1 < y) (hx0 : x0 < WB) :
    x1 * 2 ^ s + x0 / 2 ^ (64 - s) < d ∧ (x1 * 2 ^ s + x0 / 2 ^ (64 - s)) * WB + x0 * 2 ^ s % WB = (x1 * WB + x0) * 2 ^ s ∧ x1 * 2 ^ s < WB ∧ x0 / 2 ^ (64 - s) < 2 ^ s := by
  have hW : WB = 2 ^ (64 - s) * 2 ^ s := by rw [wb_eq, ← Nat.pow_add, show 64 - s + s = 64 from by omega]
  have h2 : 0 < 2 ^ s := Nat.two_pow_pos s
  have hdv : x0 / 2 ^ (64 - s) = x0 * 2 ^ s / WB := by rw [hW, Nat.mul_div_mul_right _ _ h2]
  have e : (x1 * 2 ^ s + x0 / 2 ^ (64 - s)) * WB + x0 * 2 ^ s % WB = (x1 * WB + x0) * 2 ^ s := by
    rw [hdv, Nat.add_mul, Nat.add_assoc, Nat.mul_comm (x0 * 2 ^ s / WB) WB, Nat.div_add_mod, Nat.add_mul, Nat.mul_right_comm]
  have hlt : (x1 * WB + x0) * 2 ^ s < d * WB := by
    rw [hd, Nat.mul_right_comm]
    refine Nat.mul_lt_mul_of_pos_right ?_ h2
    calc x1 * WB + x0 < x1 * WB + WB := by omega
      _ = (x1 + 1) * WB := by rw [Nat.add_mul, Nat.one_mul]
      _ ≤ y * WB := Nat.mul_le_mul_right _ hx1
  refine ⟨?_, e, ?_, ?_⟩
  · rw [← e] at hlt
    exact Nat.lt_of_mul_lt_mul_right (Nat.lt_of_le_of_lt (Nat.le_add_right _ _) hlt)
  · calc x1 * 2 ^ s ≤ y * 2 ^ s := Nat.mul_le_mul_right _ (Nat.le_of_lt hx1)
      _ < WB := by rw [← hd]; exact hdW
  · rw [Nat.div_lt_iff_lt_mul (Nat.two_pow_pos _), Nat.mul_comm, ← hW]; exact hx0
theorem or_sum {a b s : Nat} (ha : a * 2 ^ s + b < 18446744073709551616) (hb : b < 2 ^ s) : bits .or .u64 ((a * 2 ^ s : Nat) : Int) (b : Int) = ((a * 2 ^ s + b : Nat) : Int) := by
  rw [u64_or_nat _ _ (by omega) (by omega), Nat.mul_comm a, ← Nat.two_pow_add_eq_or_of_lt hb]
theorem rec_lt {d : Nat} (h1 : WB ≤ 2 * d) (h2 : d < WB) : (WB * WB - 1) / d - WB < WB := by
  have hp := wb_pos
  have hd : 0 < d := by omega
  have h3 : (WB * WB - 1) / d < 2 * WB := by
    rw [Nat.div_lt_iff_lt_mul hd]
    have h5 : WB * WB ≤ 2 * d * WB := Nat.mul_le_mul_right _ h1
    have h6 : 0 < WB * WB := Nat.mul_pos hp hp
    rw [show 2 * WB * d = 2 * d * WB from by rw [Nat.mul_right_comm]]
    omega
  omega
/-- the end, told of the numbers that came in -/
theorem dw_fin {N y s d T R : Nat} (hs : d = y * 2 ^ s) (hd : WB ≤ 2 * d) (hdW : d < WB) (hN : N * 2 ^ s = d * T + R) (hR : R < WB + d) :
    (WB ≤ R → d ≤ R - d → T + 2 = N / y ∧ (R - d - d) / 2 ^ s = N % y) ∧ (WB ≤ R → R - d < d → T + 1 = N / y ∧ (R - d) / 2 ^ s = N % y) ∧ (R < WB → d ≤ R → T + 1 = N / y ∧ (R - d) / 2 ^ s = N % y) ∧ (R < d → T = N / y ∧ R / 2 ^ s = N % y) := by
  have h2 : 0 < 2 ^ s := Nat.two_pow_pos s
  obtain ⟨a, b, c, e⟩ := dw_end (Nat.le_of_lt hdW) hd hN hR
  have sc := dw_scale (N := N) (y := y) h2
  rw [← hs] at sc
  have key : ∀ q r, N * 2 ^ s / d = q ∧ N * 2 ^ s % d = r → q = N / y ∧ r / 2 ^ s = N % y := fun q r h => by
    rw [sc.1, sc.2] at h
    exact ⟨h.1.symm, by rw [← h.2, Nat.mul_div_cancel _ h2]⟩
  exact ⟨fun h1 h2 => key _ _ (a h1 h2), fun h1 h2 => key _ _ (b h1 h2), fun h1 h2 => key _ _ (c h1 h2), fun h => key _ _ (e h)⟩
/-- all that divWW reckons with, named -/
theorem dw_pack (x1 x0 y : Nat) (hx1 : x1 < y) (hx0 : x0 < WB) (hyW : y < WB) : ∃ s d X1 X0 h1 h2 t1 t0 u0 c T c2 dq1 dq0 r0 b r1 b2 R : Nat,
    s = lz y ∧ s < 64 ∧ IntKind.u64.wrap ((y : Int) * 2 ^ s) = (d : Int) ∧ IntKind.u64.wrap ((x1 : Int) * 2 ^ s) = (h1 : Int) ∧ (x0 : Int) / 2 ^ (64 - s) = (h2 : Int) ∧ bits .or .u64 (h1 : Int) (h2 : Int) = (X1 : Int) ∧ IntKind.u64.wrap ((x0 : Int) * 2 ^ s) = (X0 : Int) ∧ (s = 0 → X1 = x1 ∧ X0 = x0 ∧ d = y) ∧
    (∀ W, Calls Tryz.prog 268 #[.int .u64 (recW y : Int), .int .u64 (X1 : Int)] W fun e w' => e = .returned (.tuple #[.int .u64 (t1 : Int), .int .u64 (t0 : Int)]) ∧ W = w') ∧
    (∀ W, Calls Tryz.prog 245 #[.int .u64 (t0 : Int), .int .u64 (X0 : Int), .int .u64 0] W fun e w' => e = .returned (.tuple #[.int .u64 (u0 : Int), .int .u64 (c : Int)]) ∧ W = w') ∧
    (∀ W, Calls Tryz.prog 245 #[.int .u64 (t1 : Int), .int .u64 (X1 : Int), .int .u64 (c : Int)] W fun e w' => e = .returned (.tuple #[.int .u64 (T : Int), .int .u64 (c2 : Int)]) ∧ W = w') ∧
    (∀ W, Calls Tryz.prog 268 #[.int .u64 (d : Int), .int .u64 (T : Int)] W fun e w' => e = .returned (.tuple #[.int .u64 (dq1 : Int), .int .u64 (dq0 : Int)]) ∧ W = w') ∧
    (∀ W, Calls Tryz.prog 270 #[.int .u64 (X0 : Int), .int .u64 (dq0 : Int), .int .u64 0] W fun e w' => e = .returned (.tuple #[.int .u64 (r0 : Int), .int .u64 (b : Int)]) ∧ W = w') ∧
    (∀ W, Calls Tryz.prog 270 #[.int .u64 (X1 : Int), .int .u64 (dq1 : Int), .int .u64 (b : Int)] W fun e w' => e = .returned (.tuple #[.int .u64 (r1 : Int), .int .u64 (b2 : Int)]) ∧ W = w') ∧
    r0 = R % WB ∧ r1 = R / WB ∧ R < WB + d ∧ WB ≤ 2 * d ∧ d < WB ∧ T < WB ∧ (x1 * WB + x0) * 2 ^ s = d * T + R ∧ d = y * 2 ^ s := by
  have hp := wb_pos
  have hy0 : 0 < y := by omega
  obtain ⟨l1, _, l3, l4⟩ := lz_facts hy0 (by rw [← wb_eq]; exact hyW)
  have hdW : y * 2 ^ lz y < WB := by rw [wb_eq]; exact l4
  have hd2 : WB ≤ 2 * (y * 2 ^ lz y) := by rw [wb_eq]; omega
  obtain ⟨k1, k2, k3, k4⟩ := dw_shift l1 rfl hdW hx1 hx0
  have hX0 : x0 * 2 ^ lz y % WB < WB := Nat.mod_lt _ hp
  have hm : recW y = (WB * WB - 1) / (y * 2 ^ lz y) - WB := by rw [wb_eq]; rfl
  have hmW : recW y < WB := by rw [hm]; exact rec_lt hd2 hdW
  have hd0 : 0 < y * 2 ^ lz y := by omega
  obtain ⟨T, hT, hTW, hlo, hhi⟩ := dw_guess (B := WB) hd0 hdW hm k1 hX0
  obtain ⟨R, hR, hRB, hr0, hr1⟩ := dw_rest hdW k1 hX0 hlo hhi
  have hX1W : x1 * 2 ^ lz y + x0 / 2 ^ (64 - lz y) < WB := Nat.lt_trans k1 hdW
  have hc1 : (recW y * (x1 * 2 ^ lz y + x0 / 2 ^ (64 - lz y)) % WB + x0 * 2 ^ lz y % WB + 0) / WB ≤ 1 := by
    rw [Nat.div_le_iff_le_mul_add_pred hp]
    have := Nat.mod_lt (recW y * (x1 * 2 ^ lz y + x0 / 2 ^ (64 - lz y))) hp
    omega
  have H3 : ∀ W, Calls Tryz.prog 245 #[.int .u64 ((recW y * (x1 * 2 ^ lz y + x0 / 2 ^ (64 - lz y)) / WB : Nat) : Int), .int .u64 ((x1 * 2 ^ lz y + x0 / 2 ^ (64 - lz y) : Nat) : Int), .int .u64 (((recW y * (x1 * 2 ^ lz y + x0 / 2 ^ (64 - lz y)) % WB + x0 * 2 ^ lz y % WB + 0) / WB : Nat) : Int)] W fun e w' => e = .returned (.tuple #[.int .u64 (T : Int), .int .u64 (((recW y * (x1 * 2 ^ lz y + x0 / 2 ^ (64 - lz y)) / WB + (x1 * 2 ^ lz y + x0 / 2 ^ (64 - lz y)) + (recW y * (x1 * 2 ^ lz y + x0 / 2 ^ (64 - lz y)) % WB + x0 * 2 ^ lz y % WB + 0) / WB) / WB : Nat) : Int)]) ∧ W = w' := fun W => by
    have := c245 (recW y * (x1 * 2 ^ lz y + x0 / 2 ^ (64 - lz y)) / WB) (x1 * 2 ^ lz y + x0 / 2 ^ (64 - lz y)) _ hc1 W
    rw [← hT] at this
    exact this
  have hif : (if x0 * 2 ^ lz y % WB < y * 2 ^ lz y * T % WB + 0 then 1 else 0 : Nat) ≤ 1 := by split <;> omega
  refine ⟨lz y, y * 2 ^ lz y, x1 * 2 ^ lz y + x0 / 2 ^ (64 - lz y), x0 * 2 ^ lz y % WB, x1 * 2 ^ lz y, x0 / 2 ^ (64 - lz y), recW y * (x1 * 2 ^ lz y + x0 / 2 ^ (64 - lz y)) / WB, recW y * (x1 * 2 ^ lz y + x0 / 2 ^ (64 - lz y)) % WB,
    (recW y * (x1 * 2 ^ lz y + x0 / 2 ^ (64 - lz y)) % WB + x0 * 2 ^ lz y % WB + 0) % WB, (recW y * (x1 * 2 ^ lz y + x0 / 2 ^ (64 - lz y)) % WB + x0 * 2 ^ lz y % WB + 0) / WB, T, (recW y * (x1 * 2 ^ lz y + x0 / 2 ^ (64 - lz y)) / WB + (x1 * 2 ^ lz y + x0 / 2 ^ (64 - lz y)) + (recW y * (x1 * 2 ^ lz y + x0 / 2 ^ (64 - lz y)) % WB + x0 * 2 ^ lz y % WB + 0) / WB) / WB,
    y * 2 ^ lz y * T / WB, y * 2 ^ lz y * T % WB, (x0 * 2 ^ lz y % WB + WB - y * 2 ^ lz y * T % WB - 0) % WB, (if x0 * 2 ^ lz y % WB < y * 2 ^ lz y * T % WB + 0 then 1 else 0), (x1 * 2 ^ lz y + x0 / 2 ^ (64 - lz y) + WB - y * 2 ^ lz y * T / WB - (if x0 * 2 ^ lz y % WB < y * 2 ^ lz y * T % WB + 0 then 1 else 0)) % WB, (if x1 * 2 ^ lz y + x0 / 2 ^ (64 - lz y) < y * 2 ^ lz y * T / WB + (if x0 * 2 ^ lz y % WB < y * 2 ^ lz y * T % WB + 0 then 1 else 0) then 1 else 0), R, rfl, l1, wr_shl rfl l4, wr_shl rfl (by rw [← wb_eq]; exact k3), ?_, or_sum (by rw [← wb_eq]; exact hX1W) k4, ?_, ?_,
    fun W => c268 _ _ hmW hX1W W, fun W => c245 _ _ 0 (by omega) W, H3, fun W => c268 _ _ hdW hTW W, fun W => c270 _ _ 0 (by omega) W, fun W => c270 _ _ _ hif W, hr0, hr1, hRB, hd2, hdW, hTW, by rw [← k2]; exact hR, rfl⟩
  · rw [Int.natCast_ediv]; simp
  · rw [show (x0 : Int) * 2 ^ lz y = ((x0 * 2 ^ lz y : Nat) : Int) from by simp, IntKind.wrap_u64, wb_eq]; omega
  · intro h0
    rw [h0]
    refine ⟨?_, ?_, by rw [Nat.pow_zero, Nat.mul_one]⟩
    · rw [Nat.pow_zero, Nat.mul_one, Nat.sub_zero, Nat.div_eq_of_lt (by rw [← show WB = 2 ^ 64 from wb_eq]; exact hx0), Nat.add_zero]
    · rw [Nat.pow_zero, Nat.mul_one, Nat.mod_eq_of_lt hx0]
end Go.Proofs.YtpfihjkhgfoijaaGreatDoor
namespace Go.Proofs.YtpfihjkhgfoijaaGreatDoor
open Go.RowKit

theorem wr_subW {a b c : Nat} (h : c + b = a ∨ c + b = a + 18446744073709551616) (hc : c < 18446744073709551616) : IntKind.u64.wrap ((a : Int) - (b : Int)) = (c : Int) := by rw [IntKind.wrap_u64]; omega
theorem wr_inc {a : Nat} (hc : a + 1 < 18446744073709551616) : IntKind.u64.wrap ((a : Int) + 1) = ((a + 1 : Nat) : Int) := by rw [IntKind.wrap_u64]; omega
/-- the ways of the end, named -/
theorem dw_ways {N y s d T R r0 r1 : Nat} (hs : d = y * 2 ^ s) (hd : WB ≤ 2 * d) (hdW : d < WB) (hN : N * 2 ^ s = d * T + R) (hR : R < WB + d) (hr0 : r0 = R % WB) (hr1 : r1 = R / WB) (hq : N / y < WB) :
    (∃ ra rb T1 T2 : Nat, r1 ≠ 0 ∧ IntKind.u64.wrap ((r0 : Int) - (d : Int)) = (ra : Int) ∧ IntKind.u64.wrap ((T : Int) + 1) = (T1 : Int) ∧ (d : Int) ≤ (ra : Int) ∧ IntKind.u64.wrap ((T1 : Int) + 1) = (T2 : Int) ∧ IntKind.u64.wrap ((ra : Int) - (d : Int)) = (rb : Int) ∧ T2 = N / y ∧ rb / 2 ^ s = N % y) ∨
    (∃ ra T1 : Nat, r1 ≠ 0 ∧ IntKind.u64.wrap ((r0 : Int) - (d : Int)) = (ra : Int) ∧ IntKind.u64.wrap ((T : Int) + 1) = (T1 : Int) ∧ ¬ (d : Int) ≤ (ra : Int) ∧ T1 = N / y ∧ ra / 2 ^ s = N % y) ∨
    (∃ ra T1 : Nat, r1 = 0 ∧ (d : Int) ≤ (r0 : Int) ∧ IntKind.u64.wrap ((r0 : Int) - (d : Int)) = (ra : Int) ∧ IntKind.u64.wrap ((T : Int) + 1) = (T1 : Int) ∧ T1 = N / y ∧ ra / 2 ^ s = N % y) ∨
    (r1 = 0 ∧ ¬ (d : Int) ≤ (r0 : Int) ∧ T = N / y ∧ r0 / 2 ^ s = N % y) := by
  have hp := wb_pos
  obtain ⟨fa, fb, fc, fd⟩ := dw_fin hs hd hdW hN hR
  by_cases hb : WB ≤ R
  · have e1 : R / WB = 1 := by
      apply Nat.le_antisymm
      · rw [Nat.div_le_iff_le_mul_add_pred hp]; omega
      · rw [Nat.le_div_iff_mul_le hp]; omega
    have e0 : R % WB = R - WB := by
      rw [Nat.mod_eq_sub_mod hb, Nat.mod_eq_of_lt (by omega)]
    rw [e1] at hr1
    rw [e0] at hr0
    by_cases hc : d ≤ R - d
    · have hf := fa hb hc
      rw [wb_eq] at *
      exact .inl ⟨R - d, R - d - d, T + 1, T + 2, by omega, wr_subW (by omega) (by omega), wr_inc (by omega), by omega, wr_inc (by omega), wr_subW (by omega) (by omega), hf.1, hf.2⟩
    · have hf := fb hb (by omega)
      rw [wb_eq] at *
      exact .inr (.inl ⟨R - d, T + 1, by omega, wr_subW (by omega) (by omega), wr_inc (by omega), by omega, hf.1, hf.2⟩)
  · have e1 : R / WB = 0 := Nat.div_eq_of_lt (by omega)
    have e0 : R % WB = R := Nat.mod_eq_of_lt (by omega)
    rw [e1] at hr1
    rw [e0] at hr0
    by_cases hc : d ≤ R
    · have hf := fc (by omega) hc
      rw [wb_eq] at *
      exact .inr (.inr (.inl ⟨R - d, T + 1, hr1, by omega, wr_subW (by omega) (by omega), wr_inc (by omega), hf.1, hf.2⟩))
    · have hf := fd (by omega)
      exact .inr (.inr (.inr ⟨hr1, by omega, hf.1, by rw [hr0]; exact hf.2⟩))
set_option maxHeartbeats 4000000 in
theorem c264 (x1 x0 y : Nat) (hx1 : x1 < y) (hx0 : x0 < WB) (hyW : y < WB) (w : World) :
    Calls Tryz.prog 264 #[.int .u64 (x1 : Int), .int .u64 (x0 : Int), .int .u64 (y : Int), .int .u64 (recW y : Int)] w (DivP (x1 * WB + x0) y w) := by
  obtain ⟨s, d, X1, X0, h1, h2, t1, t0, u0, c, T, c2, dq1, dq0, r0, b, r1, b2, R, hs, hs64, g1, g2, g3, g4, g5, hz, k1, k2, k3, k4, k5, k6, hr0, hr1, hR, hd2, hdW, hTW, hN, hd⟩ := dw_pack x1 x0 y hx1 hx0 hyW
  have hN0 : x1 * WB + x0 < y * WB := by
    calc x1 * WB + x0 < x1 * WB + WB := by omega
      _ = (x1 + 1) * WB := by rw [Nat.add_mul, Nat.one_mul]
      _ ≤ y * WB := Nat.mul_le_mul_right _ hx1
  have hq : (x1 * WB + x0) / y < WB := by rw [Nat.div_lt_iff_lt_mul (by omega), Nat.mul_comm WB]; exact hN0
  have hw := dw_ways hd hd2 hdW hN hR hr0 hr1 hq
  have H0 := Lib.hid (c247 y (by omega) (by rw [← wb_eq]; exact hyW) w)
  rw [← hs] at H0
  have H1 := Lib.hid k1
  have H2 := Lib.hid k2
  have H3 := Lib.hid k3
  have H4 := Lib.hid k4
  have H5 := Lib.hid k5
  have H6 := Lib.hid k6
  generalize x1 * WB + x0 = N at *
  have ms : min s 64 = s := by omega
  have ms2 : min (64 - s) 64 = 64 - s := by omega
  have sw : IntKind.u64.wrap (64 - (s : Int)) = ((64 - s : Nat) : Int) := by rw [IntKind.wrap_u64]; omega
  have HRW : Hid (recW y < WB ∨ True) := .inr trivial
  generalize recW y = m at *
  clear hN0 hq k1 k2 k3 k4 k5 k6 hr0 hr1 hR hd2 hdW hTW hN hd hs hx1 hx0 hyW
  by_cases h0 : s = 0
  · obtain ⟨rfl, rfl, rfl⟩ := hz h0
    subst h0
    clear hz g1 g2 g3 g4 g5 ms ms2 sw
    rcases hw with ⟨ra, rb, T1, T2, a1, a2, a3, a4, a5, a6, a7, a8⟩ | ⟨ra, T1, a1, a2, a3, a4, a7, a8⟩ | ⟨ra, T1, a1, a4, a2, a3, a7, a8⟩ | ⟨a1, a4, a7, a8⟩
    · have HF := Lib.hid (And.intro a7 a8)
      have e1 : ((r1 : Int) != 0) = true := by rw [bne_iff_ne]; omega
      have e2 : (r1 : Int) ≠ 0 := by omega
      clear a7 a8 a1
      go_enter Tryz.func264, Tryz.ntmps264
      go_wp2_with fail
      refine H0.out.mono ?_
      rintro e w1 ⟨rfl, rfl⟩
      go_wp2_with fail
      refine (H1.out _).mono ?_
      rintro e w1 ⟨rfl, rfl⟩
      go_wp2_with fail
      refine (H2.out _).mono ?_
      rintro e w1 ⟨rfl, rfl⟩
      go_wp2_with fail
      refine (H3.out _).mono ?_
      rintro e w1 ⟨rfl, rfl⟩
      go_wp2_with fail
      refine (H4.out _).mono ?_
      rintro e w1 ⟨rfl, rfl⟩
      go_wp2_with fail
      refine (H5.out _).mono ?_
      rintro e w1 ⟨rfl, rfl⟩
      go_wp2_with fail
      refine (H6.out _).mono ?_
      rintro e w1 ⟨rfl, rfl⟩
      go_wp2_with fail
      go_ret2
      exact ⟨T2, rb / 2 ^ 0, by simp, HF.out.1, HF.out.2, Below.refl _ _⟩
    · have HF := Lib.hid (And.intro a7 a8)
      have e1 : ((r1 : Int) != 0) = true := by rw [bne_iff_ne]; omega
      have e2 : (r1 : Int) ≠ 0 := by omega
      clear a7 a8 a1
      go_enter Tryz.func264, Tryz.ntmps264
      go_wp2_with fail
      refine H0.out.mono ?_
      rintro e w1 ⟨rfl, rfl⟩
      go_wp2_with fail
      refine (H1.out _).mono ?_
      rintro e w1 ⟨rfl, rfl⟩
      go_wp2_with fail
      refine (H2.out _).mono ?_
      rintro e w1 ⟨rfl, rfl⟩
      go_wp2_with fail
      refine (H3.out _).mono ?_
      rintro e w1 ⟨rfl, rfl⟩
      go_wp2_with fail
      refine (H4.out _).mono ?_
      rintro e w1 ⟨rfl, rfl⟩
      go_wp2_with fail
      refine (H5.out _).mono ?_
      rintro e w1 ⟨rfl, rfl⟩
      go_wp2_with fail
      refine (H6.out _).mono ?_
      rintro e w1 ⟨rfl, rfl⟩
      go_wp2_with fail
      go_ret2
      exact ⟨T1, ra / 2 ^ 0, by simp, HF.out.1, HF.out.2, Below.refl _ _⟩
    · have HF := Lib.hid (And.intro a7 a8)
      have e1 : ((r1 : Int) != 0) = false := by rw [a1]; rfl
      have e2 : (r1 : Int) = 0 := by omega
      clear a7 a8 a1
      go_enter Tryz.func264, Tryz.ntmps264
      go_wp2_with fail
      refine H0.out.mono ?_
      rintro e w1 ⟨rfl, rfl⟩
      go_wp2_with fail
      refine (H1.out _).mono ?_
      rintro e w1 ⟨rfl, rfl⟩
      go_wp2_with fail
      refine (H2.out _).mono ?_
      rintro e w1 ⟨rfl, rfl⟩
      go_wp2_with fail
      refine (H3.out _).mono ?_
      rintro e w1 ⟨rfl, rfl⟩
      go_wp2_with fail
      refine (H4.out _).mono ?_
      rintro e w1 ⟨rfl, rfl⟩
      go_wp2_with fail
      refine (H5.out _).mono ?_
      rintro e w1 ⟨rfl, rfl⟩
      go_wp2_with fail
      refine (H6.out _).mono ?_
      rintro e w1 ⟨rfl, rfl⟩
      go_wp2_with fail
      go_ret2
      exact ⟨T1, ra / 2 ^ 0, by simp, HF.out.1, HF.out.2, Below.refl _ _⟩
    · have HF := Lib.hid (And.intro a7 a8)
      have e1 : ((r1 : Int) != 0) = false := by rw [a1]; rfl
      have e2 : (r1 : Int) = 0 := by omega
      clear a7 a8 a1
      go_enter Tryz.func264, Tryz.ntmps264
      go_wp2_with fail
      refine H0.out.mono ?_
      rintro e w1 ⟨rfl, rfl⟩
      go_wp2_with fail
      refine (H1.out _).mono ?_
      rintro e w1 ⟨rfl, rfl⟩
      go_wp2_with fail
      refine (H2.out _).mono ?_
      rintro e w1 ⟨rfl, rfl⟩
      go_wp2_with fail
      refine (H3.out _).mono ?_
      rintro e w1 ⟨rfl, rfl⟩
      go_wp2_with fail
      refine (H4.out _).mono ?_
      rintro e w1 ⟨rfl, rfl⟩
      go_wp2_with fail
      refine (H5.out _).mono ?_
      rintro e w1 ⟨rfl, rfl⟩
      go_wp2_with fail
      refine (H6.out _).mono ?_
      rintro e w1 ⟨rfl, rfl⟩
      go_wp2_with fail
      go_ret2
      exact ⟨T, r0 / 2 ^ 0, by simp, HF.out.1, HF.out.2, Below.refl _ _⟩
  · have e0 : ((s : Int) != 0) = true := by rw [bne_iff_ne]; omega
    have e00 : ¬ (s : Int) = 0 := by omega
    clear hz
    rcases hw with ⟨ra, rb, T1, T2, a1, a2, a3, a4, a5, a6, a7, a8⟩ | ⟨ra, T1, a1, a2, a3, a4, a7, a8⟩ | ⟨ra, T1, a1, a4, a2, a3, a7, a8⟩ | ⟨a1, a4, a7, a8⟩
    · have HF := Lib.hid (And.intro a7 a8)
      have e1 : ((r1 : Int) != 0) = true := by rw [bne_iff_ne]; omega
      have e2 : (r1 : Int) ≠ 0 := by omega
      have e3 : (rb : Int) / 2 ^ s = ((rb / 2 ^ s : Nat) : Int) := by rw [Int.natCast_ediv]; simp
      obtain ⟨rf, hrf⟩ : ∃ rf, rf = rb / 2 ^ s := ⟨_, rfl⟩
      rw [← hrf] at e3 HF
      clear a7 a8 a1 hrf
      go_enter Tryz.func264, Tryz.ntmps264
      go_wp2_with fail
      refine H0.out.mono ?_
      rintro e w1 ⟨rfl, rfl⟩
      go_wp2_with fail
      refine (H1.out _).mono ?_
      rintro e w1 ⟨rfl, rfl⟩
      go_wp2_with fail
      refine (H2.out _).mono ?_
      rintro e w1 ⟨rfl, rfl⟩
      go_wp2_with fail
      refine (H3.out _).mono ?_
      rintro e w1 ⟨rfl, rfl⟩
      go_wp2_with fail
      refine (H4.out _).mono ?_
      rintro e w1 ⟨rfl, rfl⟩
      go_wp2_with fail
      refine (H5.out _).mono ?_
      rintro e w1 ⟨rfl, rfl⟩
      go_wp2_with fail
      refine (H6.out _).mono ?_
      rintro e w1 ⟨rfl, rfl⟩
      go_wp2_with fail
      go_ret2
      exact ⟨T2, rf, rfl, HF.out.1, HF.out.2, Below.refl _ _⟩
    · have HF := Lib.hid (And.intro a7 a8)
      have e1 : ((r1 : Int) != 0) = true := by rw [bne_iff_ne]; omega
      have e2 : (r1 : Int) ≠ 0 := by omega
      have e3 : (ra : Int) / 2 ^ s = ((ra / 2 ^ s : Nat) : Int) := by rw [Int.natCast_ediv]; simp
      obtain ⟨rf, hrf⟩ : ∃ rf, rf = ra / 2 ^ s := ⟨_, rfl⟩
      rw [← hrf] at e3 HF
      clear a7 a8 a1 hrf
      go_enter Tryz.func264, Tryz.ntmps264
      go_wp2_with fail
      refine H0.out.mono ?_
      rintro e w1 ⟨rfl, rfl⟩
      go_wp2_with fail
      refine (H1.out _).mono ?_
      rintro e w1 ⟨rfl, rfl⟩
      go_wp2_with fail
      refine (H2.out _).mono ?_
      rintro e w1 ⟨rfl, rfl⟩
      go_wp2_with fail
      refine (H3.out _).mono ?_
      rintro e w1 ⟨rfl, rfl⟩
      go_wp2_with fail
      refine (H4.out _).mono ?_
      rintro e w1 ⟨rfl, rfl⟩
      go_wp2_with fail
      refine (H5.out _).mono ?_
      rintro e w1 ⟨rfl, rfl⟩
      go_wp2_with fail
      refine (H6.out _).mono ?_
      rintro e w1 ⟨rfl, rfl⟩
      go_wp2_with fail
      go_ret2
      exact ⟨T1, rf, rfl, HF.out.1, HF.out.2, Below.refl _ _⟩
    · have HF := Lib.hid (And.intro a7 a8)
      have e1 : ((r1 : Int) != 0) = false := by rw [a1]; rfl
      have e2 : (r1 : Int) = 0 := by omega
      have e3 : (ra : Int) / 2 ^ s = ((ra / 2 ^ s : Nat) : Int) := by rw [Int.natCast_ediv]; simp
      obtain ⟨rf, hrf⟩ : ∃ rf, rf = ra / 2 ^ s := ⟨_, rfl⟩
      rw [← hrf] at e3 HF
      clear a7 a8 a1 hrf
      go_enter Tryz.func264, Tryz.ntmps264
      go_wp2_with fail
      refine H0.out.mono ?_
      rintro e w1 ⟨rfl, rfl⟩
      go_wp2_with fail
      refine (H1.out _).mono ?_
      rintro e w1 ⟨rfl, rfl⟩
      go_wp2_with fail
      refine (H2.out _).mono ?_
      rintro e w1 ⟨rfl, rfl⟩
      go_wp2_with fail
      refine (H3.out _).mono ?_
      rintro e w1 ⟨rfl, rfl⟩
      go_wp2_with fail
      refine (H4.out _).mono ?_
      rintro e w1 ⟨rfl, rfl⟩
      go_wp2_with fail
      refine (H5.out _).mono ?_
      rintro e w1 ⟨rfl, rfl⟩
      go_wp2_with fail
      refine (H6.out _).mono ?_
      rintro e w1 ⟨rfl, rfl⟩
      go_wp2_with fail
      go_ret2
      exact ⟨T1, rf, rfl, HF.out.1, HF.out.2, Below.refl _ _⟩
    · have HF := Lib.hid (And.intro a7 a8)
      have e1 : ((r1 : Int) != 0) = false := by rw [a1]; rfl
      have e2 : (r1 : Int) = 0 := by omega
      have e3 : (r0 : Int) / 2 ^ s = ((r0 / 2 ^ s : Nat) : Int) := by rw [Int.natCast_ediv]; simp
      obtain ⟨rf, hrf⟩ : ∃ rf, rf = r0 / 2 ^ s := ⟨_, rfl⟩
      rw [← hrf] at e3 HF
      clear a7 a8 a1 hrf
      go_enter Tryz.func264, Tryz.ntmps264
      go_wp2_with fail
      refine H0.out.mono ?_
      rintro e w1 ⟨rfl, rfl⟩
      go_wp2_with fail
      refine (H1.out _).mono ?_
      rintro e w1 ⟨rfl, rfl⟩
      go_wp2_with fail
      refine (H2.out _).mono ?_
      rintro e w1 ⟨rfl, rfl⟩
      go_wp2_with fail
      refine (H3.out _).mono ?_
      rintro e w1 ⟨rfl, rfl⟩
      go_wp2_with fail
      refine (H4.out _).mono ?_
      rintro e w1 ⟨rfl, rfl⟩
      go_wp2_with fail
      refine (H5.out _).mono ?_
      rintro e w1 ⟨rfl, rfl⟩
      go_wp2_with fail
      refine (H6.out _).mono ?_
      rintro e w1 ⟨rfl, rfl⟩
      go_wp2_with fail
      go_ret2
      exact ⟨T, rf, rfl, HF.out.1, HF.out.2, Below.refl _ _⟩
end Go.Proofs.YtpfihjkhgfoijaaGreatDoor
namespace Go.Proofs.YtpfihjkhgfoijaaGreatDoor
open Go.RowKit

theorem words_set {zs : List Nat} (h : ∀ x ∈ zs, x < WB) (i : Nat) {v : Nat} (hv : v < WB) : ∀ x ∈ zs.set i v, x < WB := by
  intro x hx
  rcases List.mem_or_eq_of_mem_set hx with h1 | h1
  · exact h x h1
  · rw [h1]; exact hv
theorem nv_drop {xs : List Nat} {k : Nat} (hk : k < xs.length) : nv (xs.drop k) = xs.getD k 0 + WB * nv (xs.drop (k + 1)) := by
  rw [List.drop_eq_getElem_cons hk]
  simp [nv, List.getD_eq_getElem?_getD, List.getElem?_eq_getElem hk]
theorem mod_step {xs : List Nat} {k y : Nat} (hk : k < xs.length) : (nv (xs.drop (k + 1)) % y * WB + xs.getD k 0) % y = nv (xs.drop k) % y := by
  rw [nv_drop hk, Nat.add_mod, Nat.mod_mul_mod, Nat.mul_comm WB, ← Nat.add_mod, Nat.add_comm]
/-- what divWVW leaves -/
def DivV (g L r : Nat) (w : World) (e : Ending) (w' : World) : Prop := ∃ zs, e = .returned (.int .u64 (r : Int)) ∧ WBlk w' g zs ∧ zs.length = L ∧ (∀ x ∈ zs, x < WB) ∧ w.grownBy w' (some g)
set_option maxHeartbeats 4000000 in
theorem c249 (g : Nat) (zs : List Nat) (zc gx xc m y : Nat) (xs : List Nat) (hm : xs.length = m) (hm0 : 0 < m) (hm1 : m ≤ 1000) (hy0 : 0 < y) (hyW : y < WB) (w : World) (hz : WBlk w g zs) (hzl : m ≤ zs.length) (hzr : ∀ x ∈ zs, x < WB) (hg : g ≠ gx) (hzc : m ≤ zc)
    (hx : ∀ i, i < m → w.cell? ⟨gx, i, none⟩ = some (.int .u64 ((xs.getD i 0 : Nat) : Int))) (hxr : ∀ x ∈ xs, x < WB) :
    Calls Tryz.prog 249 #[.slice (some ⟨g, 0, none⟩) m zc, .int .u64 0, .slice (some ⟨gx, 0, none⟩) m xc, .int .u64 (y : Int)] w (DivV g zs.length (nv xs % y) w) := by
  have HXR := Lib.hid (fun i => getD_lt hxr i)
  have hyW' : y < 18446744073709551616 := by rw [← wb_eq]; exact hyW
  by_cases h1 : m = 1
  · subst h1
    obtain ⟨x, rfl⟩ : ∃ x, xs = [x] := by
      cases xs with
      | nil => simp at hm
      | cons a t => cases t with
        | nil => exact ⟨a, rfl⟩
        | cons b t => simp at hm
    have hx0 := hx 0 (by omega)
    have hxw : x < 18446744073709551616 := by rw [← wb_eq]; exact hxr x (by simp)
    have HD := Lib.hid (c262 0 x y hy0 hxw (.inl rfl) hy0 hyW' w)
    have HNV : Hid (0 * 18446744073709551616 + x = nv [x]) := by rw [nv_one, Nat.zero_mul, Nat.zero_add]; rfl
    have hc := hz.cell (i := 0) (by omega)
    have hf := hz.free 0
    have HZ := Lib.hid hz
    have HW := Lib.hid hxw
    clear hx hz hm hxr hyW hyW' HXR
    generalize 0 * 18446744073709551616 + x = N at *
    go_enter Tryz.func249, Tryz.ntmps249
    go_wp2_with fail
    refine HD.out.mono ?_
    rintro e w1 ⟨q, r, rfl, hq, hr, hB⟩
    have HQ := Lib.hid hq
    have HR := Lib.hid hr
    have hz1 := HZ.out.below hB
    have hc1 := hz1.cell (i := 0) (by omega)
    have hf1 := hz1.free 0
    have hz2 := Lib.hid (hz1.set 0 q)
    have HG := Lib.hid (grown_set (grown_of_below' hB (some g)) 0 (.int .u64 (q : Int)))
    clear hq hr hz1 hc hf
    go_wp2_with fail
    go_ret
    refine ⟨zs.set 0 q, by rw [← HNV.out, ← HR.out]; rfl, hz2.out, by simp, words_set hzr 0 ?_, HG.out⟩
    rw [HQ.out, HNV.out, nv_one, wb_eq]
    exact Nat.lt_of_le_of_lt (Nat.div_le_self _ _) HW.out
  · have q0 : ((m : Int) == 1) = false := by rw [beq_eq_false_iff_ne]; omega
    have HR0 := Lib.hid (c263 y hy0 hyW' w)
    have HWW : Hid (∀ (x1 x0 : Nat) (W : World), x1 < y → x0 < WB → Calls Tryz.prog 264 #[.int .u64 (x1 : Int), .int .u64 (x0 : Int), .int .u64 (y : Int), .int .u64 (recW y : Int)] W (DivP (x1 * WB + x0) y W)) := fun x1 x0 W a b => c264 x1 x0 y a b hyW W
    have HSTEP : Hid (∀ k, k < m → (nv (xs.drop (k + 1)) % y * WB + xs.getD k 0) % y = nv (xs.drop k) % y) := fun k hk => mod_step (by rw [hm]; exact hk)
    have HX := Lib.hid hx
    have HZ := Lib.hid hz
    have HYP : Hid (0 < y) := hy0
    have HEND : Hid (nv (xs.drop m) = 0) := by rw [← hm, List.drop_length]; rfl
    clear hx hz hm hxr hyW hyW'
    generalize recW y = mm at *
    go_enter Tryz.func249, Tryz.ntmps249
    go_wp2_with fail
    refine HR0.out.mono ?_
    rintro e w1 ⟨rfl, hB⟩
    go_wp2_with fail
    go_loopw [12, 8] (fun vi vr wr => ∃ (k r : Nat) (zs' : List Nat), k ≤ m ∧ vi = .int .i64 ((k : Int) - 1) ∧ vr = .int .u64 (r : Int) ∧ Hid (r = nv (xs.drop k) % y) ∧ WBlk wr g zs' ∧ zs'.length = zs.length ∧ (∀ x ∈ zs', x < WB) ∧ w.grownBy wr (some g)) (fun vi _ _ => (intOf vi + 1).toNat)
    case atStart => exact ⟨m, 0, zs, by omega, by go_num, rfl, by show 0 = _; rw [HEND.out, Nat.zero_mod], HZ.out.below hB, rfl, hzr, grown_of_below' hB _⟩
    case round =>
      obtain ⟨k, r, zs', hk, rfl, rfl, hr, hz', hzl', hzr', hG⟩ := hrel
      by_cases hk0 : k = 0
      · subst hk0
        have HRR : Hid (r = nv xs % y) := by have := hr.out; rw [List.drop_zero] at this; exact this
        have HZ' := Lib.hid hz'
        clear hz' hr
        go_wp2_with fail
        go_ret
        exact ⟨zs', by rw [← HRR.out]; rfl, HZ'.out, hzl', hzr', hG⟩
      · obtain ⟨j, rfl⟩ : ∃ j, k = j + 1 := ⟨k - 1, by omega⟩
        have hj : j < m := by omega
        have hcx := grown_cell hG (HX.out j hj) (by simp; exact hg)
        have hc1 := hz'.cell (i := j) (by omega)
        have hf1 := hz'.free j
        have hry : r < y := by rw [hr.out]; exact Nat.mod_lt _ HYP.out
        have HC := Lib.hid (HWW.out r (xs.getD j 0) wr hry (HXR.out j))
        have hST := HSTEP.out j hj
        rw [← hr.out] at hST
        have HST := Lib.hid hST
        have e1 : IntKind.i64.wrap (((j + 1 : Nat) : Int) - 1) = (j : Int) := by rw [IntKind.wrap_i64]; omega
        have e2 : ((j + 1 : Nat) : Int) - 1 = (j : Int) := by omega
        rw [e2]
        have q1 : (j : Int) < (m : Int) := by omega
        have hq : (r * WB + xs.getD j 0) / y < WB := by
          have h3 := HXR.out j
          have h4 := HYP.out
          rw [Nat.div_lt_iff_lt_mul h4, Nat.mul_comm WB]
          calc r * WB + xs.getD j 0 < r * WB + WB := by omega
            _ = (r + 1) * WB := by rw [Nat.add_mul, Nat.one_mul]
            _ ≤ y * WB := Nat.mul_le_mul_right _ hry
        have HQW := Lib.hid hq
        have HZ' := Lib.hid hz'
        clear hST hry hr hz' hq e2
        generalize r * WB + xs.getD j 0 = N at *
        generalize xs.getD j 0 = X at *
        go_wp2_with fail
        refine HC.out.mono ?_
        rintro e w3 ⟨q, r', rfl, hq, hr', hB3⟩
        have hz3 := HZ'.out.below hB3
        have hc3 := hz3.cell (i := j) (by omega)
        have hf3 := hz3.free j
        have HR' := Lib.hid hr'
        have hqW : q < WB := by rw [hq]; exact HQW.out
        have hz4 := Lib.hid (hz3.set j q)
        have HG := Lib.hid (grown_set (grown_trans hG (grown_of_below' hB3 (some g))) j (.int .u64 (q : Int)))
        clear hq hr' hz3 hc1 hf1 hcx
        go_wp2_with fail
        go_roundw
        case rel => exact ⟨j, r', zs'.set j q, by omega, by go_num, rfl, by show _ = _; rw [HR'.out, HST.out], hz4.out, by simp [hzl'], words_set hzr' j hqW, HG.out⟩
        case measure => first | (simp [intOf]; done) | (simp [intOf]; omega)
end Go.Proofs.YtpfihjkhgfoijaaGreatDoor
namespace Go.Proofs.YtpfihjkhgfoijaaGreatDoor
open Go.RowKit

/-- a division by one word: the quotient (told where the divisor is 1) and the rest -/
def DWP (xs : List Nat) (y : Nat) (w : World) (e : Ending) (w' : World) : Prop :=
  ∃ B m d qs r, e = .returned (.tuple #[.slice B m d, .int .u64 ((r : Nat) : Int)]) ∧ NatR w' B m d qs ∧ Nrm qs ∧ r = nv xs % y ∧ (y = 1 → qs = xs) ∧ m ≤ xs.length ∧ Below w.heap.size w w' ∧ (∀ a, B = some a → w.heap.size ≤ a.block)
set_option maxHeartbeats 2000000 in
theorem c236 (A : Option Addr) (n c y : Nat) (xs : List Nat) (hn0 : 0 < n) (hn : n ≤ 1000) (hy0 : 0 < y) (hyW : y < WB) (w : World) (h : NatR w A n c xs) (hr : Nrm xs) : Calls Tryz.prog 236 #[.slice none 0 0, .slice A n c, .int .u64 (y : Int)] w (DWP xs y w) := by
  have hl := h.len
  have q0 : ((y : Int) == 0) = false := by rw [beq_eq_false_iff_ne]; omega
  by_cases h1 : y = 1
  · subst h1
    have HS := Lib.hid (c143_new A n c xs w h (by omega))
    have HR := Lib.hid hr
    have HM : Hid (nv xs % 1 = 0) := Nat.mod_one _
    have HL := Lib.hid hl
    clear h hr hyW hl
    go_enter Tryz.func236, Tryz.ntmps236
    go_wp2_with fail
    refine HS.out.mono ?_
    rintro e w1 ⟨A', c', rfl, hN, hB, hfr⟩
    have HF := Lib.hid hfr
    clear hfr
    go_wp2_with fail
    go_ret2
    exact ⟨A', n, c', xs, 0, rfl, hN, HR.out, HM.out.symm, fun _ => rfl, by rw [HL.out]; exact Nat.le_refl _, hB, HF.out⟩
  · have q1 : ((y : Int) == 1) = false := by rw [beq_eq_false_iff_ne]; omega
    have q2 : ((n : Int) == 0) = false := by rw [beq_eq_false_iff_ne]; omega
    obtain ⟨g, ys, rfl, hb, hc⟩ := h.pos hn0
    have hgl := hb.lt
    have HX := Lib.hid h
    have HBX := Lib.hid hb
    have HL := Lib.hid hl
    have HXR := Lib.hid h.rng
    have HYW := Lib.hid hyW
    have H1 := Lib.hid h1
    clear h hb hr hyW hl h1
    go_enter Tryz.func236, Tryz.ntmps236
    go_wp2_with fail
    refine (c149n none 0 0 n (by omega) (by omega) _).mono ?_
    rintro e w1 ⟨cp, rfl, hc1, hc2, hb1, hB, hs⟩
    have HD := Lib.hid (c249 w.heap.size (List.replicate cp 0) cp g c n y xs HL.out hn0 hn hy0 HYW.out w1 hb1 (by simp; omega) (by intro x hx; rw [List.eq_of_mem_replicate hx]; exact wb_pos) (by omega) (by omega)
      (fun i hi => by
        have := (HBX.out.below hB).cell (i := i) (by rw [List.length_append, HL.out]; omega)
        rw [getD_append_l (by rw [HL.out]; exact hi)] at this
        exact this) HXR.out)
    clear hb1
    go_wp2_with fail
    refine HD.out.mono ?_
    rintro e w2 ⟨zs, rfl, hz, hzl, hzr, hG⟩
    have hB2 := below_grown' hB hG (Nat.le_refl _)
    have hlen : zs.length = cp := by rw [hzl]; simp
    have hNR : NatR w2 (some ⟨w.heap.size, 0, none⟩) n cp (zs.take n) := ⟨by rw [List.length_take]; omega, hc1, by omega, fun x hx => hzr x (List.mem_of_mem_take hx), .inr ⟨w.heap.size, zs.drop n, rfl, by rw [List.take_append_drop]; exact hz, by rw [List.length_take, List.length_drop]; omega⟩⟩
    have HN := Lib.hid (c151 _ _ _ _ w2 hNR)
    clear hz hzr hNR hlen hzl
    go_wp2_with fail
    refine HN.out.mono ?_
    rintro e w3 ⟨m, rfl, hm, hNt, hNn, hNv, rfl⟩
    have HV := Lib.hid hNv
    have HNT := Lib.hid hNt
    clear hNv hNt
    go_wp2_with fail
    go_ret2
    exact ⟨_, m, cp, _, _, rfl, HNT.out, hNn, rfl, fun h => absurd h H1.out, by rw [HL.out]; exact hm, hB2, fun a ha => by cases ha; exact Nat.le_refl _⟩
/-- div, by one word -/
def DivQ (xs : List Nat) (y : Nat) (w : World) (e : Ending) (w' : World) : Prop :=
  ∃ B m d qs C k f rs, e = .returned (.tuple #[.slice B m d, .slice C k f]) ∧ NatR w' B m d qs ∧ Nrm qs ∧ (y = 1 → qs = xs) ∧ m ≤ xs.length ∧ NatR w' C k f rs ∧ Nrm rs ∧ nv rs = nv xs % y ∧ Below w.heap.size w w' ∧ (∀ a, B = some a → w.heap.size ≤ a.block) ∧ (∀ a, C = some a → w.heap.size ≤ a.block) ∧ (∀ a b, B = some a → C = some b → a.block ≠ b.block)
set_option maxHeartbeats 2000000 in
theorem c215 (A : Option Addr) (n c y gy cy : Nat) (xs : List Nat) (hn0 : 0 < n) (hn : n ≤ 1000) (hy0 : 0 < y) (w : World) (h : NatR w A n c xs) (hr : Nrm xs) (hy : NatR w (some ⟨gy, 0, none⟩) 1 cy [y]) :
    Calls Tryz.prog 215 #[.slice none 0 0, .pointer none, .slice none 0 0, .slice A n c, .slice (some ⟨gy, 0, none⟩) 1 cy] w (DivQ xs y w) := by
  have hyW : y < WB := hy.rng y (by simp)
  obtain ⟨g, us, e, hb, hc⟩ := hy.pos (by omega)
  cases e
  have hc0 := hb.cell (i := 0) (by simp)
  rw [show ([y] ++ us).getD 0 0 = y from rfl] at hc0
  have HW := Lib.hid (c236 A n c y xs hn0 hn hy0 hyW w h hr)
  have HS : Hid (∀ W, Calls Tryz.prog 194 #[.slice none 0 0, .int .u64 ((nv xs % y : Nat) : Int)] W fun e w' => ∃ A n c rs, e = .returned (.slice A n c) ∧ NatR w' A n c rs ∧ Nrm rs ∧ nv rs = nv xs % y ∧ Below W.heap.size W w' ∧ (∀ a, A = some a → W.heap.size ≤ a.block)) := fun W => c194_new _ (Nat.lt_trans (Nat.mod_lt _ hy0) hyW) W
  clear h hr hy hb
  go_enter Tryz.func215, Tryz.ntmps215
  go_wp2_with fail
  refine HW.out.mono ?_
  rintro e w1 ⟨B, m, d, qs, r, rfl, hN, hNr, hrr, hq1, hm, hB, hfr⟩
  have HQ1 := Lib.hid hq1
  have HFR := Lib.hid hfr
  have HN := Lib.hid hN
  have HS2 := Lib.hid (HS.out w1)
  rw [← hrr] at HS2
  have HRR := Lib.hid hrr
  clear hq1 hfr hN hrr
  go_wp2_with fail
  refine HS2.out.mono ?_
  rintro e w2 ⟨C, k, f, rs, rfl, hC, hCr, hCv, hB2, hfr2⟩
  have HC := Lib.hid hC
  have HCV := Lib.hid hCv
  have HF2 := Lib.hid hfr2
  have l1 := hB.size
  have b2 := below_trans' hB hB2
  clear hC hCv hfr2
  go_wp2_with fail
  go_ret2
  exact ⟨B, m, d, qs, C, k, f, rs, rfl, HN.out.below hB2, hNr, HQ1.out, hm, HC.out, hCr, by rw [HCV.out, HRR.out], b2, HFR.out, fun a ha => by have := HF2.out a ha; omega, fun a b ha hb => by have := HF2.out b hb; have := HN.out.lt a ha; omega⟩
end Go.Proofs.YtpfihjkhgfoijaaGreatDoor
