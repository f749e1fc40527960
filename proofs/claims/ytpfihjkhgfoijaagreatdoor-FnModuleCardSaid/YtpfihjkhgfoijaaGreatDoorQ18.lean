/- Contract of spec.SameList over that of spec.Same: of one list twice it is true; Contracts of spec's integers: order, Zero, Sign; Contracts of spec's integers: Zero, Sign, Cmp. -/
import Derived.Test.YtpfihjkhgfoijaaGreatDoorQ13
set_option linter.unusedVariables false
set_option linter.unusedSimpArgs false
set_option maxRecDepth 100000
namespace Go.Proofs.YtpfihjkhgfoijaaGreatDoor
open Go.RowKit

def SameC (n : Nat) : Prop := ∀ (w : World) (t : VT) (ca cb : Array Value) (S S' : BS), VC n S w t ca → VC n S' w t cb → VT.ok n t → (∀ k, S k → k < w.heap.size) → (∀ k, S' k → k < w.heap.size) →
  Calls Tryz.prog 36 #[.agg ca, .agg cb] w fun e w' => e = .returned (.bool true) ∧ Below w.heap.size w w'
set_option maxHeartbeats 2000000 in
theorem c83 (n : Nat) (hE : SameC n) (K K' : Option Addr) (m d d' : Nat) (ts : List VT) (S S' : BS) (w : World) (hK : KidC (VC n S w) S w K m ts) (hK' : KidC (VC n S' w) S' w K' m ts)
    (hS : ∀ k, S k → k < w.heap.size) (hS' : ∀ k, S' k → k < w.heap.size) (hm : m ≤ 100) (hts : ∀ t ∈ ts, VT.ok n t) :
    Calls Tryz.prog 83 #[.slice K m d, .slice K' m d'] w fun e w' => e = .returned (.bool true) ∧ Below w.heap.size w w' := by
  have hkl := hK.1
  have HT := Lib.hid hts
  have HK := Lib.hid hK
  have HK' := Lib.hid hK'
  have HE := Lib.hid hE
  clear hts hK hK' hE
  go_enter Tryz.func83, Tryz.ntmps83
  go_wp2_with fail
  go_loopw [5] (fun vi wr => ∃ (i : Nat), i ≤ m ∧ vi = .int .i64 (i : Int) ∧ Below w.heap.size w wr) (fun vi _ => m - (intOf vi).toNat)
  case atStart => exact ⟨0, by omega, rfl, Below.refl _ _⟩
  case round =>
    obtain ⟨i, hi, rfl, hB⟩ := hrel
    by_cases hlt : i < m
    · obtain ⟨g, A2, a2, c2, K2, m2, d2, rfl, hSg, hVk, z0, z1, z2, z3, z4, z5⟩ := HK.out.at hS i hlt hB
      obtain ⟨g', A3, a3, c3, K3, m3, d3, rfl, hSg', hVk', y0, y1, y2, y3, y4, y5⟩ := HK'.out.at hS' i hlt hB
      have hkok := HT.out (ts.getD i default) (by rw [List.getD_eq_getElem?_getD, List.getElem?_eq_getElem (by rw [hkl]; exact hlt)]; exact List.getElem_mem (by rw [hkl]; exact hlt))
      have hSr : ∀ k, S k → k < wr.drew.heap.size := fun k hk => Nat.lt_of_lt_of_le (hS k hk) hB.size
      have hSr' : ∀ k, S' k → k < wr.drew.heap.size := fun k hk => Nat.lt_of_lt_of_le (hS' k hk) hB.size
      have HC := Lib.hid (HE.out wr.drew _ _ _ S S' (hVk.below (below_drew1 wr) hSr) (hVk'.below (below_drew1 wr) hSr') hkok hSr hSr')
      generalize ts.getD i default = kid at *
      have q1 : (i : Int) < (m : Int) := by omega
      clear hVk hVk' hkok
      go_upto_region 6 with (fail)
      go_region_law (first | (go_simp; go_at_call 36; refine HC.out.mono ?_; rintro e w2 ⟨rfl, hB2⟩))
      all_goals
        have b2 := below_trans' (below_trans' hB (below_drew1 wr)) hB2
        go_wp2_with fail
        go_roundw
        case rel => exact ⟨i + 1, by omega, by go_num, b2⟩
        case measure => simp [intOf]; omega
    · have him : i = m := by omega
      subst him
      go_wp2_with fail
      go_ret
      exact ⟨rfl, hB⟩
end Go.Proofs.YtpfihjkhgfoijaaGreatDoor
namespace Go.Proofs.YtpfihjkhgfoijaaGreatDoor
open Go.RowKit

set_option maxHeartbeats 2000000 in
theorem c108 (A B : Option Addr) (n m c d : Nat) (us bs : List Nat) (w : World) (ha : ByteR w A n c us) (hb : ByteR w B m d bs) (hn : n ≤ 100000) :
    Calls Tryz.prog 108 #[.slice A n c, .slice B m d] w fun e w' => ∃ r : Int, e = .returned (.int .i64 r) ∧ (us = bs → r = 0) ∧ -1 ≤ r ∧ r ≤ 1 ∧ Below w.heap.size w w' := by
  have hla := Lib.hid ha.len
  have hlb := Lib.hid hb.len
  by_cases hnm : n = m
  · subst hnm
    have HA := Lib.hid ha.cells
    have HB := Lib.hid hb.cells
    clear ha hb
    go_enter Tryz.func108, Tryz.ntmps108
    go_wp2_with fail
    go_loopw [5] (fun vi wr => ∃ (i : Nat), i ≤ n ∧ vi = .int .i64 (i : Int) ∧ Below w.heap.size w wr) (fun vi _ => n - (intOf vi).toNat)
    case atStart => exact ⟨0, by omega, rfl, Below.refl _ _⟩
    case round =>
      obtain ⟨i, hi, rfl, hB⟩ := hrel
      by_cases hlt : i < n
      · obtain ⟨g, o, rfl, hca⟩ := HA.out.resolve_left (by omega)
        obtain ⟨g', o', rfl, hcb⟩ := HB.out.resolve_left (by omega)
        have ka := below_cell hB (hca i hlt)
        have kb := below_cell hB (hcb i hlt)
        have hne : us = bs → us.getD i 0 = bs.getD i 0 := fun e => by rw [e]
        have HNE := Lib.hid hne
        have q1 : (i : Int) < (n : Int) := by omega
        clear hca hcb hne
        generalize us.getD i 0 = X at *
        generalize bs.getD i 0 = Y at *
        by_cases hXY : X = Y
        · subst hXY
          go_wp2_with fail
          go_quiet (fail)
          go_wp2_with fail
          go_roundw
          case rel => exact ⟨i + 1, by omega, by go_num, below_drewN' hB _⟩
          case measure => simp [intOf]; omega
        · have q2 : (((X : Nat) : Int) == ((Y : Nat) : Int)) = false := by rw [beq_eq_false_iff_ne]; omega
          by_cases hlo : X < Y
          all_goals
            go_wp2_with fail
            go_quiet (fail)
            go_wp2_with fail
            go_quiet (fail)
            go_wp2_with fail
            go_ret
            exact ⟨_, rfl, fun h => absurd (HNE.out h) hXY, by omega, by omega, below_drewN' (below_drewN' hB _) _⟩
      · have him : i = n := by omega
        subst him
        go_wp2_with fail
        go_ret
        exact ⟨_, rfl, fun _ => rfl, by omega, by omega, hB⟩
  · have q1 : (((n : Nat) : Int) == ((m : Nat) : Int)) = false := by rw [beq_eq_false_iff_ne]; omega
    have hne : us ≠ bs := by rintro rfl; exact hnm (hla.out.symm.trans hlb.out)
    have HNE := Lib.hid hne
    clear ha hb hne
    by_cases hlt : n < m
    · go_enter Tryz.func108, Tryz.ntmps108
      go_wp2_with fail
      go_ret
      exact ⟨_, rfl, fun h => absurd h HNE.out, by omega, by omega, Below.refl _ _⟩
    · go_enter Tryz.func108, Tryz.ntmps108
      go_wp2_with fail
      go_ret
      exact ⟨_, rfl, fun h => absurd h HNE.out, by omega, by omega, Below.refl _ _⟩
end Go.Proofs.YtpfihjkhgfoijaaGreatDoor
namespace Go.Proofs.YtpfihjkhgfoijaaGreatDoor
open Go.RowKit

theorem box92 (w : World) (neg : Bool) (A : Option Addr) (n c : Nat) : ∃ w1, w.alloc (.cells #[.bool neg, .slice A n c] 92) = w1 ∧ Below w.heap.size w w1 ∧ RowB w1 w.heap.size #[.bool neg, .slice A n c] 92 ∧ w1.heap.size = w.heap.size + 1 :=
  ⟨_, rfl, below_alloc' (Below.refl _ _) _, RowB.new w _ _, alloc_size _ _⟩
theorem c129 (neg : Bool) (A : Option Addr) (n c : Nat) (w : World) :
    Calls Tryz.prog 129 #[.agg #[.bool neg, .slice A n c]] w fun e w' => e = .returned (.bool (decide (n = 0))) ∧ Below w.heap.size w w' := by
  obtain ⟨w1, hw1, b1, r1, _⟩ := box92 w neg A n c
  have e1 := r1.cell 1 _ rfl
  by_cases h0 : n = 0
  · subst h0
    go_enter Tryz.func129, Tryz.ntmps129
    go_wp2_with fail
    go_ret
    exact ⟨rfl, b1⟩
  · have q : (((n : Nat) : Int) == 0) = false := by rw [beq_eq_false_iff_ne]; omega
    rw [decide_eq_false h0]
    go_enter Tryz.func129, Tryz.ntmps129
    go_wp2_with fail
    go_ret
    exact ⟨rfl, b1⟩
def sgnI (neg : Bool) (n : Nat) : Int := if n = 0 then 0 else if neg then -1 else 1
theorem c107 (neg : Bool) (A : Option Addr) (n c : Nat) (w : World) :
    Calls Tryz.prog 107 #[.agg #[.bool neg, .slice A n c]] w fun e w' => e = .returned (.int .i64 (sgnI neg n)) ∧ Below w.heap.size w w' := by
  obtain ⟨w1, hw1, b1, r1, _⟩ := box92 w neg A n c
  have e0 := r1.cell 0 _ rfl
  have e1 := r1.cell 1 _ rfl
  unfold sgnI
  by_cases h0 : n = 0
  · subst h0
    have hc := c129 neg A 0 c w1
    rw [decide_eq_true rfl] at hc
    have HC := Lib.hid hc
    clear hc
    go_enter Tryz.func107, Tryz.ntmps107
    go_wp2_with fail
    refine HC.out.mono ?_
    rintro e w2 ⟨rfl, hB⟩
    go_wp2_with fail
    go_ret
    exact ⟨rfl, below_trans' b1 hB⟩
  · have hc := c129 neg A n c w1
    rw [decide_eq_false h0] at hc
    rw [if_neg h0]
    have HC := Lib.hid hc
    clear hc
    cases neg
    all_goals
      go_enter Tryz.func107, Tryz.ntmps107
      go_wp2_with fail
      refine HC.out.mono ?_
      rintro e w2 ⟨rfl, hB⟩
      have k0 := below_cell hB e0
      go_wp2_with fail
      go_ret
      exact ⟨rfl, below_trans' b1 hB⟩
end Go.Proofs.YtpfihjkhgfoijaaGreatDoor
