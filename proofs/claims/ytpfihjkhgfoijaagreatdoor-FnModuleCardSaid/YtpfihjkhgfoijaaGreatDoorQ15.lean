/- Contracts of big.Int: SetUint64, SetInt64; of Rat: SetInt, SetInt64; Fractions in memory; contracts of Rat: SetInt, SetInt64; of starlark's Int: rational; Contracts of nat.cmp, Int.Cmp; Contracts of Int.Cmp, scaleDenom, the stack's doors; Contracts of scaleDenom, getStack, free. -/
import Derived.Test.YtpfihjkhgfoijaaGreatDoorQ11
import Derived.Outline
import Derived.Test.YtpfihjkhgfoijaaGreatDoorQ08
set_option linter.unusedVariables false
set_option linter.unusedSimpArgs false
set_option maxRecDepth 100000
namespace Go.Proofs.YtpfihjkhgfoijaaGreatDoor
open Go.RowKit

theorem c203 (x : Nat) (hx : x < WB) (w : World) :
    Calls Tryz.prog 203 #[.slice none 0 0, .int .u64 x] w fun e w' => ∃ A n c xs, e = .returned (.slice A n c) ∧ NatR w' A n c xs ∧ Nrm xs ∧ nv xs = x ∧ Below w.heap.size w w' ∧ (∀ a, A = some a → w.heap.size ≤ a.block) := by
  have H := Lib.hid (c194_new x hx w)
  go_enter Tryz.func203, Tryz.ntmps203
  go_wp2_with fail
  refine H.out.mono ?_
  rintro e w2 ⟨A, n, c, xs, rfl, h1, h2, h3, h4, h5⟩
  have H3 := Lib.hid h3
  have H5 := Lib.hid h5
  clear h3 h5
  go_wp2_with fail
  go_ret
  exact ⟨A, n, c, xs, rfl, h1, h2, H3.out, h4, H5.out⟩
/-- what a number that is set holds -/
def SetI (b o : Nat) (neg : Bool) (v : Nat) (w : World) (e : Ending) (w' : World) : Prop :=
  ∃ A n c xs, e = .returned (.pointer (some ⟨b, o, none⟩)) ∧ BigR w' b o neg A n c xs ∧ nv xs = v ∧ w.grownBy w' (some b) ∧ (∀ a, A = some a → w.heap.size ≤ a.block) ∧ ∀ i, i ≠ o → i ≠ o + 1 → w'.cell? ⟨b, i, none⟩ = w.cell? ⟨b, i, none⟩
/-- the two stores of a number into its place -/
theorem BigR.store {w w2 : World} {b o : Nat} {n0 : Bool} {A0 : Option Addr} {m0 d0 : Nat} {x0 : List Nat} (h : BigR w b o n0 A0 m0 d0 x0) (hB : Below w.heap.size w w2) {A : Option Addr} {n c : Nat} {xs : List Nat} (hN : NatR w2 A n c xs) (hr : Nrm xs) (hA : ∀ a, A = some a → w.heap.size ≤ a.block) (neg : Bool) :
    w2.frozen? ⟨b, o + 1, none⟩ = false ∧ (w2.setCell ⟨b, o + 1, none⟩ (.slice A n c)).frozen? ⟨b, o, none⟩ = false ∧
    BigR ((w2.setCell ⟨b, o + 1, none⟩ (.slice A n c)).setCell ⟨b, o, none⟩ (.bool neg)) b o neg A n c xs ∧ w.grownBy ((w2.setCell ⟨b, o + 1, none⟩ (.slice A n c)).setCell ⟨b, o, none⟩ (.bool neg)) (some b) ∧
    ∀ i, i ≠ o → i ≠ o + 1 → ((w2.setCell ⟨b, o + 1, none⟩ (.slice A n c)).setCell ⟨b, o, none⟩ (.bool neg)).cell? ⟨b, i, none⟩ = w.cell? ⟨b, i, none⟩ := by
  have h2 := h.below hB
  have hl := h.lt
  refine ⟨h2.own.free _, (h2.own.set _ _).free _, ⟨(h2.own.set _ _).set _ _, ?_, ?_, ?_, hr⟩, ?_, ?_⟩
  · have := cell_setCell_at (v := Value.slice A n c) h2.ab o
    rw [if_neg (by omega)] at this
    have h3 := this.trans h2.sg
    rw [cell_setCell_at h3, if_pos rfl]
  · have h1 := cell_setCell_at (v := Value.slice A n c) h2.ab o
    rw [if_neg (by omega)] at h1
    have h3 := h1.trans h2.sg
    have h4 := cell_setCell_at (v := Value.slice A n c) h2.ab (o + 1)
    rw [if_pos rfl] at h4
    rw [cell_setCell_at h3, if_neg (by omega)]; exact h4
  · exact hN.grown (g' := b) (grown_set (grown_set (grown_refl _ _) _ _) _ _) (fun a ha => by have := hA a ha; omega)
  · exact grown_trans (grown_of_below' hB _) (grown_set (grown_set (grown_refl _ _) _ _) _ _)
  · intro i h0 h1
    have h3 := cell_setCell_at (v := Value.slice A n c) h2.ab o
    rw [if_neg (by omega)] at h3
    rw [cell_setCell_at (h3.trans h2.sg), if_neg h0, cell_setCell_at h2.ab, if_neg h1]
    exact hB.cell (p := ⟨b, i, none⟩) hl
theorem c199 (b o : Nat) (x : Nat) (hx : x < WB) (w : World) (h : BigR w b o false none 0 0 []) : Calls Tryz.prog 199 #[.pointer (some ⟨b, o, none⟩), .int .u64 x] w (SetI b o false x w) := by
  have h1 := h.ab
  have H := Lib.hid (c203 x hx w)
  have HH := Lib.hid h
  clear h
  go_enter Tryz.func199, Tryz.ntmps199
  go_wp2_with fail
  refine H.out.mono ?_
  rintro e w2 ⟨A, n, c, xs, rfl, hN, hr, hv, hB, hA⟩
  obtain ⟨f1, f2, hR, hG, hsame⟩ := HH.out.store hB hN hr hA false
  have HSM := Lib.hid hsame
  clear hsame
  have HV := Lib.hid hv
  have HR := Lib.hid hR
  have HA := Lib.hid hA
  have k1 := below_cell hB h1
  have k0 := below_cell hB HH.out.sg
  clear hv hR hA hN hr
  go_wp2_with fail
  go_ret
  exact ⟨A, n, c, xs, rfl, HR.out, HV.out, hG, HA.out, HSM.out⟩
theorem c195 (b o : Nat) (z : Int) (hz : -9223372036854775808 < z) (hz2 : z < 9223372036854775808) (w : World) (h : BigR w b o false none 0 0 []) : Calls Tryz.prog 195 #[.pointer (some ⟨b, o, none⟩), .int .i64 z] w (SetI b o (decide (z < 0)) z.natAbs w) := by
  have h1 := h.ab
  have HH := Lib.hid h
  clear h
  by_cases hn : z < 0
  · have H := Lib.hid (c203 z.natAbs (lt_wb (by omega)) w)
    have e1 : ((z.natAbs : Nat) : Int) = -z := by omega
    rw [e1] at H
    rw [decide_eq_true hn]
    obtain ⟨y, hy⟩ : ∃ y : Int, y = -z := ⟨_, rfl⟩
    have hy2 : 0 ≤ y := by omega
    have hy3 : y < 18446744073709551616 := by omega
    clear e1
    go_enter Tryz.func195, Tryz.ntmps195
    go_wp2_with fail
    refine H.out.mono ?_
    rintro e w2 ⟨A, n, c, xs, rfl, hN, hr, hv, hB, hA⟩
    obtain ⟨f1, f2, hR, hG, hsame⟩ := HH.out.store hB hN hr hA true
    have HSM := Lib.hid hsame
    clear hsame
    have HV := Lib.hid hv
    have HR := Lib.hid hR
    have HA := Lib.hid hA
    have k1 := below_cell hB h1
    have k0 := below_cell hB HH.out.sg
    clear hv hR hA hN hr
    go_wp2_with fail
    go_ret
    exact ⟨A, n, c, xs, rfl, HR.out, HV.out, hG, HA.out, HSM.out⟩
  · have H := Lib.hid (c203 z.natAbs (lt_wb (by omega)) w)
    have e1 : ((z.natAbs : Nat) : Int) = z := by omega
    rw [e1] at H
    rw [decide_eq_false hn]
    have hz0 : 0 ≤ z := by omega
    clear e1
    go_enter Tryz.func195, Tryz.ntmps195
    go_wp2_with fail
    refine H.out.mono ?_
    rintro e w2 ⟨A, n, c, xs, rfl, hN, hr, hv, hB, hA⟩
    obtain ⟨f1, f2, hR, hG, hsame⟩ := HH.out.store hB hN hr hA false
    have HSM := Lib.hid hsame
    clear hsame
    have HV := Lib.hid hv
    have HR := Lib.hid hR
    have HA := Lib.hid hA
    have k1 := below_cell hB h1
    have k0 := below_cell hB HH.out.sg
    clear hv hR hA hN hr
    go_wp2_with fail
    go_ret
    exact ⟨A, n, c, xs, rfl, HR.out, HV.out, hG, HA.out, HSM.out⟩
end Go.Proofs.YtpfihjkhgfoijaaGreatDoor
namespace Go.Proofs.YtpfihjkhgfoijaaGreatDoor
open Go.RowKit

/-- block b is a fraction: za by nb -/
structure RatR (w : World) (b : Nat) (za : Int) (nb : Nat) : Prop where mk ::
  out : ∃ na A n c xs B m d ys, BigR w b 0 na A n c xs ∧ zv na xs = za ∧ BigR w b 2 false B m d ys ∧ nv ys = nb ∧ 0 < nb ∧ n < 40 ∧ m < 40
theorem RatR.below {w w' : World} {b : Nat} {za : Int} {nb : Nat} (h : RatR w b za nb) (hB : Below w.heap.size w w') : RatR w' b za nb := by
  obtain ⟨na, A, n, c, xs, B, m, d, ys, h1, h2, h3, h4⟩ := h.out
  exact ⟨na, A, n, c, xs, B, m, d, ys, h1.below hB, h2, h3.below hB, h4⟩
theorem BigR.setOther {w : World} {b o : Nat} {neg : Bool} {A : Option Addr} {n c : Nat} {xs : List Nat} (h : BigR w b o neg A n c xs) (hA : ∀ a, A = some a → a.block ≠ b) {i : Nat} (h0 : i ≠ o) (h1 : i ≠ o + 1) {u : Value} (hu : w.cell? ⟨b, i, none⟩ = some u) (v : Value) :
    BigR (w.setCell ⟨b, i, none⟩ v) b o neg A n c xs :=
  ⟨h.own.set _ _, by rw [cell_setCell_at hu, if_neg (Ne.symm h0)]; exact h.sg, by rw [cell_setCell_at hu, if_neg (Ne.symm h1)]; exact h.ab, h.nat.grown (g' := b) (grown_set (grown_refl _ _) _ _) hA, h.nrm⟩
theorem BigR.storeAbs {w w2 : World} {b o : Nat} {n0 : Bool} {A0 : Option Addr} {m0 d0 : Nat} {x0 : List Nat} (h : BigR w b o n0 A0 m0 d0 x0) (hB : Below w.heap.size w w2) {A : Option Addr} {n c : Nat} {xs : List Nat} (hN : NatR w2 A n c xs) (hr : Nrm xs) (hA : ∀ a, A = some a → w.heap.size ≤ a.block) :
    BigR (w2.setCell ⟨b, o + 1, none⟩ (.slice A n c)) b o n0 A n c xs := by
  have h2 := h.below hB
  have hl := h.lt
  refine ⟨h2.own.set _ _, ?_, ?_, ?_, hr⟩
  · rw [cell_setCell_at h2.ab, if_neg (by omega)]; exact h2.sg
  · rw [cell_setCell_at h2.ab, if_pos rfl]
  · exact hN.grown (g' := b) (grown_set (grown_refl _ _) _ _) (fun a ha => by have := hA a ha; omega)
theorem BigR.zero2 {w : World} {b : Nat} (h : RowB w b #[Value.bool false, Value.slice none 0 0, Value.bool false, Value.slice none 0 0] 314) : BigR w b 0 false none 0 0 [] ∧ BigR w b 2 false none 0 0 [] :=
  ⟨⟨h.blk0, h.cell 0 _ rfl, h.cell 1 _ rfl, NatR.nil w, Nrm.nil⟩, ⟨h.blk0, h.cell 2 _ rfl, h.cell 3 _ rfl, NatR.nil w, Nrm.nil⟩⟩
theorem one_lt_wb : 1 < WB := by rw [wb_eq]; omega
theorem len_one {xs : List Nat} (h : Nrm xs) (hv : nv xs < WB) : xs.length ≤ 1 := by
  by_cases h0 : xs = []
  · subst h0; simp
  · have h1 := nv_pos h h0
    apply Classical.byContradiction
    intro hc
    have : WB ^ 1 ≤ WB ^ (xs.length - 1) := Nat.pow_le_pow_right wb_pos (by omega)
    rw [Nat.pow_one] at this
    omega
set_option maxHeartbeats 1000000 in
theorem c187 (b bx : Nat) (neg : Bool) (A : Option Addr) (n c : Nat) (xs : List Nat) (w : World) (hb : RowB w b #[Value.bool false, Value.slice none 0 0, Value.bool false, Value.slice none 0 0] 314) (hx : BigR w bx 0 neg A n c xs) (hne : b ≠ bx) (hn : n < 40) :
    Calls Tryz.prog 187 #[.pointer (some ⟨b, 0, none⟩), .pointer (some ⟨bx, 0, none⟩)] w fun e w' => e = .returned (.pointer (some ⟨b, 0, none⟩)) ∧ RatR w' b (zv neg xs) 1 ∧ w.grownBy w' (some b) := by
  obtain ⟨h0, h2⟩ := BigR.zero2 hb
  have hbl := hb.lt
  have H := Lib.hid (c120 b 0 bx 0 neg A n c xs w h0 hx hne (by omega))
  have k3 := h2.ab
  have k2 := h2.sg
  have K3 := Lib.hid k3
  have K2 := Lib.hid k2
  clear h0 h2 hx hb k3 k2
  go_enter Tryz.func187, Tryz.ntmps187
  go_wp2_with fail
  refine H.out.mono ?_
  rintro e w2 ⟨B, d, rfl, hX, hG, hfr, hsame⟩
  have k3 := (hsame 3 (by omega) (by omega)).trans K3.out
  have k2 := (hsame 2 (by omega) (by omega)).trans K2.out
  have hZ : BigR w2 b 2 false none 0 0 [] := ⟨hX.own, k2, k3, NatR.nil w2, Nrm.nil⟩
  have HX := Lib.hid hX
  have HZ := Lib.hid hZ
  have HF := Lib.hid hfr
  have HS := Lib.hid (c194_new 1 one_lt_wb w2)
  clear hsame hX hZ hfr H
  go_wp2_with fail
  refine HS.out.mono ?_
  rintro e w3 ⟨A3, n3, c3, ys, rfl, hN, hr, hv, hB, hA⟩
  have l2 := hG.size
  have hR := HZ.out.storeAbs hB hN hr hA
  have k3' := below_cell hB k3
  have f3 := (HZ.out.below hB).own.free 3
  have hXb := HX.out.below hB
  have hX3 := hXb.setOther (i := 3) (v := .slice A3 n3 c3) (fun a ha => by have := HF.out a ha; omega) (by omega) (by omega) k3'
  have hlen := len_one hr (by rw [hv]; exact one_lt_wb)
  rw [hN.len] at hlen
  have HR := Lib.hid (show RatR (w3.setCell ⟨b, 3, none⟩ (.slice A3 n3 c3)) b (zv neg xs) 1 from ⟨_, _, _, _, _, _, _, _, _, hX3, rfl, hR, hv, by omega, hn, by omega⟩)
  clear hR hX3 hXb hN hr hv hA k2 k3
  go_wp2_with fail
  go_ret
  exact ⟨rfl, HR.out, grown_trans hG (grown_trans (grown_of_below' hB _) (grown_set (grown_refl _ _) _ _))⟩
set_option maxHeartbeats 1000000 in
theorem c188 (b : Nat) (z : Int) (hz : -9223372036854775808 < z) (hz2 : z < 9223372036854775808) (w : World) (hb : RowB w b #[Value.bool false, Value.slice none 0 0, Value.bool false, Value.slice none 0 0] 314) :
    Calls Tryz.prog 188 #[.pointer (some ⟨b, 0, none⟩), .int .i64 z] w fun e w' => e = .returned (.pointer (some ⟨b, 0, none⟩)) ∧ RatR w' b z 1 ∧ w.grownBy w' (some b) := by
  obtain ⟨h0, h2⟩ := BigR.zero2 hb
  have hbl := hb.lt
  have H := Lib.hid (c195 b 0 z hz hz2 w h0)
  have K3 := Lib.hid h2.ab
  have K2 := Lib.hid h2.sg
  have HZV : Hid (∀ xs, nv xs = z.natAbs → zv (decide (z < 0)) xs = z) := fun xs h => by
    unfold zv
    rw [h]
    by_cases hn : z < 0
    · rw [if_pos (by simpa using hn)]; omega
    · rw [if_neg (by simpa using hn)]; omega
  clear h0 h2 hb
  go_enter Tryz.func188, Tryz.ntmps188
  go_wp2_with fail
  refine H.out.mono ?_
  rintro e w2 ⟨B, n, d, xs, rfl, hX, hv0, hG, hfr, hsame⟩
  have k3 := (hsame 3 (by omega) (by omega)).trans K3.out
  have k2 := (hsame 2 (by omega) (by omega)).trans K2.out
  have hZ : BigR w2 b 2 false none 0 0 [] := ⟨hX.own, k2, k3, NatR.nil w2, Nrm.nil⟩
  have hlx := len_one hX.nrm (by rw [hv0]; exact lt_wb (by omega))
  rw [hX.nat.len] at hlx
  have HX := Lib.hid hX
  have HZ := Lib.hid hZ
  have HF := Lib.hid hfr
  have HV0 := Lib.hid hv0
  have HS := Lib.hid (c194_new 1 one_lt_wb w2)
  clear hsame hX hZ hfr H hv0
  go_wp2_with fail
  refine HS.out.mono ?_
  rintro e w3 ⟨A3, n3, c3, ys, rfl, hN, hr, hv, hB, hA⟩
  have l2 := hG.size
  have hR := HZ.out.storeAbs hB hN hr hA
  have k3' := below_cell hB k3
  have f3 := (HZ.out.below hB).own.free 3
  have hXb := HX.out.below hB
  have hX3 := hXb.setOther (i := 3) (v := .slice A3 n3 c3) (fun a ha => by have := HF.out a ha; omega) (by omega) (by omega) k3'
  have hlen := len_one hr (by rw [hv]; exact one_lt_wb)
  rw [hN.len] at hlen
  have HR := Lib.hid (show RatR (w3.setCell ⟨b, 3, none⟩ (.slice A3 n3 c3)) b z 1 from ⟨_, _, _, _, _, _, _, _, _, hX3, HZV.out xs HV0.out, hR, hv, by omega, by omega, by omega⟩)
  clear hR hX3 hXb hN hr hv hA k2 k3
  go_wp2_with fail
  go_ret
  exact ⟨rfl, HR.out, grown_trans hG (grown_trans (grown_of_below' hB _) (grown_set (grown_refl _ _) _ _))⟩
set_option maxHeartbeats 1000000 in
theorem c182 (v : Value) (z : Int) (w : World) (h : IntV w z v) :
    Calls Tryz.prog 182 #[v] w fun e w' => ∃ b, e = .returned (.pointer (some ⟨b, 0, none⟩)) ∧ RatR w' b z 1 ∧ Below w.heap.size w w' := by
  rcases h with ⟨hs, rfl⟩ | ⟨hs, b, neg, A, n, c, xs, rfl, hB, hz, hn⟩
  · have hr := isSm_rng hs
    obtain ⟨w1, hw1, b1, r1⟩ : ∃ w1, (w.alloc (.cells #[.int .i64 z, .pointer none] 126)) = w1 ∧ Below w.heap.size w w1 ∧ RowB w1 w.heap.size #[.int .i64 z, .pointer none] 126 :=
      ⟨_, rfl, below_alloc' (Below.refl _ _) _, RowB.new w _ _⟩
    have k0 := r1.cell 0 _ rfl
    have k1 := r1.cell 1 _ rfl
    clear hs
    go_enter Tryz.func182, Tryz.ntmps182
    go_wp2_with fail
    clear hw1
    refine (c119 z none w1).mono ?_
    rintro e w2 ⟨rfl, hB⟩
    have b2 := below_trans' b1 hB
    have H := Lib.hid (c188 w2.heap.size z (by omega) (by omega) (w2.alloc (.cells #[Value.bool false, Value.slice none 0 0, Value.bool false, Value.slice none 0 0] 314)) (RowB.new _ _ _))
    clear k0 k1
    go_wp2_with fail
    refine H.out.mono ?_
    rintro e w3 ⟨rfl, hR, hG⟩
    have l2 := b2.size
    have b3 : Below w.heap.size w w3 := below_grown' (below_alloc' b2 (.cells #[Value.bool false, Value.slice none 0 0, Value.bool false, Value.slice none 0 0] 314)) hG l2
    have HR := Lib.hid hR
    clear hR
    go_wp2_with fail
    go_ret
    exact ⟨_, rfl, HR.out, b3⟩
  · obtain ⟨w1, hw1, b1, r1⟩ : ∃ w1, (w.alloc (.cells #[.int .i64 0, .pointer (some ⟨b, 0, none⟩)] 126)) = w1 ∧ Below w.heap.size w w1 ∧ RowB w1 w.heap.size #[.int .i64 0, .pointer (some ⟨b, 0, none⟩)] 126 :=
      ⟨_, rfl, below_alloc' (Below.refl _ _) _, RowB.new w _ _⟩
    have k0 := r1.cell 0 _ rfl
    have k1 := r1.cell 1 _ rfl
    have hB1 := Lib.hid (hB.below b1)
    have hbl := hB.lt
    have HZ := Lib.hid hz
    clear hB hz
    go_enter Tryz.func182, Tryz.ntmps182
    go_wp2_with fail
    clear hw1
    refine (c119 0 _ w1).mono ?_
    rintro e w2 ⟨rfl, hB⟩
    have b2 := below_trans' b1 hB
    have l2 := b2.size
    have H := Lib.hid (c187 w2.heap.size b neg A n c xs (w2.alloc (.cells #[Value.bool false, Value.slice none 0 0, Value.bool false, Value.slice none 0 0] 314)) (RowB.new _ _ _) ((hB1.out.below hB).below (below_alloc' (Below.refl _ _) _)) (by omega) (by omega))
    rw [HZ.out] at H
    clear k0 k1
    go_wp2_with fail
    refine H.out.mono ?_
    rintro e w3 ⟨rfl, hR, hG⟩
    have b3 : Below w.heap.size w w3 := below_grown' (below_alloc' b2 (.cells #[Value.bool false, Value.slice none 0 0, Value.bool false, Value.slice none 0 0] 314)) hG l2
    have HR := Lib.hid hR
    clear hR
    go_wp2_with fail
    go_ret
    exact ⟨_, rfl, HR.out, b3⟩
end Go.Proofs.YtpfihjkhgfoijaaGreatDoor
namespace Go.Proofs.YtpfihjkhgfoijaaGreatDoor
open Go.RowKit

theorem nv_at (xs : List Nat) (i : Nat) (h : i < xs.length) : nv xs = nv (xs.take i) + WB ^ i * (xs.getD i 0 + WB * nv (xs.drop (i + 1))) := by
  have e : xs = xs.take i ++ (xs.getD i 0 :: xs.drop (i + 1)) := by
    rw [← drop_step xs i h, List.take_append_drop]
  have := congrArg nv e
  rw [nv_append, List.length_take, Nat.min_eq_left (by omega)] at this
  exact this
theorem drop_ext {xs ys : List Nat} {n i : Nat} (hx : xs.length = n) (hy : ys.length = n) (h : ∀ j, i < j → j < n → xs.getD j 0 = ys.getD j 0) : xs.drop (i + 1) = ys.drop (i + 1) := by
  apply List.ext_getElem
  · simp [hx, hy]
  · intro k h1 h2
    have h3 : i + 1 + k < n := by simp at h1; omega
    have := h (i + 1 + k) (by omega) h3
    simp only [List.getElem_drop]
    rw [List.getD_eq_getElem?_getD, List.getD_eq_getElem?_getD, List.getElem?_eq_getElem (by omega), List.getElem?_eq_getElem (by omega)] at this
    exact this
theorem nv_lt_at {xs ys : List Nat} {n i : Nat} (hx : xs.length = n) (hy : ys.length = n) (hi : i < n) (rx : ∀ x ∈ xs, x < WB) (h : ∀ j, i < j → j < n → xs.getD j 0 = ys.getD j 0) (hlt : xs.getD i 0 < ys.getD i 0) : nv xs < nv ys := by
  rw [nv_at xs i (by omega), nv_at ys i (by omega), drop_ext hx hy h]
  have h1 : nv (xs.take i) < WB ^ i := by
    have := nv_lt (xs := xs.take i) fun x hx => rx x (List.mem_of_mem_take hx)
    rwa [List.length_take, Nat.min_eq_left (by omega)] at this
  generalize nv (ys.drop (i + 1)) = D
  generalize xs.getD i 0 = a at *
  generalize ys.getD i 0 = b at *
  have h2 : WB ^ i * (a + WB * D) + WB ^ i ≤ WB ^ i * (b + WB * D) := by
    rw [← Nat.mul_succ]; exact Nat.mul_le_mul_left _ (by omega)
  omega
theorem nv_len_lt {xs ys : List Nat} (rx : ∀ x ∈ xs, x < WB) (hy : Nrm ys) (h : xs.length < ys.length) : nv xs < nv ys := by
  have h1 := nv_lt rx
  have h2 := nv_pos hy (by intro e; subst e; simp at h)
  have h3 : WB ^ xs.length ≤ WB ^ (ys.length - 1) := Nat.pow_le_pow_right wb_pos (by omega)
  omega
def PostO (a b : Nat) (w : World) (e : Ending) (w' : World) : Prop := ∃ r : Int, e = .returned (.int .i64 r) ∧ (r = 0 ↔ a = b) ∧ (r < 0 ↔ a < b) ∧ -1 ≤ r ∧ r ≤ 1 ∧ Below w.heap.size w w'
set_option maxHeartbeats 2000000 in
theorem c198 (A B : Option Addr) (n m c d : Nat) (xs ys : List Nat) (w : World) (hx : NatR w A n c xs) (hy : NatR w B m d ys) (rx : Nrm xs) (ry : Nrm ys) : Calls Tryz.prog 198 #[.slice A n c, .slice B m d] w (PostO (nv xs) (nv ys) w) := by
  have hnc := hx.le
  have hcs := hx.small
  by_cases hnm : n = m
  · subst hnm
    by_cases h0 : n = 0
    · subst h0
      obtain rfl := hx.zero rfl
      obtain rfl := hy.zero rfl
      clear hx hy
      go_enter Tryz.func198, Tryz.ntmps198
      go_wp2_with fail
      go_ret
      exact ⟨0, rfl, by simp, by simp, by omega, by omega, Below.refl _ _⟩
    · obtain ⟨g, zs, rfl, hgx, hcx⟩ := hx.pos (by omega)
      obtain ⟨g', zs', rfl, hgy, hcy⟩ := hy.pos (by omega)
      have hlx := Lib.hid hx.len
      have hly := Lib.hid hy.len
      have hrx := Lib.hid hx.rng
      have hry := Lib.hid hy.rng
      have q0 : ((n : Int) == 0) = false := by rw [beq_eq_false_iff_ne]; omega
      have HX : Hid (∀ i, i < n → w.cell? ⟨g, i, none⟩ = some (.int .u64 ((xs.getD i 0 : Nat) : Int))) := fun i hi => by
        have := hgx.cell (i := i) (by have := hlx.out; simp; omega)
        rwa [getD_append_l (by have := hlx.out; omega)] at this
      have HY : Hid (∀ i, i < n → w.cell? ⟨g', i, none⟩ = some (.int .u64 ((ys.getD i 0 : Nat) : Int))) := fun i hi => by
        have := hgy.cell (i := i) (by have := hly.out; simp; omega)
        rwa [getD_append_l (by have := hly.out; omega)] at this
      have hp : 0 < n := by omega
      clear hx hy hgx hgy h0
      go_enter Tryz.func198, Tryz.ntmps198
      go_wp2_with fail
      go_loopw [7] (fun vi wr => ∃ i : Nat, i < n ∧ vi = .int .i64 (i : Int) ∧ Below w.heap.size w wr ∧ Hid (∀ j, i < j → j < n → xs.getD j 0 = ys.getD j 0)) (fun vi _ => (intOf vi).toNat)
      case atStart => exact ⟨n - 1, by omega, by go_num, Below.refl _ _, fun j h1 h2 => by omega⟩
      case round =>
        obtain ⟨i, hi, rfl, hB, hall⟩ := hrel
        have z1 := below_cell hB (HX.out i hi)
        have z2 := below_cell hB (HY.out i hi)
        have q1 : (i : Int) < (n : Int) := by omega
        have lx := wb_lt (getD_lt hrx.out i)
        have ly := wb_lt (getD_lt hry.out i)
        have HE : Hid (i = 0 → xs.getD i 0 = ys.getD i 0 → nv xs = nv ys) := fun h0 h => by
          subst h0
          rw [nv_at xs 0 (by rw [hlx.out]; omega), nv_at ys 0 (by rw [hly.out]; omega), h, drop_ext hlx.out hly.out hall.out]; rfl
        have HL : Hid (xs.getD i 0 < ys.getD i 0 → nv xs < nv ys) := fun h => nv_lt_at hlx.out hly.out hi hrx.out hall.out h
        have HG : Hid (ys.getD i 0 < xs.getD i 0 → nv ys < nv xs) := fun h => nv_lt_at hly.out hlx.out hi hry.out (fun j h1 h2 => (hall.out j h1 h2).symm) h
        have HN : Hid (xs.getD i 0 = ys.getD i 0 → ∀ j, i - 1 < j → j < n → xs.getD j 0 = ys.getD j 0) := fun h j h1 h2 => by
          by_cases hj : j = i
          · rw [hj]; exact h
          · exact hall.out j (by omega) h2
        generalize xs.getD i 0 = X at *
        generalize ys.getD i 0 = Y at *
        rcases Nat.lt_trichotomy X Y with hXY | hXY | hXY
        · have q2 : ((X : Int) == (Y : Int)) = false := by rw [beq_eq_false_iff_ne]; omega
          have q3 : (X : Int) < (Y : Int) := by omega
          have HR := Lib.hid (HL.out hXY)
          by_cases hi0 : 0 < i
          · have q4 : (0 : Int) < (i : Int) := by omega
            go_wp2_with fail
            go_quiet (fail)
            go_wp2_with fail
            go_quiet (fail)
            go_wp2_with fail
            go_ret
            exact ⟨-1, rfl, ⟨fun h => by omega, fun h => by have := HR.out; omega⟩, ⟨fun _ => HR.out, fun _ => by omega⟩, by omega, by omega, below_drewN' (below_drewN' hB _) _⟩
          · have q4 : decide ((0 : Int) < (i : Int)) = false := by rw [decide_eq_false_iff_not]; omega
            go_wp2_with fail
            go_quiet (fail)
            go_wp2_with fail
            go_quiet (fail)
            go_wp2_with fail
            go_ret
            exact ⟨-1, rfl, ⟨fun h => by omega, fun h => by have := HR.out; omega⟩, ⟨fun _ => HR.out, fun _ => by omega⟩, by omega, by omega, below_drewN' (below_drewN' hB _) _⟩
        · subst hXY
          by_cases hi0 : 0 < i
          · have q4 : (0 : Int) < (i : Int) := by omega
            go_wp2_with fail
            go_quiet (fail)
            go_wp2_with fail
            go_roundw
            case rel => exact ⟨i - 1, by omega, by go_num, below_drewN' hB _, HN.out trivial⟩
            case measure => simp [intOf]; omega
          · have q4 : decide ((0 : Int) < (i : Int)) = false := by rw [decide_eq_false_iff_not]; omega
            have HR := Lib.hid (HE.out (by omega) rfl)
            go_wp2_with fail
            go_quiet (fail)
            go_wp2_with fail
            go_quiet (fail)
            go_wp2_with fail
            go_quiet (fail)
            go_wp2_with fail
            go_ret
            exact ⟨0, rfl, ⟨fun _ => HR.out, fun _ => rfl⟩, ⟨fun h => by omega, fun h => by have := HR.out; omega⟩, by omega, by omega, below_drewN' (below_drewN' (below_drewN' hB _) _) _⟩
        · have q2 : ((X : Int) == (Y : Int)) = false := by rw [beq_eq_false_iff_ne]; omega
          have q3 : (Y : Int) < (X : Int) := by omega
          have HR := Lib.hid (HG.out hXY)
          by_cases hi0 : 0 < i
          · have q4 : (0 : Int) < (i : Int) := by omega
            go_wp2_with fail
            go_quiet (fail)
            go_wp2_with fail
            go_quiet (fail)
            go_wp2_with fail
            go_quiet (fail)
            go_wp2_with fail
            go_ret
            exact ⟨1, rfl, ⟨fun h => by omega, fun h => by have := HR.out; omega⟩, ⟨fun h => by omega, fun h => by have := HR.out; omega⟩, by omega, by omega, below_drewN' (below_drewN' (below_drewN' hB _) _) _⟩
          · have q4 : decide ((0 : Int) < (i : Int)) = false := by rw [decide_eq_false_iff_not]; omega
            go_wp2_with fail
            go_quiet (fail)
            go_wp2_with fail
            go_quiet (fail)
            go_wp2_with fail
            go_quiet (fail)
            go_wp2_with fail
            go_ret
            exact ⟨1, rfl, ⟨fun h => by omega, fun h => by have := HR.out; omega⟩, ⟨fun h => by omega, fun h => by have := HR.out; omega⟩, by omega, by omega, below_drewN' (below_drewN' (below_drewN' hB _) _) _⟩
  · have q0 : ((n : Int) != (m : Int)) = true := by rw [bne_iff_ne]; omega
    have q00 : ((n : Int) == (m : Int)) = false := by rw [beq_eq_false_iff_ne]; omega
    by_cases hlt : n < m
    · have H := Lib.hid (nv_len_lt hx.rng ry (by rw [hx.len, hy.len]; exact hlt))
      clear hx hy
      go_enter Tryz.func198, Tryz.ntmps198
      go_wp2_with fail
      go_ret
      exact ⟨-1, rfl, ⟨fun h => by omega, fun h => by have := H.out; omega⟩, ⟨fun _ => H.out, fun _ => by omega⟩, by omega, by omega, Below.refl _ _⟩
    · have H := Lib.hid (nv_len_lt hy.rng rx (by rw [hx.len, hy.len]; omega))
      have q1 : (m : Int) < (n : Int) := by omega
      clear hx hy
      go_enter Tryz.func198, Tryz.ntmps198
      go_wp2_with fail
      go_ret
      exact ⟨1, rfl, ⟨fun h => by omega, fun h => by have := H.out; omega⟩, ⟨fun h => by omega, fun h => by have := H.out; omega⟩, by omega, by omega, Below.refl _ _⟩
end Go.Proofs.YtpfihjkhgfoijaaGreatDoor
namespace Go.Proofs.YtpfihjkhgfoijaaGreatDoor
open Go.RowKit

theorem eqf_ptr {w : World} {b o b' o' : Nat} (hx : Blk0 w b) (hy : Blk0 w b') (hne : b ≠ b') : (binOp .eql 122 (.pointer (some ⟨b, o, none⟩)) (.pointer (some ⟨b', o', none⟩))).run Tryz.prog w = .ok (.bool false) w := by
  obtain ⟨j, hj, hs⟩ := info229
  obtain ⟨c, e, hc⟩ := hx.out
  obtain ⟨c', e', hc'⟩ := hy.out
  exact run_eql_ptr_other w Tryz.underlying122 hj hs (by simp [hne]) hc hc'
def PostZ (n1 n2 : Bool) (xs ys : List Nat) (w : World) (e : Ending) (w' : World) : Prop :=
  ∃ r : Int, e = .returned (.int .i64 r) ∧ (r = 0 → zv n1 xs = zv n2 ys) ∧ (n1 = n2 → nv xs = nv ys → r = 0) ∧ Below w.heap.size w w'
set_option maxHeartbeats 2000000 in
theorem c192 (b o b' o' : Nat) (n1 n2 : Bool) (A B : Option Addr) (n m c d : Nat) (xs ys : List Nat) (w : World) (hx : BigR w b o n1 A n c xs) (hy : BigR w b' o' n2 B m d ys) (hne : b ≠ b') :
    Calls Tryz.prog 192 #[.pointer (some ⟨b, o, none⟩), .pointer (some ⟨b', o', none⟩)] w (PostZ n1 n2 xs ys w) := by
  have x0 := hx.sg
  have x1 := hx.ab
  have y0 := hy.sg
  have y1 := hy.ab
  have H : Hid (∀ W, Below w.heap.size w W → Calls Tryz.prog 198 #[.slice A n c, .slice B m d] W (PostO (nv xs) (nv ys) W)) := fun W hW => c198 A B n m c d xs ys W (hx.nat.below hW) (hy.nat.below hW) hx.nrm hy.nrm
  have HZ : Hid (n1 = n2 → nv xs = nv ys → zv n1 xs = zv n2 ys) := fun h1 h2 => by unfold zv; rw [h1, h2]
  have hp := eqf_ptr (o := o) (o' := o') hx.own hy.own hne
  clear hx hy
  by_cases hs : n1 = n2
  · subst hs
    cases n1
    all_goals
      go_enter Tryz.func192, Tryz.ntmps192
      go_wp2_with fail
      clear hp
      go_quiet (fail)
      go_wp2_with fail
      go_region_law (first | (go_simp; go_at_call 198; refine (H.out _ (below_drew' (below_drewN' (Below.refl _ _) _))).mono ?_; rintro e w2 ⟨r, rfl, h0, hlt, h1, h2, hB2⟩
                              have k0 := below_cell (w := World.drew _) hB2 (show (World.drew (w.drewN nq)).cell? ⟨b, o, none⟩ = _ from x0)
                              have H0 := Lib.hid h0; clear h0 hlt))
      all_goals
        have b2 : Below w.heap.size w w2 := below_trans' (below_drew' (below_drewN' (Below.refl _ _) nq)) hB2
        go_wp2_with fail
        go_ret
        refine ⟨_, rfl, fun h => HZ.out trivial (H0.out.1 ?_), fun _ h => ?_, b2⟩
        · first | exact h | (have h' : IntKind.i64.wrap (-r) = 0 := h; rw [IntWalk.i64_in _ (by omega)] at h'; omega) | omega
        · have := H0.out.2 h
          first | exact this | (rw [this]; rfl)
  · have qs : (n1 == n2) = false := by rw [beq_eq_false_iff_ne]; exact hs
    have HS := Lib.hid hs
    have HNE : Hid (∀ r : Int, r = 1 ∨ r = -1 → ¬ r = 0) := fun r h => by omega
    cases n1
    all_goals
      cases n2
      all_goals
        first
        | exact absurd rfl hs
        | (clear hs qs
           go_enter Tryz.func192, Tryz.ntmps192
           go_wp2_with fail
           clear hp
           go_quiet (fail)
           go_wp2_with fail
           go_ret
           exact ⟨_, rfl, (fun h => by cases h), (fun h => absurd h HS.out), below_drewN' (Below.refl _ _) _⟩)
end Go.Proofs.YtpfihjkhgfoijaaGreatDoor
namespace Go.Proofs.YtpfihjkhgfoijaaGreatDoor
open Go.RowKit

theorem bdrew1 (w : World) : Below w.heap.size w w.drew := below_drew' (Below.refl _ _)
theorem cell_drew (w : World) (a : Addr) : w.drew.cell? a = w.cell? a := rfl
set_option maxHeartbeats 2000000 in
theorem c191 (b bx ox : Nat) (P : Value) (n1 : Bool) (A B : Option Addr) (n m c d : Nat) (xs ys : List Nat) (w : World) (hz : BigR w b 0 false none 0 0 []) (hx : BigR w bx ox n1 A n c xs) (hy : NatR w B m d ys) (hne : b ≠ bx) (hn : n < 40) (hm : m < 40) (hm0 : 0 < m)
    (hk : w.cell? ⟨9, 0, none⟩ = some (.int .i64 40)) :
    Calls Tryz.prog 191 #[.pointer (some ⟨b, 0, none⟩), P, .pointer (some ⟨bx, ox, none⟩), .slice B m d] w fun e w' => ∃ C q f zs, e = .returned (.tuple #[]) ∧ BigR w' b 0 n1 C q f zs ∧ nv zs = nv xs * nv ys ∧ w.grownBy w' (some b) := by
  have x0 := hx.sg
  have x1 := hx.ab
  have z1 := hz.ab
  have z0 := hz.sg
  have q0 : ((m : Int) == 0) = false := by rw [beq_eq_false_iff_ne]; omega
  have H := Lib.hid (c197 P A B n m c d xs ys w.drew (hx.nat.below (bdrew1 w)) (hy.below (bdrew1 w)) hn hm hk)
  have HZ := Lib.hid hz
  have hbl := hz.lt
  clear hz hx hy
  go_enter Tryz.func191, Tryz.ntmps191
  go_wp2_with fail
  go_region_law (first | (go_simp; go_at_call 197; refine H.out.mono ?_; rintro e w2 ⟨v, rfl, hM, hB2⟩
                          obtain ⟨C, q, f, zs, rfl, hN, hr, hv, hA⟩ := hM.out
                          have k1 := below_cell (w := World.drew _) hB2 z1
                          have k0 := below_cell (w := World.drew _) hB2 z0
                          have y0 := below_cell (w := World.drew _) hB2 x0
                          obtain ⟨f1, f2, hR, hG, -⟩ := HZ.out.store (below_trans' (bdrew1 w) hB2) hN hr hA n1
                          have f1' : w2.frozen? ⟨b, 1, none⟩ = false := f1
                          have y0' := cell_setCell_ne (p := ⟨b, 0 + 1, none⟩) (v := .slice C q f) y0 (by exact hne)
                          have HR := Lib.hid hR; have HV := Lib.hid hv; have HG := Lib.hid hG; clear hR hv hG hM hN hr hA))
  all_goals
    go_wp2_with fail
    go_end0
    exact ⟨C, q, f, zs, rfl, HR.out, HV.out, HG.out⟩
theorem c189 (w : World) : Calls Tryz.prog 189 #[] w fun e w' => e = .returned (.pointer (some ⟨w.heap.size, 0, none⟩)) ∧ w' = w.alloc (.cells #[.pointer none] 325) := by
  go_enter Tryz.func189, Tryz.ntmps189
  go_wp2_with fail
  go_ret
  exact ⟨rfl, rfl⟩
theorem c190 (g : Nat) (w : World) (h : w.cell? ⟨g, 0, none⟩ = some (.pointer none)) : Calls Tryz.prog 190 #[.pointer (some ⟨g, 0, none⟩)] w fun e w' => e = .returned (.tuple #[]) ∧ w = w' := by
  go_enter Tryz.func190, Tryz.ntmps190
  go_wp2_with fail
  go_end0
  exact ⟨rfl, rfl⟩
end Go.Proofs.YtpfihjkhgfoijaaGreatDoor
