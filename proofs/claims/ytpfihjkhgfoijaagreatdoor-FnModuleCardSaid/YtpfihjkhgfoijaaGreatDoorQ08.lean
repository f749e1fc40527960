/- Contracts over words: mulAddVWW, mulAddWW, addMulVVWW; Contracts over words: clear, addMulVVWW, basicMul; Contracts over words: mulAddWW and mul onto nil; Contracts over bytes and words: setBytes onto nil; Contracts over words: mul onto nil. -/
import Derived.Test.YtpfihjkhgfoijaaGreatDoorQ07
import Derived.Lib.SliceRun
import Derived.Deep.DeepFit
set_option linter.unusedVariables false
set_option linter.unusedSimpArgs false
set_option maxRecDepth 100000
namespace Go.Proofs.YtpfihjkhgfoijaaGreatDoor
open Go.RowKit

theorem c216 (g : Nat) (zs : List Nat) (zc : Nat) (gx ox : Nat) (xc : Nat) (xs : List Nat) (y r : Nat) (m : Nat) (hm : m = xs.length) (hm1 : m ≤ 1000000) (w : World)
    (hz : WBlk w g zs) (hzl : m ≤ zs.length) (hg : g ≠ gx)
    (hx : ∀ i, i < m → w.cell? ⟨gx, ox + i, none⟩ = some (.int .u64 ((xs.getD i 0 : Nat) : Int))) (hxr : ∀ i, xs.getD i 0 < WB) (hy : y < WB) (hr : r < WB) :
    Calls Tryz.prog 216 #[.slice (some ⟨g, 0, none⟩) m zc, .slice (some ⟨gx, ox, none⟩) m xc, .int .u64 y, .int .u64 r] w fun e w' =>
      ∃ (zs' : List Nat) (c : Nat), e = .returned (.int .u64 c) ∧ WBlk w' g (zs' ++ zs.drop m) ∧ zs'.length = m ∧ c < WB ∧ (∀ x ∈ zs', x < WB) ∧ nv zs' + WB ^ m * c = nv xs * y + r ∧ w.grownBy w' (some g) := by
  have H := Lib.hid (c238 g zs zc gx ox xc xs y r m hm hm1 w hz hzl hg hx hxr hy hr)
  clear hm hx hxr
  go_enter Tryz.func216, Tryz.ntmps216
  go_wp2_with fail
  refine H.out.mono ?_
  rintro e w1 ⟨zs', c, rfl, h1, h2, h3, h4, h5, h6⟩
  have H5 := Lib.hid h5
  have H2 := Lib.hid h2
  clear h5 h2
  go_wp2_with fail
  go_ret
  exact ⟨zs', c, rfl, h1, H2.out, h3, h4, H5.out, h6⟩

theorem mid_get {a b b' r : List Nat} {o k : Nat} (ha : a.length = o) (hb : b'.length = k) (hk : k < b.length) : (a ++ (b' ++ (b.drop k ++ r))).getD (o + k) 0 = b.getD k 0 := by
  subst ha hb
  rw [List.getD_eq_getElem?_getD, List.getElem?_append_right (by omega), List.getElem?_append_right (by omega), List.getElem?_append_left (by simp; omega), List.getElem?_drop, List.getD_eq_getElem?_getD]
  congr 2; omega
theorem mid_len {a b b' r : List Nat} {o k : Nat} (ha : a.length = o) (hb : b'.length = k) (hk : k < b.length) : o + k < (a ++ (b' ++ (b.drop k ++ r))).length := by
  simp; omega
theorem mid_set {a b b' r : List Nat} {o k : Nat} (v : Nat) (ha : a.length = o) (hb : b'.length = k) (hk : k < b.length) : (a ++ (b' ++ (b.drop k ++ r))).set (o + k) v = a ++ ((b' ++ [v]) ++ (b.drop (k + 1) ++ r)) := by
  subst ha hb
  rw [List.set_append_right _ _ (by omega), List.set_append_right _ _ (by omega), List.drop_eq_getElem_cons hk]
  rw [show a.length + b'.length - a.length - b'.length = 0 from by omega, List.cons_append, List.set_cons_zero, List.append_assoc, List.singleton_append]
theorem round239 {b b' ys : List Nat} {k c m : Nat} (hl : b'.length = k) (hk : k < b.length) (hy : k < ys.length)
    (h : nv b' + WB ^ k * c = nv (b.take k) + nv (ys.take k) * m) (q s lo cc : Nat) (h1 : q * WB + s = ys.getD k 0 * m + b.getD k 0) (h2 : cc * WB + lo = s + c) :
    nv (b' ++ [lo]) + WB ^ (k + 1) * (cc + q) = nv (b.take (k + 1)) + nv (ys.take (k + 1)) * m := by
  rw [take_snoc_nat b k hk, take_snoc_nat ys k hy, nv_append, nv_append, nv_append]
  have e1 : (b.take k).length = k := by rw [List.length_take]; omega
  have e2 : (ys.take k).length = k := by rw [List.length_take]; omega
  rw [e1, e2, hl]
  generalize ys.getD k 0 = y at *
  generalize b.getD k 0 = x at *
  simp only [nv, Nat.mul_zero, Nat.add_zero, Nat.pow_succ]
  have h3 : WB ^ k * (lo + WB * (cc + q)) = WB ^ k * (c + (x + y * m)) := by
    congr 1
    rw [Nat.mul_add, Nat.mul_comm WB cc, Nat.mul_comm WB q]; omega
  simp only [Nat.mul_add, Nat.add_mul, Nat.mul_assoc] at h3 ⊢
  try simp only [Nat.mul_assoc] at h
  omega
theorem carry_bound {y m x c q s lo cc : Nat} (hy : y < WB) (hm : m < WB) (hx : x < WB) (hc : c < WB) (h1 : q * WB + s = y * m + x) (h2 : cc * WB + lo = s + c) : cc + q < WB := by
  have hb : y * m + x + c < WB * WB := by
    have h3 : y * m ≤ (WB - 1) * (WB - 1) := Nat.mul_le_mul (by omega) (by omega)
    have h4 : (WB - 1) * (WB - 1) + (WB - 1) + WB = WB * WB := by
      obtain ⟨b, hb⟩ : ∃ b, WB = b + 1 := ⟨WB - 1, by have := wb_pos; omega⟩
      rw [hb]; simp only [Nat.add_sub_cancel]; rw [Nat.add_mul, Nat.mul_add]; omega
    omega
  have h5 : (cc + q) * WB ≤ y * m + x + c := by rw [Nat.add_mul]; omega
  exact Nat.lt_of_mul_lt_mul_right (Nat.lt_of_le_of_lt h5 hb)

set_option maxHeartbeats 1000000 in
theorem c239 (g : Nat) (a b r : List Nat) (o zc xc : Nat) (gy : Nat) (yc : Nat) (ys : List Nat) (mm : Nat) (m : Nat) (hm : b.length = m) (hmy : ys.length = m) (ho : a.length = o) (hm1 : o + m ≤ 1000000) (w : World)
    (hz : WBlk w g (a ++ (b ++ r))) (hg : g ≠ gy)
    (hy : ∀ i, i < m → w.cell? ⟨gy, 0 + i, none⟩ = some (.int .u64 ((ys.getD i 0 : Nat) : Int))) (hyr : ∀ i, ys.getD i 0 < WB) (hbr : ∀ i, b.getD i 0 < WB) (hmm : mm < WB) :
    Calls Tryz.prog 239 #[.slice (some ⟨g, o, none⟩) m zc, .slice (some ⟨g, o, none⟩) m xc, .slice (some ⟨gy, 0, none⟩) m yc, .int .u64 mm, .int .u64 0] w fun e w' =>
      ∃ (b' : List Nat) (c : Nat), e = .returned (.int .u64 c) ∧ WBlk w' g (a ++ (b' ++ r)) ∧ b'.length = m ∧ c < WB ∧ (∀ x ∈ b', x < WB) ∧ nv b' + WB ^ m * c = nv b + nv ys * mm ∧ w.grownBy w' (some g) := by
  have Hm := Lib.hid hm
  have Hmy := Lib.hid hmy
  have Ho := Lib.hid ho
  have Hy := Lib.hid hy
  clear hm hmy ho hy
  go_enter Tryz.func239, Tryz.ntmps239
  go_wp2
  go_loopw [10, 32] (fun vc vi wr => ∃ (k c : Nat) (b' : List Nat), k ≤ m ∧ vi = .int .i64 k ∧ vc = .int .u64 c ∧ c < WB ∧ WBlk wr g (a ++ (b' ++ (b.drop k ++ r))) ∧ Hid (b'.length = k) ∧ (∀ x ∈ b', x < WB) ∧ Hid (nv b' + WB ^ k * c = nv (b.take k) + nv (ys.take k) * mm) ∧ w.grownBy wr (some g)) (fun _ vi _ => m - (intOf vi).toNat)
  case atStart => exact ⟨0, 0, [], by omega, rfl, rfl, wb_pos, by simpa using hz, rfl, by simp, by simp [Hid, nv], grown_refl _ _⟩
  case round =>
    obtain ⟨k, c, b', hk, rfl, rfl, hc, hb, Hbl, hbr', hnv, hgr⟩ := hrel
    by_cases hlt : k < m
    · have hyk : wr.cell? ⟨gy, 0 + k, none⟩ = some (.int .u64 ((ys.getD k 0 : Nat) : Int)) := grown_cell hgr (Hy.out k hlt) hg
      rw [Nat.zero_add] at hyk
      have hzk := hb.cell (i := o + k) (mid_len Ho.out Hbl.out (by rw [Hm.out]; exact hlt))
      rw [mid_get Ho.out Hbl.out (by rw [Hm.out]; exact hlt)] at hzk
      have hzf := hb.free (o + k)
      have hY := hyr k
      have hX := hbr k
      have hrd := @round239 b b' ys k c mm Hbl.out (by rw [Hm.out]; exact hlt) (by rw [Hmy.out]; exact hlt) hnv.out
      have HRD := Lib.hid hrd
      clear hrd
      generalize ys.getD k 0 = Y at *
      generalize b.getD k 0 = X at *
      have hdm := Nat.div_add_mod (Y * mm + X) WB
      rw [Nat.mul_comm] at hdm
      have hcall := Lib.hid (c253 Y mm X hY hmm hX)
      have hq : (Y * mm + X) / WB < WB := mul_bound hY hmm hX
      have hs : (Y * mm + X) % WB < WB := Nat.mod_lt _ wb_pos
      generalize (Y * mm + X) / WB = q at *
      generalize (Y * mm + X) % WB = s at *
      have hdm2 := Nat.div_add_mod (s + c + 0) WB
      rw [Nat.mul_comm] at hdm2
      have hcall2 := Lib.hid (c245 s c 0 (by omega))
      have hlo : (s + c + 0) % WB < WB := Nat.mod_lt _ wb_pos
      generalize (s + c + 0) / WB = cc at *
      generalize (s + c + 0) % WB = lo at *
      rw [Nat.add_zero] at hdm2
      have hcb : cc + q < WB := carry_bound hY hmm hX hc hdm hdm2
      have hw : IntKind.u64.wrap ((cc : Int) + (q : Int)) = ((cc + q : Nat) : Int) := by rw [← Int.natCast_add, wrap_u64 hcb]
      have HD1 := Lib.hid hdm
      have HD2 := Lib.hid hdm2
      have HW := Lib.hid hw
      clear hdm hdm2 hw
      go_wp2_with fail
      go_quiet ((go_at_call 253; exact quietS (hcall.out _)))
      go_wp2_with (go_at_call 245; refine (hcall2.out _).mono ?_; rintro e w' ⟨rfl, rfl⟩)
      go_roundw
      case rel =>
        refine ⟨k + 1, cc + q, b' ++ [lo], by omega, by go_num, by rw [← HW.out], hcb, ?_, by show _ = _; simp [Hbl.out], ?_, HRD.out _ _ _ _ HD1.out HD2.out, grown_set (grown_drewN hgr _) _ _⟩
        · rw [← mid_set lo Ho.out Hbl.out (by rw [Hm.out]; exact hlt)]
          exact (hb.drewN _).set _ _
        · intro x hx
          rcases List.mem_append.1 hx with h | h
          · exact hbr' x h
          · rw [List.mem_singleton.1 h]; exact hlo
      case measure => simp [intOf]; omega
    · go_wp2_with fail
      go_ret
      have e : k = m := by omega
      subst e
      refine ⟨b', c, rfl, ?_, Hbl.out, hc, hbr', ?_, hgr⟩
      · rw [List.drop_of_length_le (by rw [Hm.out]; exact Nat.le_refl _)] at hb; exact hb
      · have := hnv.out
        rwa [List.take_of_length_le (by rw [Hm.out]; exact Nat.le_refl _), List.take_of_length_le (by rw [Hmy.out]; exact Nat.le_refl _)] at this
end Go.Proofs.YtpfihjkhgfoijaaGreatDoor
namespace Go.Proofs.YtpfihjkhgfoijaaGreatDoor
open Go.RowKit

theorem WBlk.setRow {w : World} {g : Nat} {xs : List Nat} (h : WBlk w g xs) (ys : List Nat) : WBlk (w.setRow g (wrow ys)) g ys := ⟨setRow_heap w g _ _ 254 (0, 0) h.out⟩
theorem grown_setRow {w0 w : World} {g : Nat} (h : w0.grownBy w (some g)) (cs : Array Value) : w0.grownBy (w.setRow g cs) (some g) :=
  ⟨h.os, h.tape, h.output, by simpa using h.size, fun k hk hn => by rw [setRow_other w g k cs (by rintro rfl; exact hn rfl)]; exact h.block k hk hn⟩
theorem zero254 (w : World) : (zeroValue 254).run Tryz.prog w = .ok (.int .u64 0) w := by kernel_rfl
theorem run_clear254 (w : World) (ty : TypeId) (g o n c : Nat) (xs : List Nat) (h : WBlk w g xs) (hn : 0 < n) (hl : o + n ≤ xs.length) :
    (Builtin.clear_ #[227] ty #[.slice (some ⟨g, o, none⟩) n c]).run Tryz.prog w = .ok (.tuple #[]) (w.setRow g (wrow (xs.take o ++ List.replicate n 0 ++ xs.drop (o + n)))) := by
  have hzc : (Builtin.zeroCells (Value.int .u64 0).cells n).toList = List.replicate n (Value.int .u64 0) := by
    rw [show (Value.int .u64 0).cells = #[Value.int .u64 0] from rfl]
    simp [Builtin.zeroCells]
    apply List.ext_getElem
    · simp
    · intro i h1 h2
      simp [Nat.mod_one]
  have hst := run_storeCells_at (P := Tryz.prog) g o 254 (List.replicate n (Value.int .u64 0)) 0 (wrow xs) w h.out (by rw [wrow_size]; simpa using hl) (by intro v hv'; rw [List.eq_of_mem_replicate hv']; rfl)
  obtain ⟨m, rfl⟩ : ∃ m, n = m + 1 := ⟨n - 1, by omega⟩
  have e : (List.take (o + 0) (wrow xs).toList ++ List.replicate (m + 1) (Value.int .u64 0) ++ List.drop (o + 0 + (List.replicate (m + 1) (Value.int .u64 0)).length) (wrow xs).toList).toArray = wrow (xs.take o ++ List.replicate (m + 1) 0 ++ xs.drop (o + (m + 1))) := by
    rw [wrow_toList, wrow_of]
    simp [wsv]
  rw [e] at hst
  simp [Builtin.clear_, run_underlying Tryz.underlying227, zero254, hzc, hst]

set_option maxHeartbeats 1000000 in
theorem c217 (g : Nat) (a b r : List Nat) (o zc xc : Nat) (gy : Nat) (yc : Nat) (ys : List Nat) (mm : Nat) (m : Nat) (hm : b.length = m) (hmy : ys.length = m) (ho : a.length = o) (hm1 : o + m ≤ 1000000) (w : World)
    (hz : WBlk w g (a ++ (b ++ r))) (hg : g ≠ gy)
    (hy : ∀ i, i < m → w.cell? ⟨gy, 0 + i, none⟩ = some (.int .u64 ((ys.getD i 0 : Nat) : Int))) (hyr : ∀ i, ys.getD i 0 < WB) (hbr : ∀ i, b.getD i 0 < WB) (hmm : mm < WB) :
    Calls Tryz.prog 217 #[.slice (some ⟨g, o, none⟩) m zc, .slice (some ⟨g, o, none⟩) m xc, .slice (some ⟨gy, 0, none⟩) m yc, .int .u64 mm, .int .u64 0] w fun e w' =>
      ∃ (b' : List Nat) (c : Nat), e = .returned (.int .u64 c) ∧ WBlk w' g (a ++ (b' ++ r)) ∧ b'.length = m ∧ c < WB ∧ (∀ x ∈ b', x < WB) ∧ nv b' + WB ^ m * c = nv b + nv ys * mm ∧ w.grownBy w' (some g) := by
  have H := Lib.hid (c239 g a b r o zc xc gy yc ys mm m hm hmy ho hm1 w hz hg hy hyr hbr hmm)
  clear hm hmy ho hy hyr hbr
  go_enter Tryz.func217, Tryz.ntmps217
  go_wp2_with fail
  refine H.out.mono ?_
  rintro e w1 ⟨zs', c, rfl, h1, h2, h3, h4, h5, h6⟩
  have H5 := Lib.hid h5
  have H2 := Lib.hid h2
  clear h5 h2
  go_wp2_with fail
  go_ret
  exact ⟨zs', c, rfl, h1, H2.out, h3, h4, H5.out, h6⟩

/-- the product so far: the lowest m + j words -/
theorem round206 {lo seg seg' : List Nat} {c m j X : Nat} {ys : List Nat} (hj : j < ys.length) (h1 : lo.length = j) (h2 : seg.length = m) (h2' : seg'.length = m)
    (hv : nv (lo ++ seg) = X * nv (ys.take j)) (hs : nv seg' + WB ^ m * c = nv seg + X * ys.getD j 0) :
    nv (lo ++ (seg' ++ [c])) = X * nv (ys.take (j + 1)) := by
  rw [take_snoc_nat ys j hj, nv_append, nv_append, nv_append]
  rw [nv_append] at hv
  have e2 : (ys.take j).length = j := by rw [List.length_take]; omega
  rw [e2, h1, h2']
  rw [h1] at hv
  simp only [nv, Nat.mul_zero, Nat.add_zero]
  rw [hs, Nat.mul_add (WB ^ j), ← Nat.add_assoc, hv, Nat.mul_add X]
  congr 1
  rw [Nat.mul_left_comm]

theorem splice_next (p seg' zd : List Nat) (j m n c : Nat) (hj : j < n) (hp : p.length = m + j) (hs : seg'.length = m) :
    (p.take j ++ (seg' ++ (List.replicate (n - j) 0 ++ zd))).set (m + j) c = (p.take j ++ (seg' ++ [c])) ++ (List.replicate (n - (j + 1)) 0 ++ zd) := by
  have e1 : (p.take j).length = j := by rw [List.length_take]; omega
  rw [List.set_append_right _ _ (by omega), List.set_append_right _ _ (by omega), e1, hs, show m + j - j - m = 0 from by omega, show n - j = (n - (j + 1)) + 1 from by omega, List.replicate_succ, List.cons_append, List.set_cons_zero]
  simp
theorem len_next (p seg' zd : List Nat) (j m n : Nat) (hj : j < n) (hp : p.length = m + j) (hs : seg'.length = m) : m + j < (p.take j ++ (seg' ++ (List.replicate (n - j) 0 ++ zd))).length := by
  have e1 : (p.take j).length = j := by rw [List.length_take]; omega
  simp only [List.length_append, List.length_replicate, e1, hs]; omega
set_option maxHeartbeats 1000000 in
theorem c206 (g : Nat) (zs : List Nat) (zc : Nat) (gx gy xc yc : Nat) (xs ys : List Nat) (m n : Nat) (w : World) (hz : WBlk w g zs) (hzl : m + n ≤ zs.length) (hzc : m + n ≤ zc)
    (hx : xs.length = m) (hy : ys.length = n) (hm : 0 < m) (hn : 0 < n) (hmn : m + n ≤ 1000) (hgx : g ≠ gx) (hgy : g ≠ gy)
    (hxc : ∀ i, i < m → w.cell? ⟨gx, i, none⟩ = some (.int .u64 ((xs.getD i 0 : Nat) : Int))) (hyc : ∀ i, i < n → w.cell? ⟨gy, i, none⟩ = some (.int .u64 ((ys.getD i 0 : Nat) : Int)))
    (hxr : ∀ x ∈ xs, x < WB) (hyr : ∀ x ∈ ys, x < WB) :
    Calls Tryz.prog 206 #[.slice (some ⟨g, 0, none⟩) (m + n) zc, .slice (some ⟨gx, 0, none⟩) m xc, .slice (some ⟨gy, 0, none⟩) n yc] w fun e w' =>
      ∃ rs, e = .returned (.tuple #[]) ∧ WBlk w' g (rs ++ zs.drop (m + n)) ∧ rs.length = m + n ∧ (∀ x ∈ rs, x < WB) ∧ nv rs = nv xs * nv ys ∧ w.grownBy w' (some g) := by
  have hcl := fun ty => run_clear254 w ty g 0 (m + n) zc zs hz (by omega) (by omega)
  simp only [List.take_zero, List.nil_append, Nat.zero_add] at hcl
  have hb0 := hz.setRow (List.replicate (m + n) 0 ++ zs.drop (m + n))
  have hg0 := grown_setRow (grown_refl w (some g)) (wrow (List.replicate (m + n) 0 ++ zs.drop (m + n)))
  have Hb0 := Lib.hid hb0
  have Hg0 := Lib.hid hg0
  generalize hR : wrow (List.replicate (m + n) 0 ++ zs.drop (m + n)) = R at hcl Hb0 Hg0
  clear hR hb0 hg0
  have Hx := Lib.hid hx
  have Hy := Lib.hid hy
  have Hxc := Lib.hid hxc
  have Hyc := Lib.hid hyc
  clear hx hy hxc hyc
  go_enter Tryz.func206, Tryz.ntmps206
  go_wp2
  have Hw : ∀ a v, w.cell? a = some v → a.block ≠ g → (w.setRow g R).cell? a = some v := fun a v h1 h2 => (cell_setRow_other w g R a h2).trans h1
  have HW := Lib.hid Hw
  clear Hw hcl
  generalize w.setRow g R = w0 at *
  go_loopw [17] (fun vi wr => ∃ (j : Nat) (p : List Nat), j ≤ n ∧ vi = .int .i64 j ∧ WBlk wr g (p ++ (List.replicate (n - j) 0 ++ zs.drop (m + n))) ∧ Hid (p.length = m + j) ∧ (∀ x ∈ p, x < WB) ∧ Hid (nv p = nv xs * nv (ys.take j)) ∧ w0.grownBy wr (some g)) (fun vi _ => n - (intOf vi).toNat)
  case atStart => exact ⟨0, List.replicate m 0, by omega, rfl, by have := Hb0.out; rw [← List.replicate_append_replicate, List.append_assoc] at this; exact this, by show _ = _; simp, by intro x hx; rw [List.eq_of_mem_replicate hx]; exact wb_pos, by show _ = _; rw [nv_zeros]; simp [nv], grown_refl _ _⟩
  case round =>
    obtain ⟨j, p, hj, rfl, hb, hp, hpr, hv, hgr⟩ := hrel
    by_cases hlt : j < n
    · have hyj : wr.cell? ⟨gy, j, none⟩ = some (.int .u64 ((ys.getD j 0 : Nat) : Int)) := grown_cell hgr (HW.out _ _ (Hyc.out j hlt) (by simpa using hgy.symm)) (by simpa using hgy)
      have hxj : Hid (∀ i, i < m → wr.cell? ⟨gx, 0 + i, none⟩ = some (.int .u64 ((xs.getD i 0 : Nat) : Int))) := fun i hi => by
        rw [Nat.zero_add]; exact grown_cell hgr (HW.out _ _ (Hxc.out i hi) (by simpa using hgx.symm)) (by simpa using hgx)
      have hYr := getD_lt hyr j
      by_cases hd : ys.getD j 0 = 0
      · have HD := Lib.hid hd
        rw [hd] at hyj
        clear hd hYr
        go_wp2
        go_roundw
        case rel =>
          refine ⟨j + 1, p ++ [0], by omega, by go_num, ?_, by show _ = _; have := hp.out; simp; omega, ?_, ?_, hgr⟩
          · rw [show n - j = (n - (j + 1)) + 1 from by omega, List.replicate_succ] at hb
            simpa using hb
          · intro x hx
            rcases List.mem_append.1 hx with h | h
            · exact hpr x h
            · rw [List.mem_singleton.1 h]; exact wb_pos
          · show _ = _
            rw [take_snoc_nat ys j (by rw [Hy.out]; exact hlt), nv_append, nv_append, HD.out, hv.out]
            simp [nv]
        case measure => simp [intOf]; omega
      · have hpt : (p.take j).length = j := by have := hp.out; rw [List.length_take]; omega
        have hpd : (p.drop j).length = m := by have := hp.out; rw [List.length_drop]; omega
        have hb' : WBlk wr g (p.take j ++ (p.drop j ++ (List.replicate (n - j) 0 ++ zs.drop (m + n)))) := by
          rw [← List.append_assoc, List.take_append_drop]; exact hb
        have hcall := Lib.hid (fun (W : World) (hW : WBlk W g (p.take j ++ (p.drop j ++ (List.replicate (n - j) 0 ++ zs.drop (m + n))))) (hX : ∀ i, i < m → W.cell? ⟨gx, 0 + i, none⟩ = some (.int .u64 ((xs.getD i 0 : Nat) : Int))) =>
          c217 g (p.take j) (p.drop j) (List.replicate (n - j) 0 ++ zs.drop (m + n)) j (zc - j) (zc - j) gx xc xs (ys.getD j 0) m hpd Hx.out hpt (by omega) W hW hgx hX (getD_lt hxr) (getD_lt (fun x hx => hpr x (List.mem_of_mem_drop hx))) hYr)
        have HPT := Lib.hid hpt
        have HPD := Lib.hid hpd
        clear hpt hpd hb
        have hz2 : (((ys.getD j 0 : Nat) : Int) != 0) = true := by rw [bne_iff_ne]; omega
        generalize hX : ys.getD j 0 = X at hyj hz2 hcall hd
        have HX := Lib.hid hX
        clear hX hYr
        go_wp2_with fail
        have q1 : IntKind.i64.wrap ((j : Int) + (m : Int)) = (j : Int) + (m : Int) := by rw [IntKind.wrap_i64]; omega
        have q2 : IntKind.i64.wrap ((m : Int) + (j : Int)) = (m : Int) + (j : Int) := by rw [IntKind.wrap_i64]; omega
        have q3 : ((j : Int) + (m : Int)).toNat = j + m := by omega
        have q4 : ((m : Int) + (j : Int)).toNat = m + j := by omega
        have q5 : (0 : Int) ≤ (j : Int) := by omega
        have q6 : (j : Int) ≤ (j : Int) + (m : Int) := by omega
        have q7 : (j : Int) + (m : Int) ≤ (zc : Int) := by omega
        have q8 : (0 : Int) ≤ (m : Int) + (j : Int) := by omega
        have q9 : (m : Int) + (j : Int) < (m : Int) + (n : Int) := by omega
        have q10 : j + m - j = m := by omega
        have q11 : (zc = j) = False := by simp; omega
        go_region_held3 (fun w' => True) (trivial)
          (first | (go_at_call 217; refine (hcall.out wr.drew hb'.drew hxj.out).mono ?_; rintro e w1 ⟨seg, c, rfl, hb1, hsl, hcw, hsr, hnv, hgr1⟩; have hc1 := hb1.cell (len_next p seg (zs.drop (m + n)) j m n hlt hp.out hsl); have hf1 := hb1.free (m + j); have HSL := Lib.hid hsl; have HNV := Lib.hid hnv; clear hsl hnv))
        clear q1 q2 q3 q4 q5 q6 q7 q8 q9 q10 q11
        go_wp2
        go_roundw
        case rel =>
          refine ⟨j + 1, p.take j ++ (seg ++ [c]), by omega, by go_num, ?_, ?_, ?_, ?_, grown_set (grown_trans hgr (grown_trans (grown_drew (grown_refl _ _)) hgr1)) _ _⟩
          · rw [← splice_next p seg (zs.drop (m + n)) j m n c hlt hp.out HSL.out]
            exact hb1.set _ _
          · show _ = _
            have := HPT.out; have := HSL.out
            simp only [List.length_append, List.length_singleton]; omega
          · intro x hx
            rcases List.mem_append.1 hx with h | h
            · exact hpr x (List.mem_of_mem_take h)
            · rcases List.mem_append.1 h with h | h
              · exact hsr x h
              · rw [List.mem_singleton.1 h]; exact hcw
          · show _ = _
            exact round206 (by rw [Hy.out]; exact hlt) HPT.out HPD.out HSL.out (by rw [List.take_append_drop]; exact hv.out) (by rw [HX.out]; exact HNV.out)
        case measure => simp [intOf]; omega
    · go_wp2
      go_end0
      have e : j = n := by omega
      subst e
      refine ⟨p, rfl, by simpa using hb, hp.out, hpr, ?_, grown_trans Hg0.out hgr⟩
      have := hv.out
      rwa [List.take_of_length_le (by rw [Hy.out]; exact Nat.le_refl _)] at this
end Go.Proofs.YtpfihjkhgfoijaaGreatDoor
namespace Go.Proofs.YtpfihjkhgfoijaaGreatDoor
open Go.RowKit

/-- a number of words in memory, made since w -/
structure Made (w w' : World) (v : Value) (x : Nat) : Prop where mk ::
  out : ∃ A n c xs, v = .slice A n c ∧ NatR w' A n c xs ∧ Nrm xs ∧ nv xs = x ∧ (∀ a, A = some a → w.heap.size ≤ a.block)
theorem setWord0 (w : World) : Calls Tryz.prog 194 #[.slice none 0 0, .int .u64 0] w fun e w' => e = .returned (.slice none 0 0) ∧ w = w' := by
  go_enter Tryz.func194, Tryz.ntmps194
  go_wp2
  go_ret
  exact ⟨rfl, rfl⟩

theorem c149i (A : Option Addr) (l c : Nat) (N : Int) (n : Nat) (hN : N = (n : Int)) (hn : c < n) (hb : n ≤ 2000) (w : World) :
    Calls Tryz.prog 149 #[.slice A l c, .int .i64 N] w fun e w' => ∃ cp, e = .returned (.slice (some ⟨w.heap.size, 0, none⟩) n cp) ∧ n ≤ cp ∧ cp ≤ n + 4 ∧ WBlk w' w.heap.size (List.replicate cp 0) ∧ Below w.heap.size w w' ∧ w'.heap.size = w.heap.size + 1 := by
  subst hN; exact c149n A l c n hn hb w
theorem pre_set (zs r : List Nat) (m v : Nat) (hl : zs.length = m) : (zs ++ (0 :: r)).set m v = (zs ++ [v]) ++ r := by
  rw [List.set_append_right _ _ (by omega), show m - zs.length = 0 from by omega, List.set_cons_zero]; simp
set_option maxHeartbeats 1000000 in
theorem c204 (A : Option Addr) (n c : Nat) (xs : List Nat) (y : Nat) (w : World) (h : NatR w A n c xs) (hn : n ≤ 1000) (hy : y < WB) :
    Calls Tryz.prog 204 #[.slice none 0 0, .slice A n c, .int .u64 y, .int .u64 0] w fun e w' => ∃ v, e = .returned v ∧ Made w w' v (nv xs * y) ∧ Below w.heap.size w w' := by
  by_cases h0 : n = 0
  · subst h0
    obtain rfl := h.zero rfl
    go_enter Tryz.func204, Tryz.ntmps204
    go_wp2_with (go_at_call 194; refine (setWord0 _).mono ?_; rintro e w' ⟨rfl, rfl⟩)
    go_ret
    exact ⟨_, rfl, ⟨none, 0, 0, [], rfl, NatR.nil _, Nrm.nil, by simp [nv], by simp⟩, Below.refl _ _⟩
  · have hb0 : ((n : Int) == 0) = false := by rw [beq_eq_false_iff_ne]; omega
    by_cases hy0 : y = 0
    · subst hy0
      go_enter Tryz.func204, Tryz.ntmps204
      go_wp2_with (go_at_call 194; refine (setWord0 _).mono ?_; rintro e w' ⟨rfl, rfl⟩)
      go_ret
      exact ⟨_, rfl, ⟨none, 0, 0, [], rfl, NatR.nil _, Nrm.nil, by simp [nv], by simp⟩, Below.refl _ _⟩
    · have hb1 : ((y : Int) == 0) = false := by rw [beq_eq_false_iff_ne]; omega
      obtain ⟨g, ys, rfl, hb, hc⟩ := h.pos (by omega)
      have hl := Lib.hid h.len
      have hrg := Lib.hid h.rng
      go_enter Tryz.func204, Tryz.ntmps204
      go_wp2_with fail
      refine (c149i none 0 0 _ (n + 1) (by omega) (by omega) (by omega) _).mono ?_
      rintro e w1 ⟨cp, rfl, h1, h2, hb1, hB, hs⟩
      have hcp : (0 : Int) ≤ (cp : Int) := by omega
      have hn1 : (n : Int) ≤ (cp : Int) := by omega
      have HB := Lib.hid hB
      have HS := Lib.hid hs
      have hlt := hb.lt
      clear hB hs
      go_wp2_with fail
      refine (c216 w.heap.size (List.replicate cp 0) cp g 0 c xs y 0 n hl.out.symm (by omega) _ hb1 (by simp; omega) (by omega) ?_ (getD_lt hrg.out) hy wb_pos).mono ?_
      · intro i hi
        have := (hb.below HB.out).cell (i := i) (by simp [hl.out]; omega)
        rw [getD_append_l (by rw [hl.out]; exact hi)] at this
        rw [Nat.zero_add]; exact this
      rintro e w2 ⟨zs', cr, rfl, hb2, hzl, hcr, hzr, hv, hg⟩
      have hrest : (List.replicate cp 0).drop n = 0 :: List.replicate (cp - n - 1) 0 := by
        rw [List.drop_replicate, show cp - n = (cp - n - 1) + 1 from by omega, List.replicate_succ]
        simp
      rw [hrest] at hb2
      have hcell := hb2.cell (i := n) (by simp [hzl])
      have hfr := hb2.free n
      have hb3 := hb2.set n cr
      rw [pre_set _ _ _ _ hzl] at hb3
      have HV := Lib.hid hv
      have HZ := Lib.hid hzl
      have HR := Lib.hid hrest
      clear hv hzl hrest
      go_wp2_with fail
      have hN : NatR (w2.setCell ⟨w.heap.size, n, none⟩ (.int .u64 (cr : Int))) (some ⟨w.heap.size, 0, none⟩) (n + 1) cp (zs' ++ [cr]) :=
        ⟨by simp [HZ.out], by omega, by omega, by intro x hx; rcases List.mem_append.1 hx with h | h; exact hzr x h; rw [List.mem_singleton.1 h]; exact hcr, .inr ⟨_, _, rfl, hb3, by simp [HZ.out]; omega⟩⟩
      refine (c151 _ _ _ _ _ hN).mono ?_
      rintro e w3 ⟨m, rfl, hm, hNm, hnrm, hnv, rfl⟩
      have HN := Lib.hid hnv
      clear hnv
      go_wp2_with fail
      go_ret
      refine ⟨_, rfl, ⟨_, _, _, _, rfl, hNm, hnrm, ?_, by simp⟩, below_set' (below_grown' HB.out hg (Nat.le_refl _)) (Nat.le_refl _) _⟩
      rw [HN.out, nv_append, HZ.out]
      have := HV.out
      simp only [nv, Nat.mul_zero, Nat.add_zero] at this ⊢
      exact this
end Go.Proofs.YtpfihjkhgfoijaaGreatDoor
namespace Go.Proofs.YtpfihjkhgfoijaaGreatDoor
open Go.RowKit

/-- the slice 'A, n, c' reads as the bytes bs -/
structure ByteR (w : World) (A : Option Addr) (n c : Nat) (bs : List Nat) : Prop where
  len : bs.length = n
  le : n ≤ c
  rng : ∀ b ∈ bs, b < 256
  cells : n = 0 ∨ ∃ g o, A = some ⟨g, o, none⟩ ∧ ∀ i, i < n → w.cell? ⟨g, o + i, none⟩ = some (.int .u8 (bs.getD i 0 : Nat))
theorem ByteR.below {w w' : World} {A : Option Addr} {n c : Nat} {bs : List Nat} (h : ByteR w A n c bs) (hb : Below w.heap.size w w') : ByteR w' A n c bs :=
  ⟨h.len, h.le, h.rng, by
    rcases h.cells with h1 | ⟨g, o, e, hc⟩
    · exact .inl h1
    · exact .inr ⟨g, o, e, fun i hi => below_cell hb (hc i hi)⟩⟩
theorem byte_lt {bs : List Nat} (h : ∀ b ∈ bs, b < 256) (i : Nat) : bs.getD i 0 < 256 := by
  rw [List.getD_eq_getElem?_getD]
  by_cases hi : i < bs.length
  · rw [List.getElem?_eq_getElem hi]; exact h _ (List.getElem_mem hi)
  · rw [List.getElem?_eq_none (by omega)]; simp
/-- the number of bytes, the highest first -/
def bval (bs : List Nat) : Nat := bs.foldl (fun a b => a * 256 + b) 0
theorem bval_foldl (bs : List Nat) (a : Nat) : bs.foldl (fun a b => a * 256 + b) a = a * 256 ^ bs.length + bval bs := by
  unfold bval
  induction bs generalizing a with
  | nil => simp
  | cons b bs ih =>
    simp only [List.foldl_cons, List.length_cons]
    rw [ih, ih (0 * 256 + b), Nat.pow_succ, Nat.add_mul, Nat.zero_mul, Nat.zero_add, Nat.mul_assoc, Nat.mul_comm 256]
    omega
theorem bval_append (a b : List Nat) : bval (a ++ b) = bval a * 256 ^ b.length + bval b := by
  show (a ++ b).foldl _ 0 = _
  rw [List.foldl_append, bval_foldl]; rfl
theorem bval_cons (b : Nat) (bs : List Nat) : bval (b :: bs) = b * 256 ^ bs.length + bval bs := by
  have := bval_append [b] bs
  simpa [bval] using this
theorem bval_nil : bval [] = 0 := rfl
theorem bval_lt {bs : List Nat} (h : ∀ b ∈ bs, b < 256) : bval bs < 256 ^ bs.length := by
  induction bs with
  | nil => simp [bval]
  | cons b bs ih =>
    have h1 := ih (fun x hx => h x (List.mem_cons_of_mem _ hx))
    have h2 := h b List.mem_cons_self
    rw [bval_cons, List.length_cons, Nat.pow_succ]
    have : b * 256 ^ bs.length ≤ 255 * 256 ^ bs.length := Nat.mul_le_mul_right _ (by omega)
    omega
theorem drop_step (bs : List Nat) (i : Nat) (hi : i < bs.length) : bs.drop i = bs.getD i 0 :: bs.drop (i + 1) := by
  rw [List.drop_eq_getElem_cons hi]; simp [hi]
theorem wb256 : WB = 256 ^ 8 := by rw [wb_eq]
/-- eight bytes ahead -/
theorem bval_eight (bs : List Nat) (i : Nat) (hi : i + 8 ≤ bs.length) : bval (bs.drop i) = be64n (fun j => bs.getD (i + j) 0) * 256 ^ (bs.length - (i + 8)) + bval (bs.drop (i + 8)) := by
  rw [drop_step bs i (by omega), drop_step bs (i + 1) (by omega), drop_step bs (i + 2) (by omega), drop_step bs (i + 3) (by omega), drop_step bs (i + 4) (by omega), drop_step bs (i + 5) (by omega), drop_step bs (i + 6) (by omega), drop_step bs (i + 7) (by omega)]
  simp only [bval_cons, List.length_cons, List.length_drop, be64n, be32n, Nat.add_zero, Nat.zero_add, Nat.pow_succ, Nat.add_assoc, Nat.reduceAdd]
  generalize bs.length - (i + 8) = e
  generalize 256 ^ e = P
  generalize bs.getD i 0 = b0
  generalize bs.getD (i + 1) 0 = b1
  generalize bs.getD (i + 2) 0 = b2
  generalize bs.getD (i + 3) 0 = b3
  generalize bs.getD (i + 4) 0 = b4
  generalize bs.getD (i + 5) 0 = b5
  generalize bs.getD (i + 6) 0 = b6
  generalize bs.getD (i + 7) 0 = b7
  generalize bval (bs.drop (i + 8)) = R
  simp only [Nat.add_mul, Nat.mul_assoc, Nat.mul_comm P, Nat.reduceMul]
  rw [show 256 * (256 * (256 * (256 * (256 * (256 * (256 * P)))))) = 72057594037927936 * P from by omega,
    show 256 * (256 * (256 * (256 * (256 * (256 * P))))) = 281474976710656 * P from by omega,
    show 256 * (256 * (256 * (256 * (256 * P)))) = 1099511627776 * P from by omega,
    show 256 * (256 * (256 * (256 * P))) = 4294967296 * P from by omega,
    show 256 * (256 * (256 * P)) = 16777216 * P from by omega,
    show 256 * (256 * P) = 65536 * P from by omega]
  omega
theorem be64n_lt (f : Nat → Nat) (hf : ∀ i, f i < 256) : be64n f < WB := by
  rw [wb_eq]; unfold be64n
  have := be32n_lt f hf 0; have := be32n_lt f hf 4; omega

theorem pow_wb (k : Nat) : 256 ^ (8 * k) = WB ^ k := by rw [wb256, Nat.pow_mul]
theorem put_set (zs : List Nat) (k v : Nat) (hk : k < zs.length) : zs.set k v = (zs.take k ++ [v]) ++ zs.drop (k + 1) := by
  rw [List.set_eq_take_append_cons_drop, if_pos hk]; simp
theorem pow256 (e : Nat) : 256 ^ e = 2 ^ (8 * e) := by rw [Nat.pow_mul]
theorem shl_or (d X e : Nat) (hd : d < 256 ^ e) (hX : X < 256) (he : e ≤ 6) : bits .or .u64 (d : Int) (IntKind.u64.wrap ((X : Int) * 2 ^ (8 * e))) = ((d + X * 256 ^ e : Nat) : Int) ∧ d + X * 256 ^ e < 256 ^ (e + 1) := by
  have h1 : X * 256 ^ e ≤ 255 * 256 ^ e := Nat.mul_le_mul_right _ (by omega)
  have h2 : 256 ^ e ≤ 256 ^ 6 := Nat.pow_le_pow_right (by omega) he
  have h3 : d + X * 256 ^ e < 256 ^ (e + 1) := by rw [Nat.pow_succ]; omega
  have h5 : (256 : Nat) ^ 6 = 281474976710656 := by decide
  have e1 : ((X : Int) * 2 ^ (8 * e)) = ((X * 2 ^ (8 * e) : Nat) : Int) := by simp
  rw [pow256 e] at h1 h2 hd ⊢
  refine ⟨?_, by rw [← pow256]; exact h3⟩
  rw [e1, show IntKind.u64.wrap ((X * 2 ^ (8 * e) : Nat) : Int) = ((X * 2 ^ (8 * e) : Nat) : Int) from by rw [IntKind.wrap_u64]; omega, or_u64 d X (8 * e) hd (by omega) (by omega)]
theorem bval_split (bs : List Nat) (i : Nat) (hi : i ≤ bs.length) : bval bs = bval (bs.take i) * 256 ^ (bs.length - i) + bval (bs.drop i) := by
  have := bval_append (bs.take i) (bs.drop i)
  rw [List.take_append_drop, List.length_drop] at this
  exact this
theorem bval_down (bs : List Nat) (i j : Nat) (hj : 0 < j) (hji : j ≤ i) (hi : i ≤ bs.length) : bval ((bs.take i).drop (j - 1)) = bs.getD (j - 1) 0 * 256 ^ (i - j) + bval ((bs.take i).drop j) := by
  rw [drop_step (bs.take i) (j - 1) (by simp; omega), bval_cons, show j - 1 + 1 = j from by omega]
  have e : ((bs.take i).drop j).length = i - j := by simp; omega
  rw [e]
  congr 2
  rw [List.getD_eq_getElem?_getD, List.getElem?_take, if_pos (by omega), ← List.getD_eq_getElem?_getD]
set_option maxHeartbeats 1000000 in
theorem c132 (A : Option Addr) (n c : Nat) (bs : List Nat) (w : World) (h : ByteR w A n c bs) (hn : n ≤ 1000) :
    Calls Tryz.prog 132 #[.slice none 0 0, .slice A n c] w fun e w' => ∃ B m d xs, e = .returned (.slice B m d) ∧ NatR w' B m d xs ∧ Nrm xs ∧ nv xs = bval bs ∧ Below w.heap.size w w' ∧ (∀ a, B = some a → w.heap.size ≤ a.block) := by
  have hl := Lib.hid h.len
  have hle := h.le
  by_cases h0 : n = 0
  · subst h0
    obtain rfl : bs = [] := List.eq_nil_of_length_eq_zero h.len
    go_enter Tryz.func132, Tryz.ntmps132
    go_wp2_with fail
    refine (c149_old none 0 0 0 (by omega) (by omega) _).mono ?_
    rintro e w1 ⟨rfl, rfl⟩
    go_wp2_with fail
    go_loop [5, 6] (fun vi vk => vi = .int .i64 0 ∧ vk = .int .i64 0) (fun _ _ => 0)
    case atStart => exact ⟨rfl, rfl⟩
    case round =>
      obtain ⟨rfl, rfl⟩ := hrel
      go_wp2_with fail
      refine (c151 none 0 0 [] _ (NatR.nil _)).mono ?_
      rintro e w1 ⟨m, rfl, hm, hN, hnr, hv, rfl⟩
      have HV := Lib.hid hv
      clear hv
      go_wp2_with fail
      go_ret
      exact ⟨_, _, _, _, rfl, hN, hnr, HV.out, Below.refl _ _, by simp⟩
  · obtain ⟨g, o, rfl, hcell⟩ : ∃ g o, A = some ⟨g, o, none⟩ ∧ ∀ i, i < n → w.cell? ⟨g, o + i, none⟩ = some (.int .u8 (bs.getD i 0 : Nat)) := by
      rcases h.cells with h1 | h1
      · exact absurd h1 h0
      · exact h1
    have Hc := Lib.hid hcell
    have Hr := Lib.hid h.rng
    clear hcell
    go_enter Tryz.func132, Tryz.ntmps132
    go_wp2_with fail
    obtain ⟨m, hm1, hm2⟩ : ∃ m, 8 * m ≤ n + 7 ∧ n ≤ 8 * m := ⟨(n + 7) / 8, by omega, by omega⟩
    refine (c149i none 0 0 _ m (by omega) (by omega) (by omega) _).mono ?_
    rintro e w1 ⟨cp, rfl, hcp1, hcp2, hb1, hB1, hs1⟩
    have HS := Lib.hid hs1
    clear hs1
    have hcp3 : n ≤ 8 * cp := by omega
    go_wp2_with fail
    go_loopw [5, 6] (fun vi vk wr => ∃ (i k : Nat) (ws : List Nat), i + 8 * k ≤ n ∧ n ≤ i + 8 * k ∧ vi = .int .i64 i ∧ vk = .int .i64 k ∧ WBlk wr w.heap.size (ws ++ List.replicate (cp - k) 0) ∧ Hid (ws.length = k) ∧ (∀ x ∈ ws, x < WB) ∧ Hid (nv ws = bval (bs.drop i)) ∧ Below w.heap.size w wr) (fun vi _ _ => (intOf vi).toNat)
    case atStart => exact ⟨n, 0, [], by omega, by omega, rfl, rfl, by simpa using hb1, rfl, by simp, by show _ = _; rw [List.drop_of_length_le (by rw [hl.out]; exact Nat.le_refl _)]; rfl, hB1⟩
    case round =>
      obtain ⟨i, k, ws, hik1, hik2, rfl, rfl, hb, hwl, hwr, hwv, hB⟩ := hrel
      by_cases h8 : 8 ≤ i
      · have q1 : (0 : Int) ≤ (i : Int) - 8 := by omega
        have q2 : (i : Int) - 8 ≤ (i : Int) := by omega
        have q3 : (i : Int) ≤ (c : Int) := by omega
        have q4 : ((i : Int) - 8).toNat = i - 8 := by omega
        have q5 : (c = i - 8) = False := by simp; omega
        have q6 : i - (i - 8) = 8 := by omega
        have q7 : (k : Int) < (m : Int) := by omega
        have q8 : k < m := by omega
        have hcl := hb.cell (i := k) (by have := hwl.out; simp; omega)
        have hfr := hb.free k
        have hcall := Lib.hid (c150 g (o + (i - 8)) 8 (c - (i - 8)) (by omega) (by omega) (fun j => bs.getD (i - 8 + j) 0) (fun j => byte_lt Hr.out _) wr (fun j hj => by rw [Nat.add_assoc]; exact below_cell hB (Hc.out _ (by omega))))
        have hX : be64n (fun j => bs.getD (i - 8 + j) 0) < WB := be64n_lt _ (fun j => byte_lt Hr.out _)
        have hE := bval_eight bs (i - 8) (by rw [hl.out]; omega)
        generalize be64n (fun j => bs.getD (i - 8 + j) 0) = X at *
        have HE := Lib.hid hE
        clear hE
        go_wp2_with fail
        go_fit hcall.out
        rintro e w2 ⟨rfl, kd, rfl⟩
        go_wp2_with fail
        go_roundw
        case rel =>
          refine ⟨i - 8, k + 1, ws ++ [X], by omega, by omega, by go_num, by go_num, ?_, ?_, ?_, ?_, ?_⟩
          · have hrep : List.replicate (cp - k) 0 = 0 :: List.replicate (cp - (k + 1)) 0 := by
              rw [show cp - k = (cp - (k + 1)) + 1 from by omega, List.replicate_succ]
            rw [hrep] at hb
            rw [← pre_set ws _ k X hwl.out]
            exact (hb.drewN kd).set k X
          · show _ = _; simp [hwl.out]
          · intro x hx
            rcases List.mem_append.1 hx with h | h
            · exact hwr x h
            · rw [List.mem_singleton.1 h]; exact hX
          · show _ = _
            rw [nv_append, hwl.out, hwv.out, HE.out]
            rw [show i - 8 + 8 = i from by omega, hl.out, show n - i = 8 * k from by omega, pow_wb]
            simp only [nv, Nat.mul_zero, Nat.add_zero]
            rw [Nat.mul_comm X, Nat.add_comm]
          · exact below_set' (below_drewN' hB kd) (Nat.le_refl _) _
        case measure => simp [intOf]; omega
      · by_cases hi0 : i = 0
        · subst hi0
          go_wp2_with fail
          have hkm : k = m := by omega
          have hN : NatR wr (some ⟨w.heap.size, 0, none⟩) m cp ws := ⟨by rw [hwl.out, hkm], hcp1, by omega, hwr, .inr ⟨_, _, rfl, hb, by have := hwl.out; simp; omega⟩⟩
          refine (c151 _ _ _ _ _ hN).mono ?_
          rintro e w3 ⟨m', rfl, hm, hNm, hnr, hv, rfl⟩
          have HV := Lib.hid hv
          clear hv
          go_wp2_with fail
          go_ret
          exact ⟨_, _, _, _, rfl, hNm, hnr, by rw [HV.out, hwv.out, List.drop_zero], hB, by simp⟩
        · have hip : (0 : Int) < (i : Int) := by omega
          go_wp2_with fail
          go_outline
          go_loop [5, 7, 8] (fun vi vd vs => ∃ (j d : Nat), j ≤ i ∧ vi = .int .i64 j ∧ vd = .int .u64 d ∧ vs = .int .u64 ((8 * (i - j) : Nat) : Int) ∧ d < 256 ^ (i - j) ∧ Hid (d = bval ((bs.take i).drop j))) (fun vi _ _ => (intOf vi).toNat)
          case atStart => exact ⟨i, 0, Nat.le_refl _, rfl, rfl, by simp, by simp, by show _ = _; rw [List.drop_of_length_le (by simp; omega)]; rfl⟩
          case round =>
            obtain ⟨j, d, hj, rfl, rfl, rfl, hd, hdv⟩ := hrel
            by_cases hj0 : j = 0
            · subst hj0
              have hkm : k + 1 = m := by omega
              have r1 : (0 : Int) ≤ (m : Int) - 1 := by omega
              have r2 : ((m : Int) - 1).toNat = k := by omega
              have r3 : (m : Int) - 1 < (m : Int) := by omega
              have hcl := hb.cell (i := k) (by have := hwl.out; simp; omega)
              have hfr := hb.free k
              have hrep : List.replicate (cp - k) 0 = 0 :: List.replicate (cp - (k + 1)) 0 := by
                rw [show cp - k = (cp - (k + 1)) + 1 from by omega, List.replicate_succ]
              have HRP := Lib.hid hrep
              have HKM := Lib.hid hkm
              clear hrep hkm
              go_wp2_with fail
              have hb' := hb
              rw [HRP.out] at hb'
              have hb2 := hb'.set k d
              rw [pre_set ws _ k d hwl.out] at hb2
              have hdw : d < WB := by
                rw [wb256]; exact Nat.lt_of_lt_of_le hd (Nat.pow_le_pow_right (by omega) (by omega))
              have hN : NatR (wr.setCell ⟨w.heap.size, k, none⟩ (.int .u64 (d : Int))) (some ⟨w.heap.size, 0, none⟩) m cp (ws ++ [d]) :=
                ⟨by have := hwl.out; have := HKM.out; simp; omega, hcp1, by omega, by
                  intro x hx
                  rcases List.mem_append.1 hx with h | h
                  · exact hwr x h
                  · rw [List.mem_singleton.1 h]; exact hdw, .inr ⟨_, _, rfl, hb2, by have := hwl.out; have := HKM.out; simp; omega⟩⟩
              refine (c151 _ _ _ _ _ hN).mono ?_
              rintro e w3 ⟨m', rfl, hm, hNm, hnr, hv, rfl⟩
              have HV := Lib.hid hv
              clear hv
              go_wp2_with fail
              go_ret
              refine ⟨_, _, _, _, rfl, hNm, hnr, ?_, below_set' hB (Nat.le_refl _) _, by simp⟩
              rw [HV.out, nv_append, hwl.out, hwv.out, bval_split bs i (by rw [hl.out]; omega), hl.out, show n - i = 8 * k from by omega, pow_wb, hdv.out, List.drop_zero]
              simp only [nv, Nat.mul_zero, Nat.add_zero]
              rw [Nat.mul_comm (WB ^ k), Nat.add_comm]
            · have p1 : (j : Int) - 1 < (n : Int) := by omega
              have p2 : (0 : Int) ≤ (j : Int) - 1 := by omega
              have p3 : ((j : Int) - 1).toNat = j - 1 := by omega
              have hcj : wr.cell? ⟨g, o + (j - 1), none⟩ = some (.int .u8 (bs.getD (j - 1) 0 : Nat)) := below_cell hB (Hc.out _ (by omega))
              have hX := byte_lt Hr.out (j - 1)
              have hdn := Lib.hid (bval_down bs i j (by omega) hj (by rw [hl.out]; omega))
              generalize bs.getD (j - 1) 0 = X at *
              obtain ⟨hso, hlt⟩ := shl_or d X (i - j) hd hX (by omega)
              have HSO := Lib.hid hso
              clear hso
              have s1 : IntKind.u64.wrap (8 * ((i - j : Nat) : Int) + 8) = 8 * ((i - j : Nat) : Int) + 8 := by rw [IntKind.wrap_u64]; omega
              go_wp2_with fail
              go_round
              case rel =>
                refine ⟨j - 1, d + X * 256 ^ (i - j), by omega, by go_num, by rw [← HSO.out]; first | rfl | skip, by congr 1; omega, by rw [show i - (j - 1) = i - j + 1 from by omega]; exact hlt, ?_⟩
                show _ = _
                rw [hdn.out, ← hdv.out, Nat.add_comm]
              case measure => simp [intOf]; omega
end Go.Proofs.YtpfihjkhgfoijaaGreatDoor
namespace Go.Proofs.YtpfihjkhgfoijaaGreatDoor
open Go.RowKit

theorem below_of_drewN {B : Nat} {w w' : World} {k : Nat} (h : Below B (w.drewN k) w') : Below B w w' := ⟨h.os, h.tape, h.output, h.size, h.block⟩
theorem alias_nil (A : Option Addr) (n c : Nat) (w : World) : Calls Tryz.prog 205 #[.slice none 0 0, .slice A n c] w fun e w' => e = .returned (.bool false) ∧ Below w.heap.size w w' ∧ w'.heap.size = w.heap.size ∧ (∃ k, w' = w.drewN k) := by
  go_enter Tryz.func205, Tryz.ntmps205
  go_wp2_with fail
  go_quiet (fail)
  go_wp2_with fail
  go_ret
  exact ⟨rfl, below_drewN' (Below.refl _ _) _, rfl, _, rfl⟩

set_option maxHeartbeats 1000000 in
theorem c197_ge (P : Value) (A B : Option Addr) (m n c d : Nat) (xs ys : List Nat) (w : World) (hx : NatR w A m c xs) (hy : NatR w B n d ys) (hmn : n ≤ m) (hm : m ≤ 500) (hn : n < 40)
    (hk : w.cell? ⟨9, 0, none⟩ = some (.int .i64 40)) :
    Calls Tryz.prog 197 #[.slice none 0 0, P, .slice A m c, .slice B n d] w fun e w' => ∃ v, e = .returned v ∧ Made w w' v (nv xs * nv ys) ∧ Below w.heap.size w w' := by
  have t0 : (m < n) = False := by simp; omega
  have hxl := Lib.hid hx.len
  have hyl := Lib.hid hy.len
  by_cases h0 : n = 0
  · subst h0
    obtain rfl := hy.zero rfl
    by_cases hm0 : m = 0
    · subst hm0
      go_enter Tryz.func197, Tryz.ntmps197
      go_wp2_with fail
      go_ret
      exact ⟨_, rfl, ⟨none, 0, 0, [], rfl, NatR.nil _, Nrm.nil, by simp [nv], by simp⟩, Below.refl _ _⟩
    · have hb0 : ((m : Int) == 0) = false := by rw [beq_eq_false_iff_ne]; omega
      go_enter Tryz.func197, Tryz.ntmps197
      go_wp2_with fail
      go_ret
      exact ⟨_, rfl, ⟨none, 0, 0, [], rfl, NatR.nil _, Nrm.nil, by simp [nv], by simp⟩, Below.refl _ _⟩
  · have hb0 : ((m : Int) == 0) = false := by rw [beq_eq_false_iff_ne]; omega
    have hb1 : ((n : Int) == 0) = false := by rw [beq_eq_false_iff_ne]; omega
    obtain ⟨gy, yr, rfl, hyb, hyc⟩ := hy.pos (by omega)
    obtain ⟨gx, xr, rfl, hxb, hxc⟩ := hx.pos (by omega)
    by_cases h1 : n = 1
    · subst h1
      obtain ⟨y0, rfl⟩ : ∃ y0, ys = [y0] := by
        match ys, hyl.out with
        | [y], _ => exact ⟨y, rfl⟩
      have hyc0 := hyb.cell (i := 0) (by simp)
      have hy0 := hy.rng y0 (by simp)
      have HC := Lib.hid (c204 _ _ _ _ y0 w hx (by omega) hy0)
      simp only [List.cons_append, List.getD_cons_zero] at hyc0
      go_enter Tryz.func197, Tryz.ntmps197
      go_wp2_with fail
      refine HC.out.mono ?_
      rintro e w1 ⟨v, rfl, hM, hB⟩
      go_wp2_with fail
      go_ret
      exact ⟨v, rfl, by simpa [nv] using hM, hB⟩
    · have hb2 : ((n : Int) == 1) = false := by rw [beq_eq_false_iff_ne]; omega
      go_enter Tryz.func197, Tryz.ntmps197
      go_wp2_with fail
      refine (alias_nil _ _ _ _).mono ?_
      rintro e w1 ⟨rfl, hB1, hs1, k1, rfl⟩
      go_wp2_with fail
      refine (alias_nil _ _ _ _).mono ?_
      rintro e w1 ⟨rfl, hB2, hs2, k2, rfl⟩
      have hlx := hxb.lt
      have hly := hyb.lt
      clear hB1 hB2 hs1 hs2
      go_wp2_with fail
      refine (c149i none 0 0 _ (m + n) (by omega) (by omega) (by omega) _).mono ?_
      rintro e w2 ⟨cp, rfl, hcp1, hcp2, hb1', hB, hs⟩
      simp only [drewN_size] at hb1' hB hs
      replace hB := below_of_drewN hB
      have hk2 := below_cell hB hk
      have HB := Lib.hid hB
      have hi1 : (0 : Int) ≤ (cp : Int) := by omega
      clear hB hs
      go_wp2_with fail
      have hcx : ∀ i, i < m → w2.cell? ⟨gx, i, none⟩ = some (.int .u64 ((xs.getD i 0 : Nat) : Int)) := by
        intro i hi
        have := (hxb.below HB.out).cell (i := i) (by simp [hxl.out]; omega)
        rwa [getD_append_l (by rw [hxl.out]; exact hi)] at this
      have hcy : ∀ i, i < n → w2.cell? ⟨gy, i, none⟩ = some (.int .u64 ((ys.getD i 0 : Nat) : Int)) := by
        intro i hi
        have := (hyb.below HB.out).cell (i := i) (by simp [hyl.out]; omega)
        rwa [getD_append_l (by rw [hyl.out]; exact hi)] at this
      refine (c206 w.heap.size (List.replicate cp 0) cp gx gy c d xs ys m n w2 hb1' (by simpa using hcp1) hcp1 hxl.out hyl.out (by omega) (by omega) (by omega) (by omega) (by omega) hcx hcy hx.rng hy.rng).mono ?_
      rintro e w3 ⟨rs, rfl, hb3, hrl, hrr, hrv, hgr⟩
      have HRL := Lib.hid hrl
      have HRV := Lib.hid hrv
      clear hrl hrv hcx hcy
      have hN : NatR w3 (some ⟨w.heap.size, 0, none⟩) (m + n) cp rs := ⟨HRL.out, hcp1, by omega, hrr, .inr ⟨_, _, rfl, hb3, by simp [HRL.out]; omega⟩⟩
      have HG := Lib.hid hgr
      clear hgr hk2
      go_wp2_with fail
      refine (c151 _ _ _ _ _ hN).mono ?_
      rintro e w4 ⟨m', rfl, hm', hNm, hnrm, hnv, rfl⟩
      have HN := Lib.hid hnv
      clear hnv
      go_wp2_with fail
      go_ret
      exact ⟨_, rfl, ⟨_, _, _, _, rfl, hNm, hnrm, by rw [HN.out, HRV.out], by simp⟩, below_grown' HB.out HG.out (Nat.le_refl _)⟩

theorem c197 (P : Value) (A B : Option Addr) (m n c d : Nat) (xs ys : List Nat) (w : World) (hx : NatR w A m c xs) (hy : NatR w B n d ys) (hm : m < 40) (hn : n < 40)
    (hk : w.cell? ⟨9, 0, none⟩ = some (.int .i64 40)) :
    Calls Tryz.prog 197 #[.slice none 0 0, P, .slice A m c, .slice B n d] w fun e w' => ∃ v, e = .returned v ∧ Made w w' v (nv xs * nv ys) ∧ Below w.heap.size w w' := by
  by_cases h : m < n
  · have H := Lib.hid (c197_ge P B A n m d c ys xs w hy hx (by omega) (by omega) (by omega) hk)
    have t0 : (m < n) = True := by simp [h]
    go_enter Tryz.func197, Tryz.ntmps197
    go_wp2_with fail
    refine H.out.mono ?_
    rintro e w1 ⟨v, rfl, hM, hB⟩
    go_wp2_with fail
    go_ret
    exact ⟨v, rfl, by rw [Nat.mul_comm]; exact hM, hB⟩
  · exact c197_ge P A B m n c d xs ys w hx hy (by omega) (by omega) hn hk
end Go.Proofs.YtpfihjkhgfoijaaGreatDoor
