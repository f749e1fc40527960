/- Contract of Rat.Cmp: 0 just at equal fractions; Numbers of one word made with a row of one word: make, setWord, set, SetUint64, Int.Set, intOne; Contracts of shifts to the left, of numbers of one word: lshVU, same, lsh, Int.Lsh. -/
import Derived.Defers
import Derived.Outline
import Derived.Test.YtpfihjkhgfoijaaGreatDoorQ15
import Derived.Laws.CopyOwn
set_option linter.unusedVariables false
set_option linter.unusedSimpArgs false
set_option maxRecDepth 100000
namespace Go.Proofs.YtpfihjkhgfoijaaGreatDoor
open Go.RowKit

theorem c190d (g : Nat) (u : FrameMode) (w : World) (h : w.cell? ⟨g, 0, none⟩ = some (.pointer none)) : CallsD Tryz.prog 190 #[.pointer (some ⟨g, 0, none⟩)] u w fun e u' w' => u' = u ∧ (e = .returned (.tuple #[]) ∧ w' = w) := by
  go_enter_d Tryz.func190, Tryz.ntmps190
  go_wp2_with fail
  go_end0
  exact ⟨rfl, rfl⟩
theorem zv_mul {neg : Bool} {xs zs : List Nat} {k : Nat} (h : nv zs = nv xs * k) : zv neg zs = zv neg xs * (k : Int) := by
  unfold zv
  rw [h, Int.natCast_mul]
  cases neg
  · rfl
  · simp only [if_true]; rw [Int.neg_mul]
theorem pos_len {w : World} {B : Option Addr} {m d : Nat} {ys : List Nat} (h : NatR w B m d ys) (hp : 0 < nv ys) : 0 < m := by
  rcases Nat.eq_zero_or_pos m with h0 | h0
  · rw [h.zero h0] at hp; exact absurd hp (by simp [nv])
  · exact h0
/-- a number stays while another block, no block of words, is written -/
theorem BigR.past {w w' : World} {b o g : Nat} {neg : Bool} {A : Option Addr} {n c : Nat} {xs : List Nat} {x y : Value} (h : BigR w b o neg A n c xs) (hg : RowB w g #[x, y] 229) (hG : w.drew.grownBy w' (some g)) (hne : b ≠ g) : BigR w' b o neg A n c xs := by
  refine h.agree (hG.block b h.lt (by simp; exact hne)) fun a ha => hG.block a.block (h.nat.lt a ha) ?_
  intro e
  have e' : a.block = g := by simpa using e
  rcases h.nat.blk with ⟨h1, _⟩ | ⟨k, zs, h1, hk, _⟩
  · rw [h1] at ha; cases ha
  · rw [h1] at ha
    cases ha
    have h2 : k = g := e'
    subst h2
    have := hk.out.symm.trans hg.out
    injection this with this
    injection this with h3 h4
    cases h4
def PostQ (P : Prop) (w : World) (e : Ending) (w' : World) : Prop := ∃ r : Int, e = .returned (.int .i64 r) ∧ (r = 0 → P) ∧ Below w.heap.size w w'
set_option maxHeartbeats 4000000 in
theorem c183 (bx b2 : Nat) (za zb : Int) (na nb : Nat) (w : World) (hx : RatR w bx za na) (hy : RatR w b2 zb nb) (hk : w.cell? ⟨9, 0, none⟩ = some (.int .i64 40)) :
    Calls Tryz.prog 183 #[.pointer (some ⟨bx, 0, none⟩), .pointer (some ⟨b2, 0, none⟩)] w (PostQ (za * nb = zb * na) w) := by
  obtain ⟨n1, A, n, c, xs, B, m, d, ys, hX, hXz, hXb, hXn, hXp, hn, hm⟩ := hx.out
  obtain ⟨n2, A', n', c', xs', B', m', d', ys', hY, hYz, hYb, hYn, hYp, hn', hm'⟩ := hy.out
  have hmp := pos_len hXb.nat (by rw [hXn]; exact hXp)
  have hmp' := pos_len hYb.nat (by rw [hYn]; exact hYp)
  obtain ⟨w1, hw1, b1, r0, r1, r2, hsz⟩ : ∃ w1, (((w.alloc (.cells #[.bool false, .slice none 0 0] 229)).alloc (.cells #[.bool false, .slice none 0 0] 229)).alloc (.cells #[.pointer none] 325)) = w1 ∧ Below w.heap.size w w1 ∧ RowB w1 w.heap.size #[.bool false, .slice none 0 0] 229 ∧ RowB w1 (w.heap.size + 1) #[.bool false, .slice none 0 0] 229 ∧ RowB w1 (w.heap.size + 1 + 1) #[.pointer none] 325 ∧ w1.heap.size = w.heap.size + 1 + 1 + 1 :=
    ⟨_, rfl, below_alloc' (below_alloc' (below_alloc' (Below.refl _ _) _) _) _, ((RowB.new w _ _).alloc _).alloc _, by
      have := RowB.new (w.alloc (.cells #[.bool false, .slice none 0 0] 229)) #[.bool false, .slice none 0 0] 229
      rw [alloc_size] at this; exact this.alloc _, by
      have := RowB.new ((w.alloc (.cells #[.bool false, .slice none 0 0] 229)).alloc (.cells #[.bool false, .slice none 0 0] 229)) #[.pointer none] 325
      rw [alloc_size, alloc_size] at this; exact this, by rw [alloc_size, alloc_size, alloc_size]⟩
  have lx := hX.lt
  have ly := hY.lt
  have hk1 := below_cell b1 hk
  have y3 := below_cell b1 hYb.ab
  have x3 := below_cell b1 hXb.ab
  have H1 := Lib.hid (c191 w.heap.size bx 0 (.pointer (some ⟨w.heap.size + 1 + 1, 0, none⟩)) n1 A B' n m' c d' xs ys' w1.drew (BigR.new0 r0.drew) ((hX.below b1).below (bdrew1 _)) ((hYb.nat.below b1).below (bdrew1 _)) (by omega) hn hm' hmp' hk1)
  have HX := Lib.hid hX
  have HY := Lib.hid hY
  have HXB := Lib.hid hXb
  have R1 := Lib.hid r1
  have R2 := Lib.hid r2
  have HSZ := Lib.hid hsz
  have hz1 : ∀ zs, nv zs = nv xs * nv ys' → zv n1 zs = za * nb := fun zs h => by rw [zv_mul h, hXz, hYn]
  have hz2 : ∀ zs, nv zs = nv xs' * nv ys → zv n2 zs = zb * na := fun zs h => by rw [zv_mul h, hYz, hXn]
  have HZ1 := Lib.hid hz1
  have HZ2 := Lib.hid hz2
  have c189' := Lib.hid (c189 ((w.alloc (.cells #[.bool false, .slice none 0 0] 229)).alloc (.cells #[.bool false, .slice none 0 0] 229)))
  clear hx hy hX hY hXb hYb hXz hYz hXn hYn hz1 hz2 r0 r1 r2 hsz
  go_enter_defers Tryz.func183, Tryz.ntmps183
  go_wp2_with fail
  refine c189'.out.mono ?_
  rintro e w1' ⟨rfl, rfl⟩
  rw [hw1]
  clear c189' hw1
  go_wp2_with fail
  go_region_held3 (fun W => W.cell? ⟨b2, 2 + 1, none⟩ = some (.slice B' m' d')) (first | exact y3)
    (first | (go_at_call 191; refine H1.out.mono ?_; rintro e w2 ⟨C, q, f, zs, rfl, hR, hv, hG⟩; have y3 := grown_cell (w := World.drew _) hG y3 (by show w.heap.size ≠ b2; omega); have HR := Lib.hid hR; have HV := Lib.hid hv; have HG := Lib.hid hG; clear hR hv hG))
  all_goals
    have b2' : Below w.heap.size w w2 := below_grown' (below_trans' b1 (bdrew1 w1)) HG.out (Nat.le_refl _)
    have s1 := Lib.hid (R1.out.drew.grown HG.out (by omega))
    have s2 := Lib.hid (R2.out.drew.grown HG.out (by omega))
    have k3 := below_cell (below_trans' b1 (bdrew1 w1)) HXB.out.ab
    have x3' : w2.cell? ⟨bx, 2 + 1, none⟩ = some (.slice B m d) := grown_cell HG.out k3 (by show w.heap.size ≠ bx; omega)
    have hk2 := below_cell b2' hk
    have H2 := Lib.hid (c191 (w.heap.size + 1) b2 0 (.pointer (some ⟨w.heap.size + 1 + 1, 0, none⟩)) n2 A' B n' m c' d xs' ys w2.drew (BigR.new0 s1.out.drew) ((HY.out.below b2').below (bdrew1 _)) ((HXB.out.nat.below b2').below (bdrew1 _)) (by omega) hn' hm hmp hk2)
    clear H1 k3 x3 y3 hk1
    go_wp2_with fail
    go_region_held3 (fun W => W.cell? ⟨bx, 2 + 1, none⟩ = some (.slice B m d)) (first | exact x3')
      (first | (go_at_call 191; refine H2.out.mono ?_; rintro e w3 ⟨C2, q2, f2, zs2, rfl, hR2, hv2, hG2⟩; have x3' := grown_cell (w := World.drew _) hG2 x3' (by show w.heap.size + 1 ≠ bx; omega); have HR2 := Lib.hid hR2; have HV2 := Lib.hid hv2; have HG2 := Lib.hid hG2; clear hR2 hv2 hG2))
    all_goals
      have b3 : Below w.heap.size w w3 := below_grown' (below_trans' b2' (bdrew1 w2)) HG2.out (by omega)
      have t2 := Lib.hid (s2.out.drew.grown HG2.out (by omega))
      have HRb : BigR w3 w.heap.size 0 n1 C q f zs := BigR.past HR.out s1.out HG2.out (by omega)
      have H3 := Lib.hid (c192 w.heap.size 0 (w.heap.size + 1) 0 n1 n2 C C2 q q2 f f2 zs zs2 w3 HRb HR2.out (by omega))
      clear H2 hk2 x3'
      go_wp2_with fail
      refine H3.out.mono ?_
      rintro e w4 ⟨r, rfl, hr, -, hB4⟩
      have b4 := below_trans' b3 hB4
      have t4 := (t2.out.below hB4).cell 0 _ rfl
      have hfin : Hid (r = 0 → za * nb = zb * na) := fun h => by rw [← HZ1.out zs HV.out, ← HZ2.out zs2 HV2.out]; exact hr h
      clear hr
      go_wp2_with fail
      refine leaves_cons (f := 190) (args := #[.pointer (some ⟨w.heap.size + 1 + 1, 0, none⟩)]) (by simp) (by simp [go_sem]) ?_
      refine (c190d _ .returning _ t4).mono ?_
      rintro e u' w'' ⟨rfl, rfl, rfl⟩
      exact ⟨_, results_tmp rfl _ _ _, ⟨r, rfl, hfin.out, b4⟩⟩
end Go.Proofs.YtpfihjkhgfoijaaGreatDoor
namespace Go.Proofs.YtpfihjkhgfoijaaGreatDoor
open Go.RowKit

theorem c149_1 (w : World) : Calls Tryz.prog 149 #[.slice none 0 0, .int .i64 1] w fun e w' => e = .returned (.slice (some ⟨w.heap.size, 0, none⟩) 1 1) ∧ w' = w.alloc (.cells (wrow [0]) 254) := by
  have hm := run_make254 1 1 (by omega) (by omega)
  rw [show ((1 : Nat) : Int) = 1 from rfl] at hm
  have HF : Hid (∀ R, R = wrow (List.replicate 1 0) → w.alloc (.cells R 254) = w.alloc (.cells (wrow [0]) 254)) := fun R hR => by rw [hR]; rfl
  generalize hR : wrow (List.replicate 1 0) = R at *
  have HR := Lib.hid hR.symm
  clear hR
  go_enter Tryz.func149, Tryz.ntmps149
  go_wp2
  go_ret
  exact ⟨rfl, HF.out R rfl⟩
/-- what a row of one word, just made, holds -/
def One (x : Nat) (w : World) (e : Ending) (w' : World) : Prop := e = .returned (.slice (some ⟨w.heap.size, 0, none⟩) 1 1) ∧ WBlk w' w.heap.size [x] ∧ Below w.heap.size w w'
theorem NatR.one {w : World} {g x : Nat} (h : WBlk w g [x]) (hx : x < WB) : NatR w (some ⟨g, 0, none⟩) 1 1 [x] := ⟨rfl, by omega, by omega, by simpa using hx, .inr ⟨g, [], rfl, by simpa using h, by simp⟩⟩
theorem c194_1 (x : Nat) (h0 : 0 < x) (w : World) : Calls Tryz.prog 194 #[.slice none 0 0, .int .u64 x] w (One x w) := by
  have hz2 : ((x : Int) == 0) = false := by simp; omega
  go_enter Tryz.func194, Tryz.ntmps194
  go_wp2_with fail
  refine (c149_1 _).mono ?_
  rintro e w1 ⟨rfl, hw1⟩
  have hb : WBlk w1 w.heap.size [0] := by rw [hw1]; exact WBlk.new _ _
  have hB : Below w.heap.size w w1 := by rw [hw1]; exact below_alloc' (Below.refl _ _) _
  clear hw1
  have hc := hb.cell (i := 0) (by simp)
  have hf := hb.free 0
  have hb2 := hb.set 0 x
  go_wp2_with fail
  go_ret
  exact ⟨rfl, by simpa using hb2, below_set' hB (Nat.le_refl _) _⟩
theorem c203_1 (x : Nat) (h0 : 0 < x) (w : World) : Calls Tryz.prog 203 #[.slice none 0 0, .int .u64 x] w (One x w) := by
  have H := Lib.hid (c194_1 x h0 w)
  go_enter Tryz.func203, Tryz.ntmps203
  go_wp2_with fail
  refine H.out.mono ?_
  rintro e w2 ⟨rfl, h1, h2⟩
  go_wp2_with fail
  go_ret
  exact ⟨rfl, h1, h2⟩
set_option maxHeartbeats 400000 in
theorem c143_1 (g c x : Nat) (w : World) (hx : x < WB) (h : NatR w (some ⟨g, 0, none⟩) 1 c [x]) : Calls Tryz.prog 143 #[.slice none 0 0, .slice (some ⟨g, 0, none⟩) 1 c] w (One x w) := by
  obtain ⟨g', ys, he, hb, hc⟩ := h.pos (by omega)
  cases he
  have hlt := hb.lt
  go_enter Tryz.func143, Tryz.ntmps143
  go_wp2_with fail
  refine (c149_1 _).mono ?_
  rintro e w1 ⟨rfl, hw1⟩
  have hb1 : WBlk w1 w.heap.size [0] := by rw [hw1]; exact WBlk.new _ _
  have hB : Below w.heap.size w w1 := by rw [hw1]; exact below_alloc' (Below.refl _ _) _
  clear hw1
  have hcells : ∀ j v, (wsv [x])[j]? = some v → w1.cell? ((⟨g, 0, none⟩ : Addr).add j) = some v := by
    intro j v hj
    have hjl : j < [x].length := by simpa [wsv] using (List.getElem?_eq_some_iff.1 hj).1
    obtain rfl : j = 0 := by simp at hjl; omega
    have := (hb.below hB).cell (i := 0) (by simp)
    simp [wsv] at hj
    subst hj
    rw [add_at]
    simpa using this
  have HC := Lib.hid hcells
  have HB1 := Lib.hid (show w1.heap[w.heap.size]? = some (.cells (wsv [0]).toArray 254 (0, 0)) by rw [← wrow_of]; exact hb1.out)
  clear hcells
  go_wp2_with (refine wpList_copy_splice rfl (.tmp 9) (.tmp 10) 227 227 rfl 254 Tryz.underlying227 (by kernel_rfl) (some ⟨w.heap.size, 0, none⟩) (some ⟨g, 0, none⟩) 1 1 1 c rfl rfl w.heap.size 0 (wsv [0]) 254 HB1.out (wsv [x]) (by simp [wsv]) (fun _ => ⟨rfl, _, rfl, HC.out⟩) (by simp [wsv]) (by simp [wsv, Value.oneCell']) w.heap.size w hB (Nat.le_refl _) ?_; intro w2 hb2 hB2)
  go_ret
  refine ⟨rfl, ⟨?_⟩, hB2⟩
  rw [hb2.out, wrow_of]
  simp [splice, wsv]
/-- a number of one word, in a row of one word of the call's own -/
def SetO (b o : Nat) (neg : Bool) (x : Nat) (w : World) (e : Ending) (w' : World) : Prop :=
  ∃ g, e = .returned (.pointer (some ⟨b, o, none⟩)) ∧ BigR w' b o neg (some ⟨g, 0, none⟩) 1 1 [x] ∧ w.grownBy w' (some b) ∧ w.heap.size ≤ g ∧ ∀ i, i ≠ o → i ≠ o + 1 → w'.cell? ⟨b, i, none⟩ = w.cell? ⟨b, i, none⟩
theorem Nrm.one {x : Nat} (h : 0 < x) : Nrm [x] := .inr (by simp; omega)
theorem c199_1 (b o : Nat) (x : Nat) (h0 : 0 < x) (hx : x < WB) (w : World) (h : BigR w b o false none 0 0 []) : Calls Tryz.prog 199 #[.pointer (some ⟨b, o, none⟩), .int .u64 x] w (SetO b o false x w) := by
  have h1 := h.ab
  have H := Lib.hid (c203_1 x h0 w)
  have HH := Lib.hid h
  clear h
  go_enter Tryz.func199, Tryz.ntmps199
  go_wp2_with fail
  refine H.out.mono ?_
  rintro e w2 ⟨rfl, hN, hB⟩
  obtain ⟨f1, f2, hR, hG, hsame⟩ := HH.out.store hB (NatR.one hN hx) (Nrm.one h0) (by simp) false
  have HSM := Lib.hid hsame
  clear hsame
  have HR := Lib.hid hR
  have k1 := below_cell hB h1
  have k0 := below_cell hB HH.out.sg
  clear hR hN
  go_wp2_with fail
  go_ret
  exact ⟨_, rfl, HR.out, hG, Nat.le_refl _, HSM.out⟩
set_option maxHeartbeats 1000000 in
theorem c120_1 (b o bx ox : Nat) (neg : Bool) (g c x : Nat) (hxw : x < WB) (w : World) (h : BigR w b o false none 0 0 []) (hx : BigR w bx ox neg (some ⟨g, 0, none⟩) 1 c [x]) (hne : b ≠ bx) :
    Calls Tryz.prog 120 #[.pointer (some ⟨b, o, none⟩), .pointer (some ⟨bx, ox, none⟩)] w (SetO b o neg x w) := by
  have h0 := h.sg
  have h1 := h.ab
  have x0 := hx.sg
  have x1 := hx.ab
  have HB : Hid (Calls Tryz.prog 143 #[.slice none 0 0, .slice (some ⟨g, 0, none⟩) 1 c] w.drew fun e w' => e = .returned (.slice (some ⟨w.heap.size, 0, none⟩) 1 1) ∧ WBlk w' w.heap.size [x] ∧ Below w.heap.size w.drew w') := c143_1 g c x w.drew hxw hx.nat.drew
  have hlt := h.lt
  have Hf := h.own
  have hnr := Lib.hid hx.nrm
  have hp := ne_ptr 122 229 Tryz.underlying122 info229 (w := w) (a := ⟨b, o, none⟩) (b := ⟨bx, ox, none⟩) (by simp [hne]) h.own hx.own
  clear h hx
  go_enter Tryz.func120, Tryz.ntmps120
  go_wp2_with fail
  go_region_law (first | (go_simp; go_at_call 143; refine HB.out.mono ?_; rintro e w1 ⟨rfl, hN, hB⟩; have g1 := below_cell (w := w.drew) hB h1; have y1 := below_cell (w := w.drew) hB x1; have Hf1 := Hf.drew.below hB; have f1 := Hf1.free (o + 1); have HN := Lib.hid hN; have y0 := below_cell (w := w.drew) hB x0; have g0 := below_cell (w := w.drew) hB h0; clear hN))
  all_goals
    have f2 := (Hf1.set ⟨b, o + 1, none⟩ (.slice (some ⟨w.heap.size, 0, none⟩) 1 1)).free o
    have z0 : (w1.setCell ⟨b, o + 1, none⟩ (.slice (some ⟨w.heap.size, 0, none⟩) 1 1)).cell? ⟨bx, ox, none⟩ = some (.bool neg) := cell_setCell_ne y0 hne
    have z1 : (w1.setCell ⟨b, o + 1, none⟩ (.slice (some ⟨w.heap.size, 0, none⟩) 1 1)).cell? ⟨b, o, none⟩ = some (.bool false) := by rw [cell_setCell_at g1, if_neg (by omega)]; exact g0
    go_wp2_with fail
    go_ret
    have hbw : b ≠ w.heap.size := by omega
    refine ⟨w.heap.size, rfl, ⟨(Hf1.set _ _).set _ _, ?_, ?_, ?_, hnr.out⟩, grown_set (grown_set (grown_trans (grown_drew (grown_refl _ _)) (grown_of_below' hB _)) _ _) _ _, Nat.le_refl _, ?_⟩
    · rw [cell_setCell_at z1]; simp
    · rw [cell_setCell_at z1, if_neg (by omega), cell_setCell_at g1]; simp
    · exact (NatR.one HN.out hxw).grown (g' := b) (grown_set (grown_set (grown_refl _ _) _ _) _ _) (by simp; omega)
    · intro i hi1 hi2
      rw [cell_setCell_at z1, if_neg hi1, cell_setCell_at g1, if_neg hi2]
      exact (hB.cell (p := ⟨b, i, none⟩) hlt)
theorem wrow1 : #[Value.int .u64 1] = wrow [1] := by rw [wrow_of]; rfl
/-- natOne, intOne -/
theorem c212 (w : World) : Calls Tryz.prog 212 #[] w (One 1 w) := by
  have hb : WBlk (w.alloc (.cells #[.int .u64 1] 254)) w.heap.size [1] := by rw [wrow1]; exact WBlk.new w [1]
  go_enter Tryz.func212, Tryz.ntmps212
  go_wp2_with fail
  go_ret
  exact ⟨rfl, hb, below_alloc' (Below.refl _ _) _⟩
theorem c200 (w : World) : Calls Tryz.prog 200 #[] w fun e w' => ∃ B g, e = .returned (.pointer (some ⟨B, 0, none⟩)) ∧ BigR w' B 0 false (some ⟨g, 0, none⟩) 1 1 [1] ∧ w.heap.size ≤ B ∧ w.heap.size ≤ g ∧ g ≠ B ∧ Below w.heap.size w w' := by
  have H := Lib.hid (c212 w)
  go_enter Tryz.func200, Tryz.ntmps200
  go_wp2_with fail
  refine H.out.mono ?_
  rintro e w1 ⟨rfl, hN, hB⟩
  have hr := RowB.new w1 #[.bool false, .slice (some ⟨w.heap.size, 0, none⟩) 1 1] 229
  have hlt := hN.lt
  have hsz := hB.size
  have HR := Lib.hid hr
  have HN := Lib.hid hN
  clear hr hN
  go_wp2_with fail
  go_ret
  refine ⟨w1.heap.size, w.heap.size, rfl, ⟨HR.out.blk0, HR.out.cell 0 _ rfl, HR.out.cell 1 _ rfl, (NatR.one HN.out (by rw [wb_eq]; omega)).below (below_alloc' (Below.refl _ _) _), Nrm.one (by omega)⟩, hsz, Nat.le_refl _, by omega, below_alloc' hB _⟩
end Go.Proofs.YtpfihjkhgfoijaaGreatDoor
namespace Go.Proofs.YtpfihjkhgfoijaaGreatDoor
open Go.RowKit
theorem run_shr (x s : Nat) (hs : s ≤ 64) (W : World) : (Op.shift .shr .u64 (x : Int) .u64 (s : Int)).run Tryz.prog W = .ok (.int .u64 ((x / 2 ^ s : Nat) : Int)) W := by
  rw [shift_shr_any _ _ _ _ (by omega)]
  have e : min ((s : Int).toNat) IntKind.u64.bits = s := by
    rw [Int.toNat_natCast]; exact Nat.min_eq_left hs
  rw [e]
  simp
theorem run_shl (x s : Nat) (hs : s ≤ 64) (W : World) : (Op.shift .shl .u64 (x : Int) .u64 (s : Int)).run Tryz.prog W = .ok (.int .u64 ((x * 2 ^ s % 18446744073709551616 : Nat) : Int)) W := by
  rw [shift_shl_any _ _ _ _ (by omega)]
  have e : min ((s : Int).toNat) IntKind.u64.bits = s := by
    rw [Int.toNat_natCast]; exact Nat.min_eq_left hs
  rw [e, IntKind.wrap_u64]
  simp
theorem and63 (r : Nat) (hr : r < 64) : bits .and .u64 (r : Int) 63 = (r : Int) := by
  have := u64_and_nat r 63 (by omega) (by omega)
  rw [show (63 : Nat) = 2 ^ 6 - 1 from rfl, Nat.and_two_pow_sub_one_eq_mod, Nat.mod_eq_of_lt (by omega)] at this
  exact this
theorem c246_1 (g o cz gx cx x r y : Nat) (hr0 : 0 < r) (hr : r < 64) (w : World) (hz : w.cell? ⟨g, o, none⟩ = some (.int .u64 (y : Int))) (hf : w.frozen? ⟨g, o, none⟩ = false) (hxc : w.cell? ⟨gx, 0, none⟩ = some (.int .u64 (x : Int))) (hne : g ≠ gx) :
    Calls Tryz.prog 246 #[.slice (some ⟨g, o, none⟩) 1 cz, .slice (some ⟨gx, 0, none⟩) 1 cx, .int .u64 (r : Int)] w fun e w' => e = .returned (.int .u64 ((x / 2 ^ (64 - r) : Nat) : Int)) ∧ w' = w.setCell ⟨g, o, none⟩ (.int .u64 ((x * 2 ^ r % 18446744073709551616 : Nat) : Int)) := by
  have q0 : ((r : Int) == 0) = false := by rw [beq_eq_false_iff_ne]; omega
  obtain ⟨r2, hr2⟩ : ∃ r2, r2 = 64 - r := ⟨_, rfl⟩
  rw [← hr2]
  have e1 := and63 r hr
  have e2 : IntKind.u64.wrap (64 - (r : Int)) = (r2 : Int) := by rw [IntKind.wrap_u64]; omega
  have e3 := and63 r2 (by omega)
  have s1 := run_shr x r2 (by omega)
  have m1 : min r2 64 = r2 := by omega
  have m2 : min r 64 = r := by omega
  have s4 : (x : Int) / 2 ^ r2 = ((x / 2 ^ r2 : Nat) : Int) := by simp
  have s2 := run_shl x r (by omega)
  have s3 : IntKind.u64.wrap ((x : Int) * 2 ^ r) = ((x * 2 ^ r % 18446744073709551616 : Nat) : Int) := by rw [IntKind.wrap_u64]; simp
  generalize hA : x / 2 ^ r2 = A at *
  generalize hB : x * 2 ^ r % 18446744073709551616 = B at *
  clear hA hB hr2
  go_enter Tryz.func246, Tryz.ntmps246
  go_wp2_with fail
  go_loop [8] (fun v => v = .int .i64 0) (fun _ => 0)
  case atStart => rfl
  case round =>
    subst hrel
    go_wp2_with fail
    go_ret
    exact ⟨rfl, rfl⟩
theorem c228_1 (g o cz gx cx x r y : Nat) (hr0 : 0 < r) (hr : r < 64) (w : World) (hz : w.cell? ⟨g, o, none⟩ = some (.int .u64 (y : Int))) (hf : w.frozen? ⟨g, o, none⟩ = false) (hxc : w.cell? ⟨gx, 0, none⟩ = some (.int .u64 (x : Int))) (hne : g ≠ gx) :
    Calls Tryz.prog 228 #[.slice (some ⟨g, o, none⟩) 1 cz, .slice (some ⟨gx, 0, none⟩) 1 cx, .int .u64 (r : Int)] w fun e w' => e = .returned (.int .u64 ((x / 2 ^ (64 - r) : Nat) : Int)) ∧ w' = w.setCell ⟨g, o, none⟩ (.int .u64 ((x * 2 ^ r % 18446744073709551616 : Nat) : Int)) := by
  have H := Lib.hid (c246_1 g o cz gx cx x r y hr0 hr w hz hf hxc hne)
  generalize hA : x / 2 ^ (64 - r) = A at *
  generalize hB : x * 2 ^ r % 18446744073709551616 = B at *
  clear hA hB
  go_enter Tryz.func228, Tryz.ntmps228
  go_wp2_with fail
  refine H.out.mono ?_
  rintro e w1 ⟨rfl, rfl⟩
  go_wp2_with fail
  go_ret
  exact ⟨rfl, rfl⟩
/-- same, of no words and of the same row -/
theorem c227_z (w : World) : Calls Tryz.prog 227 #[.slice none 0 0, .slice none 0 0] w fun e w' => e = .returned (.bool false) ∧ Below w.heap.size w w' := by
  have hd : decide ((0 : Int) < 0) = false := rfl
  go_enter Tryz.func227, Tryz.ntmps227
  go_wp2_with fail
  go_quiet (fail)
  go_wp2_with fail
  go_ret
  exact ⟨rfl, below_drewN' (Below.refl _ _) _⟩
theorem c227_s (g c : Nat) (w : World) : Calls Tryz.prog 227 #[.slice (some ⟨g, 0, none⟩) 1 c, .slice (some ⟨g, 0, none⟩) 1 c] w fun e w' => e = .returned (.bool true) ∧ Below w.heap.size w w' := by
  have hd : decide ((0 : Int) < 1) = true := rfl
  obtain ⟨j, hj, _⟩ := Option.map_eq_some_iff.1 info254
  have hp : ∀ W, (binOp .eql 343 (.pointer (some ⟨g, 0, none⟩)) (.pointer (some ⟨g, 0, none⟩))).run Tryz.prog W = .ok (.bool true) W := fun W => run_eql_ptr_same (w := W) (⟨g, 0, none⟩ : Addr) Tryz.underlying343 hj
  go_enter Tryz.func227, Tryz.ntmps227
  go_wp2_with fail
  go_quiet (fail)
  go_wp2_with fail
  go_ret
  exact ⟨rfl, below_drewN' (Below.refl _ _) _⟩
/-- the words of x * 2^s -/
theorem lsh_words (x q r : Nat) (hr : r < 64) (hx : x < WB) : nv (List.replicate q 0 ++ [x * 2 ^ r % 18446744073709551616, x / 2 ^ (64 - r)]) = x * 2 ^ (64 * q + r) := by
  have hz : ∀ q, nv (List.replicate q 0) = 0 := fun q => by
    induction q with
    | zero => rfl
    | succ q ih => simp [List.replicate_succ, nv, ih]
  have hd : x / 2 ^ (64 - r) = x * 2 ^ r / 18446744073709551616 := by
    rw [show (18446744073709551616 : Nat) = 2 ^ (64 - r) * 2 ^ r from by rw [← Nat.pow_add, show 64 - r + r = 64 from by omega]]
    rw [Nat.mul_div_mul_right _ _ (Nat.two_pow_pos r)]
  rw [nv_append, hz, List.length_replicate, hd]
  simp only [nv, Nat.mul_zero, Nat.add_zero, Nat.zero_add]
  have hw : WB = 18446744073709551616 := wb_eq
  rw [hw]
  rw [Nat.mod_add_div, Nat.pow_add, Nat.pow_mul, show (2 : Nat) ^ 64 = 18446744073709551616 from rfl, Nat.mul_comm, Nat.mul_assoc, Nat.mul_comm (2 ^ r)]
theorem run_clear254_0 (w : World) (ty : TypeId) (a : Option Addr) (c : Nat) : (Builtin.clear_ #[227] ty #[.slice a 0 c]).run Tryz.prog w = .ok (.tuple #[]) w := by
  cases a <;> simp [Builtin.clear_, run_underlying Tryz.underlying227]
theorem run_clear_pre (w : World) (g q cp : Nat) (l : List Nat) (h : WBlk w g (List.replicate q 0 ++ l)) : ∃ w', (∀ ty, (Builtin.clear_ #[227] ty #[.slice (some ⟨g, 0, none⟩) q cp]).run Tryz.prog w = .ok (.tuple #[]) w') ∧ WBlk w' g (List.replicate q 0 ++ l) ∧ w.grownBy w' (some g) := by
  by_cases hq : q = 0
  · subst hq
    exact ⟨w, fun ty => run_clear254_0 w ty _ _, h, grown_refl _ _⟩
  · refine ⟨_, fun ty => run_clear254 w ty g 0 q cp _ h (by omega) (by simp), ?_, grown_setRow (grown_refl _ _) _⟩
    have e : List.take 0 (List.replicate q 0 ++ l) ++ List.replicate q 0 ++ List.drop (0 + q) (List.replicate q 0 ++ l) = List.replicate q 0 ++ l := by
      rw [List.take_zero, List.nil_append, Nat.zero_add, List.drop_append_of_le_length (by simp)]
      simp
    rw [e]
    exact h.setRow _
theorem set_mid (q a b : Nat) (l : List Nat) : (List.replicate q 0 ++ (a :: l)).set q b = List.replicate q 0 ++ (b :: l) := by
  rw [List.set_append_right _ _ (by simp)]; simp
theorem set_mid1 (q a b c : Nat) (l : List Nat) : (List.replicate q 0 ++ (a :: c :: l)).set (q + 1) b = List.replicate q 0 ++ (a :: b :: l) := by
  rw [List.set_append_right _ _ (by simp)]; simp
/-- what lsh leaves -/
def LshP (v : Nat) (w : World) (e : Ending) (w' : World) : Prop :=
  ∃ A n c ys, e = .returned (.slice A n c) ∧ NatR w' A n c ys ∧ Nrm ys ∧ nv ys = v ∧ n < 40 ∧ Below w.heap.size w w' ∧ ∀ a, A = some a → w.heap.size ≤ a.block
theorem lsh_end (W0 w : World) (g cp q r x : Nat) (zs : List Nat) (hq : q < 36) (hr : r < 64) (hx : x < WB) (hb : WBlk w g (List.replicate q 0 ++ ([x * 2 ^ r % 18446744073709551616, x / 2 ^ (64 - r)] ++ zs))) (hl : q + 2 + zs.length = cp) (hc : cp ≤ 4096) :
    NatR w (some ⟨g, 0, none⟩) (q + 2) cp (List.replicate q 0 ++ [x * 2 ^ r % 18446744073709551616, x / 2 ^ (64 - r)]) := by
  refine ⟨by simp, by omega, hc, ?_, .inr ⟨g, zs, rfl, by rw [List.append_assoc]; exact hb, by simp; omega⟩⟩
  intro y hy
  rw [wb_eq] at hx ⊢
  rcases List.mem_append.1 hy with h | h
  · rw [List.eq_of_mem_replicate h]; omega
  · simp at h
    rcases h with rfl | rfl
    · exact Nat.mod_lt _ (by omega)
    · exact Nat.lt_of_le_of_lt (Nat.div_le_self _ _) hx
set_option maxHeartbeats 2000000 in
theorem c213_1 (g x s q r : Nat) (hx0 : 0 < x) (hx : x < WB) (hs0 : 0 < s) (hs : s < 2200) (hqr : s = 64 * q + r) (hr : r < 64) (w : World) (h : WBlk w g [x]) :
    Calls Tryz.prog 213 #[.slice (some ⟨g, 0, none⟩) 1 1, .slice (some ⟨g, 0, none⟩) 1 1, .int .u64 (s : Int)] w (LshP (x * 2 ^ s) w) := by
  have q0 : ((s : Int) == 0) = false := by rw [beq_eq_false_iff_ne]; omega
  have k1 : (s : Int) / 64 = (q : Int) := by omega
  have k2 : (s : Int) % 64 = (r : Int) := by omega
  have hq : q < 36 := by omega
  have hlt := h.lt
  have HE : Hid (∀ W cp zs, WBlk W w.heap.size (List.replicate q 0 ++ ([x * 2 ^ r % 18446744073709551616, x / 2 ^ (64 - r)] ++ zs)) → q + 2 + zs.length = cp → cp ≤ 4096 → NatR W (some ⟨w.heap.size, 0, none⟩) (q + 2) cp (List.replicate q 0 ++ [x * 2 ^ r % 18446744073709551616, x / 2 ^ (64 - r)])) :=
    fun W cp zs h1 h2 h3 => lsh_end W W _ cp q r x zs hq hr hx h1 h2 h3
  have HV : Hid (nv (List.replicate q 0 ++ [x * 2 ^ r % 18446744073709551616, x / 2 ^ (64 - r)]) = x * 2 ^ s) := by
    rw [hqr]; exact lsh_words x q r hr hx
  have HC : Hid (∀ (cz : Nat) (W : World), 0 < r → W.cell? ⟨w.heap.size, q, none⟩ = some (.int .u64 ((0 : Nat) : Int)) → W.frozen? ⟨w.heap.size, q, none⟩ = false → W.cell? ⟨g, 0, none⟩ = some (.int .u64 (x : Int)) → Calls Tryz.prog 228 #[.slice (some ⟨w.heap.size, q, none⟩) 1 cz, .slice (some ⟨g, 0, none⟩) 1 1, .int .u64 (r : Int)] W fun e w' => e = .returned (.int .u64 ((x / 2 ^ (64 - r) : Nat) : Int)) ∧ w' = W.setCell ⟨w.heap.size, q, none⟩ (.int .u64 ((x * 2 ^ r % 18446744073709551616 : Nat) : Int))) :=
    fun cz W h0 h1 h2 h3 => c228_1 w.heap.size q cz g 1 x r 0 h0 hr W h1 h2 h3 (by omega)
  have HZ0 : Hid (r = 0 → x * 2 ^ r % 18446744073709551616 = x ∧ x / 2 ^ (64 - r) = 0) := fun h0 => by
    rw [wb_eq] at hx
    subst h0
    refine ⟨by rw [Nat.pow_zero, Nat.mul_one]; exact Nat.mod_eq_of_lt hx, Nat.div_eq_of_lt ?_⟩
    rw [Nat.sub_zero]; exact hx
  generalize x * 2 ^ r % 18446744073709551616 = lo at *
  generalize x / 2 ^ (64 - r) = hi at *
  have HX := Lib.hid hx
  have HM := Lib.hid (fun W => c149i (some ⟨g, 0, none⟩) 1 1 ((q : Int) + 2) (q + 2) (by omega) (by omega) (by omega) W)
  have HB0 := Lib.hid h
  have k3 : IntKind.i64.wrap (1 + (q : Int)) = (q : Int) + 1 := by rw [IntKind.wrap_i64]; omega
  have k4 : IntKind.i64.wrap ((q : Int) + 1 + 1) = (q : Int) + 2 := by rw [IntKind.wrap_i64]; omega
  have k5 : IntKind.i64.wrap ((q : Int) + 1 - 1) = (q : Int) := by rw [IntKind.wrap_i64]; omega
  clear hqr hx h
  generalize hvv : x * 2 ^ s = V at *
  clear hvv
  go_enter Tryz.func213, Tryz.ntmps213
  go_wp2_with fail
  refine (HM.out _).mono ?_
  rintro e w1 ⟨cp, rfl, hc1, hc2, hb1, hB1, hsz⟩
  obtain ⟨zs, hzs⟩ : ∃ zs, zs = List.replicate (cp - (q + 2)) 0 := ⟨_, rfl⟩
  have hb1' : WBlk w1 w.heap.size (List.replicate q 0 ++ ([0, 0] ++ zs)) := by
    rw [show List.replicate q 0 ++ ([0, 0] ++ zs) = List.replicate cp 0 from by
      rw [hzs, show ([0, 0] : List Nat) = List.replicate 2 0 from rfl, List.replicate_append_replicate, List.replicate_append_replicate]; congr 1; omega]
    exact hb1
  have hlz : q + 2 + zs.length = cp := by rw [hzs]; simp; omega
  have hc0 := hb1'.cell (i := q) (by simp)
  have hc1' := hb1'.cell (i := q + 1) (by simp)
  have hcx := (HB0.out.below hB1).cell (i := 0) (by simp)
  clear hb1 hzs
  by_cases hr0 : r = 0
  · obtain ⟨rfl, rfl⟩ := HZ0.out hr0
    have q1 : ((r : Int) == 0) = true := by rw [hr0]; rfl
    have hcells : ∀ j v, (wsv [lo])[j]? = some v → w1.cell? ((⟨g, 0, none⟩ : Addr).add j) = some v := by
      intro j v hj
      have hjl : j < [lo].length := by simpa [wsv] using (List.getElem?_eq_some_iff.1 hj).1
      obtain rfl : j = 0 := by simp at hjl; omega
      simp [wsv] at hj
      subst hj
      rw [add_at]
      simpa using hcx
    have HCS := Lib.hid hcells
    have HB1 := Lib.hid (show w1.heap[w.heap.size]? = some (.cells (wsv (List.replicate q 0 ++ ([0, 0] ++ zs))).toArray 254 (0, 0)) by rw [← wrow_of]; exact hb1'.out)
    have HFIT := Lib.hid (show q + (wsv [lo]).length ≤ (wsv (List.replicate q 0 ++ ([0, 0] ++ zs))).length by simp [wsv])
    clear hcells hb1' hc0 hc1' hcx
    go_upto_region 14 with (refine wpList_copy_splice rfl (.tmp 46) (.tmp 47) 227 227 rfl 254 Tryz.underlying227 (by kernel_rfl) (some ⟨w.heap.size, q, none⟩) (some ⟨g, 0, none⟩) 1 (cp - q) 1 1 rfl rfl w.heap.size q (wsv (List.replicate q 0 ++ ([0, 0] ++ zs))) 254 HB1.out (wsv [lo]) (by simp [wsv]) (fun _ => ⟨rfl, _, rfl, HCS.out⟩) HFIT.out (by simp [wsv, Value.oneCell']) w.heap.size w hB1 (Nat.le_refl _) ?_; intro w2 hb2 hB2)
    have hb2' : WBlk w2 w.heap.size (List.replicate q 0 ++ (lo :: 0 :: zs)) := by
      have hlr : (List.replicate q (Value.int IntKind.u64 0)).length = q := by simp
      constructor
      rw [hb2.out, wrow_of]
      simp [splice, wsv]
      rw [List.drop_append, hlr, List.drop_of_length_le (by simp), show q + 1 - q = 1 from by omega]; rfl
    have hc2 := hb2'.cell (i := q + 1) (by simp)
    have hf2 := hb2'.free (q + 1)
    have hb3 : WBlk (w2.setCell ⟨w.heap.size, q + 1, none⟩ (.int .u64 0)) w.heap.size (List.replicate q 0 ++ (lo :: 0 :: zs)) := by
      have := hb2'.set (q + 1) 0
      rw [set_mid1] at this
      exact this
    have hB3 := below_set' (p := ⟨w.heap.size, q + 1, none⟩) hB2 (Nat.le_refl _) (.int .u64 0)
    obtain ⟨w4, hcl, hb4, hg4⟩ := run_clear_pre _ w.heap.size q cp _ hb3
    have hB4 := below_grown' hB3 hg4 (Nat.le_refl _)
    have HN := Lib.hid (c151 _ _ _ _ w4 (HE.out w4 cp zs hb4 hlz (by omega)))
    clear hb2 hb2' hb3 hb4 hB2 hB3 hg4
    go_wp2_with fail
    refine HN.out.mono ?_
    rintro e w5 ⟨m, rfl, hm, hNt, hNr, hNv, rfl⟩
    rw [HV.out] at hNv
    go_wp2_with fail
    go_ret
    exact ⟨_, _, _, _, rfl, hNt, hNr, hNv, by omega, hB4, fun a ha => by cases ha; exact Nat.le_refl _⟩
  · have q1 : ((r : Int) == 0) = false := by rw [beq_eq_false_iff_ne]; omega
    have H := Lib.hid (HC.out (cp - q) w1 (by omega) (by simpa using hc0) (hb1'.free q) (by simpa using hcx))
    have hb2 := hb1'.set q lo
    simp only [List.cons_append, List.nil_append] at hb2
    rw [set_mid] at hb2
    have hB2 := below_set' (p := ⟨w.heap.size, q, none⟩) hB1 (Nat.le_refl _) (.int .u64 (lo : Int))
    have hc2 := hb2.cell (i := q + 1) (by simp)
    have hf2 := hb2.free (q + 1)
    have hb3 := hb2.set (q + 1) hi
    rw [set_mid1] at hb3
    have hB3 := below_set' (p := ⟨w.heap.size, q + 1, none⟩) hB2 (Nat.le_refl _) (.int .u64 (hi : Int))
    obtain ⟨w4, hcl, hb4, hg4⟩ := run_clear_pre _ w.heap.size q cp _ hb3
    have hB4 := below_grown' hB3 hg4 (Nat.le_refl _)
    have HN := Lib.hid (c151 _ _ _ _ w4 (HE.out w4 cp zs hb4 hlz (by omega)))
    clear hb1' hb2 hb3 hb4 hc0 hc1' hcx hB1 hB2 hB3 hg4
    go_wp2_with fail
    refine H.out.mono ?_
    rintro e w2 ⟨rfl, rfl⟩
    go_wp2_with fail
    refine HN.out.mono ?_
    rintro e w5 ⟨m, rfl, hm, hNt, hNr, hNv, rfl⟩
    rw [HV.out] at hNv
    go_wp2_with fail
    go_ret
    exact ⟨_, _, _, _, rfl, hNt, hNr, hNv, by omega, hB4, fun a ha => by cases ha; exact Nat.le_refl _⟩
/-- what lsh leaves, told of a number's block -/
def LshQ (b v : Nat) (w : World) (e : Ending) (w' : World) : Prop :=
  ∃ A n c ys, e = .returned (.slice A n c) ∧ NatR w' A n c ys ∧ Nrm ys ∧ nv ys = v ∧ n < 40 ∧ Below w.heap.size w w' ∧ ∀ a, A = some a → a.block ≠ b
theorem c213_s (b g x : Nat) (hx0 : 0 < x) (hx : x < WB) (hg : g ≠ b) (w : World) (h : WBlk w g [x]) :
    Calls Tryz.prog 213 #[.slice (some ⟨g, 0, none⟩) 1 1, .slice (some ⟨g, 0, none⟩) 1 1, .int .u64 0] w (LshQ b x w) := by
  have H := Lib.hid (c227_s g 1 w)
  have HH := Lib.hid h
  clear h
  go_enter Tryz.func213, Tryz.ntmps213
  go_wp2_with fail
  refine H.out.mono ?_
  rintro e w1 ⟨rfl, hB⟩
  go_wp2_with fail
  go_ret
  exact ⟨_, _, _, _, rfl, NatR.one (HH.out.below hB) hx, Nrm.one hx0, nv_one _, by omega, hB, fun a ha => by cases ha; exact hg⟩
theorem c213_z (b : Nat) (w : World) (hb : b < w.heap.size) : Calls Tryz.prog 213 #[.slice none 0 0, .slice none 0 0, .int .u64 0] w (LshQ b 0 w) := by
  have H := Lib.hid (c227_z w)
  go_enter Tryz.func213, Tryz.ntmps213
  go_wp2_with fail
  refine H.out.mono ?_
  rintro e w1 ⟨rfl, hB⟩
  go_wp2_with fail
  refine (alias_nil _ _ _ _).mono ?_
  rintro e w2 ⟨rfl, hB2, _, _⟩
  have b2 := below_trans' hB hB2
  go_wp2_with fail
  refine (c143_new none 0 0 [] w2 (NatR.nil w2) (by omega)).mono ?_
  rintro e w3 ⟨A, c, rfl, hN, hB3, hfr⟩
  have b3 := below_trans' b2 hB3
  have l2 := b2.size
  have HF := Lib.hid hfr
  clear hfr
  go_wp2_with fail
  go_ret
  exact ⟨_, _, _, _, rfl, hN, Nrm.nil, rfl, by omega, b3, fun a ha => by have := HF.out a ha; omega⟩
/-- what Int.Lsh leaves -/
def LshI (b o : Nat) (neg : Bool) (v : Nat) (w : World) (e : Ending) (w' : World) : Prop :=
  ∃ A n c ys, e = .returned (.pointer (some ⟨b, o, none⟩)) ∧ BigR w' b o neg A n c ys ∧ nv ys = v ∧ n < 40 ∧ w.grownBy w' (some b) ∧ (∀ a, A = some a → a.block ≠ b) ∧ ∀ i, i ≠ o → i ≠ o + 1 → w'.cell? ⟨b, i, none⟩ = w.cell? ⟨b, i, none⟩
set_option maxHeartbeats 1000000 in
theorem c201g (b o s v : Nat) (neg : Bool) (A : Option Addr) (n c : Nat) (xs : List Nat) (w : World) (h : BigR w b o neg A n c xs)
    (hl : Calls Tryz.prog 213 #[.slice A n c, .slice A n c, .int .u64 (s : Int)] w.drew (LshQ b v w.drew)) :
    Calls Tryz.prog 201 #[.pointer (some ⟨b, o, none⟩), .pointer (some ⟨b, o, none⟩), .int .u64 (s : Int)] w (LshI b o neg v w) := by
  have h0 := h.sg
  have h1 := h.ab
  have HL := Lib.hid hl
  have hlt := h.lt
  have Hf := h.own
  clear h hl
  go_enter Tryz.func201, Tryz.ntmps201
  go_wp2_with fail
  go_region_law (first | (go_simp; go_at_call 213; refine HL.out.mono ?_; rintro e w1 ⟨B, m, d, ys, rfl, hN, hNr, hv, hm, hB, hfr⟩; have g1 := below_cell (w := w.drew) hB h1; have Hf1 := Hf.drew.below hB; have f1 := Hf1.free (o + 1); have HN := Lib.hid hN; have HV := Lib.hid hv; have HFR := Lib.hid hfr; have g0 := below_cell (w := w.drew) hB h0; clear hN hv hfr))
  all_goals
    have f2 := (Hf1.set ⟨b, o + 1, none⟩ (.slice B m d)).free o
    have z1 : (w1.setCell ⟨b, o + 1, none⟩ (.slice B m d)).cell? ⟨b, o, none⟩ = some (.bool neg) := by rw [cell_setCell_at g1, if_neg (by omega)]; exact g0
    go_wp2_with fail
    go_ret
    refine ⟨B, m, d, ys, rfl, ⟨(Hf1.set _ _).set _ _, ?_, ?_, ?_, hNr⟩, HV.out, hm, grown_set (grown_set (grown_trans (grown_drew (grown_refl _ _)) (grown_of_below' hB _)) _ _) _ _, HFR.out, ?_⟩
    · rw [cell_setCell_at z1]; simp
    · rw [cell_setCell_at z1, if_neg (by omega), cell_setCell_at g1]; simp
    · exact HN.out.grown (g' := b) (grown_set (grown_set (grown_refl _ _) _ _) _ _) HFR.out
    · intro i hi1 hi2
      rw [cell_setCell_at z1, if_neg hi1, cell_setCell_at g1, if_neg hi2]
      exact (hB.cell (p := ⟨b, i, none⟩) hlt)
/-- Int.Lsh in place, of a number of one word in a row of one word -/
theorem c201 (b o s g x : Nat) (neg : Bool) (w : World) (h : BigR w b o neg (some ⟨g, 0, none⟩) 1 1 [x]) (hx0 : 0 < x) (hg : g ≠ b) (hs : s < 2200) :
    Calls Tryz.prog 201 #[.pointer (some ⟨b, o, none⟩), .pointer (some ⟨b, o, none⟩), .int .u64 (s : Int)] w (LshI b o neg (x * 2 ^ s) w) := by
  have hx : x < WB := h.nat.rng x (by simp)
  obtain ⟨g', us, e, hb, hl⟩ := h.nat.pos (by omega)
  cases e
  have hus : us = [] := List.eq_nil_of_length_eq_zero (by simpa using hl)
  subst hus
  have hb' : WBlk w g [x] := by simpa using hb
  by_cases hs0 : s = 0
  · subst hs0
    rw [Nat.pow_zero, Nat.mul_one]
    exact c201g b o 0 x neg _ _ _ _ w h (c213_s b g x hx0 hx hg w.drew hb'.drew)
  · refine c201g b o s (x * 2 ^ s) neg _ _ _ _ w h ((c213_1 g x s (s / 64) (s % 64) hx0 hx (by omega) hs (by omega) (by omega) w.drew hb'.drew).mono ?_)
    rintro e w1 ⟨A, n, c, ys, rfl, h1, h2, h3, h4, h5, h6⟩
    exact ⟨A, n, c, ys, rfl, h1, h2, h3, h4, h5, fun a ha => by have := h6 a ha; have := h.lt; have : w.drew.heap.size = w.heap.size := rfl; omega⟩
theorem c201_z (b o : Nat) (w : World) (h : BigR w b o false none 0 0 []) :
    Calls Tryz.prog 201 #[.pointer (some ⟨b, o, none⟩), .pointer (some ⟨b, o, none⟩), .int .u64 0] w (LshI b o false 0 w) :=
  c201g b o 0 0 false none 0 0 [] w h (c213_z b w.drew h.lt)
end Go.Proofs.YtpfihjkhgfoijaaGreatDoor
