/- Contracts of Int.Abs, euclidUpdate, lehmerGCD where the smaller number is one word and the divisor 1; Contract of Rat.norm where numerator and denominator have no common divisor. -/
import Derived.Deep.CutBlock
import Derived.Test.YtpfihjkhgfoijaaGreatDoorQ25
import Derived.Test.YtpfihjkhgfoijaaGreatDoorQ22
set_option linter.unusedVariables false
set_option linter.unusedSimpArgs false
set_option maxRecDepth 100000
namespace Go.Proofs.YtpfihjkhgfoijaaGreatDoor
open Go.RowKit

def AbsP (b o n : Nat) (xs : List Nat) (w : World) (e : Ending) (w' : World) : Prop :=
  ∃ B d, e = .returned (.pointer (some ⟨b, o, none⟩)) ∧ BigR w' b o false B n d xs ∧ w.grownBy w' (some b) ∧ (∀ a, B = some a → w.heap.size ≤ a.block)
theorem BigR.putNegO {w : World} {b o : Nat} {neg : Bool} {A : Option Addr} {n c : Nat} {xs : List Nat} (h : BigR w b o neg A n c xs) (hA : ∀ a, A = some a → a.block ≠ b) (neg' : Bool) : BigR (w.setCell ⟨b, o, none⟩ (.bool neg')) b o neg' A n c xs := h.putNeg hA neg'
theorem c229 (b o bx ox : Nat) (neg : Bool) (A : Option Addr) (n c : Nat) (xs : List Nat) (w : World) (h : BigR w b o false none 0 0 []) (hx : BigR w bx ox neg A n c xs) (hne : b ≠ bx) (hn : n ≤ 1000) :
    Calls Tryz.prog 229 #[.pointer (some ⟨b, o, none⟩), .pointer (some ⟨bx, ox, none⟩)] w (AbsP b o n xs w) := by
  have H := Lib.hid (c120 b o bx ox neg A n c xs w h hx hne hn)
  have hlt := h.lt
  clear h hx
  go_enter Tryz.func229, Tryz.ntmps229
  go_wp2_with fail
  refine H.out.mono ?_
  rintro e w1 ⟨B, d, rfl, hR, hG, hf, -⟩
  have r0 := hR.sg
  have rf := hR.own.free o
  have HP := Lib.hid (hR.putNegO (fun a ha => by have := hf a ha; omega) false)
  have HF := Lib.hid hf
  clear hR hf
  go_wp2_with fail
  go_ret
  exact ⟨B, d, rfl, HP.out, grown_set hG _ _, HF.out⟩
theorem results_tmp5 {fn : Func} {t u v x y : Tmp} (h : fn.results = #[.tmp t, .tmp u, .tmp v, .tmp x, .tmp y]) (tmps : Array Value) (P : Program) (w : World) :
    (results fn tmps).run P w = .ok (.tuple #[tmps.getD t undef, tmps.getD u undef, tmps.getD v undef, tmps.getD x undef, tmps.getD y undef]) w := by
  simp [results, h]
def EuP (b b2 b4 : Nat) (nx ny : Bool) (a : Nat) (xs : List Nat) (y : Nat) (w : World) (e : Ending) (w' : World) : Prop :=
  e = .returned (.tuple #[.pointer (some ⟨b2, 0, none⟩), .pointer (some ⟨b4, 0, none⟩), .pointer (some ⟨a, 0, none⟩), .pointer none, .pointer none]) ∧ ∃ e', QRP b b4 nx ny xs y w e' w'
theorem c232 (b bx b2 b4 : Nat) (nx ny : Bool) (A : Option Addr) (n c : Nat) (xs : List Nat) (y gy cy : Nat) (w : World) (hz : BigR w b 0 false none 0 0 []) (hr : BigR w b4 0 false none 0 0 []) (hx : BigR w bx 0 nx A n c xs) (hy : BigR w b2 0 ny (some ⟨gy, 0, none⟩) 1 cy [y])
    (h1 : b ≠ b4) (h2 : b ≠ bx) (h3 : b ≠ b2) (h4 : b4 ≠ bx) (h5 : b4 ≠ b2) (hn0 : 0 < n) (hn : n ≤ 1000) (hy0 : 0 < y) :
    Calls Tryz.prog 232 #[.pointer (some ⟨bx, 0, none⟩), .pointer (some ⟨b2, 0, none⟩), .pointer none, .pointer none, .pointer (some ⟨b, 0, none⟩), .pointer (some ⟨b4, 0, none⟩), .bool false] w (EuP b b2 b4 nx ny bx xs y w) := by
  have H := Lib.hid (c248 b bx 0 b2 0 b4 nx ny A n c xs y gy cy w hz hr hx hy h1 h2 h3 h4 h5 hn0 hn hy0)
  clear hz hr hx hy
  go_enter Tryz.func232, Tryz.ntmps232
  go_wp2_with fail
  refine H.out.mono ?_
  intro e w1 hq
  have HQ := Lib.hid hq
  obtain ⟨B, m, d, qs, C, k, f, rs, rfl, -⟩ := hq
  go_wp2_with fail
  ((try simp only [Exit.inBlock, Exit.then]); refine bodyPost_ret (results_tmp5 rfl _ _ _) rfl ?_)
  exact ⟨rfl, _, HQ.out⟩

def GcdP (z : Nat) (w : World) (e : Ending) (w' : World) : Prop :=
  ∃ f, e = .returned (.pointer (some ⟨z, 0, none⟩)) ∧ BigR w' z 0 false (some ⟨f, 0, none⟩) 1 1 [1] ∧ w.grownBy w' (some z) ∧ w.heap.size ≤ f
theorem NatR.word {w : World} {A : Option Addr} {c : Nat} {xs : List Nat} (h : NatR w A 1 c xs) : ∃ g y, A = some ⟨g, 0, none⟩ ∧ xs = [y] ∧ y < WB := by
  obtain ⟨g, ys, rfl, -, -⟩ := h.pos (by omega)
  have h1 := h.len
  match xs, h1 with
  | [y], _ => exact ⟨g, y, rfl, rfl, h.rng y (by simp)⟩
theorem rem_len {rs : List Nat} (hr : Nrm rs) (h : nv rs < WB) : rs.length ≤ 1 := by
  by_cases h0 : rs = []
  · subst h0; simp
  · have h1 := nv_pos hr h0
    by_cases h2 : rs.length ≤ 1
    · exact h2
    · have h3 : WB ^ 1 ≤ WB ^ (rs.length - 1) := Nat.pow_le_pow_right wb_pos (by omega)
      rw [Nat.pow_one] at h3
      omega
theorem GrownBelow {N g : Nat} {w w1 w2 : World} (h : w.grownBy w1 (some g)) (hb : Below w1.heap.size w1 w2) : w.grownBy w2 (some g) := grown_trans h (grown_of_below' hb _)
def I214 (N M q r : Nat) (w : World) (va vb : Value) (wc : World) : Prop :=
  ∃ P Q AP nP cP xP gy cy y, va = .pointer (some ⟨P, 0, none⟩) ∧ vb = .pointer (some ⟨Q, 0, none⟩) ∧ BigR wc P 0 false AP nP cP xP ∧ BigR wc Q 0 false (some ⟨gy, 0, none⟩) 1 cy [y] ∧ 0 < nP ∧ nP ≤ 1000 ∧ 0 < y ∧ Hid (Nat.gcd (nv xP) y = 1) ∧ P ≠ Q ∧ N ≤ P ∧ N ≤ Q ∧ P < q ∧ Q < q ∧ q < r ∧ Q < gy ∧ gy < q ∧ Hid (∀ a, AP = some a → P < a.block ∧ a.block < q) ∧ Hid (Below N w wc) ∧ BigR wc q 0 false none 0 0 [] ∧ BigR wc r 0 false none 0 0 []
def J214 (N : Nat) (w : World) (va vb : Value) (wc : World) : Prop :=
  ∃ P a ga ca Q F k f rs, va = .pointer (some ⟨P, 0, none⟩) ∧ vb = .pointer (some ⟨Q, 0, none⟩) ∧ BigR wc P 0 false (some ⟨ga, 0, none⟩) 1 ca [a] ∧ wc.cell? ⟨Q, 1, none⟩ = some (.slice F k f) ∧ NatR wc F k f rs ∧ k ≤ 1 ∧ Hid (Nat.gcd a (nv rs) = 1) ∧ 0 < a ∧ a < WB ∧ ga ≠ P ∧ N ≤ ga ∧ N ≤ P ∧ Hid (Below N w wc)
theorem gcd_step {a b : Nat} (h : Nat.gcd a b = 1) : Nat.gcd b (a % b) = 1 := by rw [Nat.gcd_comm b, ← Nat.gcd_rec, Nat.gcd_comm]; exact h
set_option maxHeartbeats 4000000 in
theorem c214 (z bx ox b2 o2 : Nat) (nx ny : Bool) (A B : Option Addr) (n m c d : Nat) (xs ys : List Nat) (w : World) (hz : BigR w z 0 false none 0 0 []) (hx : BigR w bx ox nx A n c xs) (hy : BigR w b2 o2 ny B m d ys) (h1 : z ≠ bx) (h2 : z ≠ b2) (hn : n ≤ 1000) (hm : m ≤ 1000) (hn0 : 0 < n) (hm0 : 0 < m)
    (ho : nv xs < nv ys → n = 1) (ho' : ¬ nv xs < nv ys → m = 1) (hg : Nat.gcd (nv xs) (nv ys) = 1) :
    Calls Tryz.prog 214 #[.pointer (some ⟨z, 0, none⟩), .pointer none, .pointer none, .pointer (some ⟨bx, ox, none⟩), .pointer (some ⟨b2, o2, none⟩)] w (GcdP z w) := by
  have lz := hz.lt
  have lx := hx.lt
  have ly := hy.lt
  have xsg := hx.sg
  have HZ := Lib.hid hz
  have HY := Lib.hid hy
  have H1 := Lib.hid (c229 w.heap.size 0 bx ox nx A n c xs (w.alloc (.cells #[.bool false, .slice none 0 0] 229)) (BigR.new0 (RowB.new w _ _)) (hx.below (below_alloc' (Below.refl _ _) _)) (by omega) hn)
  clear hz hx hy
  go_enter Tryz.func214, Tryz.ntmps214
  go_wp2_with fail
  refine H1.out.mono ?_
  rintro e w1 ⟨A1, c1, rfl, hA, hG, hf⟩
  clear H1
  rw [alloc_size] at hf
  have b1 : Below w.heap.size w w1 := below_grown' (below_alloc' (Below.refl _ _) _) hG (Nat.le_refl _)
  have lA := hA.lt
  have HA1 := Lib.hid hA
  have HF1 := Lib.hid (fun a ha => And.intro (hf a ha) (hA.nat.lt a ha))
  clear hA hf hG
  have H2 := Lib.hid (c229 w1.heap.size 0 b2 o2 ny B m d ys (w1.alloc (.cells #[.bool false, .slice none 0 0] 229)) (BigR.new0 (RowB.new w1 _ _)) ((HY.out.below b1).below (below_alloc' (Below.refl _ _) _)) (by omega) hm)
  go_wp2_with fail
  refine H2.out.mono ?_
  rintro e w2 ⟨B1, d1, rfl, hB, hG, hf⟩
  clear H2
  rw [alloc_size] at hf
  have b2' : Below w1.heap.size w1 w2 := below_grown' (below_alloc' (Below.refl _ _) _) hG (Nat.le_refl _)
  have lB := hB.lt
  obtain ⟨w3, hw3, b3, r2, r3⟩ : ∃ w3, (w2.alloc (.cells #[.bool false, .slice none 0 0] 229)).alloc (.cells #[.bool false, .slice none 0 0] 229) = w3 ∧ Below w2.heap.size w2 w3 ∧ RowB w3 w2.heap.size #[.bool false, .slice none 0 0] 229 ∧ RowB w3 (w2.heap.size + 1) #[.bool false, .slice none 0 0] 229 :=
    ⟨_, rfl, below_alloc' (below_alloc' (Below.refl _ _) _) _, (RowB.new w2 _ _).alloc _, by
      have := RowB.new (w2.alloc (.cells #[.bool false, .slice none 0 0] 229)) #[.bool false, .slice none 0 0] 229
      rw [alloc_size] at this; exact this⟩
  have HA3 := Lib.hid ((HA1.out.below b2').below b3)
  have HB3 := Lib.hid (hB.below b3)
  have HF2 := Lib.hid (fun a ha => And.intro (hf a ha) (hB.nat.lt a ha))
  have HQ3 := Lib.hid (BigR.new0 r2)
  have HR3 := Lib.hid (BigR.new0 r3)
  have bb : Below w.heap.size w w3 := below_trans' (below_trans' b1 b2') (b3.mono (by omega))
  have HBB := Lib.hid bb
  have xsg3 := below_cell bb xsg
  have H3 : Hid (∀ W, Below w3.heap.size w3 W → Calls Tryz.prog 198 #[.slice A1 n c1, .slice B1 m d1] W (PostO (nv xs) (nv ys) W)) := fun W hW => c198 A1 B1 n m c1 d1 xs ys W (HA3.out.nat.below hW) (HB3.out.nat.below hW) HA3.out.nrm HB3.out.nrm
  have sA0 := HA3.out.ab
  have sB0 := HB3.out.ab
  have xsg' := Lib.hid xsg
  clear hB hf hG r2 r3 bb b3 b2' b1 xsg HA1 HY
  go_wp2_with fail
  clear hw3
  have sA : w3.drew.cell? ⟨w.heap.size, 1, none⟩ = some (.slice A1 n c1) ∧ w3.drew.cell? ⟨w1.heap.size, 1, none⟩ = some (.slice B1 m d1) := ⟨sA0, sB0⟩
  have sB := sA
  go_upto_region 10 with (fail)
  go_region_held3 (fun W => W.cell? ⟨w.heap.size, 1, none⟩ = some (.slice A1 n c1) ∧ W.cell? ⟨w1.heap.size, 1, none⟩ = some (.slice B1 m d1))
    (first | with_reducible exact sA | with_reducible exact sB)
    (first | (go_at_call 198; (with_reducible refine (H3.out _ (bdrew1 _)).mono ?_); rintro e w4 ⟨r, rfl, -, hlt, hr1, hr2, hB4⟩; have sB := And.intro (below_cell hB4 sA.1) (below_cell hB4 sA.2); have HB4 := Lib.hid hB4; clear hB4))
  go_upto_if 60 with (fail)
  go_cut [11, 12, 13, 14] (fun va vb vc vd wc => vc = .pointer none ∧ vd = .pointer none ∧ I214 w.heap.size w1.heap.size w2.heap.size (w2.heap.size + 1) w va vb wc)
  case first =>
    have hlt' := hlt
    clear hlt
    have bW := Lib.hid (below_trans' (HBB.out) ((below_trans' (bdrew1 w3) HB4.out).mono (by have := HBB.out.size; omega)))
    have A4 := Lib.hid (HA3.out.below (below_trans' (bdrew1 w3) HB4.out))
    have B4 := Lib.hid (HB3.out.below (below_trans' (bdrew1 w3) HB4.out))
    have Q4 := Lib.hid (HQ3.out.below (below_trans' (bdrew1 w3) HB4.out))
    have R4 := Lib.hid (HR3.out.below (below_trans' (bdrew1 w3) HB4.out))
    by_cases hr : r < 0
    · have hl := hlt'.1 hr
      obtain rfl := ho hl
      clear hlt' ho ho' H3
      go_wp2_with fail
      go_meet
      obtain ⟨g, y, rfl, rfl, hy⟩ := A4.out.nat.word
      have : w.heap.size + 1 ≤ g ∧ g < w1.heap.size := HF1.out _ rfl
      refine ⟨rfl, rfl, w1.heap.size, w.heap.size, B1, m, d1, ys, g, c1, y, rfl, rfl, B4.out, A4.out, hm0, hm, ?_, ?_, by omega, by omega, by omega, by omega, by omega, by omega, this.1, by omega, ?_, bW.out, Q4.out, R4.out⟩
      · have := A4.out.nrm
        rcases this with h | h
        · cases h
        · simp at h; omega
      · show _ = _
        rw [Nat.gcd_comm, ← nv_one (x := y)]; exact hg
      · intro a ha
        have := HF2.out a ha
        omega
    · have hl : ¬ nv xs < nv ys := fun h => hr (hlt'.2 h)
      obtain rfl := ho' hl
      clear hlt' ho ho' H3
      go_wp2_with fail
      go_meet
      obtain ⟨g, y, rfl, rfl, hy⟩ := B4.out.nat.word
      have : w1.heap.size + 1 ≤ g ∧ g < w2.heap.size := HF2.out _ rfl
      refine ⟨rfl, rfl, w.heap.size, w1.heap.size, A1, n, c1, xs, g, d1, y, rfl, rfl, A4.out, B4.out, hn0, hn, ?_, ?_, by omega, by omega, by omega, by omega, by omega, by omega, this.1, by omega, ?_, bW.out, Q4.out, R4.out⟩
      · have := B4.out.nrm
        rcases this with h | h
        · cases h
        · simp at h; omega
      · show _ = _
        rw [← nv_one (x := y)]; exact hg
      · intro a ha
        have := HF1.out a ha
        omega
  case rest =>
    clear sA sB sA0 sB0 HA3 HB3 HF1 HF2 HQ3 HR3 H3 HB4 hlt
    obtain ⟨rfl, rfl, P, Q, AP, nP, cP, xP, gy, cy, y, rfl, rfl, hP, hQ, hp0, hp1, hy0, hgc, hne, hNP, hNQ, hPq, hQq, -, hQg, hgq, hAP, hbw, hq, hr⟩ := hcut
    have c1 := hP.ab
    have c2 := hQ.ab
    have c3 := below_cell hbw.out xsg'.out
    go_wp2_with fail
    go_loopw [11, 12, 13, 14, 17] (fun va vb vc vd vr wr => vc = .pointer none ∧ vd = .pointer none ∧ va = .pointer (some ⟨P, 0, none⟩) ∧ vb = .pointer (some ⟨Q, 0, none⟩) ∧ vr = .pointer (some ⟨w2.heap.size + 1, 0, none⟩) ∧ wr = wc) (fun _ _ _ _ _ _ => 0)
    case atStart => exact ⟨rfl, rfl, rfl, rfl, rfl, rfl⟩
    case round =>
      obtain ⟨rfl, rfl, rfl, rfl, rfl, rfl⟩ := hrel
      go_upto_if 128 with (fail)
      go_cut [11, 12] (fun va vb wc => J214 w.heap.size w va vb wc)
      case first =>
        have lP := hP.lt
        have lQ := hQ.lt
        by_cases h1n : nP = 1
        · subst h1n
          have e1 : ((1 : Nat) : Int) = 1 := rfl
          go_wp2_with fail
          go_meet
          obtain ⟨g, a, rfl, rfl, ha⟩ := hP.nat.word
          have hga := hAP.out _ rfl
          have hap : 0 < a := by
            have := hP.nrm
            rcases this with h | h
            · cases h
            · simp at h; omega
          refine ⟨P, a, g, cP, Q, some ⟨gy, 0, none⟩, 1, cy, [y], rfl, rfl, hP, c2, hQ.nat, Nat.le_refl _, ?_, hap, ha, ?_, ?_, hNP, hbw⟩
          · show _ = _
            have := hgc.out
            rw [nv_one] at this ⊢
            exact this
          · have : P < g := hga.1
            omega
          · have : P < g := hga.1
            omega
        · have H232 := Lib.hid (c232 w2.heap.size P Q (w2.heap.size + 1) false false AP nP cP xP y gy cy wr hq hr hP hQ (by omega) (by omega) (by omega) (by omega) (by omega) hp0 hp1 hy0)
          have g1 : (1 : Int) < (nP : Int) := by omega
          have HQn := Lib.hid hQ
          clear hP hQ hq hr
          go_wp2_with fail
          refine H232.out.mono ?_
          rintro e w5 ⟨rfl, e', B5, m5, d5, qs, C5, k5, f5, rs, -, -, hC, -, -, hmod, hU, -, -⟩
          have HC := Lib.hid hC
          have HM := Lib.hid hmod
          have HU := Lib.hid hU
          clear H232 hC hmod hU
          go_wp2_with fail
          go_meet
          have hyl : y < WB := HQn.out.nat.rng y (by simp)
          have hrl : nv rs < y := by rw [HM.out]; exact Nat.mod_lt _ hy0
          refine ⟨Q, y, gy, cy, w2.heap.size + 1, C5, k5, f5, rs, rfl, rfl, HQn.out.but2 HU.out (by omega) (by omega) ?_, HC.out.ab, HC.out.nat, ?_, ?_, hy0, hyl, by omega, by omega, hNQ, ?_⟩
          · intro a ha
            cases ha
            exact ⟨by show gy ≠ _; omega, by show gy ≠ _; omega⟩
          · have := rem_len HC.out.nrm (by omega)
            have h2 := HC.out.nat.len
            omega
          · show _ = _
            rw [HM.out]
            exact gcd_step hgc.out
          · show Below _ _ _
            have hbs := hbw.out.size
            have k := HU.out.below (N := w.heap.size) (by omega) (by omega) hbs
            exact ⟨k.os.trans hbw.out.os, k.tape.trans hbw.out.tape, k.output.trans hbw.out.output, Nat.le_trans hbs k.size, fun i hi => (k.block i hi).trans (hbw.out.block i hi)⟩
      case rest =>
        obtain ⟨P2, a, ga, ca, Q2, F, k, f, rs, rfl, rfl, hP2, hQ2, hF, hk, hgc2, ha0, haw, hne2, hNga, hNP2, hb5⟩ := hcut
        have HZ5 := Lib.hid (HZ.out.below hb5.out)
        have lP2 := hP2.lt
        clear c1 c2 c3
        have c1 := hP2.ab
        have c3 := below_cell hb5.out xsg'.out
        by_cases hk0 : k = 0
        · subst hk0
          obtain rfl := hF.zero rfl
          have ha1 : a = 1 := by
            have := hgc2.out
            simp only [nv, Nat.gcd_zero_right] at this
            exact this
          subst ha1
          have H120 := Lib.hid (c120_1 z 0 P2 0 false ga ca 1 (lt_wb (by omega)) wc HZ5.out hP2 (by omega))
          have hsz := hb5.out.size
          go_wp2_with fail
          refine H120.out.mono ?_
          rintro e w6 ⟨f6, rfl, hR6, hG6, hf6, -⟩
          have HR6 := Lib.hid hR6
          have HG6 := Lib.hid hG6
          clear hR6 hG6 H120
          go_wp2_with fail
          go_ret
          exact ⟨f6, rfl, HR6.out, grown_trans (grown_of_below' hb5.out _) HG6.out, by omega⟩
        · obtain rfl : k = 1 := by omega
          obtain ⟨gb, b, rfl, rfl, hbw2⟩ := hF.word
          obtain ⟨_, ys1, h, hWa, hca⟩ := hP2.nat.pos (by omega)
          cases h
          obtain ⟨_, ys2, h, hWb, hcb⟩ := hF.pos (by omega)
          cases h
          have ca0 : wc.cell? ⟨ga, 0, none⟩ = some (.int .u64 (a : Int)) := hWa.cell (i := 0) (by simp)
          have cb0 : wc.cell? ⟨gb, 0, none⟩ = some (.int .u64 (b : Int)) := hWb.cell (i := 0) (by simp)
          have fa0 := hWa.free 0
          have e1 : ((1 : Nat) : Int) = 1 := rfl
          have HP2 := Lib.hid hP2
          have HWa := Lib.hid hWa
          have HCA := Lib.hid hca
          clear hF hWa hWb hP2 hca hcb
          go_wp2_with fail
          go_quiet (fail)
          go_wp2_with fail
          go_loopw [23, 24] (fun va vb W => (∃ a b : Nat, va = .int .u64 a ∧ vb = .int .u64 b ∧ a < WB ∧ b < WB ∧ Hid (Nat.gcd a b = 1)) ∧ Hid (BigR W P2 0 false (some ⟨ga, 0, none⟩) 1 ca [a]) ∧ Hid (WBlk W ga ([a] ++ ys1)) ∧ Hid (BigR W z 0 false none 0 0 []) ∧ Hid (Below w.heap.size w W) ∧ W.cell? ⟨bx, ox, none⟩ = some (.bool nx)) (fun _ vb _ => (intOf vb).toNat)
          case atStart => exact ⟨⟨a, b, rfl, rfl, haw, hbw2, by have := hgc2.out; rw [nv_one] at this; exact this⟩, HP2.out.below (below_drewN' (Below.refl _ _) _), HWa.out.drewN _, HZ5.out.below (below_drewN' (Below.refl _ _) _), below_trans' hb5.out (below_drewN' (Below.refl _ _) _), c3⟩
          case round =>
            obtain ⟨⟨a2, b2, rfl, rfl, ha2, hb2, hg2⟩, JP, JW, JZ, JB, k3⟩ := hrel
            clear c3 HP2 HWa HZ5 hb5 c1 ca0 cb0 fa0
            by_cases hb0 : b2 = 0
            · subst hb0
              have ha1 : a2 = 1 := by
                have := hg2.out
                rw [Nat.gcd_zero_right] at this
                exact this
              subst ha1
              have e0 : ((0 : Nat) : Int) = 0 := rfl
              have c1 := JP.out.ab
              have c4 := JW.out.cell (i := 0) (by simp)
              have f4 := JW.out.free 0
              go_upto_region 42 with (fail)
              have HW1 : WBlk (wr.setCell ⟨ga, 0, none⟩ (.int .u64 1)) ga ([1] ++ ys1) := by
                have := JW.out.set 0 1
                simpa using this
              have HP3 : BigR (wr.setCell ⟨ga, 0, none⟩ (.int .u64 1)) P2 0 false (some ⟨ga, 0, none⟩) 1 ca [1] :=
                ⟨JP.out.own.set _ _, cell_setCell_ne JP.out.sg (by simpa using hne2), cell_setCell_ne JP.out.ab (by simpa using hne2), ⟨rfl, JP.out.nat.le, JP.out.nat.small, by simp; exact lt_wb (by omega), .inr ⟨ga, ys1, rfl, HW1, by have := HCA.out; simpa using this⟩⟩, Nrm.one (by omega)⟩
              have HZ3 := JZ.out.away ⟨ga, 0, none⟩ (.int .u64 1) (by show ga ≠ z; omega) (by simp)
              have k4 := cell_setCell_ne (p := ⟨ga, 0, none⟩) (v := .int .u64 1) k3 (by show ga ≠ bx; omega)
              have H120 := Lib.hid (c120_1 z 0 P2 0 false ga ca 1 (lt_wb (by omega)) (wr.setCell ⟨ga, 0, none⟩ (.int .u64 1)) HZ3 HP3 (by omega))
              have hsz := JB.out.size
              clear HP3 HZ3 HW1 k3
              go_wp2_with fail
              refine H120.out.mono ?_
              rintro e w6 ⟨f6, rfl, hR6, hG6, hf6, -⟩
              have HR6 := Lib.hid hR6
              have HG6 := Lib.hid hG6
              clear hR6 hG6 H120
              go_wp2_with fail
              go_ret
              refine ⟨f6, rfl, HR6.out, grown_trans (grown_of_below' (JB.out.setCell (p := ⟨ga, 0, none⟩) hNga _) _) HG6.out, ?_⟩
              rw [setCell_size] at hf6
              omega
            · have hb0' : ((b2 : Int) == 0) = false := by rw [beq_eq_false_iff_ne]; omega
              go_wp2_with fail
              go_quiet (fail)
              go_wp2_with fail
              go_round
              case rel => exact ⟨⟨b2, a2 % b2, rfl, by first | rfl | (simp; done), hb2, Nat.lt_trans (Nat.mod_lt _ (by omega)) hb2, gcd_step hg2.out⟩, JP.out.below (below_drewN' (Below.refl _ _) _), JW.out.drewN _, JZ.out.below (below_drewN' (Below.refl _ _) _), below_trans' JB.out (below_drewN' (Below.refl _ _) _), k3⟩
              case measure => simp [intOf]; exact Nat.mod_lt _ (by omega)
end Go.Proofs.YtpfihjkhgfoijaaGreatDoor
namespace Go.Proofs.YtpfihjkhgfoijaaGreatDoor
open Go.RowKit

theorem c121_0 (w : World) : Calls Tryz.prog 121 #[.int .i64 0] w fun e w' => e = .returned (.pointer (some ⟨w.heap.size, 0, none⟩)) ∧ w' = w.alloc (.cells #[.bool false, .slice none 0 0] 229) := by
  go_enter Tryz.func121, Tryz.ntmps121
  go_wp2_with fail
  go_ret
  exact ⟨rfl, rfl⟩
def NormP (b : Nat) (na : Bool) (A B : Option Addr) (n c m d : Nat) (xs ys : List Nat) (w : World) (e : Ending) (w' : World) : Prop :=
  e = .returned (.pointer (some ⟨b, 0, none⟩)) ∧ BigR w' b 0 na A n c xs ∧ BigR w' b 2 false B m d ys ∧ 0 < nv ys ∧ w.grownBy w' (some b)
set_option maxHeartbeats 2000000 in
theorem c202 (b : Nat) (na nb : Bool) (A B : Option Addr) (n m c d : Nat) (xs ys : List Nat) (w : World) (hX : BigR w b 0 na A n c xs) (hY : BigR w b 2 nb B m d ys) (hA : ∀ a, A = some a → a.block ≠ b) (hB : ∀ a, B = some a → a.block ≠ b)
    (hn0 : 0 < n) (hm0 : 0 < m) (hn : n < 40) (hm : m < 40) (ho : nv xs < nv ys → n = 1) (ho' : ¬ nv xs < nv ys → m = 1) (hg : Nat.gcd (nv xs) (nv ys) = 1) :
    Calls Tryz.prog 202 #[.pointer (some ⟨b, 0, none⟩)] w (NormP b na A B n c m d xs ys w) := by
  have lb := hX.lt
  obtain ⟨w1, hw1, hb1⟩ : ∃ w1, w.alloc (.cells #[.pointer none] 325) = w1 ∧ Below w.heap.size w w1 := ⟨_, rfl, below_alloc' (Below.refl _ _) _⟩
  have hs1 : w1.heap.size = w.heap.size + 1 := by rw [← hw1, alloc_size]
  have r1 : RowB w1 w.heap.size #[.pointer none] 325 := by rw [← hw1]; exact RowB.new _ _ _
  have k1 := hX.ab
  have k2 := hY.ab
  have hX1 := hX.below hb1
  have hY1 := hY.below hb1
  have k3 := hX1.sg
  have f3 := hX1.own.free 0
  have hX2 := hX1.putNeg hA false
  have hY2 := BigR.setOther hY1 hB (i := 0) (by omega) (by omega) hX1.sg (.bool false)
  have k4 := hY2.sg
  have f4 := hY2.own.free 2
  have hX3 := BigR.setOther hX2 hA (i := 2) (by omega) (by omega) hY2.sg (.bool false)
  have hY3 := hY2.putNegO hB false
  obtain ⟨w2, hw2, hX4, hY4, hgr, hs2, r2⟩ : ∃ w2, ((w1.setCell ⟨b, 0, none⟩ (.bool false)).setCell ⟨b, 2, none⟩ (.bool false)) = w2 ∧ BigR w2 b 0 false A n c xs ∧ BigR w2 b 2 false B m d ys ∧ w.grownBy w2 (some b) ∧ w2.heap.size = w.heap.size + 1 ∧ RowB w2 w.heap.size #[.pointer none] 325 :=
    ⟨_, rfl, hX3, hY3, grown_set (grown_set (grown_of_below' hb1 _) _ _) _ _, by rw [setCell_size, setCell_size, hs1], (r1.grown (grown_set (grown_refl _ _) _ _) (by omega)).grown (grown_set (grown_refl _ _) _ _) (by omega)⟩
  have HX := Lib.hid hX4
  have HY := Lib.hid hY4
  have R2 := Lib.hid r2
  have HS2 := Lib.hid hs2
  have HS1 := Lib.hid hs1
  have H0 := Lib.hid (c121_0 w2.drew)
  have H214 := Lib.hid (c214 w2.heap.size b 0 b 2 false false A B n m c d xs ys (w2.alloc (.cells #[.bool false, .slice none 0 0] 229)).drew ((BigR.new0 (RowB.new w2 _ _)).below (bdrew1 _)) (hX4.below (below_drew' (below_alloc' (Below.refl _ _) _))) (hY4.below (below_drew' (below_alloc' (Below.refl _ _) _))) (by omega) (by omega) (by omega) (by omega) hn0 hm0 ho ho' hg)
  have c189' := Lib.hid (c189 w)
  clear hX hY hX1 hY1 hX2 hY2 hX3 hY3 hX4 hY4 r1 r2 hb1 hs1 hs2 ho ho' hg
  go_enter_defers Tryz.func202, Tryz.ntmps202
  go_wp2_with fail
  refine c189'.out.mono ?_
  rintro e w1' ⟨rfl, rfl⟩
  rw [hw1]
  clear c189' hw1
  go_wp2_with fail
  go_region_held3 (fun W => True) (trivial)
    (first | (go_at_call 121; (with_reducible refine H0.out.mono ?_); rintro e w3 ⟨rfl, rfl⟩)
           | (go_at_call 214; (with_reducible refine H214.out.mono ?_); rintro e w4 ⟨f, rfl, hF, hG, hf⟩; have HF := Lib.hid hF; have HG := Lib.hid hG; clear hF hG))
  have b4 : Below w2.heap.size w2 w4 := below_grown' (below_drew' (below_alloc' (Below.refl _ _) _)) HG.out (Nat.le_refl _)
  have H200 := Lib.hid (c200 w4)
  have lf := HF.out.lt
  go_wp2_with fail
  refine H200.out.mono ?_
  rintro e w5 ⟨B5, g5, rfl, h5, hs5, hs6, hs7, hb5⟩
  have H192 := Lib.hid (c192 w2.heap.size 0 B5 0 false false (some ⟨f, 0, none⟩) (some ⟨g5, 0, none⟩) 1 1 1 1 [1] [1] w5 (HF.out.below hb5) h5 (by omega))
  have HB5 := Lib.hid (below_trans' b4 hb5)
  clear h5 hs5 hs6 hs7 hb5 H200
  go_wp2_with fail
  refine H192.out.mono ?_
  rintro e w6 ⟨r, rfl, -, hr, hb6⟩
  obtain rfl := hr rfl rfl
  have HB6 := Lib.hid (below_trans' HB5.out hb6)
  have hX6 := HX.out.below HB6.out
  have hY6 := HY.out.below HB6.out
  have R6 := (R2.out.below HB6.out)
  clear hr hb6 H192
  have k6 := hX6.sg
  have f6 := hX6.own.free 0
  have hX7 := hX6.putNeg hA na
  have hY7 := BigR.setOther hY6 hB (i := 0) (by omega) (by omega) hX6.sg (.bool na)
  have t7 := (R6.grown (w' := w6.setCell ⟨b, 0, none⟩ (.bool na)) (grown_set (grown_refl _ _) _ _) (by omega)).cell 0 _ rfl
  have HX7 := Lib.hid hX7
  have HY7 := Lib.hid hY7
  clear hX6 hY6 hX7 hY7 R6
  go_wp2_with fail
  refine leaves_cons (f := 190) (args := #[.pointer (some ⟨w.heap.size, 0, none⟩)]) (by simp) (by simp [go_sem]) ?_
  refine (c190d _ .returning _ t7).mono ?_
  rintro e u' w'' ⟨rfl, rfl, rfl⟩
  exact ⟨_, results_tmp rfl _ _ _, ⟨rfl, HX7.out, HY7.out, Nat.lt_of_lt_of_le (Nat.pow_pos wb_pos) (nv_pos HY7.out.nrm (by intro h; have := HY7.out.nat.len; rw [h] at this; simp at this; omega)), grown_set (grown_trans hgr (grown_of_below' HB6.out _)) _ _⟩⟩
theorem c194_old (g x : Nat) (hx0 : 0 < x) (w : World) (h : WBlk w g [x]) : Calls Tryz.prog 194 #[.slice (some ⟨g, 0, none⟩) 1 1, .int .u64 (x : Int)] w fun e w' => e = .returned (.slice (some ⟨g, 0, none⟩) 1 1) ∧ w' = w.setCell ⟨g, 0, none⟩ (.int .u64 (x : Int)) := by
  have hz2 : ((x : Int) == 0) = false := by simp; omega
  have k := h.cell (i := 0) (by simp)
  have f := h.free 0
  have H := Lib.hid (c149_old (some ⟨g, 0, none⟩) 1 1 1 (by omega) (by omega) w)
  clear h
  go_enter Tryz.func194, Tryz.ntmps194
  go_wp2_with fail
  refine H.out.mono ?_
  rintro e w1 ⟨rfl, rfl⟩
  clear H
  go_wp2_with fail
  go_ret
  exact ⟨rfl, rfl⟩
theorem wrow_set1 (g x : Nat) (w : World) (h : WBlk w g [x]) : WBlk (w.setCell ⟨g, 0, none⟩ (.int .u64 (x : Int))) g [x] := by
  have := h.set 0 x
  simpa using this
def NormZ (b g : Nat) (w : World) (e : Ending) (w' : World) : Prop :=
  e = .returned (.pointer (some ⟨b, 0, none⟩)) ∧ RatR w' b 0 1 ∧ But2 b g w w'
set_option maxHeartbeats 2000000 in
theorem c202_z (b g : Nat) (na nb : Bool) (A : Option Addr) (c : Nat) (w : World) (hX : BigR w b 0 na A 0 c []) (hY : BigR w b 2 nb (some ⟨g, 0, none⟩) 1 1 [1]) (hA : ∀ a, A = some a → a.block ≠ b ∧ a.block ≠ g) (hB : g ≠ b) (hnb : nb = false) :
    Calls Tryz.prog 202 #[.pointer (some ⟨b, 0, none⟩)] w (NormZ b g w) := by
  subst hnb
  have lb := hX.lt
  have k1 := hX.ab
  have k2 := hY.ab
  have k3 := hX.sg
  have f3 := hX.own.free 0
  obtain ⟨_, ys1, h, hW, hl⟩ := hY.nat.pos (by omega)
  cases h
  obtain rfl : ys1 = [] := List.eq_nil_of_length_eq_zero (by simpa using hl)
  simp only [List.append_nil] at hW
  have hX1 := hX.putNeg (fun a ha => (hA a ha).1) false
  have hY1 := BigR.setOther hY (fun a ha => by cases ha; exact hB) (i := 0) (by omega) (by omega) hX.sg (.bool false)
  have hW1 : WBlk (w.setCell ⟨b, 0, none⟩ (.bool false)) g [1] := hW.grown (grown_set (g := b) (grown_refl _ _) _ _) hB
  have k5 := hY1.ab
  have hX2 := hX1.away ⟨g, 0, none⟩ (.int .u64 ((1 : Nat) : Int)) (by simpa using hB) (fun a ha => (hA a ha).2)
  have hW2 := wrow_set1 g 1 _ hW1
  have k6 := hX2.ab
  have k7 : ((w.setCell ⟨b, 0, none⟩ (.bool false)).setCell ⟨g, 0, none⟩ (.int .u64 ((1 : Nat) : Int))).cell? ⟨b, 3, none⟩ = some (.slice (some ⟨g, 0, none⟩) 1 1) := cell_setCell_ne hY1.ab (by simpa using hB)
  have k8 : ((w.setCell ⟨b, 0, none⟩ (.bool false)).setCell ⟨g, 0, none⟩ (.int .u64 ((1 : Nat) : Int))).cell? ⟨b, 2, none⟩ = some (.bool false) := cell_setCell_ne hY1.sg (by simpa using hB)
  have f8 := hX2.own.free 3
  obtain ⟨w2, hw2, HX2, HW2, K7, K8, F8, U2⟩ : ∃ w2, ((w.setCell ⟨b, 0, none⟩ (.bool false)).setCell ⟨g, 0, none⟩ (.int .u64 ((1 : Nat) : Int))) = w2 ∧ BigR w2 b 0 false A 0 c [] ∧ WBlk w2 g [1] ∧ w2.cell? ⟨b, 3, none⟩ = some (.slice (some ⟨g, 0, none⟩) 1 1) ∧ w2.cell? ⟨b, 2, none⟩ = some (.bool false) ∧ w2.frozen? ⟨b, 3, none⟩ = false ∧ But2 b g w w2 :=
    ⟨_, rfl, hX2, hW2, k7, k8, f8, ((But2.of_below (Below.refl _ _)).set ⟨b, 0, none⟩ (.inl rfl) _).set ⟨g, 0, none⟩ (.inr rfl) _⟩
  have H194 := Lib.hid (c194_old g 1 (by omega) _ hW1)
  have hx3 := BigR.setOther HX2 (fun a ha => (hA a ha).1) (i := 3) (by omega) (by omega) K7 (.slice (some ⟨g, 0, none⟩) 1 1)
  have hy3 : BigR (w2.setCell ⟨b, 3, none⟩ (.slice (some ⟨g, 0, none⟩) 1 1)) b 2 false (some ⟨g, 0, none⟩) 1 1 [1] := by
    refine ⟨hx3.own, ?_, ?_, NatR.one (HW2.grown (grown_set (g := b) (grown_refl _ _) _ _) hB) (lt_wb (by omega)), Nrm.one (by omega)⟩
    · rw [cell_setCell_at K7, if_neg (by omega)]; exact K8
    · rw [cell_setCell_at K7, if_pos rfl]
  have HX3 := Lib.hid hx3
  have HY3 := Lib.hid hy3
  have HU := Lib.hid U2
  clear hX hY hW hX1 hY1 hW1 hX2 hW2 hx3 hy3 HX2 HW2 U2 k6 k7 k8 f8
  go_enter_defers Tryz.func202, Tryz.ntmps202
  go_wp2_with fail
  refine H194.out.mono ?_
  rintro e w1 ⟨rfl, rfl⟩
  clear H194
  rw [hw2]
  go_wp2_with fail
  exact ⟨_, results_tmp rfl _ _ _, ⟨rfl, ⟨false, A, 0, c, [], some ⟨g, 0, none⟩, 1, 1, [1], HX3.out, rfl, HY3.out, rfl, by omega, by omega, by omega⟩, HU.out.set ⟨b, 3, none⟩ (.inl rfl) _⟩⟩
end Go.Proofs.YtpfihjkhgfoijaaGreatDoor
