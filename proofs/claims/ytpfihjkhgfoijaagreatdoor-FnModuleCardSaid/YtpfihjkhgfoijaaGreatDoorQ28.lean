/- Starlark's values made from trees: the parts without parts; Starlark's values made from trees: rows of values; Dicts and sets made from rows of values; Dicts made from rows of values; impl.value. -/
import Derived.Test.YtpfihjkhgfoijaaGreatDoorQ16
import Derived.Test.YtpfihjkhgfoijaaGreatDoorQ12
import Derived.Test.YtpfihjkhgfoijaaGreatDoorQ10
import Derived.Test.YtpfihjkhgfoijaaGreatDoorQ21
import Derived.Test.YtpfihjkhgfoijaaGreatDoorQ23
import Derived.Test.YtpfihjkhgfoijaaGreatDoorQ27
set_option linter.unusedVariables false
set_option linter.unusedSimpArgs false
set_option maxRecDepth 100000
namespace Go.Proofs.YtpfihjkhgfoijaaGreatDoor
open Go.RowKit

/-- a value that stands for the tree t, made of new blocks -/
def PostV (n : Nat) (t : VT) (w : World) (e : Ending) (w' : World) : Prop :=
  ∃ v, e = .returned (.tuple #[v, .bool true]) ∧ Sits w.heap.size (fun W => SVp n W t v) w' ∧ Below w.heap.size w w'
theorem c93 (u : Nat) (w : World) : Calls Tryz.prog 93 #[.int .u64 (u : Int)] w fun e w' => e = .returned (.float .f64 u) ∧ w = w' := by
  have hr := fun W => r109 u W
  go_enter Tryz.func93, Tryz.ntmps93
  go_wp2_with fail
  go_ret
  exact ⟨rfl, rfl⟩
theorem sitsv {n N : Nat} {t : VT} {v : Value} {w : World} (h : ∀ W, SVp n W t v) : Sits N (fun W => SVp n W t v) w := fun W _ _ => h W
set_option maxHeartbeats 4000000 in
theorem c63 (n : Nat) (w : World) (t : VT) (cs : Array Value) (S : BS) (hI : VC n S w t cs) (hok : VT.ok n t) (hk6 : t.kind < 6) : Calls Tryz.prog 63 #[.int .i64 t.kind, .agg cs] w (PostV n t w) := by
  obtain ⟨A, a, c, K, m, d, rfl, hmag, hA, hmd, hkl⟩ := hI.head
  obtain ⟨w1, hw1, b1, r1⟩ : ∃ w1, w.alloc (.cells #[.int .i64 t.kind, .bool t.neg, .slice A a c, .int .u64 (t.bits : Int), .string t.text, .slice K m d] 36) = w1 ∧ Below w.heap.size w w1 ∧ RowB w1 w.heap.size #[.int .i64 t.kind, .bool t.neg, .slice A a c, .int .u64 (t.bits : Int), .string t.text, .slice K m d] 36 :=
    ⟨_, rfl, below_alloc' (Below.refl _ _) _, RowB.new w _ _⟩
  have e0 := r1.cell 0 _ rfl
  have e1 := r1.cell 1 _ rfl
  have e2 := r1.cell 2 _ rfl
  have e3 := r1.cell 3 _ rfl
  have e4 := r1.cell 4 _ rfl
  have e5 := r1.cell 5 _ rfl
  have hu : t.bits < 18446744073709551616 := by unfold VT.ok at hok; exact hok.2.1
  have hs1 : w1.heap.size = w.heap.size + 1 := by rw [← hw1, alloc_size]
  rcases (by have := (VT.ok_lt hok hk6).2.2; omega : t.kind = 0 ∨ t.kind = 1 ∨ t.kind = 2 ∨ t.kind = 3 ∨ t.kind = 4 ∨ t.kind = 5) with hk | hk | hk | hk | hk | hk
  all_goals rw [hk] at e0 hw1 ⊢
  · clear hI hok hkl hmag hA r1 hs1
    go_enter Tryz.func63, Tryz.ntmps63
    go_wp2_with fail
    go_ret2
    exact ⟨_, rfl, sitsv fun W => SVp.ofHead (.none hk), b1⟩
  · have hb1 : t.bits ≤ 1 := by
      unfold VT.ok at hok
      omega
    clear hI hok hkl hmag hA r1 hs1
    have hv : ∀ W, SVp n W t (.iface 77 (.bool (t.bits == 1))) := fun W => SVp.ofHead (.bool hk)
    have HV := Lib.hid hv
    clear hv
    rcases (by omega : t.bits = 0 ∨ t.bits = 1) with hb | hb
    all_goals
      rw [hb] at HV e3 ⊢
      clear hw1 b1 e1 e2 e3 e4 e5 e0
      go_enter Tryz.func63, Tryz.ntmps63
      go_wp2_with fail
      go_quiet (fail)
      go_wp2_with fail
      go_ret2
      exact ⟨_, rfl, sitsv HV.out, below_drewN' (below_alloc' (Below.refl _ _) _) _⟩
  · have hl : a ≤ 40 := by
      have h1 := hmag.r.len
      have h2 : t.mag.length ≤ 40 := by unfold VT.ok at hok; omega
      omega
    have H := Lib.hid (c92 2 t.neg A a c (t.bits : Int) t.text K m d t.mag w1 (by
      have := hmag.r
      exact this.below b1) hl)
    clear hI hok hkl hmag hA r1
    have hs1' := Lib.hid hs1
    clear hs1
    go_enter Tryz.func63, Tryz.ntmps63
    go_wp2_with fail
    refine H.out.mono ?_
    rintro e w2 ⟨v, rfl, hS, hB⟩
    have HS := Lib.hid hS
    clear hS H
    go_wp2_with fail
    go_ret2
    exact ⟨_, rfl, (HS.out.mono (by have := hs1'.out; omega)).imp fun W hW => SVp.ofHead (.int v hk hW), below_trans' b1 hB⟩
  · have H := Lib.hid (c93 t.bits w1)
    clear hI hok hkl hmag hA r1 hs1
    go_enter Tryz.func63, Tryz.ntmps63
    go_wp2_with fail
    refine H.out.mono ?_
    rintro e w2 ⟨rfl, rfl⟩
    clear H
    go_wp2_with fail
    go_ret2
    exact ⟨_, rfl, sitsv fun W => SVp.ofHead (.float hk), b1⟩
  · clear hI hok hkl hmag hA r1 hs1
    go_enter Tryz.func63, Tryz.ntmps63
    go_wp2_with fail
    go_ret2
    exact ⟨_, rfl, sitsv fun W => SVp.ofHead (.string hk), b1⟩
  · clear hI hok hkl hmag hA r1 hs1
    go_enter Tryz.func63, Tryz.ntmps63
    go_wp2_with fail
    go_ret2
    exact ⟨_, rfl, sitsv fun W => SVp.ofHead (.bytes hk), b1⟩
theorem c95 (b : Nat) (ini : Bool) (L : List (Nat × Value × Value)) (w : World) (h : HtR w b ini 0 L) : Calls Tryz.prog 95 #[.pointer (some ⟨b, 0, none⟩)] w fun e w' => e = .returned (.int .i64 (L.length : Int)) ∧ w = w' := by
  have k0 := h.cells 0 (by omega)
  have k : w.cell? ⟨b, 42, none⟩ = some (.int .u32 (L.length : Int)) := h.cells 42 (by omega)
  have hl := h.few
  clear h
  go_enter Tryz.func95, Tryz.ntmps95
  go_wp2_with fail
  go_ret
  exact ⟨rfl, rfl⟩
theorem c97 (b : Nat) (ini : Bool) (L : List (Nat × Value × Value)) (w : World) (h : HtR w b ini 0 L) : Calls Tryz.prog 97 #[.pointer (some ⟨b, 0, none⟩)] w fun e w' => e = .returned (.int .i64 (L.length : Int)) ∧ w = w' := by
  have k0 := h.cells 0 (by omega)
  have k : w.cell? ⟨b, 42, none⟩ = some (.int .u32 (L.length : Int)) := h.cells 42 (by omega)
  have hl := h.few
  clear h
  go_enter Tryz.func97, Tryz.ntmps97
  go_wp2_with fail
  go_ret
  exact ⟨rfl, rfl⟩
def InsP (B b : Nat) (L : List (Nat × Value × Value)) (x y : Value) (w : World) (e : Ending) (w' : World) : Prop :=
  ∃ hh, e = .returned .nilIface ∧ HtR w' b true 0 (L ++ [(hh, x, y)]) ∧ Below B w w'
theorem c94 (B b : Nat) (L : List (Nat × Value × Value)) (x y : Value) (ini : Bool) (w : World) (h : HtR w b ini 0 L) (H : Calls Tryz.prog 117 #[.pointer (some ⟨b, 0, none⟩), x, y] w (InsP B b L x y w)) :
    Calls Tryz.prog 94 #[.pointer (some ⟨b, 0, none⟩), x, y] w (InsP B b L x y w) := by
  have k0 := h.cells 0 (by omega)
  have H := Lib.hid H
  clear h
  go_enter Tryz.func94, Tryz.ntmps94
  go_wp2_with fail
  refine H.out.mono ?_
  rintro e w1 ⟨hh, rfl, h1, h2⟩
  go_wp2_with fail
  go_ret
  exact ⟨hh, rfl, h1, h2⟩
theorem c96 (B b : Nat) (L : List (Nat × Value × Value)) (x : Value) (ini : Bool) (w : World) (h : HtR w b ini 0 L) (H : Calls Tryz.prog 117 #[.pointer (some ⟨b, 0, none⟩), x, .iface 121 (.int .u8 0)] w (InsP B b L x (.iface 121 (.int .u8 0)) w)) :
    Calls Tryz.prog 96 #[.pointer (some ⟨b, 0, none⟩), x] w (InsP B b L x (.iface 121 (.int .u8 0)) w) := by
  have k0 := h.cells 0 (by omega)
  have H := Lib.hid H
  clear h
  go_enter Tryz.func96, Tryz.ntmps96
  go_wp2_with fail
  refine H.out.mono ?_
  rintro e w1 ⟨hh, rfl, h1, h2⟩
  go_wp2_with fail
  go_ret
  exact ⟨hh, rfl, h1, h2⟩
end Go.Proofs.YtpfihjkhgfoijaaGreatDoor
namespace Go.Proofs.YtpfihjkhgfoijaaGreatDoor
open Go.RowKit

def ValC (n : Nat) : Prop := ∀ (w : World) (t : VT) (cs : Array Value) (S : BS), VC n S w t cs → VT.ok n t → VT.mak n t → KK n t → (∀ k, S k → k < w.heap.size) → w.cell? ⟨9, 0, none⟩ = some (.int .i64 40) → w.cell? ⟨8, 0, none⟩ = some (.int .i64 10) →
  Calls Tryz.prog 26 #[.agg cs] w (PostV n t w)
theorem run_make71 (n c : Nat) (h : n ≤ c) (hc : c ≤ 4611686018427) (w : World) :
   ∃ cur : Array Value, cur.size = c ∧ (Instr.makeSlice 109 (.int .i64 (n : Int)) (.int .i64 (c : Int))).run Tryz.prog w = .ok (.slice (some ⟨w.heap.size, 0, none⟩) n c) (w.alloc (.cells cur 71)) := by
  obtain ⟨i, hi, hzz⟩ := Option.map_eq_some_iff.1 info71
  simp only [Prod.mk.injEq] at hzz
  obtain ⟨hz, hs, hb⟩ := hzz
  have := run_make (P := Tryz.prog) w 109 71 i .nilIface Tryz.underlying109 hi hz .i64 .i64 n c (by omega) (by omega) (by rw [hb]; omega) (by omega)
  rw [this]
  exact ⟨_, by simp [madeCells, Value.cells, hs], rfl⟩
/-- a row of values that stand for the trees ts, made of new blocks -/
def PostL (n m : Nat) (ts : List VT) (w : World) (e : Ending) (w' : World) : Prop :=
  ∃ K' d', e = .returned (.tuple #[.slice K' m d', .bool true]) ∧ m ≤ d' ∧ Sits w.heap.size (fun W => ElR (SVp n W) W K' m ts) w' ∧ (∀ a, K' = some a → w.heap.size ≤ a.block ∧ a.block < w'.heap.size) ∧ Below w.heap.size w w'
set_option maxHeartbeats 4000000 in
theorem c64 (n : Nat) (hv : ValC n) (w : World) (K : Option Addr) (m d : Nat) (ts : List VT) (S : BS) (hK : KidC (VC n S w) S w K m ts) (hok : ∀ k ∈ ts, VT.ok n k ∧ VT.mak n k ∧ KK n k) (hm : m ≤ 16) (hmd : m ≤ d) (hS : ∀ k, S k → k < w.heap.size)
    (hg : w.cell? ⟨9, 0, none⟩ = some (.int .i64 40)) (hg8 : w.cell? ⟨8, 0, none⟩ = some (.int .i64 10)) : Calls Tryz.prog 64 #[.slice K m d] w (PostL n m ts w) := by
  obtain ⟨cur, hcs, hmk⟩ := run_make71 0 m (by omega) (by omega) w
  have hR0 := Lib.hid (VRow.made n w.heap.size (fun k => w.heap.size ≤ k) w cur m (Nat.le_refl _) (by omega) hcs)
  have HK := Lib.hid hK
  have HOK := Lib.hid hok
  have HV := Lib.hid hv
  have HG := Lib.hid (And.intro hg hg8)
  have HKL := Lib.hid hK.1
  have hmk' : (Instr.makeSlice 109 (.int .i64 0) (.int .i64 (m : Int))).run Tryz.prog w = .ok (.slice (some ⟨w.heap.size, 0, none⟩) 0 m) (w.alloc (.cells cur 71)) := hmk
  clear hmk hcs hK hok hv hg hg8
  go_enter Tryz.func64, Tryz.ntmps64
  go_wp2_with fail
  clear hmk'
  go_loopw [4, 14] (fun v4 vi wr => ∃ (i : Nat) (v : Value) (us : List VT), i ≤ m ∧ vi = .int .i64 (i : Int) ∧ v4 = v ∧ VRow n w.heap.size (fun k => w.heap.size ≤ k) wr v i us ∧ Hid (us = ts.take i) ∧ Below w.heap.size w wr) (fun _ vi _ => m - (intOf vi).toNat)
  case atStart => exact ⟨0, _, [], by omega, rfl, rfl, hR0.out, by show _ = _; simp, below_alloc' (Below.refl _ _) _⟩
  case round =>
    obtain ⟨i, v, us, hi, rfl, rfl, hR, hus, hB⟩ := hrel
    by_cases hlt : i < m
    · obtain ⟨g, rfl, hSg, hkid⟩ := HK.out.2.resolve_left (by omega)
      obtain ⟨cs, h6, hcs, hVk⟩ := hkid i hlt
      have hmem : ts.getD i default ∈ ts := by rw [List.getD_eq_getElem?_getD, List.getElem?_eq_getElem (by rw [HKL.out]; exact hlt)]; exact List.getElem_mem (by rw [HKL.out]; exact hlt)
      have hkok := HOK.out _ hmem
      have hus' : Hid (us ++ [ts.getD i default] = ts.take (i + 1)) := by
        show _ = _
        rw [hus.out, List.take_add_one, List.getD_eq_getElem?_getD]
        rw [List.getElem?_eq_getElem (by rw [HKL.out]; exact hlt)]; rfl
      obtain ⟨A2, a2, c2, K2, m2, d2, rfl, _⟩ := VC.head hVk
      generalize ts.getD i default = kid at *
      have y0 : w.cell? ⟨g, i * 6, none⟩ = some (.int .i64 kid.kind) := hcs 0 (by omega)
      have z0 := below_cell hB y0
      clear y0
      have y1 : w.cell? ⟨g, i * 6 + 1, none⟩ = some (.bool kid.neg) := hcs 1 (by omega)
      have z1 := below_cell hB y1
      clear y1
      have y2 : w.cell? ⟨g, i * 6 + 2, none⟩ = some (.slice A2 a2 c2) := hcs 2 (by omega)
      have z2 := below_cell hB y2
      clear y2
      have y3 : w.cell? ⟨g, i * 6 + 3, none⟩ = some (.int .u64 (kid.bits : Int)) := hcs 3 (by omega)
      have z3 := below_cell hB y3
      clear y3
      have y4 : w.cell? ⟨g, i * 6 + 4, none⟩ = some (.string kid.text) := hcs 4 (by omega)
      have z4 := below_cell hB y4
      clear y4
      have y5 : w.cell? ⟨g, i * 6 + 5, none⟩ = some (.slice K2 m2 d2) := hcs 5 (by omega)
      have z5 := below_cell hB y5
      clear y5
      have q1 : (i : Int) < (m : Int) := by omega
      have hR1 := hR.below (below_alloc' (Below.refl wr.heap.size wr) (.cells #[.int .i64 kid.kind, .bool kid.neg, .slice A2 a2 c2, .int .u64 (kid.bits : Int), .string kid.text, .slice K2 m2 d2] 36))
      have hB1 : Below w.heap.size w (wr.alloc (.cells #[.int .i64 kid.kind, .bool kid.neg, .slice A2 a2 c2, .int .u64 (kid.bits : Int), .string kid.text, .slice K2 m2 d2] 36)) := below_alloc' hB _
      have H26 := Lib.hid (HV.out (wr.alloc (.cells #[.int .i64 kid.kind, .bool kid.neg, .slice A2 a2 c2, .int .u64 (kid.bits : Int), .string kid.text, .slice K2 m2 d2] 36)) kid _ S (hVk.below hB1 hS) hkok.1 hkok.2.1 hkok.2.2 (fun k hk => Nat.lt_of_lt_of_le (hS k hk) hB1.size) (below_cell hB1 HG.out.1) (below_cell hB1 HG.out.2))
      obtain ⟨Kv, dv, rfl, hdv1, hdv2, hKv⟩ := hR.shape
      have hbl := Lib.hid hR.block
      have HR1 := Lib.hid hR1
      have HB1 := Lib.hid hB1
      clear hcs hkid hVk hkok hmem hR hR1 hB1
      go_wp2_with fail
      refine H26.out.mono ?_
      rintro e w2 ⟨x, rfl, hS2, hB2⟩
      obtain ⟨T, x, rfl⟩ := hS2.out.shape
      have hs2 := hB2.size
      have hsW := HB1.out.size
      obtain ⟨v', w3, hrun, hR3, hgr⟩ := app71v (HR1.out.below hB2) kid (.iface T x) (blks (wr.alloc (.cells #[.int .i64 kid.kind, .bool kid.neg, .slice A2 a2 c2, .int .u64 (kid.bits : Int), .string kid.text, .slice K2 m2 d2] 36)).heap.size w2.heap.size)
        (fun k hk => ⟨hk.2, Nat.le_trans hsW hk.1⟩) hS2.rest (fun g hg hc => by
          have h1 := (hbl.out g hg).2
          have h2 := hc.1
          rw [alloc_size] at h2
          omega) (by omega) (by omega) 109
      have hob := Lib.hid (fun x (hx : (Value.slice Kv i dv).ownBlock = some x) => (hbl.out x hx).1)
      have HRUN := Lib.hid hrun
      have HR3 := Lib.hid hR3
      have hB3 : Below w.heap.size w (w2.alloc (.cells #[.iface T x] 71)) := below_alloc' (below_trans' HB1.out hB2) _
      have HB4 := Lib.hid (below_own hB3 hgr hob.out)
      clear hrun hR3 hgr hB3 hS2 H26
      go_wp2_with (at_builtin; go_loud (refine wpl_append rfl (.tmp 25) (.tmp 27) 109 rfl _ _ _ _ rfl rfl HRUN.out ?_))
      go_round
      case rel => exact ⟨i + 1, v', _, by omega, by go_num, rfl, HR3.out, hus', HB4.out⟩
      case measure => simp [intOf]; omega
    · have e : i = m := by omega
      subst e
      have q1 : ¬ (i : Int) < (i : Int) := by omega
      obtain ⟨Kv, dv, rfl, hdv1, hdv2, hKv⟩ := hR.shape
      have HRR := Lib.hid hR
      clear hR
      go_wp2_with fail
      go_ret2
      have hts : us = ts := by rw [hus.out, List.take_of_length_le (by rw [HKL.out]; exact Nat.le_refl _)]
      subst hts
      refine ⟨Kv, dv, rfl, hdv1, HRR.out.sits (fun k hk => hk), ?_, hB⟩
      intro a ha
      rcases hKv with h | ⟨g, h, hg⟩
      · rw [h] at ha; cases ha
      · rw [h] at ha; cases ha; exact HRR.out.block _ hg
end Go.Proofs.YtpfihjkhgfoijaaGreatDoor
namespace Go.Proofs.YtpfihjkhgfoijaaGreatDoor
open Go.RowKit

theorem dord_symm (d e : Ieee.Datum) (h : d.order e = some .eq) : e.order d = some .eq := by
  cases d <;> cases e
  case infinity.infinity s t => cases s <;> cases t <;> first | exact h | (revert h; decide)
  case number.number s m i t n j =>
    simp only [Ieee.Datum.order, Option.some.injEq, cmp_eq_iff] at h ⊢
    rw [Int.min_comm]; exact h.symm
  case infinity.number s t n j => cases s <;> (revert h; simp [Ieee.Datum.order])
  case number.infinity s t n j => cases j <;> (revert h; simp [Ieee.Datum.order])
  all_goals (revert h; simp [Ieee.Datum.order])
theorem feq_symm {u v : Nat} (h : fEq u v = true) : fEq v u = true := by
  unfold fEq at h ⊢
  rw [Bool.or_eq_true, Bool.and_eq_true] at h ⊢
  rcases h with h | ⟨h1, h2⟩
  · left
    unfold Op.floatEq at h ⊢
    rw [beq_iff_eq] at h ⊢
    exact dord_symm _ _ h
  · exact .inr ⟨h2, h1⟩
theorem numEq_symm {a b : VT} (h : numEq a b) : numEq b a := by
  unfold numEq at h ⊢
  rcases h with ⟨h1, h2, h3⟩ | ⟨h1, h2, h3⟩ | ⟨h1, h2, h3⟩ | ⟨h1, h2, h3⟩
  · exact .inl ⟨h2, h1, h3.symm⟩
  · exact .inr (.inr (.inl ⟨h2, h1, h3⟩))
  · exact .inr (.inl ⟨h2, h1, h3⟩)
  · exact .inr (.inr (.inr ⟨h2, h1, feq_symm h3⟩))
theorem EqT.symm {n : Nat} {a b : VT} (h : EqT n a b) : EqT n b a := by
  induction n generalizing a b with
  | zero =>
    unfold EqT at h ⊢
    rcases h with h | ⟨h1, h2, h3, h4, h5, h6⟩
    · exact .inl (numEq_symm h)
    · exact .inr ⟨h1.symm, by unfold VT.num at h2 ⊢; rw [← h1]; exact h2, fun e => (h3 (by rw [h1]; exact e)).symm, h4.symm, h5.symm, trivial⟩
  | succ n ih =>
    unfold EqT at h ⊢
    rcases h with h | ⟨h1, h2, h3, h4, h5, h6⟩
    · exact .inl (numEq_symm h)
    · exact .inr ⟨h1.symm, by unfold VT.num at h2 ⊢; rw [← h1]; exact h2, fun e => (h3 (by rw [h1]; exact e)).symm, h4.symm, h5.symm, fun i hi => ih (h6 i (by rw [h5]; exact hi))⟩
/-- the cells of an empty hash table -/
abbrev ht0 : Array Value := #[Value.slice none 0 0, Value.int .u32 0, Value.nilIface, Value.nilIface, Value.pointer none, Value.pointer none, Value.int .u32 0, Value.nilIface, Value.nilIface, Value.pointer none, Value.pointer none, Value.int .u32 0, Value.nilIface, Value.nilIface, Value.pointer none, Value.pointer none, Value.int .u32 0, Value.nilIface, Value.nilIface, Value.pointer none, Value.pointer none, Value.int .u32 0, Value.nilIface, Value.nilIface, Value.pointer none, Value.pointer none, Value.int .u32 0, Value.nilIface, Value.nilIface, Value.pointer none, Value.pointer none, Value.int .u32 0, Value.nilIface, Value.nilIface, Value.pointer none, Value.pointer none, Value.int .u32 0, Value.nilIface, Value.nilIface, Value.pointer none, Value.pointer none, Value.pointer none, Value.int .u32 0, Value.int .u32 0, Value.pointer none, Value.pointer none, Value.bool false]
theorem ht0_blk {w : World} {b : Nat} {e : TypeId} (h : RowB w b ht0 e) : HtR w b false 0 [] := by
  refine ⟨⟨?_, h.free⟩, by simp, fun _ => rfl, by simp⟩
  intro off ho
  match off, ho with
    | 0, _ => exact h.cell 0 _ rfl
    | 1, _ => exact h.cell 1 _ rfl
    | 2, _ => exact h.cell 2 _ rfl
    | 3, _ => exact h.cell 3 _ rfl
    | 4, _ => exact h.cell 4 _ rfl
    | 5, _ => exact h.cell 5 _ rfl
    | 6, _ => exact h.cell 6 _ rfl
    | 7, _ => exact h.cell 7 _ rfl
    | 8, _ => exact h.cell 8 _ rfl
    | 9, _ => exact h.cell 9 _ rfl
    | 10, _ => exact h.cell 10 _ rfl
    | 11, _ => exact h.cell 11 _ rfl
    | 12, _ => exact h.cell 12 _ rfl
    | 13, _ => exact h.cell 13 _ rfl
    | 14, _ => exact h.cell 14 _ rfl
    | 15, _ => exact h.cell 15 _ rfl
    | 16, _ => exact h.cell 16 _ rfl
    | 17, _ => exact h.cell 17 _ rfl
    | 18, _ => exact h.cell 18 _ rfl
    | 19, _ => exact h.cell 19 _ rfl
    | 20, _ => exact h.cell 20 _ rfl
    | 21, _ => exact h.cell 21 _ rfl
    | 22, _ => exact h.cell 22 _ rfl
    | 23, _ => exact h.cell 23 _ rfl
    | 24, _ => exact h.cell 24 _ rfl
    | 25, _ => exact h.cell 25 _ rfl
    | 26, _ => exact h.cell 26 _ rfl
    | 27, _ => exact h.cell 27 _ rfl
    | 28, _ => exact h.cell 28 _ rfl
    | 29, _ => exact h.cell 29 _ rfl
    | 30, _ => exact h.cell 30 _ rfl
    | 31, _ => exact h.cell 31 _ rfl
    | 32, _ => exact h.cell 32 _ rfl
    | 33, _ => exact h.cell 33 _ rfl
    | 34, _ => exact h.cell 34 _ rfl
    | 35, _ => exact h.cell 35 _ rfl
    | 36, _ => exact h.cell 36 _ rfl
    | 37, _ => exact h.cell 37 _ rfl
    | 38, _ => exact h.cell 38 _ rfl
    | 39, _ => exact h.cell 39 _ rfl
    | 40, _ => exact h.cell 40 _ rfl
    | 41, _ => exact h.cell 41 _ rfl
    | 42, _ => exact h.cell 42 _ rfl
    | 43, _ => exact h.cell 43 _ rfl
    | 44, _ => exact h.cell 44 _ rfl
    | 45, _ => exact h.cell 45 _ rfl
    | 46, _ => exact h.cell 46 _ rfl
    | n + 47, h => exact absurd h (by omega)
theorem HtR.sits {w : World} {b N it : Nat} {ini : Bool} {L : List (Nat × Value × Value)} (h : HtR w b ini it L) (hN : N ≤ b) : Sits N (fun W => HtR W b ini it L) w := by
  intro W hs hW
  have hl := h.lt
  have e := hW b hN hl
  refine ⟨⟨fun off ho => ?_, fun off => ?_⟩, h.few, h.set, h.hash⟩
  · have := h.cells off ho
    unfold World.cell? at this ⊢
    rw [e]; exact this
  · have := h.free off
    unfold World.frozen? at this ⊢
    rw [e]; exact this
/-- a hash table with the keys (each st-th of xs) -/
def PostHt (w : World) (m : Nat) (R : Nat → Nat × Value × Value → Prop) (e : Ending) (w' : World) : Prop :=
  ∃ b ini L, e = .returned (.tuple #[.pointer (some ⟨b, 0, none⟩), .bool true]) ∧ w.heap.size ≤ b ∧ HtR w' b ini 0 L ∧ L.length = m ∧ (∀ j k, L[j]? = some k → R j k) ∧ Below w.heap.size w w'
theorem push_keys {L : List (Nat × Value × Value)} {R : Nat → Nat × Value × Value → Prop} (h : ∀ j k, L[j]? = some k → R j k) (y : Nat × Value × Value) (hy : R L.length y) : ∀ j k, (L ++ [y])[j]? = some k → R j k := by
  intro j k e
  by_cases hj : j < L.length
  · rw [List.getElem?_append_left hj] at e; exact h j k e
  · rw [List.getElem?_append_right (by omega)] at e
    by_cases h0 : j = L.length
    · subst h0
      rw [Nat.sub_self, List.getElem?_cons_zero] at e
      cases e; exact hy
    · rw [List.getElem?_eq_none (by simp; omega)] at e; cases e
/-- an old key is not the new one -/
theorem not_same (n : Nat) (hn : n < 10) (w W : World) (hW : Below w.heap.size w W) (a b : VT) (x y : Value) (ha : SVp n w a x) (hb : SVp n w b y) (oa : VT.ok n a) (ob : VT.ok n b) (ka : VT.key n a) (kb : VT.key n b) (hne : ¬ EqT n b a)
    (hg : w.cell? ⟨9, 0, none⟩ = some (.int .i64 40)) (hg8 : w.cell? ⟨8, 0, none⟩ = some (.int .i64 10)) :
    Calls Tryz.prog 139 #[x, y] W fun e w' => e = .returned (.tuple #[.bool false, .nilIface]) ∧ Below W.heap.size W w' := by
  refine (c139 RatFC_all n hn W a b x y (ha.below hW) (hb.below hW) oa ob ka kb (below_cell hW hg) (below_cell hW hg8)).mono ?_
  rintro e w' ⟨r, rfl, hr, hB⟩
  cases r
  · exact ⟨rfl, hB⟩
  · exact absurd (hr rfl).symm hne
set_option maxHeartbeats 4000000 in
theorem c67 (n : Nat) (hn : n < 10) (w : World) (K : Option Addr) (g m d : Nat) (ts : List VT) (xs : List Value) (hKg : m = 0 ∨ K = some ⟨g, 0, none⟩) (hcell : ∀ i, i < m → w.cell? ⟨g, i, none⟩ = some (xs.getD i .nilIface)) (hx : ∀ i, i < m → SVp n w (ts.getD i default) (xs.getD i .nilIface))
    (hok : ∀ i, i < m → VT.ok n (ts.getD i default)) (hk : KeysT n 1 ts m) (hm : m ≤ 8) (hmd : m ≤ d) (hg : w.cell? ⟨9, 0, none⟩ = some (.int .i64 40)) (hg8 : w.cell? ⟨8, 0, none⟩ = some (.int .i64 10)) :
    Calls Tryz.prog 67 #[.slice K m d] w (PostHt w m (fun j k => k.2.1 = xs.getD j .nilIface)) := by
  have H0 := Lib.hid (ht0_blk (RowB.new w ht0 175))
  have HX := Lib.hid hx
  have HOK := Lib.hid hok
  have HKY := Lib.hid hk
  have HC := Lib.hid hcell
  have HG := Lib.hid (And.intro hg hg8)
  have hB0 : Below w.heap.size w (w.alloc (.cells ht0 175)) := below_alloc' (Below.refl _ _) _
  have HB0 := Lib.hid hB0
  clear hx hok hk hcell hg hg8 hB0
  go_enter Tryz.func67, Tryz.ntmps67
  go_wp2_with fail
  go_loopw [10] (fun vi wr => ∃ (i : Nat) (ini : Bool) (L : List (Nat × Value × Value)), i ≤ m ∧ vi = .int .i64 (i : Int) ∧ Hid (HtR wr w.heap.size ini 0 L) ∧ Hid (L.length = i) ∧ Hid (∀ j k, L[j]? = some k → k.2.1 = xs.getD j .nilIface) ∧ Below w.heap.size w wr) (fun vi _ => m - (intOf vi).toNat)
  case atStart => exact ⟨0, false, [], by omega, rfl, H0.out, rfl, by intro j k e; simp at e, HB0.out⟩
  case round =>
    obtain ⟨i, ini, L, hi, rfl, hH, hL, hLk, hB⟩ := hrel
    by_cases hlt : i < m
    · obtain rfl := hKg.resolve_left (by omega)
      obtain ⟨T, x, K', r, ex, D, hHash⟩ := HashK_all FHashC_all n w _ _ (HX.out i hlt) (HOK.out i hlt) (HKY.out i hlt (by omega)).1
      have hc := HC.out i hlt
      have hxi := HX.out i hlt
      have hyl := Lib.hid (fun (y : Nat × Value × Value) (h : y.2.1 = xs.getD i .nilIface) => push_keys (R := fun j k => k.2.1 = xs.getD j .nilIface) hLk.out y (by rw [hL.out]; exact h))
      rw [ex] at hc hxi hyl
      have hc' := below_cell hB hc
      have q1 : (i : Int) < (m : Int) := by omega
      have hL' := hL.out
      have H96 := Lib.hid (c96 w.heap.size w.heap.size L (.iface T x) ini wr hH.out (c117 w.heap.size w.heap.size ini L T x 121 (.int .u8 0) K' r wr hH.out (by omega) (Nat.le_refl _) hB.size D (fun W hW => hHash W (below_comp hB hW)) (fun e he W hW => by
        obtain ⟨j, hj⟩ := List.mem_iff_getElem?.1 he
        have hjl : j < i := by
          have := (List.getElem?_eq_some_iff.1 hj).1
          omega
        have hxj := HX.out j (by omega)
        rw [← hLk.out j e hj] at hxj
        exact not_same n hn w W (below_comp hB hW) (ts.getD i default) (ts.getD j default) (.iface T x) e.2.1 hxi hxj (HOK.out i hlt) (HOK.out j (by omega)) (HKY.out i hlt (by omega)).1 (HKY.out j (by omega) (by omega)).1 ((HKY.out i hlt (by omega)).2 j hjl (by omega)) HG.out.1 HG.out.2)))
      clear hc hL' hxi D hHash ex
      go_wp2_with fail
      refine H96.out.mono ?_
      rintro e w2 ⟨hh, rfl, h2, hB2⟩
      have H2 := Lib.hid h2
      clear h2 H96
      go_wp2_with fail
      go_round
      case rel => exact ⟨i + 1, true, _, by omega, by go_num, H2.out, by show _ = _; rw [List.length_append, hL.out]; rfl, hyl.out _ rfl, below_comp hB hB2⟩
      case measure => simp [intOf]; omega
    · have e : i = m := by omega
      subst e
      have q1 : ¬ (i : Int) < (i : Int) := by omega
      have H97 := Lib.hid (c97 w.heap.size ini L wr hH.out)
      rw [hL.out] at H97
      go_wp2_with fail
      refine H97.out.mono ?_
      rintro e w2 ⟨rfl, rfl⟩
      go_wp2_with fail
      go_ret2
      exact ⟨_, ini, L, rfl, Nat.le_refl _, hH.out, hL.out, hLk.out, hB⟩
end Go.Proofs.YtpfihjkhgfoijaaGreatDoor
namespace Go.Proofs.YtpfihjkhgfoijaaGreatDoor
open Go.RowKit

set_option maxHeartbeats 4000000 in
theorem c66 (n : Nat) (hn : n < 10) (w : World) (K : Option Addr) (g m p d : Nat) (hp : m = 2 * p) (ts : List VT) (xs : List Value) (hKg : m = 0 ∨ K = some ⟨g, 0, none⟩) (hcell : ∀ i, i < m → w.cell? ⟨g, i, none⟩ = some (xs.getD i .nilIface)) (hx : ∀ i, i < m → SVp n w (ts.getD i default) (xs.getD i .nilIface))
    (hok : ∀ i, i < m → VT.ok n (ts.getD i default)) (hk : KeysT n 2 ts m) (hm : m ≤ 16) (hmd : m ≤ d) (hg : w.cell? ⟨9, 0, none⟩ = some (.int .i64 40)) (hg8 : w.cell? ⟨8, 0, none⟩ = some (.int .i64 10)) :
    Calls Tryz.prog 66 #[.slice K m d] w (PostHt w p (fun j k => k.2.1 = xs.getD (2 * j) .nilIface ∧ k.2.2 = xs.getD (2 * j + 1) .nilIface)) := by
  have H0 := Lib.hid (ht0_blk (RowB.new w ht0 173))
  have HX := Lib.hid hx
  have HOK := Lib.hid hok
  have HKY := Lib.hid hk
  have HC := Lib.hid hcell
  have HP := Lib.hid hp
  have HG := Lib.hid (And.intro hg hg8)
  have hB0 : Below w.heap.size w (w.alloc (.cells ht0 173)) := below_alloc' (Below.refl _ _) _
  have HB0 := Lib.hid hB0
  clear hx hok hk hcell hg hg8 hB0 hp
  go_enter Tryz.func66, Tryz.ntmps66
  go_wp2_with fail
  go_loopw [5] (fun vi wr => ∃ (i a : Nat) (ini : Bool) (L : List (Nat × Value × Value)), a ≤ m ∧ vi = .int .i64 (a : Int) ∧ Hid (a = 2 * i) ∧ Hid (HtR wr w.heap.size ini 0 L) ∧ Hid (L.length = i) ∧ Hid (∀ j k, L[j]? = some k → k.2.1 = xs.getD (2 * j) .nilIface ∧ k.2.2 = xs.getD (2 * j + 1) .nilIface) ∧ Below w.heap.size w wr) (fun vi _ => m - (intOf vi).toNat)
  case atStart => exact ⟨0, 0, false, [], by omega, rfl, rfl, H0.out, rfl, by intro j k e; simp at e, HB0.out⟩
  case round =>
    obtain ⟨i, a, ini, L, hi, rfl, ha, hH, hL, hLk, hB⟩ := hrel
    have a1 : IntKind.i64.wrap ((a : Int) + 1) = (a : Int) + 1 := IntWalk.i64_in _ (by omega)
    by_cases hlt : a + 1 < m
    · obtain rfl := hKg.resolve_left (by omega)
      have hlt0 : a < m := by omega
      obtain ⟨T, x, K', r, ex, D, hHash⟩ := HashK_all FHashC_all n w _ _ (HX.out a hlt0) (HOK.out a hlt0) (HKY.out a hlt0 (by have := ha.out; omega)).1
      obtain ⟨Tv, xv, ev⟩ := (HX.out (a + 1) hlt).shape
      have hc := HC.out a hlt0
      have hc2 := HC.out (a + 1) hlt
      have hxi := HX.out a hlt0
      have hyl := Lib.hid (fun (y : Nat × Value × Value) (h : y.2.1 = xs.getD a .nilIface ∧ y.2.2 = xs.getD (a + 1) .nilIface) => push_keys (R := fun j k => k.2.1 = xs.getD (2 * j) .nilIface ∧ k.2.2 = xs.getD (2 * j + 1) .nilIface) hLk.out y (by rw [hL.out, ← ha.out]; exact h))
      rw [ex] at hc hxi hyl
      rw [ev] at hc2 hyl
      have hc' := below_cell hB hc
      have hc2' := below_cell hB hc2
      have q1 : (a : Int) + 1 < (m : Int) := by omega
      have q2 : ((a : Int) + 1).toNat = a + 1 := by omega
      have q3 : 0 ≤ (a : Int) + 1 := by omega
      have a2 : IntKind.i64.wrap ((a : Int) + 2) = (a : Int) + 2 := IntWalk.i64_in _ (by omega)
      have H94 := Lib.hid (c94 w.heap.size w.heap.size L (.iface T x) (.iface Tv xv) ini wr.drew (hH.out.below (bdrew1 wr)) (c117 w.heap.size w.heap.size ini L T x Tv xv K' r wr.drew (hH.out.below (bdrew1 wr)) (by have := hL.out; have := ha.out; omega) (Nat.le_refl _) hB.size D (fun W hW => hHash W (below_comp (below_trans' hB (bdrew1 wr)) hW)) (fun e he W hW => by
        obtain ⟨j, hj⟩ := List.mem_iff_getElem?.1 he
        have hjl : j < i := by
          have := (List.getElem?_eq_some_iff.1 hj).1
          have := hL.out
          omega
        have hai := ha.out
        have hxj := HX.out (2 * j) (by omega)
        rw [← (hLk.out j e hj).1] at hxj
        exact not_same n hn w W (below_comp (below_trans' hB (bdrew1 wr)) hW) (ts.getD a default) (ts.getD (2 * j) default) (.iface T x) e.2.1 hxi hxj (HOK.out a hlt0) (HOK.out (2 * j) (by omega)) (HKY.out a hlt0 (by omega)).1 (HKY.out (2 * j) (by omega) (by omega)).1 ((HKY.out a hlt0 (by omega)).2 (2 * j) (by omega) (by omega)) HG.out.1 HG.out.2)))
      have HB := Lib.hid (below_trans' hB (bdrew1 wr))
      have sA : wr.drew.cell? ⟨g, a, none⟩ = some (.iface T x) ∧ wr.drew.cell? ⟨g, a + 1, none⟩ = some (.iface Tv xv) := ⟨hc', hc2'⟩
      have hgl : g < w.heap.size := cell_lt hc
      have sB := sA
      clear hc hc2 hxi D hHash ex ev hc' hc2'
      go_upto_region 5 with (fail)
      go_region_held3 (fun W => W.cell? ⟨g, a, none⟩ = some (.iface T x) ∧ W.cell? ⟨g, a + 1, none⟩ = some (.iface Tv xv)) (first | with_reducible exact sA | with_reducible exact sB)
        (first | (go_at_call 94; (with_reducible refine H94.out.mono ?_); rintro e w2 ⟨hh, rfl, h2, hB2⟩; have H2 := Lib.hid h2; have sB := And.intro ((hB2.cell (p := ⟨g, a, none⟩) hgl).trans sA.1) ((hB2.cell (p := ⟨g, a + 1, none⟩) hgl).trans sA.2); clear h2))
      all_goals
        go_wp2_with fail
        go_round
        case rel => exact ⟨i + 1, a + 2, true, _, by omega, by go_num, by have := ha.out; show _ = _; omega, H2.out, by show _ = _; rw [List.length_append, hL.out]; rfl, hyl.out _ ⟨rfl, rfl⟩, below_comp HB.out hB2⟩
        case measure => simp [intOf]; omega
    · have hai := ha.out
      have hmp := HP.out
      have e : a = m := by omega
      have eip : i = p := by omega
      clear hai hmp
      subst e
      subst eip
      have q1 : ¬ (a : Int) + 1 < (a : Int) := by omega
      have H95 := Lib.hid (c95 w.heap.size ini L wr hH.out)
      rw [hL.out] at H95
      have hil : i ≤ 8 := by have := HP.out; omega
      have a3 : IntKind.i64.wrap (2 * (i : Int)) = 2 * (i : Int) := IntWalk.i64_in _ (by omega)
      have q4 : (2 * (i : Int) == (a : Int)) = true := by rw [beq_iff_eq]; have := HP.out; omega
      go_wp2_with fail
      refine H95.out.mono ?_
      rintro e w2 ⟨rfl, rfl⟩
      go_wp2_with fail
      go_ret2
      exact ⟨_, ini, L, rfl, Nat.le_refl _, hH.out, hL.out, hLk.out, hB⟩
end Go.Proofs.YtpfihjkhgfoijaaGreatDoor
namespace Go.Proofs.YtpfihjkhgfoijaaGreatDoor
open Go.RowKit

theorem c65 (K : Option Addr) (m d : Nat) (w : World) : Calls Tryz.prog 65 #[.slice K m d] w fun e w' => e = .returned (.pointer (some ⟨w.heap.size, 0, none⟩)) ∧ w' = w.alloc (.cells #[.slice K m d, .bool false, .int .u32 0] 157) := by
  go_enter Tryz.func65, Tryz.ntmps65
  go_wp2_with fail
  go_ret
  exact ⟨rfl, rfl⟩
theorem ElR.row {Q : VT → Value → Prop} {w : World} {K : Option Addr} {m : Nat} {ts : List VT} (h : ElR Q w K m ts) :
    ∃ (g : Nat) (xs : List Value), (m = 0 ∨ K = some ⟨g, 0, none⟩) ∧ (∀ i, i < m → w.cell? ⟨g, i, none⟩ = some (xs.getD i .nilIface)) ∧ ∀ i, i < m → Q (ts.getD i default) (xs.getD i .nilIface) := by
  obtain ⟨hl, h0 | ⟨g, e, hk⟩⟩ := h
  · exact ⟨0, [], .inl h0, fun i hi => by omega, fun i hi => by omega⟩
  · refine ⟨g, (List.range m).map fun i => (w.cell? ⟨g, i, none⟩).getD .nilIface, .inr e, ?_⟩
    have key : ∀ i, i < m → ((List.range m).map fun i => (w.cell? ⟨g, i, none⟩).getD .nilIface).getD i .nilIface = (w.cell? ⟨g, i, none⟩).getD .nilIface := by
      intro i hi
      rw [List.getD_eq_getElem?_getD, List.getElem?_map, List.getElem?_range hi]; rfl
    constructor
    · intro i hi
      rw [key i hi]
      obtain ⟨v, h1, h2⟩ := hk i hi
      rw [h1]; rfl
    · intro i hi
      rw [key i hi]
      obtain ⟨v, h1, h2⟩ := hk i hi
      rw [h1]; exact h2
theorem ElR.sitsVals {n N : Nat} {w : World} {K : Option Addr} {g m : Nat} {ts : List VT} {xs : List Value} (h : Sits N (fun W => ElR (SVp n W) W K m ts) w) (hK : m = 0 ∨ K = some ⟨g, 0, none⟩) (hg : m = 0 ∨ N ≤ g) (hc : ∀ i, i < m → w.cell? ⟨g, i, none⟩ = some (xs.getD i .nilIface)) :
    Sits N (fun W => ∀ i, i < m → SVp n W (ts.getD i default) (xs.getD i .nilIface)) w := by
  intro W hs hW i hi
  obtain ⟨hl, h0 | ⟨g', e, hk⟩⟩ := h W hs hW
  · omega
  · have hK' := hK.resolve_left (by omega)
    rw [hK'] at e
    cases e
    obtain ⟨v, h1, h2⟩ := hk i hi
    have hgl : g < w.heap.size := cell_lt (hc i hi)
    have e1 : W.cell? ⟨g, i, none⟩ = w.cell? ⟨g, i, none⟩ := by
      unfold World.cell?
      rw [hW g (hg.resolve_left (by omega)) hgl]
    rw [e1, hc i hi] at h1
    cases h1
    exact h2
theorem BlkF.list {w : World} {b : Nat} {K : Option Addr} {m d : Nat} {e : TypeId} (h : RowB w b #[.slice K m d, .bool false, .int .u32 0] e) : BlkF w b 3 (fun i => if i = 0 then .slice K m d else if i = 1 then .bool false else .int .u32 0) := by
  refine ⟨?_, h.free⟩
  intro off ho
  match off, ho with
  | 0, _ => exact h.cell 0 _ rfl
  | 1, _ => exact h.cell 1 _ rfl
  | 2, _ => exact h.cell 2 _ rfl
  | n + 3, h => exact absurd h (by omega)
theorem RowB.sits {w : World} {b N : Nat} {cs : Array Value} {e : TypeId} (h : RowB w b cs e) (hN : N ≤ b) : Sits N (fun W => RowB W b cs e) w := fun W hs hW => ⟨(hW b hN h.lt).trans h.out⟩
set_option maxHeartbeats 4000000 in
theorem c26 (n : Nat) (hn : n ≤ 10) (ih : ∀ m, n = m + 1 → ValC m) : ValC n := by
  intro w t cs S hI hok hmak hkk hS hg hg8
  obtain ⟨A, a, c, K, m, d, rfl, hmag, hA, hmd, hkl, hkd⟩ := hI.head
  obtain ⟨w1, hw1, b1, r1⟩ : ∃ w1, w.alloc (.cells #[.int .i64 t.kind, .bool t.neg, .slice A a c, .int .u64 (t.bits : Int), .string t.text, .slice K m d] 36) = w1 ∧ Below w.heap.size w w1 ∧ RowB w1 w.heap.size #[.int .i64 t.kind, .bool t.neg, .slice A a c, .int .u64 (t.bits : Int), .string t.text, .slice K m d] 36 :=
    ⟨_, rfl, below_alloc' (Below.refl _ _) _, RowB.new w _ _⟩
  have e0 := r1.cell 0 _ rfl
  have e1 := r1.cell 1 _ rfl
  have e2 := r1.cell 2 _ rfl
  have e3 := r1.cell 3 _ rfl
  have e4 := r1.cell 4 _ rfl
  have e5 := r1.cell 5 _ rfl
  have hs1 : w.heap.size ≤ w1.heap.size := b1.size
  by_cases hk : t.kind < 6
  · have H := Lib.hid (c63 n w1 t _ S (hI.below b1 hS) hok hk)
    clear hI hok hmak hkk hmag hkd r1
    go_enter Tryz.func26, Tryz.ntmps26
    go_wp2_with fail
    refine H.out.mono ?_
    rintro e w2 ⟨v, rfl, hV, hB⟩
    have HV := Lib.hid hV
    clear hV H
    go_wp2_with fail
    go_ret2
    exact ⟨v, rfl, HV.out.mono hs1, below_trans' b1 hB⟩
  · obtain ⟨hk9, hk16, n', rfl, hkids⟩ := VT.ok_ge hok (by omega)
    have hev : t.kind = 8 → t.kids.length % 2 = 0 := by unfold VT.ok at hok; omega
    have h8s : t.kind = 9 → t.kids.length ≤ 8 := by
      intro h9
      unfold VT.ok at hok
      have := hok.2.2
      rcases this with h | h | h | h | h | ⟨_, _, _, _, _, _, h, _⟩
      · omega
      · omega
      · omega
      · omega
      · omega
      · rw [if_pos h9] at h; exact h
    have hI1 := hI.below b1 hS
    obtain ⟨A', a', c', K', m', d', he, _, _, _, hkd1⟩ := hI1.head
    have heK : K' = K ∧ m' = m := by simp at he; exact ⟨he.2.1.symm, he.2.2.1.symm⟩
    obtain ⟨rfl, rfl⟩ := heK
    have hm16 : m' ≤ 16 := by omega
    have H64 := Lib.hid (c64 n' (ih n' rfl) w1 K' m' d t.kids S hkd1 (fun k hk => ⟨hkids k hk, hmak.2.2 k hk, hkk.2.2 k hk⟩) hm16 hmd (fun k hk => Nat.lt_of_lt_of_le (hS k hk) hs1) (below_cell b1 hg) (below_cell b1 hg8))
    have HKT := Lib.hid (And.intro hmak.1 hmak.2.1)
    have HOK : Hid (∀ i, i < m' → VT.ok n' (t.kids.getD i default)) := fun i hi => hkids _ (by rw [List.getD_eq_getElem?_getD, List.getElem?_eq_getElem (by omega)]; exact List.getElem_mem (by omega))
    have HKL := Lib.hid hkl
    have HEV := Lib.hid hev
    have H8 := Lib.hid h8s
    have HG := Lib.hid (And.intro (below_cell b1 hg) (below_cell b1 hg8))
    have q0 : ¬ t.kind < 6 := hk
    have q9 : ¬ 9 < t.kind := by omega
    clear hI hok hmak hkk hmag hkd r1 hkids hI1 he hkd1 ih hkl hev h8s hg hg8
    go_enter Tryz.func26, Tryz.ntmps26
    go_wp2_with fail
    refine H64.out.mono ?_
    rintro e w2 ⟨Kv, dv, rfl, hmd', hEl, hKv, hB2⟩
    have hB := below_trans' b1 hB2
    have HEl := Lib.hid (hEl.mono hs1)
    have HB := Lib.hid hB
    clear hEl H64
    rcases (by omega : t.kind = 6 ∨ t.kind = 7 ∨ t.kind = 8 ∨ t.kind = 9) with hk' | hk' | hk' | hk'
    · have e0' := below_cell hB2 e0
      rw [hk'] at e0'
      have H65 := Lib.hid (c65 Kv m' dv w2)
      go_wp2_with fail
      refine H65.out.mono ?_
      rintro e w3 ⟨rfl, rfl⟩
      go_wp2_with fail
      go_ret2
      have hr := (RowB.new w2 #[.slice Kv m' dv, .bool false, .int .u32 0] 157).sits (N := w.heap.size) HB.out.size
      have hE := HEl.out.below (below_alloc' (Below.refl _ _) (.cells #[.slice Kv m' dv, .bool false, .int .u32 0] 157))
      refine ⟨_, rfl, fun W h1 h2 => SVp.ofHead (.list _ Kv m' dv hk' (BlkF.list (hr W h1 h2)) ?_ hmd' (hE W h1 h2)), below_alloc' HB.out _⟩
      intro x hx
      have := (hKv x hx).2
      omega
    · have e0' := below_cell hB2 e0
      rw [hk'] at e0'
      go_wp2_with fail
      go_ret2
      exact ⟨_, rfl, fun W h1 h2 => SVp.ofHead (.tuple Kv m' dv hk' hmd' (HEl.out W h1 h2)), HB.out⟩
    · have e0' := below_cell hB2 e0
      rw [hk'] at e0'
      obtain ⟨g, xs, hKg, hcell, hx⟩ := HEl.out.out.row
      have hge : m' = 0 ∨ w.heap.size ≤ g := by
        rcases hKg with h | h
        · exact .inl h
        · exact .inr (Nat.le_trans hs1 (hKv _ h).1)
      have hvals := Lib.hid (ElR.sitsVals HEl.out hKg hge hcell)
      have H66 := Lib.hid (c66 n' (by omega) w2 Kv g m' (m' / 2) dv (by have := HEV.out hk'; have := HKL.out; omega) t.kids xs hKg hcell hx HOK.out (by have := HKT.out.1 hk'; rw [HKL.out] at this; exact this) hm16 hmd' (below_cell hB2 HG.out.1) (below_cell hB2 HG.out.2))
      clear hcell hx
      go_wp2_with fail
      refine H66.out.mono ?_
      rintro e w3 ⟨b, ini, L, rfl, hb, hH, hL, hLk, hB3⟩
      have HH := Lib.hid (hH.sits (N := w.heap.size) (Nat.le_trans HB.out.size hb))
      have HL := Lib.hid hL
      have HLK := Lib.hid hLk
      clear hH hL hLk H66
      go_wp2_with fail
      go_ret2
      have hv := hvals.out.below hB3
      have hm2 : m' = 2 * (m' / 2) := by have := HEV.out hk'; have := HKL.out; omega
      refine ⟨_, rfl, fun W h1 h2 => SVp.ofHead (.dict b ini L hk' (HH.out W h1 h2) (by rw [HKL.out, HL.out]; omega) fun j k e => ?_), below_trans' HB.out hB3⟩
      have hj : j < m' / 2 := by
        have := (List.getElem?_eq_some_iff.1 e).1
        rw [HL.out] at this; exact this
      have := HLK.out j k e
      rw [this.1, this.2]
      exact ⟨hv W h1 h2 (2 * j) (by omega), hv W h1 h2 (2 * j + 1) (by omega)⟩
    · have e0' := below_cell hB2 e0
      rw [hk'] at e0'
      obtain ⟨g, xs, hKg, hcell, hx⟩ := HEl.out.out.row
      have hge : m' = 0 ∨ w.heap.size ≤ g := by
        rcases hKg with h | h
        · exact .inl h
        · exact .inr (Nat.le_trans hs1 (hKv _ h).1)
      have hvals := Lib.hid (ElR.sitsVals HEl.out hKg hge hcell)
      have H67 := Lib.hid (c67 n' (by omega) w2 Kv g m' dv t.kids xs hKg hcell hx HOK.out (by have := HKT.out.2 hk'; rw [HKL.out] at this; exact this) (by have := H8.out hk'; have := HKL.out; omega) hmd' (below_cell hB2 HG.out.1) (below_cell hB2 HG.out.2))
      clear hcell hx
      go_wp2_with fail
      refine H67.out.mono ?_
      rintro e w3 ⟨b, ini, L, rfl, hb, hH, hL, hLk, hB3⟩
      have HH := Lib.hid (hH.sits (N := w.heap.size) (Nat.le_trans HB.out.size hb))
      have HL := Lib.hid hL
      have HLK := Lib.hid hLk
      clear hH hL hLk H67
      go_wp2_with fail
      go_ret2
      have hv := hvals.out.below hB3
      refine ⟨_, rfl, fun W h1 h2 => SVp.ofHead (.set b ini L hk' (HH.out W h1 h2) (by rw [HKL.out, HL.out]) fun j k e => ?_), below_trans' HB.out hB3⟩
      have hj : j < m' := by
        have := (List.getElem?_eq_some_iff.1 e).1
        rw [HL.out] at this; exact this
      rw [HLK.out j k e]
      exact hv W h1 h2 j hj
/-- impl.value gives a value that stands for the tree -/
theorem ValC_all (n : Nat) (hn : n ≤ 10) : ValC n := by
  induction n with
  | zero => exact c26 0 hn fun m h => by omega
  | succ n ih => exact c26 (n + 1) hn fun m h => by cases h; exact ih (by omega)
end Go.Proofs.YtpfihjkhgfoijaaGreatDoor
