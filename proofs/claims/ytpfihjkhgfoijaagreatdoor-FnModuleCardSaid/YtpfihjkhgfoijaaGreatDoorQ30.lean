/- impl.bitsOf, impl.paired; impl.tellAll; impl.tell; impl.tell: the rest; TellC; impl.tell on lists, sets, dicts. -/
import Derived.Test.YtpfihjkhgfoijaaGreatDoorQ29
import Derived.Test.YtpfihjkhgfoijaaGreatDoorQ19
import Derived.Test.YtpfihjkhgfoijaaGreatDoorQ21
set_option linter.unusedVariables false
set_option linter.unusedSimpArgs false
set_option maxRecDepth 100000
namespace Go.Proofs.YtpfihjkhgfoijaaGreatDoor
open Go.RowKit

theorem c70 (u : Nat) (w : World) : Calls Tryz.prog 70 #[.float .f64 u] w fun e w' => e = .returned (.int .u64 (u : Int)) ∧ w = w' := by
  have hr := fun W => r102 u W
  go_enter Tryz.func70, Tryz.ntmps70
  go_wp2_with fail
  go_ret
  exact ⟨rfl, rfl⟩
/-- keys and values of the first i entries, in turn -/
def flatL (L : List (Nat × Value × Value)) (i : Nat) : List Value := (L.take i).flatMap fun k => [k.2.1, k.2.2]
theorem flatL_succ (L : List (Nat × Value × Value)) (i : Nat) (k : Nat × Value × Value) (h : L[i]? = some k) : flatL L (i + 1) = flatL L i ++ [k.2.1, k.2.2] := by
  unfold flatL
  rw [List.take_add_one, h, List.flatMap_append]
  simp
/-- append of two values to a row of the call's own, which lie in the block made last -/
theorem app71two {w : World} {base : Nat} {v : Value} {n : Nat} {xs : List Value} (hown : w.ownsRow base 71 1 v n xs) (T T2 : TypeId) (x x2 : Value) (hn : n ≤ 500) (hbase : base ≤ w.heap.size) (ty : TypeId) :
    ∃ v' w', (Builtin.append_ #[109, 109] ty #[v, .slice (some ⟨w.heap.size, 0, none⟩) 2 2]).run Tryz.prog (w.alloc (.cells #[.iface T x, .iface T2 x2] 71)) = .ok v' w' ∧ w'.ownsRow base 71 1 v' (n + 2) (xs ++ [.iface T x, .iface T2 x2]) ∧ (w.alloc (.cells #[.iface T x, .iface T2 x2] 71)).grownBy w' v.ownBlock := by
  obtain ⟨v', w', h1, h2, h3, -⟩ := app71 (hown.alloc (.cells #[.iface T x, .iface T2 x2] 71)) ⟨w.heap.size, 0, none⟩ 2 2 [.iface T x, .iface T2 x2] rfl (fun j u hu => by rw [add_at]; exact (RowB.new w #[.iface T x, .iface T2 x2] 71).cell j u (by simpa using hu)) (by simp [Value.oneCell']) (by omega) (by rw [alloc_size]; omega) ty
  exact ⟨v', w', h1, h2, h3⟩
def PairedP (n : Nat) (L : List (Nat × Value × Value)) (w : World) (e : Ending) (w' : World) : Prop :=
  ∃ v, e = .returned v ∧ w'.ownsRow w.heap.size 71 1 v (2 * n) (flatL L n) ∧ Below w.heap.size w w'
set_option maxHeartbeats 4000000 in
theorem c74 (b n : Nat) (ini : Bool) (L : List (Nat × Value × Value)) (w : World) (h : HtR w b ini 0 L) (hn : L.length = n) (hsh : ∀ (k : Nat × Value × Value), k ∈ L → (∃ T x, k.2.1 = .iface T x) ∧ ∃ T x, k.2.2 = .iface T x) :
    Calls Tryz.prog 74 #[.pointer (some ⟨b, 0, none⟩)] w (PairedP n L w) := by
  have H := Lib.hid (c103 b n ini L w h hn hsh)
  have hn8 : n ≤ 8 := by have := h.few; omega
  have HSH := Lib.hid hsh
  clear h hn hsh
  go_enter Tryz.func74, Tryz.ntmps74
  go_wp2_with fail
  refine H.out.mono ?_
  rintro e w1 ⟨v, g, cs, rfl, hO, hR, hg, hcs, hP, hB⟩
  obtain ⟨Kv, dv, rfl, hnd, hdm, hKv⟩ := own_shape hO
  have hdm2 : dv ≤ 9223372036854775807 := by simp only [maxLen] at hdm; omega
  have HO := Lib.hid hO
  have HR := Lib.hid hR
  have HP := Lib.hid hP
  have HB := Lib.hid hB
  have hs1 := hB.size
  clear hO hR hP hB H hcs hdm
  go_wp2_with fail
  go_loopw [2, 8] (fun v2 vi wr => ∃ (i : Nat), i ≤ n ∧ vi = .int .i64 (i : Int) ∧ Hid (wr.ownsRow w1.heap.size 71 1 v2 (2 * i) (flatL L i)) ∧ Hid (Below w1.heap.size w1 wr)) (fun _ vi _ => n - (intOf vi).toNat)
  case atStart => exact ⟨0, by omega, rfl, World.ownsRow_nil _ _ _ _, Below.refl _ _⟩
  case round =>
    obtain ⟨i, hi, rfl, hO2, hB2⟩ := hrel
    by_cases hlt : i < n
    · obtain ⟨gi, rfl⟩ : ∃ gi, Kv = some ⟨gi, 0, none⟩ := by
        rcases hKv with h | h
        · subst h
          rcases HO.out.2 with ⟨_, h0⟩ | ⟨g', cap, cur, h', _⟩
          · omega
          · cases h'
        · exact h
      have hci : w1.cell? ⟨gi, i, none⟩ = some (.slice (some ⟨g, 2 * i, none⟩) 2 2) := by
        rw [HO.out.cellAt i (by omega), List.getElem?_map, List.getElem?_range hlt]; rfl
      obtain ⟨k, ek, h1, h2⟩ := HP.out i hlt
      obtain ⟨⟨T, x, ex⟩, T2, x2, ex2⟩ := HSH.out k (List.mem_of_getElem? ek)
      rw [ex] at h1
      rw [ex2] at h2
      have ka := below_cell hB2.out (HR.out.cell (2 * i) _ h1)
      have kb := below_cell hB2.out (HR.out.cell (2 * i + 1) _ h2)
      have kc := below_cell hB2.out hci
      have q1 : (i : Int) < (n : Int) := by omega
      have hfl := Lib.hid (flatL_succ L i k ek)
      rw [ex, ex2] at hfl
      obtain ⟨K2, d2, rfl, -⟩ := own_shape hO2.out
      obtain ⟨v', w3, hrun, hO3, hgr⟩ := app71two (own_agree (W := wr.drew) hO2.out (fun k _ _ => rfl)) T T2 x x2 (by omega) hB2.out.size 109
      have hob : ∀ q, (Value.slice K2 (2 * i) d2).ownBlock = some q → w1.heap.size ≤ q := fun q hq => (own_lt hO2.out q hq).1
      have HB3 := Lib.hid (below_own (below_alloc' (below_trans' hB2.out (bdrew1 wr)) (.cells #[.iface T x, .iface T2 x2] 71)) hgr hob)
      have hO3' : Hid (w3.ownsRow w1.heap.size 71 1 v' (2 * (i + 1)) (flatL L (i + 1))) := by
        show World.ownsRow _ _ _ _ _ _ _
        rw [hfl.out]; exact hO3
      clear hci h1 h2 ek ex ex2 hO3 hgr hob
      go_upto_region 4 with (fail)
      go_region_law (first
        | (refine step_append rfl (.tmp 12) (.tmp 19) 109 rfl _ _ _ _ rfl rfl hrun ?_))
      all_goals
        go_wp2_with fail
        go_round
        case rel => exact ⟨i + 1, by omega, by go_num, hO3'.out, HB3.out⟩
        case measure => simp [intOf]; omega
    · obtain rfl : i = n := by omega
      have q1 : ¬ (i : Int) < (i : Int) := by omega
      go_wp2_with fail
      go_ret
      exact ⟨_, rfl, own_mono hO2.out hs1, below_trans' HB.out hB2.out⟩
end Go.Proofs.YtpfihjkhgfoijaaGreatDoor
namespace Go.Proofs.YtpfihjkhgfoijaaGreatDoor
open Go.RowKit

/-- a tree told of a value: read from new blocks -/
def ToldP (n : Nat) (t : VT) (w : World) (e : Ending) (w' : World) : Prop :=
  ∃ cs, e = .returned (.agg cs) ∧ VC n (blks w.heap.size w'.heap.size) w' t cs ∧ Below w.heap.size w w'
def TellC (n : Nat) : Prop := ∀ (w : World) (t : VT) (v : Value), SVp n w t v → VT.ok n t → Calls Tryz.prog 33 #[v] w (ToldP n t w)
theorem run_make36 (c : Nat) (hc : c ≤ 4611686018) (w : World) :
   ∃ cur : Array Value, cur.size = c * 6 ∧ (Instr.makeSlice 34 (.int .i64 0) (.int .i64 (c : Int))).run Tryz.prog w = .ok (.slice (some ⟨w.heap.size, 0, none⟩) 0 c) (w.alloc (.cells cur 36)) := by
  obtain ⟨i, hi, hzz⟩ := Option.map_eq_some_iff.1 info36
  simp only [Prod.mk.injEq] at hzz
  obtain ⟨hz, hs, hb⟩ := hzz
  have := run_make (P := Tryz.prog) w 34 36 i (.agg zero36) Tryz.underlying34 hi hz .i64 .i64 0 c (by omega) (by omega) (by rw [hb]; omega) (by omega)
  rw [this]
  exact ⟨_, by simp [madeCells, Value.cells, hs, zero36], rfl⟩
theorem Kin.made (n base : Nat) (R : BS) (w : World) (cur : Array Value) (cap : Nat) (hb : base ≤ w.heap.size) (hm : cap ≤ 1000) (hs : cur.size = cap * 6) : Kin n base R (w.alloc (.cells cur 36)) (.slice (some ⟨w.heap.size, 0, none⟩) 0 cap) 0 [] :=
  ⟨[], World.ownsRow_made (base := base) (e := 36) (size := 6) w cur cap hb (by simp only [maxLen]; omega) hs, rfl, rfl, by simp, fun i hi => by omega⟩
/-- a row of trees told of values -/
def ToldL (n m : Nat) (ts : List VT) (w : World) (e : Ending) (w' : World) : Prop :=
  ∃ K d, e = .returned (.slice K m d) ∧ m ≤ d ∧ KidC (VC n (blks w.heap.size w'.heap.size) w') (blks w.heap.size w'.heap.size) w' K m ts ∧ Below w.heap.size w w'
set_option maxHeartbeats 4000000 in
theorem c71 (n : Nat) (hT : TellC n) (w : World) (K : Option Addr) (g m d : Nat) (ts : List VT) (xs : List Value) (hKg : m = 0 ∨ K = some ⟨g, 0, none⟩) (hcell : ∀ i, i < m → w.cell? ⟨g, i, none⟩ = some (xs.getD i .nilIface)) (hx : ∀ i, i < m → SVp n w (ts.getD i default) (xs.getD i .nilIface))
    (hok : ∀ i, i < m → VT.ok n (ts.getD i default)) (hl : ts.length = m) (hm : m ≤ 16) (hmd : m ≤ d) :
    Calls Tryz.prog 71 #[.slice K m d] w (ToldL n m ts w) := by
  obtain ⟨cur, hcs, hmk⟩ := run_make36 m (by omega) w
  have hR0 := Lib.hid (Kin.made n w.heap.size (fun k => w.heap.size ≤ k) w cur m (Nat.le_refl _) (by omega) hcs)
  have HX := Lib.hid hx
  have HOK := Lib.hid hok
  have HC := Lib.hid hcell
  have HTT := Lib.hid hT
  have HL := Lib.hid hl
  clear hx hok hcell hT hl hcs
  go_enter Tryz.func71, Tryz.ntmps71
  go_wp2_with fail
  clear hmk
  go_loopw [3, 11] (fun v3 vi wr => ∃ (i : Nat) (us : List VT), i ≤ m ∧ vi = .int .i64 (i : Int) ∧ Kin n w.heap.size (fun k => w.heap.size ≤ k) wr v3 i us ∧ Hid (us = ts.take i) ∧ Hid (Below w.heap.size w wr)) (fun _ vi _ => m - (intOf vi).toNat)
  case atStart => exact ⟨0, [], by omega, rfl, hR0.out, by show _ = _; simp, below_alloc' (Below.refl _ _) _⟩
  case round =>
    obtain ⟨i, us, hi, rfl, hK, hus, hB⟩ := hrel
    obtain ⟨Kv, dv, rfl, hdv1, hdv2, hKv⟩ := hK.shape
    by_cases hlt : i < m
    · obtain rfl := hKg.resolve_left (by omega)
      have hxi := (HX.out i hlt).below hB.out
      have kc := below_cell hB.out (HC.out i hlt)
      obtain ⟨T, x, ex⟩ := hxi.shape
      rw [ex] at hxi kc
      have q1 : (i : Int) < (m : Int) := by omega
      have hus' : Hid (us ++ [ts.getD i default] = ts.take (i + 1)) := by
        show _ = _
        rw [hus.out, List.take_add_one, List.getD_eq_getElem?_getD]
        rw [List.getElem?_eq_getElem (by rw [HL.out]; exact hlt)]; rfl
      have H33 := Lib.hid (HTT.out wr _ _ hxi (HOK.out i hlt))
      have hbl := Lib.hid hK.block
      have HK := Lib.hid hK
      clear hxi ex hK
      go_wp2_with fail
      refine H33.out.mono ?_
      rintro e w2 ⟨cs, rfl, hV, hB2⟩
      obtain ⟨A3, a3, c3, K3, m3, d3, rfl, _⟩ := hV.head
      have hsr := hB.out.size
      have hs2 := hB2.size
      obtain ⟨v', w3, hrun, hK3, hgr⟩ := app36 (HK.out.below hB2) (ts.getD i default) _ (blks wr.heap.size w2.heap.size) (fun k hk => ⟨hk.2, Nat.le_trans hsr hk.1⟩) hV (fun q hq hc => by have h1 := (hbl.out q hq).2; have h2 := hc.1; omega) (by omega) (by omega) 34
      have hob : ∀ q, (Value.slice Kv i dv).ownBlock = some q → w.heap.size ≤ q := fun q hq => (hbl.out q hq).1
      have HB3 := Lib.hid (below_own (below_alloc' (below_trans' hB.out hB2) (.cells _ 36)) hgr hob)
      have HR := Lib.hid hrun
      have HK3 := Lib.hid hK3
      clear hrun hK3 hgr hob hV H33
      go_wp2_with (at_builtin; go_loud (refine wpl_append rfl (.tmp 15) (.tmp 18) 34 rfl _ _ _ _ rfl rfl HR.out ?_))
      go_round
      case rel => exact ⟨i + 1, _, by omega, by go_num, HK3.out, hus', HB3.out⟩
      case measure => simp [intOf]; omega
    · obtain rfl : i = m := by omega
      have q1 : ¬ (i : Int) < (i : Int) := by omega
      have HK := Lib.hid hK
      clear hK
      go_wp2_with fail
      go_ret
      have hts : us = ts := by rw [hus.out, List.take_of_length_le (by rw [HL.out]; exact Nat.le_refl _)]
      subst hts
      exact ⟨Kv, dv, rfl, hdv1, HK.out.get _ (fun k h1 h2 => ⟨h1, h2⟩) (fun k h1 h2 => ⟨h1, h2⟩), hB.out⟩
end Go.Proofs.YtpfihjkhgfoijaaGreatDoor
namespace Go.Proofs.YtpfihjkhgfoijaaGreatDoor
open Go.RowKit

set_option maxHeartbeats 2000000 in
theorem c33_none (w : World) : Calls Tryz.prog 33 #[.iface 121 (.int .u8 0)] w fun e w' => e = .returned (.agg #[.int .i64 0, .bool false, .slice none 0 0, .int .u64 0, .string ⟨#[]⟩, .slice none 0 0]) ∧ Below w.heap.size w w' := by
  have ta := as121_121 (.int .u8 0)
  go_enter Tryz.func33, Tryz.ntmps33
  go_wp2_with fail
  refine bodyPost_ret (ret_row (RowB.new w _ _) rfl _ _ rfl Tryz.underlying36 rfl i36) rfl ?_
  exact ⟨rfl, below_alloc' (Below.refl _ _) _⟩
set_option maxHeartbeats 2000000 in
theorem c33_true (w : World) : Calls Tryz.prog 33 #[.iface 77 (.bool true)] w fun e w' => e = .returned (.agg #[.int .i64 1, .bool false, .slice none 0 0, .int .u64 1, .string ⟨#[]⟩, .slice none 0 0]) ∧ Below w.heap.size w w' := by
  have ta121 := as77_121 (.bool true)
  have ta77 := as77_77 (.bool true)
  go_enter Tryz.func33, Tryz.ntmps33
  go_wp2_with fail
  refine bodyPost_ret (ret_row (RowB.new w _ _) rfl _ _ rfl Tryz.underlying36 rfl i36) rfl ?_
  exact ⟨rfl, below_alloc' (Below.refl _ _) _⟩
set_option maxHeartbeats 2000000 in
theorem c33_false (w : World) : Calls Tryz.prog 33 #[.iface 77 (.bool false)] w fun e w' => e = .returned (.agg #[.int .i64 1, .bool false, .slice none 0 0, .int .u64 0, .string ⟨#[]⟩, .slice none 0 0]) ∧ Below w.heap.size w w' := by
  have ta121 := as77_121 (.bool false)
  have ta77 := as77_77 (.bool false)
  go_enter Tryz.func33, Tryz.ntmps33
  go_wp2_with fail
  refine bodyPost_ret (ret_row (RowB.new w _ _) rfl _ _ rfl Tryz.underlying36 rfl i36) rfl ?_
  exact ⟨rfl, below_alloc' (Below.refl _ _) _⟩
set_option maxHeartbeats 2000000 in
theorem c33_str (t : ByteArray) (w : World) : Calls Tryz.prog 33 #[.iface 131 (.string t)] w fun e w' => e = .returned (.agg #[.int .i64 4, .bool false, .slice none 0 0, .int .u64 0, .string t, .slice none 0 0]) ∧ Below w.heap.size w w' := by
  have ta121 := as131_121 (.string t)
  have ta77 := as131_77 (.string t)
  have ta126 := as131_126 (.string t)
  have ta129 := as131_129 (.string t)
  have ta131 := as131_131 (.string t)
  go_enter Tryz.func33, Tryz.ntmps33
  go_wp2_with fail
  refine bodyPost_ret (ret_row (RowB.new w _ _) rfl _ _ rfl Tryz.underlying36 rfl i36) rfl ?_
  exact ⟨rfl, below_alloc' (Below.refl _ _) _⟩
set_option maxHeartbeats 2000000 in
theorem c33_bytes (t : ByteArray) (w : World) : Calls Tryz.prog 33 #[.iface 132 (.string t)] w fun e w' => e = .returned (.agg #[.int .i64 5, .bool false, .slice none 0 0, .int .u64 0, .string t, .slice none 0 0]) ∧ Below w.heap.size w w' := by
  have ta121 := as132_121 (.string t)
  have ta77 := as132_77 (.string t)
  have ta126 := as132_126 (.string t)
  have ta129 := as132_129 (.string t)
  have ta131 := as132_131 (.string t)
  have ta132 := as132_132 (.string t)
  go_enter Tryz.func33, Tryz.ntmps33
  go_wp2_with fail
  refine bodyPost_ret (ret_row (RowB.new w _ _) rfl _ _ rfl Tryz.underlying36 rfl i36) rfl ?_
  exact ⟨rfl, below_alloc' (Below.refl _ _) _⟩
end Go.Proofs.YtpfihjkhgfoijaaGreatDoor
namespace Go.Proofs.YtpfihjkhgfoijaaGreatDoor
open Go.RowKit

theorem getD_mem' {α : Type} [Inhabited α] {l : List α} {i : Nat} (h : i < l.length) : l.getD i default ∈ l := by
  rw [List.getD_eq_getElem?_getD, List.getElem?_eq_getElem h]; exact List.getElem_mem h
theorem c33_float (u : Nat) (w : World) : Calls Tryz.prog 33 #[.iface 129 (.float .f64 u)] w fun e w' => e = .returned (.agg #[.int .i64 3, .bool false, .slice none 0 0, .int .u64 (u : Int), .string ⟨#[]⟩, .slice none 0 0]) ∧ Below w.heap.size w w' := by
  have ta121 := as129_121 (.float .f64 u)
  have ta77 := as129_77 (.float .f64 u)
  have ta126 := as129_126 (.float .f64 u)
  have ta129 := as129_129 (.float .f64 u)
  obtain ⟨w1, hw1, b1, r1, s1⟩ : ∃ w1, w.alloc (.cells #[.int .i64 0, .bool false, .slice none 0 0, .int .u64 0, .string ⟨#[]⟩, .slice none 0 0] 36) = w1 ∧ Below w.heap.size w w1 ∧ RowB w1 w.heap.size #[.int .i64 0, .bool false, .slice none 0 0, .int .u64 0, .string ⟨#[]⟩, .slice none 0 0] 36 ∧ Hid (w1.heap.size = w.heap.size + 1) :=
    ⟨_, rfl, below_alloc' (Below.refl _ _) _, RowB.new w _ _, alloc_size _ _⟩
  have H := Lib.hid (c70 u w1)
  go_enter Tryz.func33, Tryz.ntmps33
  go_wp2_with fail
  clear hw1
  refine H.out.mono ?_
  rintro e w2 ⟨rfl, rfl⟩
  obtain ⟨f0, k0, f1, k1, f2, k2, f3, k3, f4, k4, f5, k5⟩ := facts36 r1 (.int .i64 3) (.bool false) (.slice none 0 0) (.int .u64 (u : Int)) (.string ⟨#[]⟩)
  have R1 := Lib.hid r1
  clear r1 H
  go_wp2_with fail
  refine bodyPost_ret (ret_row (set36 _ _ _ _ _ _ R1.out) rfl _ _ rfl Tryz.underlying36 rfl i36) rfl ?_
  exact ⟨rfl, below_grown' b1 (set36_grown _ _ _ _ _ _ _ _) (by omega)⟩
set_option maxHeartbeats 1000000 in
theorem c33_int (n : Nat) (t : VT) (x : Value) (w : World) (hk : t.kind = 2) (hx : IntV w (bz t.neg t.mag) x) (hok : VT.ok n t) : Calls Tryz.prog 33 #[.iface 126 x] w (ToldP n t w) := by
  obtain ⟨i, p, rfl⟩ := hx.shape
  have ta121 := as126_121 (.agg #[.int .i64 i, .pointer p])
  have ta77 := as126_77 (.agg #[.int .i64 i, .pointer p])
  have ta126 := as126_126 (.agg #[.int .i64 i, .pointer p])
  obtain ⟨w1, hw1, b1, r1, r3⟩ : ∃ w1, (w.alloc (.cells #[.int .i64 0, .bool false, .slice none 0 0, .int .u64 0, .string ⟨#[]⟩, .slice none 0 0] 36)).alloc (.cells #[.int .i64 i, .pointer p] 126) = w1 ∧ Below w.heap.size w w1 ∧ RowB w1 w.heap.size #[.int .i64 0, .bool false, .slice none 0 0, .int .u64 0, .string ⟨#[]⟩, .slice none 0 0] 36 ∧ RowB w1 (w.heap.size + 1) #[.int .i64 i, .pointer p] 126 :=
    ⟨_, rfl, below_alloc' (below_alloc' (Below.refl _ _) _) _, (RowB.new w _ _).alloc _, by
      have := RowB.new (w.alloc (.cells #[.int .i64 0, .bool false, .slice none 0 0, .int .u64 0, .string ⟨#[]⟩, .slice none 0 0] 36)) #[.int .i64 i, .pointer p] 126
      rw [alloc_size] at this; exact this⟩
  have H := Lib.hid (c69 _ _ w1 (hx.below b1))
  have HOK := Lib.hid hok
  have k0 := r3.cell 0 _ rfl
  have k1 := r3.cell 1 _ rfl
  clear hx hok
  go_enter Tryz.func33, Tryz.ntmps33
  go_wp2_with fail
  clear hw1
  refine H.out.mono ?_
  rintro e w2 ⟨B, m, d, bs, rfl, hS, hcut, hv, hB2, hBn⟩
  have r2 := r1.below hB2
  have b2 := below_trans' b1 hB2
  have l1 := r1.lt
  obtain ⟨f0, k0, f1, k1, f2, k2, f3, k3, f4, k4, f5, k5⟩ := facts36 r2 (.int .i64 2) (.bool (decide (bz t.neg t.mag < 0))) (.slice B m d) (.int .u64 0) (.string ⟨#[]⟩)
  have R2 := Lib.hid r2
  have HS := Lib.hid hS
  have HV := Lib.hid hv
  have HC := Lib.hid hcut
  have HBn := Lib.hid hBn
  clear r1 r2 r3 hS hv hcut H hBn
  go_wp2_with fail
  refine bodyPost_ret (ret_row (set36 _ _ _ _ _ _ R2.out) rfl _ _ rfl Tryz.underlying36 rfl i36) rfl ?_
  have hW : w2.grownBy (set36W w2 w.heap.size (.int .i64 2) (.bool (decide (bz t.neg t.mag < 0))) (.slice B m d) (.int .u64 0) (.string ⟨#[]⟩) (.slice none 0 0)) (some w.heap.size) := set36_grown _ _ _ _ _ _ _ _
  refine ⟨_, rfl, ?_, below_grown' b2 hW (Nat.le_refl _)⟩
  have hSW := ((HS.out.grown hW (by omega)).mono (Nat.le_of_lt l1)).imp (Q := fun W => ByteR W B m d t.mag) (fun W h => ?_)
  · have hok := HOK.out
    unfold VT.ok at hok
    obtain ⟨hm, _, h | h | ⟨-, hc, hlen, hneg, hbits, htext, hkids⟩ | h | h | h⟩ := hok <;> try (exfalso; omega)
    have hb := ByteR.bound hSW
    have hd : decide (bz t.neg t.mag < 0) = t.neg := by
      unfold bz
      cases hn : t.neg with
      | false => simp
      | true =>
        have hne := hneg hn
        have := cut_low hc hne
        have := Nat.pow_pos (n := t.mag.length - 1) (show 0 < 256 by omega)
        simp; omega
    refine VC.ofHead ⟨B, m, d, none, 0, 0, ?_, hb, (fun e => absurd e HBn.out), Nat.le_refl _, ⟨by rw [hkids]; rfl, .inl rfl⟩⟩
    show #[_, _, _, _, _, _] = _
    rw [hd, hk, hbits, htext]; rfl
  · have hok := HOK.out
    unfold VT.ok at hok
    obtain ⟨hm, _, h' | h' | ⟨-, hc, hlen, hneg, hbits, htext, hkids⟩ | h' | h' | h'⟩ := hok <;> try (exfalso; omega)
    have : bs = t.mag := cut_inj HC.out hc h.rng hm (by rw [HV.out]; unfold bz; cases t.neg <;> simp)
    rw [← this]; exact h
/-- a tree with kids that were told, by the six stores into a result's block -/
theorem told36 {n K : Nat} {w w2 : World} {t : VT} {K' : Option Addr} {m d : Nat} {x0 x1 x2 x3 x4 x5 : Value} (r : RowB w2 w.heap.size #[x0, x1, x2, x3, x4, x5] 36) (hB : Below w.heap.size w w2) (hmd : m ≤ d) (hK : w.heap.size < K)
    (hkid : KidC (VC n (blks K w2.heap.size) w2) (blks K w2.heap.size) w2 K' m t.kids) (hok : VT.ok (n + 1) t) (hk : 6 ≤ t.kind) :
    VC (n + 1) (blks w.heap.size (set36W w2 w.heap.size (.int .i64 t.kind) (.bool false) (.slice none 0 0) (.int .u64 0) (.string ⟨#[]⟩) (.slice K' m d)).heap.size) (set36W w2 w.heap.size (.int .i64 t.kind) (.bool false) (.slice none 0 0) (.int .u64 0) (.string ⟨#[]⟩) (.slice K' m d)) t
      #[.int .i64 t.kind, .bool false, .slice none 0 0, .int .u64 0, .string ⟨#[]⟩, .slice K' m d] ∧ Below w.heap.size w (set36W w2 w.heap.size (.int .i64 t.kind) (.bool false) (.slice none 0 0) (.int .u64 0) (.string ⟨#[]⟩) (.slice K' m d)) := by
  have hW := set36_grown w2 w.heap.size (.int .i64 t.kind) (.bool false) (.slice none 0 0) (.int .u64 0) (.string ⟨#[]⟩) (.slice K' m d)
  generalize set36W w2 w.heap.size (.int .i64 t.kind) (.bool false) (.slice none 0 0) (.int .u64 0) (.string ⟨#[]⟩) (.slice K' m d) = W at hW
  have hsz := hW.size
  have hag : ∀ k, blks K w2.heap.size k → W.heap[k]? = w2.heap[k]? := fun k h => hW.block k h.2 (by have := h.1; simp; omega)
  have hmo : ∀ k, blks K w2.heap.size k → blks w.heap.size W.heap.size k := fun k h => ⟨by have := h.1; omega, by have := h.2; omega⟩
  refine ⟨?_, below_grown' hB hW (Nat.le_refl _)⟩
  unfold VT.ok at hok
  obtain ⟨hm, _, h | h | h | h | h | ⟨-, -, hneg, hmag, hbits, htext, -⟩⟩ := hok <;> try (exfalso; omega)
  refine VC.ofHead ⟨none, 0, 0, K', m, d, ?_, ?_, (fun _ => ⟨rfl, rfl⟩), hmd, ?_⟩
  · rw [hneg, hbits, htext]; rfl
  · rw [hmag]; exact ByteS.nil _ _
  · exact (hkid.agree hag (fun t cs h => h.agree hag)).mono hmo (fun t cs h => h.mono hmo)
set_option maxHeartbeats 1000000 in
theorem c33_tuple (n : Nat) (hT : TellC n) (t : VT) (K : Option Addr) (m d : Nat) (w : World) (hk : t.kind = 7) (hd : m ≤ d) (hE : ElR (SVp n w) w K m t.kids) (hok : VT.ok (n + 1) t) : Calls Tryz.prog 33 #[.iface 114 (.slice K m d)] w (ToldP (n + 1) t w) := by
  have ta121 := as114_121 (.slice K m d)
  have ta77 := as114_77 (.slice K m d)
  have ta126 := as114_126 (.slice K m d)
  have ta129 := as114_129 (.slice K m d)
  have ta131 := as114_131 (.slice K m d)
  have ta132 := as114_132 (.slice K m d)
  have ta112 := as114_112 (.slice K m d)
  have ta114 := as114_114 (.slice K m d)
  obtain ⟨w1, hw1, b1, r1, s1⟩ : ∃ w1, w.alloc (.cells #[.int .i64 0, .bool false, .slice none 0 0, .int .u64 0, .string ⟨#[]⟩, .slice none 0 0] 36) = w1 ∧ Below w.heap.size w w1 ∧ RowB w1 w.heap.size #[.int .i64 0, .bool false, .slice none 0 0, .int .u64 0, .string ⟨#[]⟩, .slice none 0 0] 36 ∧ Hid (w1.heap.size = w.heap.size + 1) :=
    ⟨_, rfl, below_alloc' (Below.refl _ _) _, RowB.new w _ _, alloc_size _ _⟩
  obtain ⟨g, xs, hKg, hc, hx⟩ := hE.row
  have hl := hE.1
  obtain ⟨-, hk16, n', en, hok'⟩ := VT.ok_ge hok (by omega)
  obtain rfl : n = n' := by omega
  have H := Lib.hid (c71 n hT w1 K g m d t.kids xs hKg (fun i hi => below_cell b1 (hc i hi)) (fun i hi => (hx i hi).below b1) (fun i hi => hok' _ (getD_mem' (by omega))) hl (by omega) hd)
  have HOK := Lib.hid hok
  clear hE hc hx hok hT hok' hl
  go_enter Tryz.func33, Tryz.ntmps33
  go_wp2_with fail
  clear hw1
  refine H.out.mono ?_
  rintro e w2 ⟨K', d', rfl, hmd', hkid, hB2⟩
  have r2 := r1.below hB2
  have b2 := below_trans' b1 hB2
  have l1 := r1.lt
  obtain ⟨f0, k0, f1, k1, f2, k2, f3, k3, f4, k4, f5, k5⟩ := facts36 r2 (.int .i64 7) (.bool false) (.slice none 0 0) (.int .u64 0) (.string ⟨#[]⟩)
  have R2 := Lib.hid r2
  have HK := Lib.hid hkid
  clear r1 r2 hkid H
  go_wp2_with fail
  refine bodyPost_ret (ret_row (set36 _ _ _ _ _ _ R2.out) rfl _ _ rfl Tryz.underlying36 rfl i36) rfl ?_
  have := told36 R2.out b2 hmd' l1 HK.out HOK.out (by omega)
  rw [hk] at this
  exact ⟨_, rfl, this.1, this.2⟩
end Go.Proofs.YtpfihjkhgfoijaaGreatDoor
namespace Go.Proofs.YtpfihjkhgfoijaaGreatDoor
open Go.RowKit

theorem put_back {w : World} {b i : Nat} {u : Value} (v : Value) (h : w.cell? ⟨b, i, none⟩ = some u) : ((w.setCell ⟨b, i, none⟩ v).setCell ⟨b, i, none⟩ u).heap[b]? = w.heap[b]? := by
  unfold World.cell? at h
  simp only [World.setCell, Array.getElem?_modify, if_true]
  cases hb : w.heap[b]? with
  | none => rfl
  | some o =>
    cases o with
    | cells c e f =>
      simp only [hb, Option.isSome_none, Bool.false_eq_true, if_false] at h
      simp only [Option.map_some, Option.isSome_none, Bool.false_eq_true, if_false]
      congr 2
      apply Array.ext_getElem?
      intro j
      rw [Array.getElem?_setIfInBounds, Array.getElem?_setIfInBounds]
      obtain ⟨hi, he⟩ := Array.getElem?_eq_some_iff.1 h
      by_cases e1 : i = j
      · subst e1; simp [hi, he]
      · simp [e1]
    | _ => simp [hb] at h
theorem But2.closed {b it : Nat} {w w2 w3 : World} (h : But2 b b w w2) (k : But2 it b w2 w3) (hit : w.heap.size ≤ it) (e : w3.heap[b]? = w.heap[b]?) : Below w.heap.size w w3 :=
  ⟨k.os.trans h.os, k.tape.trans h.tape, k.output.trans h.output, Nat.le_trans h.size k.size, fun j hj => by
    by_cases hb : j = b
    · subst hb; exact e
    · exact (k.block j (Nat.lt_of_lt_of_le hj h.size) (by omega) hb).trans (h.block j hj hb hb)⟩
theorem HtR.through {w : World} {b : Nat} {ini : Bool} {L : List (Nat × Value × Value)} (h : HtR w b ini 0 L) : HtR (w.setCell ⟨b, 43, none⟩ (.int .u32 1)) b ini 1 L := by
  refine ⟨(h.blk.set (i := 43) (by omega) (.int .u32 1)).eq (fun off ho => ?_), h.few, h.set, h.hash⟩
  by_cases e : off = 43
  · subst e; rfl
  · rw [if_neg e]
    unfold htAt
    simp only [if_neg e]
theorem LstR.through {w : World} {b : Nat} {K : Option Addr} {m d : Nat} (h : LstR w b K m d 0) : LstR (w.setCell ⟨b, 2, none⟩ (.int .u32 1)) b K m d 1 := by
  refine (h.set (i := 2) (by omega) (.int .u32 1)).eq (fun off ho => ?_)
  by_cases e : off = 2
  · subst e; rfl
  · rw [if_neg e]
    by_cases e0 : off = 0
    · rw [if_pos e0, if_pos e0]
    · rw [if_neg e0, if_neg e0, if_pos (by omega), if_pos (by omega)]
theorem LstR.agree {w W : World} {b : Nat} {K : Option Addr} {m d : Nat} {c : Int} (h : LstR w b K m d c) (e : W.heap[b]? = w.heap[b]?) : LstR W b K m d c := by
  refine ⟨fun off ho => ?_, fun off => ?_⟩
  · have h1 := h.cell off ho
    unfold World.cell? at h1 ⊢
    rw [e]; exact h1
  · have h1 := h.free off
    unfold World.frozen? at h1 ⊢
    rw [e]; exact h1
set_option maxHeartbeats 2000000 in
theorem c33_list (n : Nat) (hT : TellC n) (t : VT) (b : Nat) (K : Option Addr) (m d : Nat) (w : World) (hk : t.kind = 6) (hL : LstR w b K m d 0) (hb : ∀ g, K = some g → g.block ≠ b) (hd : m ≤ d) (hE : ElR (SVp n w) w K m t.kids) (hok : VT.ok (n + 1) t) :
    Calls Tryz.prog 33 #[.iface 112 (.pointer (some ⟨b, 0, none⟩))] w (ToldP (n + 1) t w) := by
  have ta121 := as112_121 (.pointer (some ⟨b, 0, none⟩))
  have ta77 := as112_77 (.pointer (some ⟨b, 0, none⟩))
  have ta126 := as112_126 (.pointer (some ⟨b, 0, none⟩))
  have ta129 := as112_129 (.pointer (some ⟨b, 0, none⟩))
  have ta131 := as112_131 (.pointer (some ⟨b, 0, none⟩))
  have ta132 := as112_132 (.pointer (some ⟨b, 0, none⟩))
  have ta112 := as112_112 (.pointer (some ⟨b, 0, none⟩))
  obtain ⟨g, xs0, hKg, hc0, hx0⟩ := hE.row
  have hl := hE.1
  obtain ⟨xs, hxl, hcx⟩ : ∃ xs : List Value, xs.length = m ∧ ∀ i, i < m → xs.getD i .nilIface = xs0.getD i .nilIface := by
    refine ⟨(List.range m).map fun i => xs0.getD i .nilIface, by simp, fun i hi => ?_⟩
    rw [List.getD_eq_getElem?_getD, List.getElem?_map, List.getElem?_range hi]; rfl
  have hc : ∀ i, i < m → w.cell? ⟨g, i, none⟩ = some (xs.getD i .nilIface) := fun i hi => by rw [hcx i hi]; exact hc0 i hi
  have hx : ∀ i, i < m → SVp n w (t.kids.getD i default) (xs.getD i .nilIface) := fun i hi => by rw [hcx i hi]; exact hx0 i hi
  have lb := hL.lt (by omega)
  have hgb : m = 0 ∨ g ≠ b := hKg.imp id fun e => hb _ e
  have hgl : m = 0 ∨ g < w.heap.size := by
    by_cases h0 : m = 0
    · exact .inl h0
    · exact .inr (cell_lt (hc 0 (by omega)))
  clear hc0 hx0 hcx
  obtain ⟨-, hk16, n', en, hok'⟩ := VT.ok_ge hok (by omega)
  obtain rfl : n = n' := by omega
  obtain ⟨w1, hw1, b1, r1, s1⟩ : ∃ w1, w.alloc (.cells #[.int .i64 0, .bool false, .slice none 0 0, .int .u64 0, .string ⟨#[]⟩, .slice none 0 0] 36) = w1 ∧ Below w.heap.size w w1 ∧ RowB w1 w.heap.size #[.int .i64 0, .bool false, .slice none 0 0, .int .u64 0, .string ⟨#[]⟩, .slice none 0 0] 36 ∧ Hid (w1.heap.size = w.heap.size + 1) :=
    ⟨_, rfl, below_alloc' (Below.refl _ _) _, RowB.new w _ _, alloc_size _ _⟩
  have hs1 := s1.out
  have LB : LstR w1 b K m d 0 := hL.below (by omega) b1
  have H73 := Lib.hid (c73 b K m d w1 LB)
  obtain ⟨w2, hw2, r2, hi2, L2, hs2, hU, hput⟩ : ∃ w2, (w1.setCell ⟨b, 2, none⟩ (.int .u32 1)).alloc (.cells #[.pointer (some ⟨b, 0, none⟩), .int .i64 0] 185) = w2 ∧ RowB w2 w.heap.size #[.int .i64 0, .bool false, .slice none 0 0, .int .u64 0, .string ⟨#[]⟩, .slice none 0 0] 36 ∧ RowB w2 w1.heap.size #[.pointer (some ⟨b, 0, none⟩), .int .i64 0] 185 ∧ LstR w2 b K m d 1 ∧ w2.heap.size = w1.heap.size + 1 ∧ But2 b b w w2 ∧
      (w2.setCell ⟨b, 2, none⟩ (.int .u32 0)).heap[b]? = w.heap[b]? := by
    have e1 : (w1.setCell ⟨b, 2, none⟩ (.int .u32 1)).heap.size = w1.heap.size := setCell_size _ _ _
    have hb1 : ∀ o, Below (w1.setCell ⟨b, 2, none⟩ (.int .u32 1)).heap.size (w1.setCell ⟨b, 2, none⟩ (.int .u32 1)) ((w1.setCell ⟨b, 2, none⟩ (.int .u32 1)).alloc o) := fun o => below_alloc' (Below.refl _ _) o
    refine ⟨_, rfl, (r1.setNe ⟨b, 2, none⟩ _ (by show b ≠ w.heap.size; omega)).alloc _, ?_, (LB.through).below (by omega) (hb1 _), by rw [alloc_size, e1], ?_, ?_⟩
    · have := RowB.new (w1.setCell ⟨b, 2, none⟩ (.int .u32 1)) #[.pointer (some ⟨b, 0, none⟩), .int .i64 0] 185
      rw [e1] at this; exact this
    · exact ((But2.of_below (b := b) (b4 := b) b1).set ⟨b, 2, none⟩ (.inl rfl) _).comp (But2.of_below (b := b) (b4 := b) (hb1 _)) (.inl rfl) (.inl rfl)
    · have e2 : ((w1.setCell ⟨b, 2, none⟩ (.int .u32 1)).alloc (.cells #[.pointer (some ⟨b, 0, none⟩), .int .i64 0] 185)).heap[b]? = (w1.setCell ⟨b, 2, none⟩ (.int .u32 1)).heap[b]? := (hb1 _).block b (by rw [e1]; omega)
      rw [setCell_at (p := ⟨b, 2, none⟩) _ e2]
      exact (put_back (.int .u32 1) (LB.cell 2 (by omega))).trans (b1.block b lb)
  have H72 := Lib.hid (c72L w1.heap.size b g K m d xs w2 hi2 L2 (by omega) (by rcases hgl with h | h; exact .inl h; exact .inr (by omega)) (by omega) hd hxl hKg (fun i hi => by
    obtain ⟨T, x, ex⟩ := (hx i hi).shape
    refine ⟨T, x, ex, ?_⟩
    have := hc i hi
    rw [ex] at this
    rw [← this]
    have h1 := hgl.resolve_left (by omega)
    have h2 := hgb.resolve_left (by omega)
    exact World.cell?_of_block (hU.block g h1 h2 h2)))
  have HX := Lib.hid hx
  have HOK := Lib.hid hok
  have HOK' := Lib.hid hok'
  have HT := Lib.hid hT
  have HPUT := Lib.hid hput
  have HW2 := Lib.hid hw2
  have hs2' : w.heap.size + 1 < w2.heap.size := by omega
  have HW1S := Lib.hid hs1
  have HLL := Lib.hid hl
  clear hE hc hx hok hT hok' hl hL LB L2 hi2 hput hs1 hs2 hxl hw2
  go_enter Tryz.func33, Tryz.ntmps33
  go_wp2_with fail
  clear hw1
  refine H73.out.mono ?_
  rintro e w9 ⟨rfl, hw9⟩
  rw [HW2.out] at hw9
  subst hw9
  clear H73
  go_wp2_with fail
  refine H72.out.mono ?_
  rintro e w3 ⟨v, rfl, hO, hU3, hb3⟩
  have b3 : Below w.heap.size w w3 := hU.closed hU3 (by have := HW1S.out; omega) (by rw [hb3]; exact HPUT.out)
  have r3 : RowB w3 w.heap.size #[.int .i64 0, .bool false, .slice none 0 0, .int .u64 0, .string ⟨#[]⟩, .slice none 0 0] 36 := ⟨(hU3.block w.heap.size (by omega) (by have := HW1S.out; omega) (by omega)).trans r2.out⟩
  obtain ⟨K3, d3, rfl, hd3, hm3, hK3⟩ := own_shape hO
  have hl3 := r3.lt
  have H71 : Hid (Calls Tryz.prog 71 #[.slice K3 m d3] w3 (ToldL n m t.kids w3)) := by
    rcases hK3 with rfl | ⟨g3, rfl⟩
    · have hm0 : m = 0 := by
        rcases hO.2 with ⟨_, h0⟩ | ⟨g', cap, cur, h', _⟩
        · exact h0
        · cases h'
      exact c71 n HT.out w3 none 0 m d3 t.kids xs (.inl hm0) (fun i hi => by omega) (fun i hi => by omega) (fun i hi => by omega) HLL.out (by have := HLL.out; omega) hd3
    · exact c71 n HT.out w3 _ g3 m d3 t.kids xs (.inr rfl) (fun i hi => by rw [hO.cellAt i (by omega), List.getD_eq_getElem?_getD, List.getElem?_eq_getElem (by have := hO.1; omega)]; rfl) (fun i hi => (HX.out i hi).below b3) (fun i hi => HOK'.out _ (getD_mem' (by have := HLL.out; omega))) HLL.out (by have := HLL.out; omega) hd3
  clear hO hU3 hb3 H72
  go_wp2_with fail
  refine H71.out.mono ?_
  rintro e w4 ⟨K', d', rfl, hmd', hkid, hB4⟩
  have r4 := r3.below hB4
  have b4 := below_trans' b3 hB4
  obtain ⟨f0, k0, f1, k1, f2, k2, f3, k3, f4, k4, f5, k5⟩ := facts36 r4 (.int .i64 6) (.bool false) (.slice none 0 0) (.int .u64 0) (.string ⟨#[]⟩)
  have R4 := Lib.hid r4
  have HK := Lib.hid hkid
  clear r4 hkid H71
  go_wp2_with fail
  refine bodyPost_ret (ret_row (set36 _ _ _ _ _ _ R4.out) rfl _ _ rfl Tryz.underlying36 rfl i36) rfl ?_
  have := told36 R4.out b4 hmd' hl3 HK.out HOK.out (by omega)
  rw [hk] at this
  exact ⟨_, rfl, this.1, this.2⟩
set_option maxHeartbeats 2000000 in
theorem c33_set (n : Nat) (hT : TellC n) (t : VT) (b : Nat) (ini : Bool) (L : List (Nat × Value × Value)) (w : World) (hk : t.kind = 9) (hL : HtR w b ini 0 L) (hl : t.kids.length = L.length) (hx : ∀ j k, L[j]? = some k → SVp n w (t.kids.getD j default) k.2.1) (hok : VT.ok (n + 1) t) :
    Calls Tryz.prog 33 #[.iface 118 (.pointer (some ⟨b, 0, none⟩))] w (ToldP (n + 1) t w) := by
  have ta121 := as118_121 (.pointer (some ⟨b, 0, none⟩))
  have ta77 := as118_77 (.pointer (some ⟨b, 0, none⟩))
  have ta126 := as118_126 (.pointer (some ⟨b, 0, none⟩))
  have ta129 := as118_129 (.pointer (some ⟨b, 0, none⟩))
  have ta131 := as118_131 (.pointer (some ⟨b, 0, none⟩))
  have ta132 := as118_132 (.pointer (some ⟨b, 0, none⟩))
  have ta112 := as118_112 (.pointer (some ⟨b, 0, none⟩))
  have ta114 := as118_114 (.pointer (some ⟨b, 0, none⟩))
  have ta115 := as118_115 (.pointer (some ⟨b, 0, none⟩))
  have ta118 := as118_118 (.pointer (some ⟨b, 0, none⟩))
  obtain ⟨m, hm⟩ : ∃ m, L.length = m := ⟨_, rfl⟩
  have hl' := hl.trans hm
  have lb := hL.lt
  obtain ⟨xs, hxs⟩ : ∃ xs, xs = L.map fun k => k.2.1 := ⟨_, rfl⟩
  have hxl : xs.length = m := by rw [hxs, List.length_map, hm]
  have hxg : ∀ i, i < m → ∃ k, L[i]? = some k ∧ xs.getD i .nilIface = k.2.1 := fun i hi => by
    have hi' : i < L.length := by omega
    refine ⟨L[i], List.getElem?_eq_getElem hi', ?_⟩
    rw [hxs, List.getD_eq_getElem?_getD, List.getElem?_map, List.getElem?_eq_getElem hi']; rfl
  have hx : ∀ i, i < m → SVp n w (t.kids.getD i default) (xs.getD i .nilIface) := fun i hi => by
    obtain ⟨k, e1, e2⟩ := hxg i hi
    rw [e2]; exact hx i k e1
  have hl := hl'
  clear hxs
  obtain ⟨-, hk16, n', en, hok'⟩ := VT.ok_ge hok (by omega)
  obtain rfl : n = n' := by omega
  obtain ⟨w1, hw1, b1, r1, s1⟩ : ∃ w1, w.alloc (.cells #[.int .i64 0, .bool false, .slice none 0 0, .int .u64 0, .string ⟨#[]⟩, .slice none 0 0] 36) = w1 ∧ Below w.heap.size w w1 ∧ RowB w1 w.heap.size #[.int .i64 0, .bool false, .slice none 0 0, .int .u64 0, .string ⟨#[]⟩, .slice none 0 0] 36 ∧ Hid (w1.heap.size = w.heap.size + 1) :=
    ⟨_, rfl, below_alloc' (Below.refl _ _) _, RowB.new w _ _, alloc_size _ _⟩
  have hs1 := s1.out
  have LB : HtR w1 b ini 0 L := hL.below b1
  have H73 := Lib.hid (c75 b ini L w1 LB)
  obtain ⟨w2, hw2, r2, hi2, L2, hs2, hU, hput⟩ : ∃ w2, (w1.setCell ⟨b, 43, none⟩ (.int .u32 1)).alloc (.cells #[.pointer (some ⟨b, 0, none⟩), .pointer (posA b L 0)] 239) = w2 ∧ RowB w2 w.heap.size #[.int .i64 0, .bool false, .slice none 0 0, .int .u64 0, .string ⟨#[]⟩, .slice none 0 0] 36 ∧ RowB w2 w1.heap.size #[.pointer (some ⟨b, 0, none⟩), .pointer (posA b L 0)] 239 ∧ HtR w2 b ini 1 L ∧ w2.heap.size = w1.heap.size + 1 ∧ But2 b b w w2 ∧
      (w2.setCell ⟨b, 43, none⟩ (.int .u32 0)).heap[b]? = w.heap[b]? := by
    have e1 : (w1.setCell ⟨b, 43, none⟩ (.int .u32 1)).heap.size = w1.heap.size := setCell_size _ _ _
    have hb1 : ∀ o, Below (w1.setCell ⟨b, 43, none⟩ (.int .u32 1)).heap.size (w1.setCell ⟨b, 43, none⟩ (.int .u32 1)) ((w1.setCell ⟨b, 43, none⟩ (.int .u32 1)).alloc o) := fun o => below_alloc' (Below.refl _ _) o
    refine ⟨_, rfl, (r1.setNe ⟨b, 43, none⟩ _ (by show b ≠ w.heap.size; omega)).alloc _, ?_, (LB.through).below (hb1 _), by rw [alloc_size, e1], ?_, ?_⟩
    · have := RowB.new (w1.setCell ⟨b, 43, none⟩ (.int .u32 1)) #[.pointer (some ⟨b, 0, none⟩), .pointer (posA b L 0)] 239
      rw [e1] at this; exact this
    · exact ((But2.of_below (b := b) (b4 := b) b1).set ⟨b, 43, none⟩ (.inl rfl) _).comp (But2.of_below (b := b) (b4 := b) (hb1 _)) (.inl rfl) (.inl rfl)
    · have e2 : ((w1.setCell ⟨b, 43, none⟩ (.int .u32 1)).alloc (.cells #[.pointer (some ⟨b, 0, none⟩), .pointer (posA b L 0)] 239)).heap[b]? = (w1.setCell ⟨b, 43, none⟩ (.int .u32 1)).heap[b]? := (hb1 _).block b (by rw [e1]; omega)
      rw [setCell_at (p := ⟨b, 43, none⟩) _ e2]
      exact (put_back (.int .u32 1) (LB.cells 43 (by omega))).trans (b1.block b lb)
  have H72 := Lib.hid (c72K w1.heap.size b m ini L xs w2 hi2 L2 (by omega) hxl hm (fun i hi => by
    obtain ⟨T, x, ex⟩ := (hx i hi).shape
    obtain ⟨k, e1, e2⟩ := hxg i hi
    exact ⟨T, x, ex, k, e1, e2.symm.trans ex⟩))
  have HX := Lib.hid hx
  have HOK := Lib.hid hok
  have HOK' := Lib.hid hok'
  have HT := Lib.hid hT
  have HPUT := Lib.hid hput
  have HW2 := Lib.hid hw2
  have hs2' : w.heap.size + 1 < w2.heap.size := by omega
  have HW1S := Lib.hid hs1
  have HLL := Lib.hid hl
  clear hx hok hT hok' hl hl' hL LB L2 hi2 hput hs1 hs2 hxl hw2 hm hxg
  go_enter Tryz.func33, Tryz.ntmps33
  go_wp2_with fail
  clear hw1
  refine H73.out.mono ?_
  rintro e w9 ⟨rfl, hw9⟩
  rw [HW2.out] at hw9
  subst hw9
  clear H73
  go_wp2_with fail
  refine H72.out.mono ?_
  rintro e w3 ⟨v, rfl, hO, hU3, hb3⟩
  have b3 : Below w.heap.size w w3 := hU.closed hU3 (by have := HW1S.out; omega) (by rw [hb3]; exact HPUT.out)
  have r3 : RowB w3 w.heap.size #[.int .i64 0, .bool false, .slice none 0 0, .int .u64 0, .string ⟨#[]⟩, .slice none 0 0] 36 := ⟨(hU3.block w.heap.size (by omega) (by have := HW1S.out; omega) (by omega)).trans r2.out⟩
  obtain ⟨K3, d3, rfl, hd3, hm3, hK3⟩ := own_shape hO
  have hl3 := r3.lt
  have H71 : Hid (Calls Tryz.prog 71 #[.slice K3 m d3] w3 (ToldL n m t.kids w3)) := by
    rcases hK3 with rfl | ⟨g3, rfl⟩
    · have hm0 : m = 0 := by
        rcases hO.2 with ⟨_, h0⟩ | ⟨g', cap, cur, h', _⟩
        · exact h0
        · cases h'
      exact c71 n HT.out w3 none 0 m d3 t.kids xs (.inl hm0) (fun i hi => by omega) (fun i hi => by omega) (fun i hi => by omega) HLL.out (by have := HLL.out; omega) hd3
    · exact c71 n HT.out w3 _ g3 m d3 t.kids xs (.inr rfl) (fun i hi => by rw [hO.cellAt i (by omega), List.getD_eq_getElem?_getD, List.getElem?_eq_getElem (by have := hO.1; omega)]; rfl) (fun i hi => (HX.out i hi).below b3) (fun i hi => HOK'.out _ (getD_mem' (by have := HLL.out; omega))) HLL.out (by have := HLL.out; omega) hd3
  clear hO hU3 hb3 H72
  go_wp2_with fail
  refine H71.out.mono ?_
  rintro e w4 ⟨K', d', rfl, hmd', hkid, hB4⟩
  have r4 := r3.below hB4
  have b4 := below_trans' b3 hB4
  obtain ⟨f0, k0, f1, k1, f2, k2, f3, k3, f4, k4, f5, k5⟩ := facts36 r4 (.int .i64 9) (.bool false) (.slice none 0 0) (.int .u64 0) (.string ⟨#[]⟩)
  have R4 := Lib.hid r4
  have HK := Lib.hid hkid
  clear r4 hkid H71
  go_wp2_with fail
  refine bodyPost_ret (ret_row (set36 _ _ _ _ _ _ R4.out) rfl _ _ rfl Tryz.underlying36 rfl i36) rfl ?_
  have := told36 R4.out b4 hmd' hl3 HK.out HOK.out (by omega)
  rw [hk] at this
  exact ⟨_, rfl, this.1, this.2⟩
theorem flat_get (L : List (Nat × Value × Value)) (j : Nat) (k : Nat × Value × Value) (h : L[j]? = some k) : (L.flatMap fun k => [k.2.1, k.2.2])[2 * j]? = some k.2.1 ∧ (L.flatMap fun k => [k.2.1, k.2.2])[2 * j + 1]? = some k.2.2 := by
  induction L generalizing j with
  | nil => simp at h
  | cons a L ih =>
    cases j with
    | zero => simp at h; subst h; exact ⟨rfl, rfl⟩
    | succ j =>
      have := ih j (by simpa using h)
      rw [show 2 * (j + 1) = 2 * j + 1 + 1 from by omega]
      simpa using this
set_option maxHeartbeats 2000000 in
theorem c33_dict (n : Nat) (hT : TellC n) (t : VT) (b : Nat) (ini : Bool) (L : List (Nat × Value × Value)) (w : World) (hk : t.kind = 8) (hL : HtR w b ini 0 L) (hl : t.kids.length = 2 * L.length) (hx : ∀ j k, L[j]? = some k → SVp n w (t.kids.getD (2 * j) default) k.2.1 ∧ SVp n w (t.kids.getD (2 * j + 1) default) k.2.2) (hok : VT.ok (n + 1) t) :
    Calls Tryz.prog 33 #[.iface 115 (.pointer (some ⟨b, 0, none⟩))] w (ToldP (n + 1) t w) := by
  have ta121 := as115_121 (.pointer (some ⟨b, 0, none⟩))
  have ta77 := as115_77 (.pointer (some ⟨b, 0, none⟩))
  have ta126 := as115_126 (.pointer (some ⟨b, 0, none⟩))
  have ta129 := as115_129 (.pointer (some ⟨b, 0, none⟩))
  have ta131 := as115_131 (.pointer (some ⟨b, 0, none⟩))
  have ta132 := as115_132 (.pointer (some ⟨b, 0, none⟩))
  have ta112 := as115_112 (.pointer (some ⟨b, 0, none⟩))
  have ta114 := as115_114 (.pointer (some ⟨b, 0, none⟩))
  have ta115 := as115_115 (.pointer (some ⟨b, 0, none⟩))
  obtain ⟨-, hk16, n', en, hok'⟩ := VT.ok_ge hok (by omega)
  obtain rfl : n = n' := by omega
  obtain ⟨q, hq⟩ : ∃ q, L.length = q := ⟨_, rfl⟩
  have hl2 : t.kids.length = 2 * q := by rw [hl, hq]
  have hxx : ∀ i, i < 2 * q → SVp n w (t.kids.getD i default) ((flatL L q).getD i .nilIface) := fun i hi => by
    have ek : L[i / 2]? = some (L[i / 2]'(by omega)) := List.getElem?_eq_getElem _
    have h1 := flat_get L (i / 2) _ ek
    have h2 := hx (i / 2) _ ek
    have ef : flatL L q = L.flatMap fun k => [k.2.1, k.2.2] := by unfold flatL; rw [List.take_of_length_le (by omega)]
    have eg : ∀ l : List Value, l.getD i .nilIface = l[i]?.getD .nilIface := fun l => List.getD_eq_getElem?_getD ..
    rw [ef, eg]
    by_cases h0 : i % 2 = 0
    · have e : 2 * (i / 2) = i := by omega
      rw [e] at h1 h2
      rw [h1.1]; exact h2.1
    · have e : 2 * (i / 2) + 1 = i := by omega
      rw [e] at h1 h2
      rw [h1.2]; exact h2.2
  have hsh : ∀ (k : Nat × Value × Value), k ∈ L → (∃ T x, k.2.1 = .iface T x) ∧ ∃ T x, k.2.2 = .iface T x := fun k hk => by
    obtain ⟨j, hj⟩ := List.getElem?_of_mem hk
    exact ⟨(hx j k hj).1.shape, (hx j k hj).2.shape⟩
  obtain ⟨w1, hw1, b1, r1, s1⟩ : ∃ w1, w.alloc (.cells #[.int .i64 0, .bool false, .slice none 0 0, .int .u64 0, .string ⟨#[]⟩, .slice none 0 0] 36) = w1 ∧ Below w.heap.size w w1 ∧ RowB w1 w.heap.size #[.int .i64 0, .bool false, .slice none 0 0, .int .u64 0, .string ⟨#[]⟩, .slice none 0 0] 36 ∧ Hid (w1.heap.size = w.heap.size + 1) :=
    ⟨_, rfl, below_alloc' (Below.refl _ _) _, RowB.new w _ _, alloc_size _ _⟩
  have H74 := Lib.hid (c74 b q ini L w1 (hL.below b1) hq hsh)
  have HX := Lib.hid hxx
  have HOK := Lib.hid hok
  have HOK' := Lib.hid hok'
  have HT := Lib.hid hT
  have HLL := Lib.hid hl2
  have hl1 := r1.lt
  clear hx hxx hok hT hok' hl hl2 hL hq hsh
  go_enter Tryz.func33, Tryz.ntmps33
  go_wp2_with fail
  clear hw1
  refine H74.out.mono ?_
  rintro e w3 ⟨v, rfl, hO, hB3⟩
  have b3 := below_trans' b1 hB3
  have r3 := r1.below hB3
  obtain ⟨K3, d3, rfl, hd3, hm3, hK3⟩ := own_shape hO
  have hl3 := r3.lt
  have H71 : Hid (Calls Tryz.prog 71 #[.slice K3 (2 * q) d3] w3 (ToldL n (2 * q) t.kids w3)) := by
    rcases hK3 with rfl | ⟨g3, rfl⟩
    · have hm0 : 2 * q = 0 := by
        rcases hO.2 with ⟨_, h0⟩ | ⟨g', cap, cur, h', _⟩
        · exact h0
        · cases h'
      exact c71 n HT.out w3 none 0 (2 * q) d3 t.kids (flatL L q) (.inl hm0) (fun i hi => by omega) (fun i hi => by omega) (fun i hi => by omega) HLL.out (by have := HLL.out; omega) hd3
    · exact c71 n HT.out w3 _ g3 (2 * q) d3 t.kids (flatL L q) (.inr rfl) (fun i hi => by rw [hO.cellAt i (by omega), List.getD_eq_getElem?_getD, List.getElem?_eq_getElem (by have := hO.1; omega)]; rfl) (fun i hi => (HX.out i hi).below b3) (fun i hi => HOK'.out _ (getD_mem' (by have := HLL.out; omega))) HLL.out (by have := HLL.out; omega) hd3
  have R3 := Lib.hid r3
  clear hO H74 r3
  go_wp2_with fail
  refine H71.out.mono ?_
  rintro e w4 ⟨K', d', rfl, hmd', hkid, hB4⟩
  have r4 := R3.out.below hB4
  have b4 := below_trans' b3 hB4
  obtain ⟨f0, k0, f1, k1, f2, k2, f3, k3, f4, k4, f5, k5⟩ := facts36 r4 (.int .i64 8) (.bool false) (.slice none 0 0) (.int .u64 0) (.string ⟨#[]⟩)
  have R4 := Lib.hid r4
  have HK := Lib.hid hkid
  clear r4 hkid H71
  go_wp2_with fail
  refine bodyPost_ret (ret_row (set36 _ _ _ _ _ _ R4.out) rfl _ _ rfl Tryz.underlying36 rfl i36) rfl ?_
  have := told36 R4.out b4 hmd' hl3 HK.out HOK.out (by omega)
  rw [hk] at this
  exact ⟨_, rfl, this.1, this.2⟩
theorem told_flat {n : Nat} {t : VT} {w : World} {v : Value} (hok : VT.ok n t) (h2 : t.kind ≠ 2) (h6 : t.kind < 6) (h : Calls Tryz.prog 33 #[v] w fun e w' => e = .returned (.agg #[.int .i64 t.kind, .bool false, .slice none 0 0, .int .u64 (t.bits : Int), .string t.text, .slice none 0 0]) ∧ Below w.heap.size w w') :
    Calls Tryz.prog 33 #[v] w (ToldP n t w) := by
  refine h.mono ?_
  rintro e w' ⟨rfl, hB⟩
  refine ⟨_, rfl, ?_, hB⟩
  have e : t = ⟨t.kind, false, [], t.bits, t.text, []⟩ := by
    obtain ⟨k, ng, mg, u, tx, ks⟩ := t
    unfold VT.ok at hok
    simp only at hok h2 h6 ⊢
    obtain ⟨_, _, ⟨_, a, b, _, _, c⟩ | ⟨_, a, b, _, _, c⟩ | h | ⟨_, a, b, _, c⟩ | ⟨_, a, b, _, _, c⟩ | h⟩ := hok
    · rw [a, b, c]
    · rw [a, b, c]
    · exact absurd h.1 h2
    · rw [a, b, c]
    · rw [a, b, c]
    · omega
  have := VC.flat (n := n) (S := blks w.heap.size w'.heap.size) (w := w') t.kind t.bits t.text
  rwa [← e] at this
theorem tell_step (n : Nat) (ih : ∀ m, n = m + 1 → TellC m) : TellC n := by
  intro w t v hv hok
  have hr := hok
  have hup : 6 ≤ t.kind → ∃ m, n = m + 1 := fun h => by
    obtain ⟨_, _, m, e, _⟩ := VT.ok_ge hok h
    exact ⟨m, e⟩
  unfold VT.ok at hr
  cases hv.head with
  | none h =>
    refine told_flat hok (by omega) (by omega) ((c33_none w).mono ?_)
    rintro e w' ⟨rfl, hB⟩
    obtain ⟨_, _, ⟨_, _, _, h4, h5, _⟩ | h' | h' | h' | h' | h'⟩ := hr <;> try (exfalso; omega)
    refine ⟨?_, hB⟩
    rw [h, h4, h5]; rfl
  | bool h =>
    obtain ⟨_, _, h' | ⟨_, _, _, h4, h5, _⟩ | h' | h' | h' | h'⟩ := hr <;> try (exfalso; omega)
    rcases (show t.bits = 0 ∨ t.bits = 1 by omega) with hb | hb
    · rw [hb]
      refine told_flat hok (by omega) (by omega) ((c33_false w).mono ?_)
      rintro e w' ⟨rfl, hB⟩
      refine ⟨?_, hB⟩
      rw [h, hb, h5]; rfl
    · rw [hb]
      refine told_flat hok (by omega) (by omega) ((c33_true w).mono ?_)
      rintro e w' ⟨rfl, hB⟩
      refine ⟨?_, hB⟩
      rw [h, hb, h5]; rfl
  | int x h hx => exact c33_int n t x w h hx hok
  | float h =>
    refine told_flat hok (by omega) (by omega) ((c33_float t.bits w).mono ?_)
    rintro e w' ⟨rfl, hB⟩
    obtain ⟨_, _, h' | h' | h' | ⟨_, _, _, h5, _⟩ | h' | h'⟩ := hr <;> try (exfalso; omega)
    refine ⟨?_, hB⟩
    rw [h, h5]
  | string h =>
    refine told_flat hok (by omega) (by omega) ((c33_str t.text w).mono ?_)
    rintro e w' ⟨rfl, hB⟩
    obtain ⟨_, _, h' | h' | h' | h' | ⟨_, _, _, h4, h5, _⟩ | h'⟩ := hr <;> try (exfalso; omega)
    refine ⟨?_, hB⟩
    rw [h, h4]; rfl
  | bytes h =>
    refine told_flat hok (by omega) (by omega) ((c33_bytes t.text w).mono ?_)
    rintro e w' ⟨rfl, hB⟩
    obtain ⟨_, _, h' | h' | h' | h' | ⟨_, _, _, h4, h5, _⟩ | h'⟩ := hr <;> try (exfalso; omega)
    refine ⟨?_, hB⟩
    rw [h, h4]; rfl
  | list b K m d h hc hb hd hk =>
    obtain ⟨j, rfl⟩ := hup (by omega)
    exact c33_list j (ih j rfl) t b K m d w h hc hb hd hk hok
  | tuple K m d h hd hk =>
    obtain ⟨j, rfl⟩ := hup (by omega)
    exact c33_tuple j (ih j rfl) t K m d w h hd hk hok
  | dict b ini L h hL hl hk =>
    obtain ⟨j, rfl⟩ := hup (by omega)
    exact c33_dict j (ih j rfl) t b ini L w h hL hl hk hok
  | set b ini L h hL hl hk =>
    obtain ⟨j, rfl⟩ := hup (by omega)
    exact c33_set j (ih j rfl) t b ini L w h hL hl hk hok
theorem TellC_all (n : Nat) : TellC n := by
  induction n with
  | zero => exact tell_step 0 fun m h => by omega
  | succ n ih => exact tell_step (n + 1) fun m h => by cases h; exact ih
end Go.Proofs.YtpfihjkhgfoijaaGreatDoor
