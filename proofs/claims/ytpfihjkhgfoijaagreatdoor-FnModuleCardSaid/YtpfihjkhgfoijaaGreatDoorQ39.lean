/- laws: toldNames, sameNamed, the order of names; laws.sameModule. -/
import Derived.Test.YtpfihjkhgfoijaaGreatDoorQ38
import Derived.Test.YtpfihjkhgfoijaaGreatDoorQ31
import Derived.Test.YtpfihjkhgfoijaaGreatDoorQ29
set_option linter.unusedVariables false
set_option linter.unusedSimpArgs false
set_option maxRecDepth 100000
namespace Go.Proofs.YtpfihjkhgfoijaaGreatDoor
open Go.RowKit

/-- the i-th name with its tree, in a later world -/
theorem NmR.at {S : BS} {w wr : World} {K : Option Addr} {m : Nat} {L : List NT} (h : NmR S w K m L) (hS : ∀ k, S k → k < w.heap.size) (i : Nat) (hi : i < m) (hb : Below w.heap.size w wr) :
    ∃ g A a c Kt mt dt, K = some ⟨g, 0, none⟩ ∧ S g ∧ VC 3 S wr (L.getD i default).2 #[.int .i64 (L.getD i default).2.kind, .bool (L.getD i default).2.neg, .slice A a c, .int .u64 ((L.getD i default).2.bits : Int), .string (L.getD i default).2.text, .slice Kt mt dt] ∧
      wr.cell? ⟨g, i * 7, none⟩ = some (.string (L.getD i default).1) ∧ wr.cell? ⟨g, i * 7 + 1, none⟩ = some (.int .i64 (L.getD i default).2.kind) ∧ wr.cell? ⟨g, i * 7 + 2, none⟩ = some (.bool (L.getD i default).2.neg) ∧ wr.cell? ⟨g, i * 7 + 3, none⟩ = some (.slice A a c) ∧
      wr.cell? ⟨g, i * 7 + 4, none⟩ = some (.int .u64 ((L.getD i default).2.bits : Int)) ∧ wr.cell? ⟨g, i * 7 + 5, none⟩ = some (.string (L.getD i default).2.text) ∧ wr.cell? ⟨g, i * 7 + 6, none⟩ = some (.slice Kt mt dt) := by
  obtain ⟨g, rfl, hg, hk⟩ := h.2.resolve_left (by omega)
  obtain ⟨cs, h1, h2, h3⟩ := hk i hi
  obtain ⟨A, a, c, Kt, mt, dt, rfl, _⟩ := h3.head
  exact ⟨g, A, a, c, Kt, mt, dt, rfl, hg, h3.below hb hS, below_cell hb h1, below_cell hb (h2 0 (by omega)), below_cell hb (h2 1 (by omega)), below_cell hb (h2 2 (by omega)), below_cell hb (h2 3 (by omega)), below_cell hb (h2 4 (by omega)), below_cell hb (h2 5 (by omega))⟩
/-- append of one string, which lies in the block made last -/
theorem app9 {w : World} {base : Nat} {v : Value} {n : Nat} {xs : List Value} (hown : w.ownsRow base 9 1 v n xs) (s : ByteArray) (hn : n ≤ 500) (hbase : base ≤ w.heap.size) (ty : TypeId) :
    ∃ v' w', (Builtin.append_ #[25, 25] ty #[v, .slice (some ⟨w.heap.size, 0, none⟩) 1 1]).run Tryz.prog (w.alloc (.cells #[.string s] 9)) = .ok v' w' ∧ w'.ownsRow base 9 1 v' (n + 1) (xs ++ [.string s]) ∧ (w.alloc (.cells #[.string s] 9)).grownBy w' v.ownBlock := by
  obtain ⟨i, hi, hz0, hz1, hz2⟩ := info_parts info9
  obtain ⟨v', w', k1, k2, k3, _, k5⟩ := run_append_own_at (P := Tryz.prog) (w.alloc (.cells #[.string s] 9)) base 25 ty 9 i (.string ⟨#[]⟩) 1 16 Tryz.underlying25 hi hz0 hz1 hz2 rfl (by omega) v n xs (hown.alloc _) ⟨w.heap.size, 0, none⟩ 1 1 [.string s] (by simp) (cell_one_new _ _ _) (by simp [Value.oneCell']) (by simp only [maxLen]; omega) (by omega) (by rw [alloc_size]; omega)
  exact ⟨v', w', k1, k2, k3⟩
def NamesP (m : Nat) (L : List NT) (w : World) (e : Ending) (w' : World) : Prop :=
  ∃ K d g, e = .returned (.slice K m d) ∧ (m = 0 ∨ K = some ⟨g, 0, none⟩) ∧ (∀ i, i < m → w'.cell? ⟨g, i, none⟩ = some (.string (L.getD i default).1)) ∧ Below w.heap.size w w'
set_option maxHeartbeats 2000000 in
theorem c15 (S : BS) (K : Option Addr) (m d : Nat) (L : List NT) (w : World) (hR : NmR S w K m L) (hS : ∀ k, S k → k < w.heap.size) (hm : m ≤ 100) : Calls Tryz.prog 15 #[.slice K m d] w (NamesP m L w) := by
  have hl := hR.1
  have HR := Lib.hid hR
  have HL := Lib.hid hl
  clear hR hl
  go_enter Tryz.func15, Tryz.ntmps15
  go_wp2_with fail
  go_loopw [3, 8] (fun v3 vi wr => ∃ (i : Nat), i ≤ m ∧ vi = .int .i64 (i : Int) ∧ Hid (wr.ownsRow w.heap.size 9 1 v3 i ((L.take i).map fun x => .string x.1)) ∧ Hid (Below w.heap.size w wr)) (fun _ vi _ => m - (intOf vi).toNat)
  case atStart => exact ⟨0, by omega, rfl, by rw [List.take_zero]; exact World.ownsRow_nil _ _ _ _, Below.refl _ _⟩
  case round =>
    obtain ⟨i, hi, rfl, hO, hB⟩ := hrel
    by_cases hlt : i < m
    · obtain ⟨g, A, a, c, Kt, mt, dt, rfl, hSg, -, z0, z1, z2, z3, z4, z5, z6⟩ := HR.out.at hS i hlt hB.out
      have hiL : i < L.length := by rw [HL.out]; exact hlt
      have htk : Hid ((L.take (i + 1)).map (fun x => Value.string x.1) = (L.take i).map (fun x => Value.string x.1) ++ [.string (L.getD i default).1]) := by
        show _ = _
        rw [List.take_add_one, List.getElem?_eq_getElem hiL, List.map_append, List.getD_eq_getElem?_getD, List.getElem?_eq_getElem hiL]; rfl
      generalize L.getD i default = x at *
      obtain ⟨s, t⟩ := x
      have q1 : (i : Int) < (m : Int) := by omega
      obtain ⟨Kv, dv, rfl, -⟩ := own_shape hO.out
      have R1 := RowB.new wr #[.string s, .int .i64 t.kind, .bool t.neg, .slice A a c, .int .u64 (t.bits : Int), .string t.text, .slice Kt mt dt] 38
      have k0 := R1.cell 0 _ rfl
      have hbA : Below wr.heap.size wr (wr.alloc (.cells #[.string s, .int .i64 t.kind, .bool t.neg, .slice A a c, .int .u64 (t.bits : Int), .string t.text, .slice Kt mt dt] 38)) := below_alloc' (Below.refl _ _) _
      obtain ⟨v', w3, hrun, hO3, hgr⟩ := app9 (own_agree (W := wr.alloc (.cells #[.string s, .int .i64 t.kind, .bool t.neg, .slice A a c, .int .u64 (t.bits : Int), .string t.text, .slice Kt mt dt] 38)) hO.out (fun k _ h => hbA.block k h)) s (by omega) (Nat.le_trans hB.out.size hbA.size) 25
      have hob : ∀ q, (Value.slice Kv i dv).ownBlock = some q → w.heap.size ≤ q := fun q hq => (own_lt hO.out q hq).1
      have HB3 := Lib.hid (below_own (below_alloc' (below_trans' hB.out hbA) (.cells #[.string s] 9)) hgr hob)
      have HO3 := Lib.hid hO3
      have HRUN := Lib.hid hrun
      rw [alloc_size] at HRUN
      clear hrun hO3 hgr hob R1 hbA
      go_wp2_with (at_builtin; go_loud (refine wpl_append rfl (.tmp 12) (.tmp 15) 25 rfl _ _ _ _ rfl rfl HRUN.out ?_))
      go_round
      case rel => exact ⟨i + 1, by omega, by go_num, by show World.ownsRow _ _ _ _ _ _ _; rw [htk.out]; exact HO3.out, HB3.out⟩
      case measure => simp [intOf]; omega
    · obtain rfl : i = m := by omega
      have q1 : ¬ (i : Int) < (i : Int) := by omega
      obtain ⟨Kv, dv, rfl, hd1, hd2, hK⟩ := own_shape hO.out
      go_wp2_with fail
      go_ret
      have hT : L.take i = L := List.take_of_length_le (by rw [HL.out]; exact Nat.le_refl _)
      have hO' := hO.out
      rw [hT] at hO'
      rcases hK with rfl | ⟨g, rfl⟩
      · have h0 : i = 0 := by
          rcases hO'.2 with ⟨_, h0⟩ | ⟨g', cap, cur, h', _⟩
          · exact h0
          · cases h'
        exact ⟨none, dv, 0, rfl, .inl h0, fun j hj => by omega, hB.out⟩
      · refine ⟨_, dv, g, rfl, .inr rfl, fun j hj => ?_, hB.out⟩
        rw [hO'.cellAt j (by omega), List.getElem?_map, List.getD_eq_getElem?_getD, List.getElem?_eq_getElem (by rw [HL.out]; exact hj)]; rfl
set_option maxHeartbeats 4000000 in
theorem c16 (S S' : BS) (K K' : Option Addr) (m d d' : Nat) (L : List NT) (w : World) (hR : NmR S w K m L) (hR' : NmR S' w K' m L) (hS : ∀ k, S k → k < w.heap.size) (hS' : ∀ k, S' k → k < w.heap.size) (hm : m ≤ 100) (hok : ∀ x ∈ L, GoodT x.2 ∧ NmOk x.1) :
    Calls Tryz.prog 16 #[.slice K m d, .slice K' m d'] w fun e w' => e = .returned (.bool true) ∧ Below w.heap.size w w' := by
  have hl := hR.1
  have HR := Lib.hid hR
  have HR' := Lib.hid hR'
  have HL := Lib.hid hl
  have HOK := Lib.hid hok
  clear hR hR' hl hok
  go_enter Tryz.func16, Tryz.ntmps16
  go_wp2_with fail
  go_loopw [14] (fun vi wr => ∃ (i : Nat), i ≤ m ∧ vi = .int .i64 (i : Int) ∧ Hid (Below w.heap.size w wr)) (fun vi _ => m - (intOf vi).toNat)
  case atStart => exact ⟨0, by omega, rfl, Below.refl _ _⟩
  case round =>
    obtain ⟨i, hi, rfl, hB⟩ := hrel
    by_cases hlt : i < m
    · obtain ⟨g, A, a, c, Kt, mt, dt, rfl, hSg, hV, z0, z1, z2, z3, z4, z5, z6⟩ := HR.out.at hS i hlt hB.out
      obtain ⟨g', A', a', c', Kt', mt', dt', rfl, hSg', hV', y0, y1, y2, y3, y4, y5, y6⟩ := HR'.out.at hS' i hlt hB.out
      have hiL : i < L.length := by rw [HL.out]; exact hlt
      have hok := (HOK.out _ (getD_mem' hiL)).1.1
      generalize L.getD i default = x at *
      obtain ⟨s, t⟩ := x
      have q1 : (i : Int) < (m : Int) := by omega
      obtain ⟨wA, hwA, bA, rA⟩ : ∃ wA, wr.alloc (.cells #[.string s, .int .i64 t.kind, .bool t.neg, .slice A a c, .int .u64 (t.bits : Int), .string t.text, .slice Kt mt dt] 38) = wA ∧ Below wr.heap.size wr wA ∧ RowB wA wr.heap.size #[.string s, .int .i64 t.kind, .bool t.neg, .slice A a c, .int .u64 (t.bits : Int), .string t.text, .slice Kt mt dt] 38 :=
        ⟨_, rfl, below_alloc' (Below.refl _ _) _, RowB.new wr _ _⟩
      have bW := below_trans' (below_trans' hB.out bA) (bdrew1 wA)
      have bR := below_trans' bA (bdrew1 wA)
      have H36 := Lib.hid (SameC_all 3 wA.drew t _ _ S S' (hV.below bR (fun k hk => Nat.lt_of_lt_of_le (hS k hk) hB.out.size)) (hV'.below bR (fun k hk => Nat.lt_of_lt_of_le (hS' k hk) hB.out.size)) hok (fun k hk => Nat.lt_of_lt_of_le (hS k hk) bW.size) (fun k hk => Nat.lt_of_lt_of_le (hS' k hk) bW.size))
      have sA : wA.drew.cell? ⟨wr.heap.size, 0, none⟩ = some (.string s) ∧ wA.drew.cell? ⟨wr.heap.size, 1, none⟩ = some (.int .i64 t.kind) ∧ wA.drew.cell? ⟨wr.heap.size, 2, none⟩ = some (.bool t.neg) ∧ wA.drew.cell? ⟨wr.heap.size, 3, none⟩ = some (.slice A a c) ∧ wA.drew.cell? ⟨wr.heap.size, 4, none⟩ = some (.int .u64 (t.bits : Int)) ∧ wA.drew.cell? ⟨wr.heap.size, 5, none⟩ = some (.string t.text) ∧ wA.drew.cell? ⟨wr.heap.size, 6, none⟩ = some (.slice Kt mt dt) ∧ wA.drew.cell? ⟨g', i * 7, none⟩ = some (.string s) ∧ wA.drew.cell? ⟨g', i * 7 + 1, none⟩ = some (.int .i64 t.kind) ∧ wA.drew.cell? ⟨g', i * 7 + 2, none⟩ = some (.bool t.neg) ∧ wA.drew.cell? ⟨g', i * 7 + 3, none⟩ = some (.slice A' a' c') ∧ wA.drew.cell? ⟨g', i * 7 + 4, none⟩ = some (.int .u64 (t.bits : Int)) ∧ wA.drew.cell? ⟨g', i * 7 + 5, none⟩ = some (.string t.text) ∧ wA.drew.cell? ⟨g', i * 7 + 6, none⟩ = some (.slice Kt' mt' dt') := ⟨rA.drew.cell 0 _ rfl, rA.drew.cell 1 _ rfl, rA.drew.cell 2 _ rfl, rA.drew.cell 3 _ rfl, rA.drew.cell 4 _ rfl, rA.drew.cell 5 _ rfl, rA.drew.cell 6 _ rfl, below_cell bR y0, below_cell bR y1, below_cell bR y2, below_cell bR y3, below_cell bR y4, below_cell bR y5, below_cell bR y6⟩
      have sB := sA
      have BW := Lib.hid bW
      clear hV hV' hok bA rA bW bR y0 y1 y2 y3 y4 y5 y6
      go_upto_region 6 with (fail)
      clear hwA
      go_region_held3 (fun W => W.cell? ⟨wr.heap.size, 0, none⟩ = some (.string s) ∧ W.cell? ⟨wr.heap.size, 1, none⟩ = some (.int .i64 t.kind) ∧ W.cell? ⟨wr.heap.size, 2, none⟩ = some (.bool t.neg) ∧ W.cell? ⟨wr.heap.size, 3, none⟩ = some (.slice A a c) ∧ W.cell? ⟨wr.heap.size, 4, none⟩ = some (.int .u64 (t.bits : Int)) ∧ W.cell? ⟨wr.heap.size, 5, none⟩ = some (.string t.text) ∧ W.cell? ⟨wr.heap.size, 6, none⟩ = some (.slice Kt mt dt) ∧ W.cell? ⟨g', i * 7, none⟩ = some (.string s) ∧ W.cell? ⟨g', i * 7 + 1, none⟩ = some (.int .i64 t.kind) ∧ W.cell? ⟨g', i * 7 + 2, none⟩ = some (.bool t.neg) ∧ W.cell? ⟨g', i * 7 + 3, none⟩ = some (.slice A' a' c') ∧ W.cell? ⟨g', i * 7 + 4, none⟩ = some (.int .u64 (t.bits : Int)) ∧ W.cell? ⟨g', i * 7 + 5, none⟩ = some (.string t.text) ∧ W.cell? ⟨g', i * 7 + 6, none⟩ = some (.slice Kt' mt' dt')) (first | with_reducible exact sA | with_reducible exact sB)
        (first | (go_at_call 36; (with_reducible refine H36.out.mono ?_); rintro e w2 ⟨rfl, hB2⟩
                  have sB : w2.cell? ⟨wr.heap.size, 0, none⟩ = some (.string s) ∧ w2.cell? ⟨wr.heap.size, 1, none⟩ = some (.int .i64 t.kind) ∧ w2.cell? ⟨wr.heap.size, 2, none⟩ = some (.bool t.neg) ∧ w2.cell? ⟨wr.heap.size, 3, none⟩ = some (.slice A a c) ∧ w2.cell? ⟨wr.heap.size, 4, none⟩ = some (.int .u64 (t.bits : Int)) ∧ w2.cell? ⟨wr.heap.size, 5, none⟩ = some (.string t.text) ∧ w2.cell? ⟨wr.heap.size, 6, none⟩ = some (.slice Kt mt dt) ∧ w2.cell? ⟨g', i * 7, none⟩ = some (.string s) ∧ w2.cell? ⟨g', i * 7 + 1, none⟩ = some (.int .i64 t.kind) ∧ w2.cell? ⟨g', i * 7 + 2, none⟩ = some (.bool t.neg) ∧ w2.cell? ⟨g', i * 7 + 3, none⟩ = some (.slice A' a' c') ∧ w2.cell? ⟨g', i * 7 + 4, none⟩ = some (.int .u64 (t.bits : Int)) ∧ w2.cell? ⟨g', i * 7 + 5, none⟩ = some (.string t.text) ∧ w2.cell? ⟨g', i * 7 + 6, none⟩ = some (.slice Kt' mt' dt') := ⟨below_cell hB2 sA.1, below_cell hB2 sA.2.1, below_cell hB2 sA.2.2.1, below_cell hB2 sA.2.2.2.1, below_cell hB2 sA.2.2.2.2.1, below_cell hB2 sA.2.2.2.2.2.1, below_cell hB2 sA.2.2.2.2.2.2.1, below_cell hB2 sA.2.2.2.2.2.2.2.1, below_cell hB2 sA.2.2.2.2.2.2.2.2.1, below_cell hB2 sA.2.2.2.2.2.2.2.2.2.1, below_cell hB2 sA.2.2.2.2.2.2.2.2.2.2.1, below_cell hB2 sA.2.2.2.2.2.2.2.2.2.2.2.1, below_cell hB2 sA.2.2.2.2.2.2.2.2.2.2.2.2.1, below_cell hB2 sA.2.2.2.2.2.2.2.2.2.2.2.2.2⟩))
      all_goals
        have b2 := below_trans' BW.out hB2
        go_wp2_with fail
        go_round
        case rel => exact ⟨i + 1, by omega, by go_num, b2⟩
        case measure => simp [intOf]; omega
    · obtain rfl : i = m := by omega
      have q1 : ¬ (i : Int) < (i : Int) := by omega
      go_wp2_with fail
      go_ret
      exact ⟨rfl, hB.out⟩
theorem c10 (B g i j n c : Nat) (si sj : ByteArray) (w : World) (hi : i < n) (hj : j < n) (hn : n ≤ 1000) (h0 : w.cell? ⟨B, 0, none⟩ = some (.slice (some ⟨g, 0, none⟩) n c)) (h1 : w.cell? ⟨g, i * 7, none⟩ = some (.string si)) (h2 : w.cell? ⟨g, j * 7, none⟩ = some (.string sj)) :
    Calls Tryz.prog 10 #[.int .i64 (i : Int), .int .i64 (j : Int), .pointer (some ⟨B, 0, none⟩)] w fun e w' => e = .returned (.bool (Op.bytesLess si.toList sj.toList)) ∧ ∃ q, w' = w.drewN q := by
  have q1 : (i : Int) < (n : Int) := by omega
  have q2 : (j : Int) < (n : Int) := by omega
  go_enter Tryz.func10, Tryz.ntmps10
  go_wp2_with fail
  go_quiet (fail)
  go_wp2_with fail
  go_ret
  exact ⟨rfl, _, rfl⟩
end Go.Proofs.YtpfihjkhgfoijaaGreatDoor
namespace Go.Proofs.YtpfihjkhgfoijaaGreatDoor
open Go.RowKit

set_option maxHeartbeats 8000000 in
theorem c7 (S S' : BS) (T : Lib.PrintTabs) (nm : ByteArray) (gn m cap : Nat) (Km K : Option Addr) (dm d : Nat) (L : List NT) (w : World) (hR : NmR S w Km m L) (hR' : NmR S' w K m L) (hS : ∀ k, S k → k < w.heap.size) (hS' : ∀ k, S' k → k < w.heap.size) (hm : m ≤ 5) (hok : ∀ x ∈ L, GoodT x.2 ∧ NmOk x.1)
    (hnc : ∀ i, i < m → w.cell? ⟨gn, i, none⟩ = some (.string (L.getD i default).1)) (hnm : nm.size ≤ 100) (hT : Lib.PrintTabsAt 3 4 5 6 T w) (hU : Lib.Utf8Tabs 1 2 w) (q : ByteArray) (hq : q = strOfNums (Lib.quoteZ T nm)) :
    Calls Tryz.prog 7 #[.agg #[.string (mtx q), .string ⟨#[109, 111, 100, 117, 108, 101]⟩, .slice (some ⟨gn, 0, none⟩) m cap, .slice Km m dm, .int .i64 0, .bool true, .bool true], .string nm, .slice K m d] w fun e w' => e = .returned (.bool true) ∧ Below w.heap.size w w' := by
  have hqs : q.size ≤ 10 * nm.size + 2 := by rw [hq, strOfNums_size]; exact Lib.quoteZ_length_le T nm
  obtain ⟨wA, hwA, bA, rA⟩ : ∃ wA, w.alloc (.cells #[.string (mtx q), .string ⟨#[109, 111, 100, 117, 108, 101]⟩, .slice (some ⟨gn, 0, none⟩) m cap, .slice Km m dm, .int .i64 0, .bool true, .bool true] 27) = wA ∧ Below w.heap.size w wA ∧ RowB wA w.heap.size #[.string (mtx q), .string ⟨#[109, 111, 100, 117, 108, 101]⟩, .slice (some ⟨gn, 0, none⟩) m cap, .slice Km m dm, .int .i64 0, .bool true, .bool true] 27 := ⟨_, rfl, below_alloc' (Below.refl _ _) _, RowB.new w _ _⟩
  have bD := below_trans' bA (bdrew1 wA)
  have H13 : Hid (Calls Tryz.prog 13 #[.string nm] wA.drew fun e w' => e = .returned (.string q) ∧ Below wA.drew.heap.size wA.drew w') := by
    have := Tryz.strconv_Quote T nm wA.drew (by omega) (printTabs_below hT bD) (Utf8Tabs_below hU bD)
    rw [← hq] at this
    exact this
  have H15 : Hid (∀ W, Below w.heap.size w W → Calls Tryz.prog 15 #[.slice K m d] W (NamesP m L W)) := fun W hW => c15 S' K m d L W (hR'.below hS' hW) (fun k hk => Nat.lt_of_lt_of_le (hS' k hk) hW.size) (by omega)
  have H14 : Hid (∀ (W : World) (K3 : Option Addr) (d3 g3 : Nat), (m = 0 ∨ K3 = some ⟨g3, 0, none⟩) → Below w.heap.size w W → (∀ i, i < m → W.cell? ⟨g3, i, none⟩ = some (.string (L.getD i default).1)) → Calls Tryz.prog 14 #[.slice (some ⟨gn, 0, none⟩) m cap, .slice K3 m d3] W fun e w' => e = .returned (.bool true) ∧ W = w') :=
    fun W K3 d3 g3 h1 h2 h3 => c14 _ K3 gn g3 m cap d3 (fun i => (L.getD i default).1) W (.inr rfl) h1 (by omega) (fun i hi => below_cell h2 (hnc i hi)) h3
  have H16 : Hid (∀ W, Below w.heap.size w W → Calls Tryz.prog 16 #[.slice Km m dm, .slice K m d] W fun e w' => e = .returned (.bool true) ∧ Below W.heap.size W w') := fun W hW => c16 S S' Km K m dm d L W (hR.below hS hW) (hR'.below hS' hW) (fun k hk => Nat.lt_of_lt_of_le (hS k hk) hW.size) (fun k hk => Nat.lt_of_lt_of_le (hS' k hk) hW.size) (by omega) hok
  have c1 := mtx1 q (by omega)
  have c2 := mtx2 q (by omega)
  have sA : wA.drew.cell? ⟨w.heap.size, 0, none⟩ = some (.string (mtx q)) ∧ wA.drew.cell? ⟨w.heap.size, 1, none⟩ = some (.string ⟨#[109, 111, 100, 117, 108, 101]⟩) ∧ wA.drew.cell? ⟨w.heap.size, 2, none⟩ = some (.slice (some ⟨gn, 0, none⟩) m cap) ∧ wA.drew.cell? ⟨w.heap.size, 3, none⟩ = some (.slice Km m dm) ∧ wA.drew.cell? ⟨w.heap.size, 4, none⟩ = some (.int .i64 0) ∧ wA.drew.cell? ⟨w.heap.size, 5, none⟩ = some (.bool true) ∧ wA.drew.cell? ⟨w.heap.size, 6, none⟩ = some (.bool true) := ⟨rA.drew.cell 0 _ rfl, rA.drew.cell 1 _ rfl, rA.drew.cell 2 _ rfl, rA.drew.cell 3 _ rfl, rA.drew.cell 4 _ rfl, rA.drew.cell 5 _ rfl, rA.drew.cell 6 _ rfl⟩
  have sB := sA
  have sC := sA
  have sD := sA
  have BD := Lib.hid bD
  clear hR hR' hok hnc hT hU hq rA bA bD hqs
  go_enter Tryz.func7, Tryz.ntmps7
  go_upto_region 1 with (fail)
  clear hwA
  go_region_held3 (fun W => W.cell? ⟨w.heap.size, 0, none⟩ = some (.string (mtx q)) ∧ W.cell? ⟨w.heap.size, 1, none⟩ = some (.string ⟨#[109, 111, 100, 117, 108, 101]⟩) ∧ W.cell? ⟨w.heap.size, 2, none⟩ = some (.slice (some ⟨gn, 0, none⟩) m cap) ∧ W.cell? ⟨w.heap.size, 3, none⟩ = some (.slice Km m dm) ∧ W.cell? ⟨w.heap.size, 4, none⟩ = some (.int .i64 0) ∧ W.cell? ⟨w.heap.size, 5, none⟩ = some (.bool true) ∧ W.cell? ⟨w.heap.size, 6, none⟩ = some (.bool true)) (first | with_reducible exact sA | with_reducible exact sB | with_reducible exact sC | with_reducible exact sD)
    (first
      | (go_at_call 13; (with_reducible refine H13.out.mono ?_); rintro e w2 ⟨rfl, hB2⟩
         have B2 := Lib.hid (below_trans' BD.out hB2)
         have sB : w2.cell? ⟨w.heap.size, 0, none⟩ = some (.string (mtx q)) ∧ w2.cell? ⟨w.heap.size, 1, none⟩ = some (.string ⟨#[109, 111, 100, 117, 108, 101]⟩) ∧ w2.cell? ⟨w.heap.size, 2, none⟩ = some (.slice (some ⟨gn, 0, none⟩) m cap) ∧ w2.cell? ⟨w.heap.size, 3, none⟩ = some (.slice Km m dm) ∧ w2.cell? ⟨w.heap.size, 4, none⟩ = some (.int .i64 0) ∧ w2.cell? ⟨w.heap.size, 5, none⟩ = some (.bool true) ∧ w2.cell? ⟨w.heap.size, 6, none⟩ = some (.bool true) := ⟨below_cell hB2 sA.1, below_cell hB2 sA.2.1, below_cell hB2 sA.2.2.1, below_cell hB2 sA.2.2.2.1, below_cell hB2 sA.2.2.2.2.1, below_cell hB2 sA.2.2.2.2.2.1, below_cell hB2 sA.2.2.2.2.2.2⟩
         have hb2 := Lib.hid hB2
         clear hB2)
      | (go_at_call 15; (with_reducible refine (H15.out _ B2.out).mono ?_); rintro e w3 ⟨K3, d3, g3, rfl, hK3, hc3, hB3⟩
         have B3 := Lib.hid (below_trans' B2.out hB3)
         have sC : w3.cell? ⟨w.heap.size, 0, none⟩ = some (.string (mtx q)) ∧ w3.cell? ⟨w.heap.size, 1, none⟩ = some (.string ⟨#[109, 111, 100, 117, 108, 101]⟩) ∧ w3.cell? ⟨w.heap.size, 2, none⟩ = some (.slice (some ⟨gn, 0, none⟩) m cap) ∧ w3.cell? ⟨w.heap.size, 3, none⟩ = some (.slice Km m dm) ∧ w3.cell? ⟨w.heap.size, 4, none⟩ = some (.int .i64 0) ∧ w3.cell? ⟨w.heap.size, 5, none⟩ = some (.bool true) ∧ w3.cell? ⟨w.heap.size, 6, none⟩ = some (.bool true) := ⟨below_cell hB3 sB.1, below_cell hB3 sB.2.1, below_cell hB3 sB.2.2.1, below_cell hB3 sB.2.2.2.1, below_cell hB3 sB.2.2.2.2.1, below_cell hB3 sB.2.2.2.2.2.1, below_cell hB3 sB.2.2.2.2.2.2⟩
         have HC3 := Lib.hid hc3; have hb3 := Lib.hid hB3
         clear hB3 hc3)
      | (go_at_call 14; (with_reducible refine (H14.out _ K3 d3 g3 hK3 B3.out HC3.out).mono ?_); rintro e w9 ⟨rfl, rfl⟩)
      | (go_at_call 16; (with_reducible refine (H16.out _ B3.out).mono ?_); rintro e w4 ⟨rfl, hB4⟩
         have B4 := Lib.hid (below_trans' B3.out hB4)
         have sD : w4.cell? ⟨w.heap.size, 0, none⟩ = some (.string (mtx q)) ∧ w4.cell? ⟨w.heap.size, 1, none⟩ = some (.string ⟨#[109, 111, 100, 117, 108, 101]⟩) ∧ w4.cell? ⟨w.heap.size, 2, none⟩ = some (.slice (some ⟨gn, 0, none⟩) m cap) ∧ w4.cell? ⟨w.heap.size, 3, none⟩ = some (.slice Km m dm) ∧ w4.cell? ⟨w.heap.size, 4, none⟩ = some (.int .i64 0) ∧ w4.cell? ⟨w.heap.size, 5, none⟩ = some (.bool true) ∧ w4.cell? ⟨w.heap.size, 6, none⟩ = some (.bool true) := ⟨below_cell hB4 sC.1, below_cell hB4 sC.2.1, below_cell hB4 sC.2.2.1, below_cell hB4 sC.2.2.2.1, below_cell hB4 sC.2.2.2.2.1, below_cell hB4 sC.2.2.2.2.2.1, below_cell hB4 sC.2.2.2.2.2.2⟩
         clear hB4))
  all_goals
    go_wp2_with fail
    go_ret
    exact ⟨rfl, B4.out⟩
end Go.Proofs.YtpfihjkhgfoijaaGreatDoor
