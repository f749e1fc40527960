/- Contracts of hashes of keys: Tuple.Hash; every key's (given a float's); Contracts of comparisons of keys (given a float's as a Rat): sameType, sliceCompare, Tuple.CompareSameType, CompareDepth, EqualDepth, Equal; Contracts of comparisons of ints with floats (given a float's as a Rat); Contracts of comparisons of keys (given a float's as a Rat): sliceCompare, Tuple.CompareSameType, CompareDepth, EqualDepth, Equal; Contracts of comparisons of keys, put together (given a float's as a Rat): CompareDepth, Equal. -/
import Derived.Outline
import Derived.Test.YtpfihjkhgfoijaaGreatDoorQ16
import Derived.Test.YtpfihjkhgfoijaaGreatDoorQ17
import Derived.Test.YtpfihjkhgfoijaaGreatDoorQ20
import Derived.Test.YtpfihjkhgfoijaaGreatDoorQ22
import Derived.Stop.Asserts
set_option linter.unusedVariables false
set_option linter.unusedSimpArgs false
set_option maxRecDepth 100000
namespace Go.Proofs.YtpfihjkhgfoijaaGreatDoor
open Go.RowKit

/-- what is asked of a float's hash -/
def FHashC : Prop := ∀ (u : Nat) (w : World), u < 18446744073709551616 → Calls Tryz.prog 362 #[.float .f64 u] w (HashP w)
/-- every key of n levels can be hashed -/
def HashK (n : Nat) : Prop := ∀ (w : World) (t : VT) (v : Value), SVp n w t v → VT.ok n t → VT.key n t →
  ∃ T x K r, v = .iface T x ∧ Disp T x "Hash" K r ∧ ∀ W, Below w.heap.size w W → Calls Tryz.prog K #[r] W (HashP W)
theorem xor_rng (a b : Int) : 0 ≤ bits .xor .u32 a b ∧ bits .xor .u32 a b < 4294967296 := u32_rng _
set_option maxHeartbeats 2000000 in
theorem c316 (n : Nat) (ih : HashK n) (K : Option Addr) (m d : Nat) (ts : List VT) (w : World) (hk : ElR (SVp n w) w K m ts) (hmd : m ≤ d) (hm : m ≤ 16) (hts : ∀ t ∈ ts, VT.ok n t ∧ VT.key n t) :
    Calls Tryz.prog 316 #[.slice K m d] w (HashP w) := by
  have HK : Hid (∀ i, i < m → ∃ g T x K' r, K = some ⟨g, 0, none⟩ ∧ w.cell? ⟨g, i, none⟩ = some (.iface T x) ∧ Disp T x "Hash" K' r ∧ ∀ W, Below w.heap.size w W → Calls Tryz.prog K' #[r] W (HashP W)) := by
    intro i hi
    obtain ⟨g, e, hc⟩ := hk.2.resolve_left (by omega)
    obtain ⟨v, h1, h2⟩ := hc i hi
    have hmem : ts.getD i default ∈ ts := by
      rw [List.getD_eq_getElem?_getD, List.getElem?_eq_getElem (by rw [hk.1]; exact hi)]; exact List.getElem_mem (by rw [hk.1]; exact hi)
    obtain ⟨T, x, K', r, rfl, hD, hC⟩ := ih w _ v h2 (hts _ hmem).1 (hts _ hmem).2
    exact ⟨g, T, x, K', r, e, h1, hD, hC⟩
  clear hk hts ih
  go_enter Tryz.func316, Tryz.ntmps316
  go_wp2_with fail
  go_loopw [12, 4, 5] (fun vi v4 v5 wr => ∃ (i : Nat) (z y : Int), i ≤ m ∧ vi = .int .i64 (i : Int) ∧ 0 ≤ z ∧ z < 4294967296 ∧ v4 = .int .u32 z ∧ v5 = .int .u32 y ∧ Below w.heap.size w wr) (fun vi _ _ _ => m - (intOf vi).toNat)
  case atStart => exact ⟨0, 3430008, 1000003, by omega, rfl, by omega, by omega, rfl, rfl, Below.refl _ _⟩
  case round =>
    obtain ⟨i, z, y, hi, rfl, hz1, hz2, rfl, rfl, hB⟩ := hrel
    by_cases hlt : i < m
    · obtain ⟨g, T, x, K', r, rfl, hc, hD, hC⟩ := HK.out i hlt
      have hcw := below_cell hB hc
      have q1 : (i : Int) < (m : Int) := by omega
      have d1 := hD.ahead
      have d2 := hD.meth
      have d3 := hD.enter
      have HC := Lib.hid (hC wr hB)
      clear hc hC hD
      go_wp2_with fail
      refine HC.out.mono ?_
      rintro e w1 ⟨hh, hl, rfl, hB1⟩
      have b1 := below_trans' hB hB1
      clear d1 d2 d3 hcw
      go_wp2_with fail
      go_roundw
      case rel => exact ⟨i + 1, _, _, by omega, by go_num, (xor_rng _ _).1, (xor_rng _ _).2, rfl, rfl, b1⟩
      case measure => simp [intOf]; omega
    · have q1 : ¬ (i : Int) < (m : Int) := by omega
      go_wp2_with fail
      go_ret2
      exact ⟨z.toNat, by omega, by rw [Int.toNat_of_nonneg hz1]; rfl, hB⟩
theorem VT.key_ge {n : Nat} {t : VT} (hk : VT.key n t) (h : 6 ≤ t.kind) : t.kind = 7 ∧ ∃ n', n = n' + 1 ∧ ∀ k ∈ t.kids, VT.key n' k := by
  unfold VT.key at hk
  rcases hk with ⟨h0, h6⟩ | ⟨h7, hkid⟩
  · omega
  · cases n with
    | zero => exact hkid.elim
    | succ n => exact ⟨h7, n, rfl, hkid⟩
theorem VT.ok_bits {n : Nat} {t : VT} (h : VT.ok n t) : t.bits < 18446744073709551616 := by unfold VT.ok at h; exact h.2.1
theorem HashK_all (hF : FHashC) (n : Nat) : HashK n := by
  induction n with
  | zero =>
    intro w t v h hok hkey
    cases h.head with
    | none hk => exact ⟨_, _, _, _, rfl, disp121_Hash _, fun W _ => c346 _ W⟩
    | bool hk => exact ⟨_, _, _, _, rfl, disp77_Hash _, fun W _ => c299 _ W⟩
    | int x hk hx => exact ⟨_, _, _, _, rfl, disp126_Hash _, fun W hW => c353 8 _ _ W ((hx.toN (by omega)).below hW)⟩
    | float hk => exact ⟨_, _, _, _, rfl, disp129_Hash _, fun W _ => hF _ W (VT.ok_bits hok)⟩
    | string hk => exact ⟨_, _, _, _, rfl, disp131_Hash _, fun W _ => c374h _ (by have := (VT.ok_lt hok (by omega)).1; omega) W⟩
    | bytes hk => exact ⟨_, _, _, _, rfl, disp132_Hash _, fun W _ => c385 _ (by have := (VT.ok_lt hok (by omega)).1; omega) W⟩
    | list b K m d hk => obtain ⟨h7, _, e, _⟩ := VT.key_ge hkey (by omega); omega
    | tuple K m d hk => obtain ⟨h7, _, e, _⟩ := VT.key_ge hkey (by omega); omega
    | dict b ini L hk => obtain ⟨h7, _, e, _⟩ := VT.key_ge hkey (by omega); omega
    | set b ini L hk => obtain ⟨h7, _, e, _⟩ := VT.key_ge hkey (by omega); omega
  | succ n ih =>
    intro w t v h hok hkey
    cases h.head with
    | none hk => exact ⟨_, _, _, _, rfl, disp121_Hash _, fun W _ => c346 _ W⟩
    | bool hk => exact ⟨_, _, _, _, rfl, disp77_Hash _, fun W _ => c299 _ W⟩
    | int x hk hx => exact ⟨_, _, _, _, rfl, disp126_Hash _, fun W hW => c353 8 _ _ W ((hx.toN (by omega)).below hW)⟩
    | float hk => exact ⟨_, _, _, _, rfl, disp129_Hash _, fun W _ => hF _ W (VT.ok_bits hok)⟩
    | string hk => exact ⟨_, _, _, _, rfl, disp131_Hash _, fun W _ => c374h _ (by have := (VT.ok_lt hok (by omega)).1; omega) W⟩
    | bytes hk => exact ⟨_, _, _, _, rfl, disp132_Hash _, fun W _ => c385 _ (by have := (VT.ok_lt hok (by omega)).1; omega) W⟩
    | list b K m d hk => obtain ⟨h7, _, e, _⟩ := VT.key_ge hkey (by omega); omega
    | tuple K m d hk hd hkid =>
      obtain ⟨_, _, e, hkk⟩ := VT.key_ge hkey (by omega)
      cases e
      obtain ⟨_, h16, n', e, hok'⟩ := VT.ok_ge hok (by omega)
      cases e
      exact ⟨_, _, _, _, rfl, disp114_Hash _, fun W hW => c316 n ih K m d t.kids W (hkid.below hW fun _ _ h => SVp.below h hW) hd (by rw [← hkid.1]; exact h16) fun k hk => ⟨hok' k hk, hkk k hk⟩⟩
    | dict b ini L hk => obtain ⟨h7, _, e, _⟩ := VT.key_ge hkey (by omega); omega
    | set b ini L hk => obtain ⟨h7, _, e, _⟩ := VT.key_ge hkey (by omega); omega
end Go.Proofs.YtpfihjkhgfoijaaGreatDoor
namespace Go.Proofs.YtpfihjkhgfoijaaGreatDoor
open Go.RowKit

set_option maxHeartbeats 1000000 in
theorem c180 (T T' : TypeId) (x x' : Value) (K K' : Nat) (r r' : Value) (s s' : ByteArray) (D : Disp T x "Type" K r) (D' : Disp T' x' "Type" K' r') (w : World)
    (h : ∀ W, Calls Tryz.prog K #[r] W fun e w' => e = .returned (.string s) ∧ Below W.heap.size W w') (h' : ∀ W, Calls Tryz.prog K' #[r'] W fun e w' => e = .returned (.string s') ∧ Below W.heap.size W w') :
    Calls Tryz.prog 180 #[.iface T x, .iface T' x'] w fun e w' => e = .returned (.bool (s.toList == s'.toList)) ∧ Below w.heap.size w w' := by
  have d1 := D.ahead
  have d2 := D.meth
  have d3 := D.enter
  have d4 := D'.ahead
  have d5 := D'.meth
  have d6 := D'.enter
  have H := Lib.hid h
  have H' := Lib.hid h'
  clear h h' D D'
  go_enter Tryz.func180, Tryz.ntmps180
  go_wp2_with fail
  refine (H.out _).mono ?_
  rintro e w1 ⟨rfl, hB⟩
  go_wp2_with fail
  refine (H'.out _).mono ?_
  rintro e w2 ⟨rfl, hB2⟩
  have b2 := below_trans' hB hB2
  go_wp2_with fail
  go_ret
  exact ⟨rfl, b2⟩
/-- the names of types -/
def tyName : Int → ByteArray
  | 0 => ⟨#[78, 111, 110, 101, 84, 121, 112, 101]⟩
  | 1 => ⟨#[98, 111, 111, 108]⟩
  | 2 => ⟨#[105, 110, 116]⟩
  | 3 => ⟨#[102, 108, 111, 97, 116]⟩
  | 4 => ⟨#[115, 116, 114, 105, 110, 103]⟩
  | 5 => ⟨#[98, 121, 116, 101, 115]⟩
  | _ => ⟨#[116, 117, 112, 108, 101]⟩
theorem typeK {n : Nat} {w : World} {t : VT} {v : Value} (h : SVp n w t v) (hk : VT.key n t) : ∃ T x K r, v = .iface T x ∧ Disp T x "Type" K r ∧ ∀ W, Calls Tryz.prog K #[r] W fun e w' => e = .returned (.string (tyName t.kind)) ∧ Below W.heap.size W w' := by
  cases h.head with
  | none hk => exact ⟨_, _, _, _, rfl, disp121_Type _, fun W => by rw [hk]; exact c349 _ W⟩
  | bool hk => exact ⟨_, _, _, _, rfl, disp77_Type _, fun W => by rw [hk]; exact c302 _ W⟩
  | int x hk hx =>
    obtain ⟨i, p, rfl, _⟩ := (hx.toN (Nat.le_refl 8)).shape
    exact ⟨_, _, _, _, rfl, disp126_Type _, fun W => by rw [hk]; exact c356 _ _ W⟩
  | float hk => exact ⟨_, _, _, _, rfl, disp129_Type _, fun W => by rw [hk]; exact c365 _ W⟩
  | string hk => exact ⟨_, _, _, _, rfl, disp131_Type _, fun W => by rw [hk]; exact c377 _ W⟩
  | bytes hk => exact ⟨_, _, _, _, rfl, disp132_Type _, fun W => by rw [hk]; exact c388 _ W⟩
  | list b K m d h6 => obtain ⟨h7, _⟩ := VT.key_ge hk (by omega); omega
  | tuple K m d h7 => exact ⟨_, _, _, _, rfl, disp114_Type _, fun W => by rw [h7]; exact c319 _ W⟩
  | dict b ini L h8 => obtain ⟨h7, _⟩ := VT.key_ge hk (by omega); omega
  | set b ini L h9 => obtain ⟨h7, _⟩ := VT.key_ge hk (by omega); omega
theorem tyName_inj {a b : Int} (ha : 0 ≤ a) (ha2 : a < 6 ∨ a = 7) (hb : 0 ≤ b) (hb2 : b < 6 ∨ b = 7) : ((tyName a).toList == (tyName b).toList) = decide (a = b) := by
  rcases (by omega : a = 0 ∨ a = 1 ∨ a = 2 ∨ a = 3 ∨ a = 4 ∨ a = 5 ∨ a = 7) with h | h | h | h | h | h | h <;>
  rcases (by omega : b = 0 ∨ b = 1 ∨ b = 2 ∨ b = 3 ∨ b = 4 ∨ b = 5 ∨ b = 7) with h' | h' | h' | h' | h' | h' | h' <;>
  (subst h; subst h'; simp only [ByteArray.toList_eq]; decide)
set_option maxHeartbeats 2000000 in
theorem c171_cmp (P : Prop) (T : TypeId) (x y : Value) (K : Nat) (r : Value) (D : Int) (hD : 0 < D) (w : World) (hs : ∀ W, Calls Tryz.prog 180 #[.iface T x, .iface T y] W fun e w' => e = .returned (.bool true) ∧ Below W.heap.size W w')
    (ta : ∀ W, (Instr.typeAssert (.iface T x) 71 296 true).run Tryz.prog W = .ok (.tuple #[.iface T x, .bool true]) W) (hd : Disp T x "CompareSameType" K r)
    (hcf : ∀ W, (callFunc K #[r, .int .i8 37, .iface T y, .int .i64 D]).run Tryz.prog W = .ok (.enter K #[r, .int .i8 37, .iface T y, .int .i64 D]) W) (hc : ∀ W, Below w.heap.size w W → Calls Tryz.prog K #[r, .int .i8 37, .iface T y, .int .i64 D] W (CmpP P W)) :
    Calls Tryz.prog 171 #[.int .i8 37, .iface T x, .iface T y, .int .i64 D] w (CmpP P w) := by
  have d1 := hd.ahead
  have d2 := hd.meth
  have HS := Lib.hid hs
  have HC := Lib.hid hc
  have q1 : ¬ D < 1 := by omega
  clear hs hc hd
  go_enter Tryz.func171, Tryz.ntmps171
  go_wp2_with fail
  refine (HS.out _).mono ?_
  rintro e w1 ⟨rfl, hB⟩
  go_wp2_with fail
  refine (HC.out _ hB).mono ?_
  rintro e w2 ⟨b, rfl, hP, hB2⟩
  have b2 := below_trans' hB hB2
  have HP := Lib.hid hP
  clear hP d1 d2 ta hcf
  go_wp2_with fail
  go_ret2
  exact ⟨b, rfl, HP.out, b2⟩
set_option maxHeartbeats 2000000 in
theorem c171_tot (P : Prop) (T : TypeId) (x y : Value) (K : Nat) (r : Value) (D : Int) (hD : 0 < D) (w : World) (hs : ∀ W, Calls Tryz.prog 180 #[.iface T x, .iface T y] W fun e w' => e = .returned (.bool true) ∧ Below W.heap.size W w')
    (ta : ∀ W, (Instr.typeAssert (.iface T x) 71 296 true).run Tryz.prog W = .ok (.tuple #[.nilIface, .bool false]) W) (tb : ∀ W, (Instr.typeAssert (.iface T x) 71 300 true).run Tryz.prog W = .ok (.tuple #[.iface T x, .bool true]) W) (hd : Disp T x "Cmp" K r)
    (hcf : ∀ W, (callFunc K #[r, .iface T y, .int .i64 D]).run Tryz.prog W = .ok (.enter K #[r, .iface T y, .int .i64 D]) W) (hc : ∀ W, Below w.heap.size w W → Calls Tryz.prog K #[r, .iface T y, .int .i64 D] W (CmpI P W)) :
    Calls Tryz.prog 171 #[.int .i8 37, .iface T x, .iface T y, .int .i64 D] w (CmpP P w) := by
  have d1 := hd.ahead
  have d2 := hd.meth
  have HS := Lib.hid hs
  have HC := Lib.hid hc
  have q1 : ¬ D < 1 := by omega
  have H1 := Lib.hid (fun r W => c181 r W)
  clear hs hc hd
  go_enter Tryz.func171, Tryz.ntmps171
  go_wp2_with fail
  refine (HS.out _).mono ?_
  rintro e w1 ⟨rfl, hB⟩
  go_wp2_with fail
  refine (HC.out _ hB).mono ?_
  rintro e w2 ⟨b, rfl, hP, hB2⟩
  have b2 := below_trans' hB hB2
  have HP := Lib.hid hP
  clear hP d1 d2 ta tb hcf
  go_wp2_with fail
  refine (H1.out _ _).mono ?_
  rintro e w3 ⟨rfl, rfl⟩
  go_wp2_with fail
  go_ret2
  exact ⟨_, rfl, (fun h => HP.out (by simpa using h)), b2⟩
set_option maxHeartbeats 2000000 in
theorem c171_none (P : Prop) (hP : P) (D : Int) (hD : 0 < D) (w : World) (hs : ∀ W, Calls Tryz.prog 180 #[.iface 121 (.int .u8 0), .iface 121 (.int .u8 0)] W fun e w' => e = .returned (.bool true) ∧ Below W.heap.size W w') :
    Calls Tryz.prog 171 #[.int .i8 37, .iface 121 (.int .u8 0), .iface 121 (.int .u8 0), .int .i64 D] w (CmpP P w) := by
  have HS := Lib.hid hs
  have HP := Lib.hid hP
  have q1 : ¬ D < 1 := by omega
  have ta := as121_296 (.int .u8 0)
  have tb := as121_300 (.int .u8 0)
  have te : ∀ W, (binOp .eql 71 (.iface 121 (.int .u8 0)) (.iface 121 (.int .u8 0))).run Tryz.prog W = .ok (.bool true) W := fun W => by kernel_rfl
  clear hs hP
  go_enter Tryz.func171, Tryz.ntmps171
  go_wp2_with fail
  refine (HS.out _).mono ?_
  rintro e w1 ⟨rfl, hB⟩
  go_wp2_with fail
  go_ret2
  exact ⟨_, rfl, fun _ => HP.out, hB⟩
set_option maxHeartbeats 2000000 in
theorem c171_other (P : Prop) (T U : TypeId) (x y : Value) (z1 z2 : Value) (D : Int) (hD : 0 < D) (w : World) (hs : ∀ W, Calls Tryz.prog 180 #[.iface T x, .iface U y] W fun e w' => e = .returned (.bool false) ∧ Below W.heap.size W w')
    (ta : ∀ W, (Instr.typeAssert (.iface T x) 71 126 true).run Tryz.prog W = .ok (.tuple #[z1, .bool false]) W) (tb : ∀ W, (Instr.typeAssert (.iface T x) 71 129 true).run Tryz.prog W = .ok (.tuple #[z2, .bool false]) W) :
    Calls Tryz.prog 171 #[.int .i8 37, .iface T x, .iface U y, .int .i64 D] w (CmpP P w) := by
  have HS := Lib.hid hs
  have q1 : ¬ D < 1 := by omega
  clear hs
  go_enter Tryz.func171, Tryz.ntmps171
  go_wp2_with fail
  refine (HS.out _).mono ?_
  rintro e w1 ⟨rfl, hB⟩
  go_wp2_with fail
  go_ret2
  exact ⟨false, rfl, (fun h => by cases h), hB⟩
set_option maxHeartbeats 2000000 in
theorem c171_int (P : Prop) (U : TypeId) (i : Int) (p : Option Addr) (y z2 : Value) (D : Int) (hD : 0 < D) (w : World) (hs : ∀ W, Calls Tryz.prog 180 #[.iface 126 (.agg #[.int .i64 i, .pointer p]), .iface U y] W fun e w' => e = .returned (.bool false) ∧ Below W.heap.size W w')
    (tb : ∀ W, (Instr.typeAssert (.iface U y) 71 129 true).run Tryz.prog W = .ok (.tuple #[z2, .bool false]) W) :
    Calls Tryz.prog 171 #[.int .i8 37, .iface 126 (.agg #[.int .i64 i, .pointer p]), .iface U y, .int .i64 D] w (CmpP P w) := by
  have HS := Lib.hid hs
  have q1 : ¬ D < 1 := by omega
  have ta := as126_126 (.agg #[.int .i64 i, .pointer p])
  clear hs
  go_enter Tryz.func171, Tryz.ntmps171
  go_wp2_with fail
  refine (HS.out _).mono ?_
  rintro e w1 ⟨rfl, hB⟩
  go_wp2_with fail
  go_ret2
  exact ⟨false, rfl, (fun h => by cases h), below_alloc' hB _⟩
set_option maxHeartbeats 2000000 in
theorem c171_float (P : Prop) (U : TypeId) (u : Nat) (y : Value) (D : Int) (hD : 0 < D) (w : World) (hs : ∀ W, Calls Tryz.prog 180 #[.iface 129 (.float .f64 u), .iface U y] W fun e w' => e = .returned (.bool false) ∧ Below W.heap.size W w')
    (tb : ∀ W, (Instr.typeAssert (.iface U y) 71 126 true).run Tryz.prog W = .ok (.tuple #[.agg #[.int .i64 0, .pointer none], .bool false]) W) :
    Calls Tryz.prog 171 #[.int .i8 37, .iface 129 (.float .f64 u), .iface U y, .int .i64 D] w (CmpP P w) := by
  have HS := Lib.hid hs
  have q1 : ¬ D < 1 := by omega
  have ta := as129_126 (.float .f64 u)
  have tc := as129_129 (.float .f64 u)
  clear hs
  go_enter Tryz.func171, Tryz.ntmps171
  go_wp2_with fail
  refine (HS.out _).mono ?_
  rintro e w1 ⟨rfl, hB⟩
  go_wp2_with fail
  go_ret2
  exact ⟨false, rfl, (fun h => by cases h), below_alloc' hB _⟩
end Go.Proofs.YtpfihjkhgfoijaaGreatDoor
namespace Go.Proofs.YtpfihjkhgfoijaaGreatDoor
open Go.RowKit

/-- what is asked of a finite float as a Rat -/
def RatFC : Prop := ∀ (u : Nat) (w : World), u < 18446744073709551616 → fFin u → w.cell? ⟨9, 0, none⟩ = some (.int .i64 40) →
  Calls Tryz.prog 184 #[.float .f64 u] w fun e w' => ∃ b za nb, e = .returned (.pointer (some ⟨b, 0, none⟩)) ∧ RatR w' b za nb ∧ za * 2 ^ 1074 = fW u * (nb : Int) ∧ Below w.heap.size w w'
theorem RatR.pos {w : World} {b : Nat} {za : Int} {nb : Nat} (h : RatR w b za nb) : 0 < nb := by
  obtain ⟨_, _, _, _, _, _, _, _, _, _, _, _, _, h, _⟩ := h.out; exact h
theorem rat_eq {z za : Int} {nb u : Nat} (hf : fFin u) (hp : 0 < nb) (h1 : za * 2 ^ 1074 = fW u * (nb : Int)) (h2 : z * (nb : Int) = za * 1) : ifEq z u := by
  rw [ifEq_iff]
  refine ⟨hf, ?_⟩
  unfold isW
  rw [Int.mul_one] at h2
  rw [← h2, Int.mul_right_comm] at h1
  exact Int.eq_of_mul_eq_mul_right (by omega) h1
set_option maxHeartbeats 4000000 in
theorem c171_if (hR : RatFC) (z : Int) (v : Value) (u : Nat) (hu : u < 18446744073709551616) (D : Int) (hD : 0 < D) (w : World) (hv : IntV w z v) (hk : w.cell? ⟨9, 0, none⟩ = some (.int .i64 40))
    (hs : ∀ W, Calls Tryz.prog 180 #[.iface 126 v, .iface 129 (.float .f64 u)] W fun e w' => e = .returned (.bool false) ∧ Below W.heap.size W w') :
    Calls Tryz.prog 171 #[.int .i8 37, .iface 126 v, .iface 129 (.float .f64 u), .int .i64 D] w (CmpP (ifEq z u) w) := by
  obtain ⟨i, p, rfl, _⟩ := (hv.toN (Nat.le_refl 8)).shape
  have HV := Lib.hid hv
  have HS := Lib.hid hs
  have q1 : ¬ D < 1 := by omega
  have ta := as126_126 (.agg #[.int .i64 i, .pointer p])
  have tb := as129_129 (.float .f64 u)
  have HI := Lib.hid (fun W => c147 u 0 W hu)
  have H1 := Lib.hid (fun r W => c181 r W)
  have HU := Lib.hid hu
  have hkl : 9 < w.heap.size := cell_lt hk
  have HKK := Lib.hid hk
  clear hs hv hu hk
  by_cases hn : Ieee.double.order u u = some .eq
  · have he : (FloatKind.f64.format.order u u == some .eq) = true := by rw [show FloatKind.f64.format.order u u = Ieee.double.order u u from rfl, hn]; rfl
    have he2 : (FloatKind.f64.format.order u u != some .eq) = false := by rw [show FloatKind.f64.format.order u u = Ieee.double.order u u from rfl, hn]; rfl
    have HN := Lib.hid hn
    clear hn
    generalize hbg : (FloatKind.f64.format.order u 0 == some .gt) = bg at *
    go_enter Tryz.func171, Tryz.ntmps171
    go_wp2_with fail
    refine (HS.out _).mono ?_
    rintro e w1 ⟨rfl, hB⟩
    have r1 := RowB.new w1 #[.int .i64 i, .pointer p] 126
    have b2 := below_alloc' hB (.cells #[.int .i64 i, .pointer p] 126)
    have k0 := r1.cell 0 _ rfl
    have k1 := r1.cell 1 _ rfl
    have HB2 := Lib.hid b2
    clear r1 b2
    go_wp2_with fail
    refine (HI.out _).mono ?_
    rintro e w2 ⟨b, rfl, hf1, hf2, rfl⟩
    cases b
    · have hfin := hf2 rfl rfl HN.out
      have HR2 := Lib.hid (c182 _ z _ (HV.out.below HB2.out))
      have HF := Lib.hid hfin
      clear hf1 hf2 hfin
      go_wp2_with fail
      refine HR2.out.mono ?_
      rintro e w3 ⟨b1, rfl, hX, hB3⟩
      have b3 := below_trans' HB2.out hB3
      have HX := Lib.hid hX
      clear k0 k1 hX
      go_wp2_with fail
      refine (hR u w3 HU.out HF.out (below_cell b3 HKK.out)).mono ?_
      rintro e w4 ⟨b4, za, nb, rfl, hY, hz, hB4⟩
      have b5 := below_trans' b3 hB4
      have HY := Lib.hid hY
      have HZ := Lib.hid hz
      clear hY hz
      go_wp2_with fail
      refine (c183 b1 b4 z za 1 nb w4 (HX.out.below hB4) HY.out (below_cell b5 HKK.out)).mono ?_
      rintro e w5 ⟨r, rfl, h0, hB5⟩
      have b6 := below_trans' b5 hB5
      have H0 : Hid (r = 0 → ifEq z u) := fun h => rat_eq HF.out HY.out.pos HZ.out (h0 h)
      clear h0
      go_wp2_with fail
      refine (H1.out _ _).mono ?_
      rintro e w9 ⟨rfl, rfl⟩
      go_wp2_with fail
      go_ret2
      exact ⟨_, rfl, (fun h => H0.out (by simpa using h)), b6⟩
    · clear hf1 hf2
      have b6 := HB2.out
      cases bg
      all_goals
        go_wp2_with fail
        refine (H1.out _ _).mono ?_
        rintro e w9 ⟨rfl, rfl⟩
        go_wp2_with fail
        go_ret2
        exact ⟨_, rfl, (fun h => absurd h (by decide)), b6⟩
  · have he : (FloatKind.f64.format.order u u == some .eq) = false := by
      rw [beq_eq_false_iff_ne]; exact hn
    have he2 : (FloatKind.f64.format.order u u != some .eq) = true := by
      rw [bne_iff_ne]; exact hn
    clear hn
    go_enter Tryz.func171, Tryz.ntmps171
    go_wp2_with fail
    refine (HS.out _).mono ?_
    rintro e w1 ⟨rfl, hB⟩
    have b2 := below_alloc' hB (.cells #[.int .i64 i, .pointer p] 126)
    go_wp2_with fail
    refine (H1.out _ _).mono ?_
    rintro e w9 ⟨rfl, rfl⟩
    go_wp2_with fail
    go_ret2
    exact ⟨_, rfl, (fun h => absurd h (by decide)), b2⟩
set_option maxHeartbeats 4000000 in
theorem c171_fi (hR : RatFC) (z : Int) (v : Value) (u : Nat) (hu : u < 18446744073709551616) (D : Int) (hD : 0 < D) (w : World) (hv : IntV w z v) (hk : w.cell? ⟨9, 0, none⟩ = some (.int .i64 40))
    (hs : ∀ W, Calls Tryz.prog 180 #[.iface 129 (.float .f64 u), .iface 126 v] W fun e w' => e = .returned (.bool false) ∧ Below W.heap.size W w') :
    Calls Tryz.prog 171 #[.int .i8 37, .iface 129 (.float .f64 u), .iface 126 v, .int .i64 D] w (CmpP (ifEq z u) w) := by
  obtain ⟨i, p, rfl, _⟩ := (hv.toN (Nat.le_refl 8)).shape
  have HV := Lib.hid hv
  have HS := Lib.hid hs
  have q1 : ¬ D < 1 := by omega
  have ta := as129_126 (.float .f64 u)
  have tb := as129_129 (.float .f64 u)
  have tc := as126_126 (.agg #[.int .i64 i, .pointer p])
  have HI := Lib.hid (fun W => c147 u 0 W hu)
  have H1 := Lib.hid (fun r W => c181 r W)
  have HU := Lib.hid hu
  have HKK := Lib.hid hk
  clear hs hv hu hk
  by_cases hn : Ieee.double.order u u = some .eq
  · have he : (FloatKind.f64.format.order u u == some .eq) = true := by rw [show FloatKind.f64.format.order u u = Ieee.double.order u u from rfl, hn]; rfl
    have he2 : (FloatKind.f64.format.order u u != some .eq) = false := by rw [show FloatKind.f64.format.order u u = Ieee.double.order u u from rfl, hn]; rfl
    have HN := Lib.hid hn
    clear hn
    generalize hbg : (FloatKind.f64.format.order u 0 == some .gt) = bg at *
    go_enter Tryz.func171, Tryz.ntmps171
    go_wp2_with fail
    refine (HS.out _).mono ?_
    rintro e w1 ⟨rfl, hB⟩
    have r1 := RowB.new w1 #[.int .i64 i, .pointer p] 126
    have b2 := below_alloc' hB (.cells #[.int .i64 i, .pointer p] 126)
    have k0 := r1.cell 0 _ rfl
    have k1 := r1.cell 1 _ rfl
    have HB2 := Lib.hid b2
    clear r1 b2
    go_wp2_with fail
    refine (HI.out _).mono ?_
    rintro e w2 ⟨b, rfl, hf1, hf2, rfl⟩
    cases b
    · have hfin := hf2 rfl rfl HN.out
      have H2 : Hid (∀ W, Below w.heap.size w W → Calls Tryz.prog 182 #[.agg #[.int .i64 i, .pointer p]] W fun e w' => ∃ b, e = .returned (.pointer (some ⟨b, 0, none⟩)) ∧ RatR w' b z 1 ∧ Below W.heap.size W w') := fun W hW => c182 _ z _ (HV.out.below hW)
      have H4 : Hid (∀ W, Below w.heap.size w W → Calls Tryz.prog 184 #[.float .f64 u] W fun e w' => ∃ b za nb, e = .returned (.pointer (some ⟨b, 0, none⟩)) ∧ RatR w' b za nb ∧ za * 2 ^ 1074 = fW u * (nb : Int) ∧ Below W.heap.size W w') := fun W hW => hR u W HU.out hfin (below_cell hW HKK.out)
      have HF := Lib.hid hfin
      clear hf1 hf2 hfin
      go_upto_region 41 with (fail)
      have hX := trivial
      have hY := trivial
      have HZ := trivial
      have bb := below_trans' HB2.out (below_drew1 _)
      have sA : (World.drew (w1.alloc (.cells #[.int .i64 i, .pointer p] 126))).cell? ⟨w1.heap.size, 0, none⟩ = some (.int .i64 i) ∧ (World.drew (w1.alloc (.cells #[.int .i64 i, .pointer p] 126))).cell? ⟨w1.heap.size, 1, none⟩ = some (.pointer p) := ⟨k0, k1⟩
      clear k0 k1
      go_region_held3 (fun W => W.cell? ⟨w1.heap.size, 0, none⟩ = some (.int .i64 i) ∧ W.cell? ⟨w1.heap.size, 1, none⟩ = some (.pointer p))
        (with_reducible exact sA)
        (first
        | (go_at_call 182; (with_reducible refine (H2.out _ bb).mono ?_); rintro e w6 ⟨b1, rfl, hB1, hB6⟩; (first | have hY := RatR.below hY hB6 | skip); have hX := hB1; clear hB1; have sA := And.intro (below_cell hB6 sA.1) (below_cell hB6 sA.2); have bb := below_trans' bb hB6)
        | (go_at_call 184; (with_reducible refine (H4.out _ bb).mono ?_); rintro e w6 ⟨b4, za, nb, rfl, hB1, hz, hB6⟩; (first | have hX := RatR.below hX hB6 | skip); have hY := hB1; have HZ := Lib.hid hz; clear hB1 hz; have sA := And.intro (below_cell hB6 sA.1) (below_cell hB6 sA.2); have bb := below_trans' bb hB6)
        | (go_at_call 183; refine (c183 _ _ _ _ _ _ _ hY hX (below_cell bb HKK.out)).mono ?_; rintro e w7 ⟨r, rfl, h0, hB7⟩; have H0 := Lib.hid h0; clear h0; have sA := And.intro (below_cell hB7 sA.1) (below_cell hB7 sA.2); have bb := below_trans' bb hB7))
      all_goals
        have HQ : Hid (r = 0 → ifEq z u) := fun h => rat_eq HF.out hY.pos HZ.out (H0.out h).symm
        clear H0
        go_wp2_with fail
        refine (H1.out _ _).mono ?_
        rintro e w9 ⟨rfl, rfl⟩
        go_wp2_with fail
        go_ret2
        exact ⟨_, rfl, (fun h => HQ.out (by simpa using h)), bb⟩
    · clear hf1 hf2
      have b6 := HB2.out
      cases bg
      all_goals
        go_wp2_with fail
        refine (H1.out _ _).mono ?_
        rintro e w9 ⟨rfl, rfl⟩
        go_wp2_with fail
        go_ret2
        exact ⟨_, rfl, (fun h => absurd h (by decide)), b6⟩
  · have he : (FloatKind.f64.format.order u u == some .eq) = false := by
      rw [beq_eq_false_iff_ne]; exact hn
    have he2 : (FloatKind.f64.format.order u u != some .eq) = true := by
      rw [bne_iff_ne]; exact hn
    clear hn
    go_enter Tryz.func171, Tryz.ntmps171
    go_wp2_with fail
    refine (HS.out _).mono ?_
    rintro e w1 ⟨rfl, hB⟩
    have b2 := below_alloc' hB (.cells #[.int .i64 i, .pointer p] 126)
    go_wp2_with fail
    refine (H1.out _ _).mono ?_
    rintro e w9 ⟨rfl, rfl⟩
    go_wp2_with fail
    go_ret2
    exact ⟨_, rfl, (fun h => absurd h (by decide)), b2⟩
end Go.Proofs.YtpfihjkhgfoijaaGreatDoor
namespace Go.Proofs.YtpfihjkhgfoijaaGreatDoor
open Go.RowKit

/-- what is asked of CompareDepth, of keys of n levels -/
def CmpC (n : Nat) : Prop := ∀ (w : World) (a b : VT) (x y : Value) (D : Int), SVp n w a x → SVp n w b y → VT.ok n a → VT.ok n b → VT.key n a → VT.key n b → (n : Int) < D → D ≤ 10 → w.cell? ⟨9, 0, none⟩ = some (.int .i64 40) →
  Calls Tryz.prog 171 #[.int .i8 37, x, y, .int .i64 D] w (CmpP (EqT n a b) w)
theorem c154 (x y : Value) (D : Int) (P : Prop) (w : World) (h : Calls Tryz.prog 171 #[.int .i8 37, x, y, .int .i64 D] w (CmpP P w)) : Calls Tryz.prog 154 #[x, y, .int .i64 D] w (CmpP P w) := by
  have H := Lib.hid h
  clear h
  go_enter Tryz.func154, Tryz.ntmps154
  go_wp2_with fail
  refine H.out.mono ?_
  rintro e w1 ⟨r, rfl, hP, hB⟩
  have HP := Lib.hid hP
  clear hP
  go_wp2_with fail
  go_ret2
  exact ⟨r, rfl, HP.out, hB⟩
set_option maxHeartbeats 4000000 in
theorem c313 (n : Nat) (ih : CmpC n) (K K' : Option Addr) (m m' d d' : Nat) (ts ts' : List VT) (D : Int) (hD : (n : Int) + 1 < D) (hD2 : D ≤ 10) (w : World) (hk : ElR (SVp n w) w K m ts) (hk' : ElR (SVp n w) w K' m' ts') (hmd : m ≤ d) (hmd' : m' ≤ d') (hm : m ≤ 16) (hm' : m' ≤ 16)
    (hts : ∀ t ∈ ts, VT.ok n t ∧ VT.key n t) (hts' : ∀ t ∈ ts', VT.ok n t ∧ VT.key n t) (hg : w.cell? ⟨9, 0, none⟩ = some (.int .i64 40)) :
    Calls Tryz.prog 313 #[.int .i8 37, .slice K m d, .slice K' m' d', .int .i64 D] w (CmpP (m = m' ∧ ∀ i, i < m → EqT n (ts.getD i default) (ts'.getD i default)) w) := by
  have H1 := Lib.hid (fun r W => c181 r W)
  have qw : IntKind.i64.wrap ((m : Int) - (m' : Int)) = (m : Int) - (m' : Int) := by rw [IntKind.wrap_i64]; omega
  by_cases hmm : m = m'
  · subst hmm
    have HK : Hid (∀ i, i < m → ∃ g g' T T' x x', K = some ⟨g, 0, none⟩ ∧ K' = some ⟨g', 0, none⟩ ∧ w.cell? ⟨g, i, none⟩ = some (.iface T x) ∧ w.cell? ⟨g', i, none⟩ = some (.iface T' x') ∧
        ∀ W, Below w.heap.size w W → Calls Tryz.prog 154 #[.iface T x, .iface T' x', .int .i64 (D - 1)] W (CmpP (EqT n (ts.getD i default) (ts'.getD i default)) W)) := by
      intro i hi
      obtain ⟨g, e, hc⟩ := hk.2.resolve_left (by omega)
      obtain ⟨g', e', hc'⟩ := hk'.2.resolve_left (by omega)
      obtain ⟨v, h1, h2⟩ := hc i hi
      obtain ⟨v', h1', h2'⟩ := hc' i hi
      obtain ⟨T, x, rfl⟩ := h2.shape
      obtain ⟨T', x', rfl⟩ := h2'.shape
      have k1 := hts (ts.getD i default) (by
        rw [List.getD_eq_getElem?_getD, List.getElem?_eq_getElem (by rw [hk.1]; exact hi)]; exact List.getElem_mem (by rw [hk.1]; exact hi))
      have k2 := hts' (ts'.getD i default) (by
        rw [List.getD_eq_getElem?_getD, List.getElem?_eq_getElem (by rw [hk'.1]; exact hi)]; exact List.getElem_mem (by rw [hk'.1]; exact hi))
      exact ⟨g, g', T, T', x, x', e, e', h1, h1', fun W hW => c154 _ _ _ _ W (ih W _ _ _ _ (D - 1) (h2.below hW) (h2'.below hW) k1.1 k2.1 k1.2 k2.2 (by omega) (by omega) (below_cell hW hg))⟩
    have qd : IntKind.i64.wrap (D - 1) = D - 1 := by rw [IntKind.wrap_i64]; omega
    clear hk hk' hts hts' ih hg
    go_enter Tryz.func313, Tryz.ntmps313
    go_wp2_with fail
    go_loopw [10] (fun vi wr => ∃ (i : Nat), i ≤ m ∧ vi = .int .i64 (i : Int) ∧ Below w.heap.size w wr ∧ Hid (∀ j, j < i → EqT n (ts.getD j default) (ts'.getD j default))) (fun vi _ => m - (intOf vi).toNat)
    case atStart => exact ⟨0, by omega, rfl, Below.refl _ _, fun j hj => by omega⟩
    case round =>
      obtain ⟨i, hi, rfl, hB, hall⟩ := hrel
      by_cases hlt : i < m
      · obtain ⟨g, g', T, T', x, x', rfl, rfl, hc, hc', hC⟩ := HK.out i hlt
        have k0 := below_cell hB hc
        have k1 := below_cell hB hc'
        have q1 : (i : Int) < (m : Int) := by omega
        have HC := Lib.hid (hC wr.drew (below_trans' hB (below_drew1 wr)))
        have bb := below_trans' hB (below_drew1 wr)
        have sA : wr.drew.cell? ⟨g, i, none⟩ = some (.iface T x) ∧ wr.drew.cell? ⟨g', i, none⟩ = some (.iface T' x') := ⟨k0, k1⟩
        clear hc hc' hC k0 k1
        go_upto_region 6 with (fail)
        go_region_held3 (fun W => W.cell? ⟨g, i, none⟩ = some (.iface T x) ∧ W.cell? ⟨g', i, none⟩ = some (.iface T' x'))
          (with_reducible exact sA)
          (first
          | (go_at_call 154; (try rw [qd]); (with_reducible refine HC.out.mono ?_); rintro e w6 ⟨r, rfl, hP, hB6⟩; have HP := Lib.hid hP; clear hP; have sA := And.intro (below_cell hB6 sA.1) (below_cell hB6 sA.2); have bb := below_trans' bb hB6))
        all_goals
          cases r
          · go_wp2_with fail
            go_ret2
            exact ⟨false, rfl, (fun h => by cases h), bb⟩
          · go_wp2_with fail
            go_roundw
            case rel =>
              refine ⟨i + 1, by omega, by go_num, bb, fun j hj => ?_⟩
              rcases Nat.lt_or_eq_of_le (Nat.le_of_lt_succ hj) with h | h
              · exact hall.out j h
              · rw [h]; exact HP.out rfl
            case measure => simp [intOf]; omega
      · have q1 : ¬ (i : Int) < (m : Int) := by omega
        have him : i = m := by omega
        subst him
        have HA := Lib.hid hall
        go_wp2_with fail
        refine (H1.out _ _).mono ?_
        rintro e w9 ⟨rfl, rfl⟩
        go_wp2_with fail
        go_ret2
        exact ⟨_, rfl, (fun _ => ⟨by trivial, hall.out⟩), hB⟩
  · have qn : ((m : Int) == (m' : Int)) = false := by rw [beq_eq_false_iff_ne]; omega
    clear hk hk' hts hts' ih hg
    go_enter Tryz.func313, Tryz.ntmps313
    go_wp2_with fail
    go_ret2
    exact ⟨false, rfl, (fun h => by cases h), Below.refl _ _⟩
theorem c314 (K K' : Option Addr) (m m' d d' : Nat) (D : Int) (P : Prop) (w : World) (h : ∀ W, Below w.heap.size w W → Calls Tryz.prog 313 #[.int .i8 37, .slice K m d, .slice K' m' d', .int .i64 D] W (CmpP P W)) :
    Calls Tryz.prog 314 #[.slice K m d, .int .i8 37, .iface 114 (.slice K' m' d'), .int .i64 D] w (CmpP P w) := by
  have H := Lib.hid h
  have ta := as114_114f (.slice K' m' d')
  clear h
  go_enter Tryz.func314, Tryz.ntmps314
  go_wp2_with fail
  refine (H.out _ (Below.refl _ _)).mono ?_
  rintro e w1 ⟨r, rfl, hP, hB⟩
  have HP := Lib.hid hP
  clear hP
  go_wp2_with fail
  go_ret2
  exact ⟨r, rfl, HP.out, hB⟩
theorem CmpP.imp {P Q : Prop} {w w' : World} {e : Ending} (h : CmpP P w e w') (hPQ : P → Q) : CmpP Q w e w' := by
  obtain ⟨r, e, hP, hB⟩ := h; exact ⟨r, e, fun h => hPQ (hP h), hB⟩
theorem sameK {n : Nat} {w : World} {a b : VT} {x y : Value} (ha : SVp n w a x) (hb : SVp n w b y) (ka : VT.key n a) (kb : VT.key n b) (W : World) :
    Calls Tryz.prog 180 #[x, y] W fun e w' => e = .returned (.bool (decide (a.kind = b.kind))) ∧ Below W.heap.size W w' := by
  obtain ⟨T, x', K, r, rfl, hD, hC⟩ := typeK ha ka
  obtain ⟨T', y', K', r', rfl, hD', hC'⟩ := typeK hb kb
  have rng : ∀ {t : VT}, VT.key n t → 0 ≤ t.kind ∧ (t.kind < 6 ∨ t.kind = 7) := fun {t} h => by
    by_cases h6 : t.kind < 6
    · unfold VT.key at h
      rcases h with h | h
      · exact ⟨h.1, .inl h.2⟩
      · omega
    · have := (VT.key_ge h (by omega)).1; exact ⟨by omega, .inr this⟩
  have := c180 T T' x' y' K K' r r' _ _ hD hD' W hC hC'
  rw [tyName_inj (rng ka).1 (rng ka).2 (rng kb).1 (rng kb).2] at this
  exact this
theorem VT.ok_text {n : Nat} {t : VT} (h : VT.ok n t) (hk : t.kind ≠ 4) (hk5 : t.kind ≠ 5) : t.text = ⟨#[]⟩ := by
  unfold VT.ok at h
  obtain ⟨_, _, h⟩ := h
  rcases h with ⟨_, _, _, _, h, _⟩ | ⟨_, _, _, _, h, _⟩ | ⟨_, _, _, _, _, h, _⟩ | ⟨_, _, _, h, _⟩ | ⟨h1, _⟩ | ⟨_, _, _, _, _, h, _⟩
  · exact h
  · exact h
  · exact h
  · exact h
  · omega
  · exact h
theorem VT.ok_bool {n : Nat} {t : VT} (h : VT.ok n t) (hk : t.kind = 1) : t.bits ≤ 1 := by
  unfold VT.ok at h
  obtain ⟨_, _, h⟩ := h
  rcases h with ⟨h1, _⟩ | ⟨h1, _, _, h, _⟩ | ⟨h1, _⟩ | ⟨h1, _⟩ | ⟨h1, _⟩ | ⟨h1, _⟩ <;> first | exact h | omega
theorem EqT.flat {n : Nat} {a b : VT} (ha : VT.ok n a) (hb : VT.ok n b) (hk : a.kind = b.kind) (h6 : a.kind < 6) (hn : a.kind ≠ 2) (hn3 : a.kind ≠ 3) (h1 : a.kind = 1 → a.bits = b.bits) (ht : a.text = b.text) : EqT n a b := by
  have ka := (VT.ok_lt ha h6).2.1
  have kb := (VT.ok_lt hb (by omega)).2.1
  unfold EqT
  refine .inr ⟨hk, ?_, h1, ht, by rw [ka, kb], ?_⟩
  · rintro (h | h)
    · exact hn h
    · exact hn3 h
  · cases n with
    | zero => trivial
    | succ n => intro i hi; rw [ka] at hi; simp at hi
theorem EqT.num {n : Nat} {a b : VT} (h : numEq a b) : EqT n a b := by unfold EqT; exact .inl h
end Go.Proofs.YtpfihjkhgfoijaaGreatDoor
namespace Go.Proofs.YtpfihjkhgfoijaaGreatDoor
open Go.RowKit

theorem CmpI.imp {P Q : Prop} {w w' : World} {e : Ending} (h : CmpI P w e w') (hPQ : P → Q) : CmpI Q w e w' := by
  obtain ⟨r, e, hP, hB⟩ := h; exact ⟨r, e, fun h => hPQ (hP h), hB⟩
theorem bool_bits {x y : Nat} (h : (x == 1) = (y == 1)) (hx : x ≤ 1) (hy : y ≤ 1) : x = y := by
  rcases (by omega : x = 0 ∨ x = 1) with rfl | rfl <;> rcases (by omega : y = 0 ∨ y = 1) with rfl | rfl <;> simp_all
theorem run_eql_iface_str (w : World) (a b : ByteArray) : ∃ r : Bool, (binOp .eql 71 (.iface 131 (.string a)) (.iface 131 (.string b))).run Tryz.prog w = .ok (.bool r) w ∧ (r = true → a = b) := by
  have hc : (Tryz.prog.info? 131).map (·.comparable) = some true := by kernel_rfl
  cases hi : Tryz.prog.info? 131 with
  | none => simp [hi] at hc
  | some i =>
    have hcc : i.comparable = true := by simpa [hi] using hc
    have h : ∀ d : Nat, (Op.equalIn (d + 2) 71 (.iface 131 (.string a)) (.iface 131 (.string b))).run Tryz.prog w = .ok (a == b) w := fun d => by
      simp [Op.equalIn, run_underlying Tryz.underlying71, run_underlying Tryz.underlying131, typeInfo, hi, hcc]
    refine ⟨a == b, ?_, fun h => by
      have h' : (a.data == b.data) = true := h
      have := eq_of_beq h'
      cases a; cases b
      simp at this
      rw [this]⟩
    simp only [binOp]
    simp [Op.equal, Op.maxDepth, h 9998]
set_option maxHeartbeats 4000000 in
theorem CmpC_step (hR : RatFC) (n : Nat) (ih : ∀ m, n = m + 1 → CmpC m) : CmpC n := by
  intro w a b x y D ha hb oa ob ka kb hD hD2 hg
  have hDp : 0 < D := by omega
  have hst : a.kind = b.kind → ∀ W, Calls Tryz.prog 180 #[x, y] W fun e w' => e = .returned (.bool true) ∧ Below W.heap.size W w' := fun hk W => by
    have := sameK ha hb ka kb W
    rw [decide_eq_true hk] at this; exact this
  have hsf : a.kind ≠ b.kind → ∀ W, Calls Tryz.prog 180 #[x, y] W fun e w' => e = .returned (.bool false) ∧ Below W.heap.size W w' := fun hk W => by
    have := sameK ha hb ka kb W
    rw [decide_eq_false hk] at this; exact this
  have ga := ha.head
  have gb := hb.head
  clear ha hb
  cases ga with
  | none h1 =>
    cases gb with
    | none h2 =>
      exact c171_none (EqT n a b) (EqT.flat oa ob (by omega) (by omega) (by omega) (by omega) (fun h => by omega) (by rw [VT.ok_text oa (by omega) (by omega), VT.ok_text ob (by omega) (by omega)])) D hDp w (hst (by omega))
    | bool h2 =>
      exact c171_other _ 121 77 _ _ _ _ D hDp w (hsf (by omega)) (fun W => as121_126 _ W) (fun W => as121_129 _ W)
    | int x2 h2 i2 =>
      exact c171_other _ 121 126 _ _ _ _ D hDp w (hsf (by omega)) (fun W => as121_126 _ W) (fun W => as121_129 _ W)
    | float h2 =>
      exact c171_other _ 121 129 _ _ _ _ D hDp w (hsf (by omega)) (fun W => as121_126 _ W) (fun W => as121_129 _ W)
    | string h2 =>
      exact c171_other _ 121 131 _ _ _ _ D hDp w (hsf (by omega)) (fun W => as121_126 _ W) (fun W => as121_129 _ W)
    | bytes h2 =>
      exact c171_other _ 121 132 _ _ _ _ D hDp w (hsf (by omega)) (fun W => as121_126 _ W) (fun W => as121_129 _ W)
    | tuple K2 m2 d2 h2 l2 e2 =>
      exact c171_other _ 121 114 _ _ _ _ D hDp w (hsf (by omega)) (fun W => as121_126 _ W) (fun W => as121_129 _ W)
    | list b K m d h6 => have := (VT.key_ge kb (by omega)).1; omega
    | dict b ini L h6 => have := (VT.key_ge kb (by omega)).1; omega
    | set b ini L h6 => have := (VT.key_ge kb (by omega)).1; omega
  | bool h1 =>
    cases gb with
    | none h2 =>
      exact c171_other _ 77 121 _ _ _ _ D hDp w (hsf (by omega)) (fun W => as77_126 _ W) (fun W => as77_129 _ W)
    | bool h2 =>
      exact c171_cmp (EqT n a b) 77 _ _ 297 _ D hDp w (hst (by omega)) (fun W => as77_296 _ W) (disp77_CompareSameType _) (fun W => by kernel_rfl) (fun W _ => (c297 _ _ _ W).mono fun e w' h => h.imp fun hb => EqT.flat oa ob (by omega) (by omega) (by omega) (by omega) (fun _ => bool_bits hb (VT.ok_bool oa (by omega)) (VT.ok_bool ob (by omega))) (by rw [VT.ok_text oa (by omega) (by omega), VT.ok_text ob (by omega) (by omega)]))
    | int x2 h2 i2 =>
      exact c171_other _ 77 126 _ _ _ _ D hDp w (hsf (by omega)) (fun W => as77_126 _ W) (fun W => as77_129 _ W)
    | float h2 =>
      exact c171_other _ 77 129 _ _ _ _ D hDp w (hsf (by omega)) (fun W => as77_126 _ W) (fun W => as77_129 _ W)
    | string h2 =>
      exact c171_other _ 77 131 _ _ _ _ D hDp w (hsf (by omega)) (fun W => as77_126 _ W) (fun W => as77_129 _ W)
    | bytes h2 =>
      exact c171_other _ 77 132 _ _ _ _ D hDp w (hsf (by omega)) (fun W => as77_126 _ W) (fun W => as77_129 _ W)
    | tuple K2 m2 d2 h2 l2 e2 =>
      exact c171_other _ 77 114 _ _ _ _ D hDp w (hsf (by omega)) (fun W => as77_126 _ W) (fun W => as77_129 _ W)
    | list b K m d h6 => have := (VT.key_ge kb (by omega)).1; omega
    | dict b ini L h6 => have := (VT.key_ge kb (by omega)).1; omega
    | set b ini L h6 => have := (VT.key_ge kb (by omega)).1; omega
  | int x1 h1 i1 =>
    cases gb with
    | none h2 =>
      obtain ⟨i, p, rfl, _⟩ := (i1.toN (Nat.le_refl 8)).shape
      exact c171_int _ 121 i p _ _ D hDp w (hsf (by omega)) (fun W => as121_129 _ W)
    | bool h2 =>
      obtain ⟨i, p, rfl, _⟩ := (i1.toN (Nat.le_refl 8)).shape
      exact c171_int _ 77 i p _ _ D hDp w (hsf (by omega)) (fun W => as77_129 _ W)
    | int x2 h2 i2 =>
      exact c171_tot (EqT n a b) 126 _ _ 351 _ D hDp w (hst (by omega)) (fun W => as126_296 _ W) (fun W => as126_300 _ W) (disp126_Cmp _) (fun W => by kernel_rfl) (fun W hW => (c351 8 (by omega) _ _ _ _ _ W ((i1.below hW).toN (Nat.le_refl _)) ((i2.below hW).toN (Nat.le_refl _))).mono fun e w' h => CmpI.imp h fun hz => EqT.num (.inl ⟨h1, h2, hz⟩))
    | float h2 =>
      exact (c171_if hR _ _ _ (VT.ok_bits ob) D hDp w i1 hg (hsf (by omega))).mono fun e w' h => h.imp fun hq => EqT.num (.inr (.inl ⟨h1, h2, hq⟩))
    | string h2 =>
      obtain ⟨i, p, rfl, _⟩ := (i1.toN (Nat.le_refl 8)).shape
      exact c171_int _ 131 i p _ _ D hDp w (hsf (by omega)) (fun W => as131_129 _ W)
    | bytes h2 =>
      obtain ⟨i, p, rfl, _⟩ := (i1.toN (Nat.le_refl 8)).shape
      exact c171_int _ 132 i p _ _ D hDp w (hsf (by omega)) (fun W => as132_129 _ W)
    | tuple K2 m2 d2 h2 l2 e2 =>
      obtain ⟨i, p, rfl, _⟩ := (i1.toN (Nat.le_refl 8)).shape
      exact c171_int _ 114 i p _ _ D hDp w (hsf (by omega)) (fun W => as114_129 _ W)
    | list b K m d h6 => have := (VT.key_ge kb (by omega)).1; omega
    | dict b ini L h6 => have := (VT.key_ge kb (by omega)).1; omega
    | set b ini L h6 => have := (VT.key_ge kb (by omega)).1; omega
  | float h1 =>
    cases gb with
    | none h2 =>
      exact c171_float _ 121 _ _ D hDp w (hsf (by omega)) (fun W => as121_126 _ W)
    | bool h2 =>
      exact c171_float _ 77 _ _ D hDp w (hsf (by omega)) (fun W => as77_126 _ W)
    | int x2 h2 i2 =>
      exact (c171_fi hR _ _ _ (VT.ok_bits oa) D hDp w i2 hg (hsf (by omega))).mono fun e w' h => h.imp fun hq => EqT.num (.inr (.inr (.inl ⟨h1, h2, hq⟩)))
    | float h2 =>
      exact c171_tot (EqT n a b) 129 _ _ 360 _ D hDp w (hst (by omega)) (fun W => as129_296 _ W) (fun W => as129_300 _ W) (disp129_Cmp _) (fun W => by kernel_rfl) (fun W hW => (c360 _ _ _ W).mono fun e w' h => by obtain ⟨r, e1, h0, e2⟩ := h; subst e2; exact ⟨r, e1, fun hr => EqT.num (.inr (.inr (.inr ⟨h1, h2, h0 hr⟩))), Below.refl _ _⟩)
    | string h2 =>
      exact c171_float _ 131 _ _ D hDp w (hsf (by omega)) (fun W => as131_126 _ W)
    | bytes h2 =>
      exact c171_float _ 132 _ _ D hDp w (hsf (by omega)) (fun W => as132_126 _ W)
    | tuple K2 m2 d2 h2 l2 e2 =>
      exact c171_float _ 114 _ _ D hDp w (hsf (by omega)) (fun W => as114_126 _ W)
    | list b K m d h6 => have := (VT.key_ge kb (by omega)).1; omega
    | dict b ini L h6 => have := (VT.key_ge kb (by omega)).1; omega
    | set b ini L h6 => have := (VT.key_ge kb (by omega)).1; omega
  | string h1 =>
    cases gb with
    | none h2 =>
      exact c171_other _ 131 121 _ _ _ _ D hDp w (hsf (by omega)) (fun W => as131_126 _ W) (fun W => as131_129 _ W)
    | bool h2 =>
      exact c171_other _ 131 77 _ _ _ _ D hDp w (hsf (by omega)) (fun W => as131_126 _ W) (fun W => as131_129 _ W)
    | int x2 h2 i2 =>
      exact c171_other _ 131 126 _ _ _ _ D hDp w (hsf (by omega)) (fun W => as131_126 _ W) (fun W => as131_129 _ W)
    | float h2 =>
      exact c171_other _ 131 129 _ _ _ _ D hDp w (hsf (by omega)) (fun W => as131_126 _ W) (fun W => as131_129 _ W)
    | string h2 =>
      exact c171_cmp (EqT n a b) 131 _ _ 372 _ D hDp w (hst (by omega)) (fun W => as131_296 _ W) (disp131_CompareSameType _) (fun W => by kernel_rfl) (fun W _ => (c372 _ _ _ W).mono fun e w' h => h.imp fun ht => EqT.flat oa ob (by omega) (by omega) (by omega) (by omega) (fun h => by omega) ht)
    | bytes h2 =>
      exact c171_other _ 131 132 _ _ _ _ D hDp w (hsf (by omega)) (fun W => as131_126 _ W) (fun W => as131_129 _ W)
    | tuple K2 m2 d2 h2 l2 e2 =>
      exact c171_other _ 131 114 _ _ _ _ D hDp w (hsf (by omega)) (fun W => as131_126 _ W) (fun W => as131_129 _ W)
    | list b K m d h6 => have := (VT.key_ge kb (by omega)).1; omega
    | dict b ini L h6 => have := (VT.key_ge kb (by omega)).1; omega
    | set b ini L h6 => have := (VT.key_ge kb (by omega)).1; omega
  | bytes h1 =>
    cases gb with
    | none h2 =>
      exact c171_other _ 132 121 _ _ _ _ D hDp w (hsf (by omega)) (fun W => as132_126 _ W) (fun W => as132_129 _ W)
    | bool h2 =>
      exact c171_other _ 132 77 _ _ _ _ D hDp w (hsf (by omega)) (fun W => as132_126 _ W) (fun W => as132_129 _ W)
    | int x2 h2 i2 =>
      exact c171_other _ 132 126 _ _ _ _ D hDp w (hsf (by omega)) (fun W => as132_126 _ W) (fun W => as132_129 _ W)
    | float h2 =>
      exact c171_other _ 132 129 _ _ _ _ D hDp w (hsf (by omega)) (fun W => as132_126 _ W) (fun W => as132_129 _ W)
    | string h2 =>
      exact c171_other _ 132 131 _ _ _ _ D hDp w (hsf (by omega)) (fun W => as132_126 _ W) (fun W => as132_129 _ W)
    | bytes h2 =>
      exact c171_cmp (EqT n a b) 132 _ _ 383 _ D hDp w (hst (by omega)) (fun W => as132_296 _ W) (disp132_CompareSameType _) (fun W => by kernel_rfl) (fun W _ => (c383 _ _ _ W).mono fun e w' h => h.imp fun ht => EqT.flat oa ob (by omega) (by omega) (by omega) (by omega) (fun h => by omega) ht)
    | tuple K2 m2 d2 h2 l2 e2 =>
      exact c171_other _ 132 114 _ _ _ _ D hDp w (hsf (by omega)) (fun W => as132_126 _ W) (fun W => as132_129 _ W)
    | list b K m d h6 => have := (VT.key_ge kb (by omega)).1; omega
    | dict b ini L h6 => have := (VT.key_ge kb (by omega)).1; omega
    | set b ini L h6 => have := (VT.key_ge kb (by omega)).1; omega
  | tuple K1 m1 d1 h1 l1 e1 =>
    cases gb with
    | none h2 =>
      exact c171_other _ 114 121 _ _ _ _ D hDp w (hsf (by omega)) (fun W => as114_126 _ W) (fun W => as114_129 _ W)
    | bool h2 =>
      exact c171_other _ 114 77 _ _ _ _ D hDp w (hsf (by omega)) (fun W => as114_126 _ W) (fun W => as114_129 _ W)
    | int x2 h2 i2 =>
      exact c171_other _ 114 126 _ _ _ _ D hDp w (hsf (by omega)) (fun W => as114_126 _ W) (fun W => as114_129 _ W)
    | float h2 =>
      exact c171_other _ 114 129 _ _ _ _ D hDp w (hsf (by omega)) (fun W => as114_126 _ W) (fun W => as114_129 _ W)
    | string h2 =>
      exact c171_other _ 114 131 _ _ _ _ D hDp w (hsf (by omega)) (fun W => as114_126 _ W) (fun W => as114_129 _ W)
    | bytes h2 =>
      exact c171_other _ 114 132 _ _ _ _ D hDp w (hsf (by omega)) (fun W => as114_126 _ W) (fun W => as114_129 _ W)
    | tuple K2 m2 d2 h2 l2 e2 =>
      obtain ⟨_, n', rfl, ka'⟩ := VT.key_ge ka (by omega)
      obtain ⟨_, n'', en, kb'⟩ := VT.key_ge kb (by omega)
      cases en
      obtain ⟨_, la, _, en, oa'⟩ := VT.ok_ge oa (by omega)
      cases en
      obtain ⟨_, lb, _, en, ob'⟩ := VT.ok_ge ob (by omega)
      cases en
      refine c171_cmp (EqT (n' + 1) a b) 114 _ _ 314 _ D hDp w (hst (by omega)) (fun W => as114_296 _ W) (disp114_CompareSameType _) (fun W => by kernel_rfl) (fun W hW => (c314 K1 K2 m1 m2 d1 d2 D _ W (fun V hV => c313 n' (ih n' rfl) K1 K2 m1 m2 d1 d2 a.kids b.kids D (by omega) hD2 V ((e1.below hW fun _ _ h => SVp.below h hW).below hV fun _ _ h => SVp.below h hV) ((e2.below hW fun _ _ h => SVp.below h hW).below hV fun _ _ h => SVp.below h hV) l1 l2 (by rw [← e1.1]; exact la) (by rw [← e2.1]; exact lb) (fun t ht => ⟨oa' t ht, ka' t ht⟩) (fun t ht => ⟨ob' t ht, kb' t ht⟩) (below_cell hV (below_cell hW hg)))).mono fun e w' h => h.imp fun hq => ?_)
      unfold EqT
      refine .inr ⟨by omega, ?_, fun h => by omega, (by rw [VT.ok_text oa (by omega) (by omega), VT.ok_text ob (by omega) (by omega)]), by rw [e1.1, e2.1]; exact hq.1, fun i hi => hq.2 i (by rw [← e1.1]; exact hi)⟩
      rintro (h | h) <;> omega
    | list b K m d h6 => have := (VT.key_ge kb (by omega)).1; omega
    | dict b ini L h6 => have := (VT.key_ge kb (by omega)).1; omega
    | set b ini L h6 => have := (VT.key_ge kb (by omega)).1; omega
  | list b K m d h6 => have := (VT.key_ge ka (by omega)).1; omega
  | dict b ini L h6 => have := (VT.key_ge ka (by omega)).1; omega
  | set b ini L h6 => have := (VT.key_ge ka (by omega)).1; omega
theorem CmpC_all (hR : RatFC) (n : Nat) : CmpC n := by
  induction n with
  | zero => exact CmpC_step hR 0 fun m h => by omega
  | succ n ih => exact CmpC_step hR (n + 1) fun m h => by cases h; exact ih
/-- Equal, of keys -/
theorem c139 (hR : RatFC) (n : Nat) (hn : n < 10) (w : World) (a b : VT) (x y : Value) (ha : SVp n w a x) (hb : SVp n w b y) (oa : VT.ok n a) (ob : VT.ok n b) (ka : VT.key n a) (kb : VT.key n b) (hg : w.cell? ⟨9, 0, none⟩ = some (.int .i64 40)) (hg8 : w.cell? ⟨8, 0, none⟩ = some (.int .i64 10)) :
    Calls Tryz.prog 139 #[x, y] w (CmpP (EqT n a b) w) := by
  have H := Lib.hid (c154 x y 10 _ w (CmpC_all hR n w a b x y 10 ha hb oa ob ka kb (by omega) (by omega) hg))
  have ga := ha.head
  have gb := hb.head
  cases ga with
  | none h1 =>
    have ta := as121_131 (.int .u8 0)
    clear gb ha hb oa ob ka kb
    go_enter Tryz.func139, Tryz.ntmps139
    go_wp2_with fail
    refine H.out.mono ?_
    rintro e w1 ⟨r, rfl, hP, hB⟩
    have HP := Lib.hid hP
    clear hP
    go_wp2_with fail
    go_ret2
    exact ⟨r, rfl, HP.out, hB⟩
  | bool h1 =>
    have ta := as77_131 (.bool (a.bits == 1))
    clear gb ha hb oa ob ka kb
    go_enter Tryz.func139, Tryz.ntmps139
    go_wp2_with fail
    refine H.out.mono ?_
    rintro e w1 ⟨r, rfl, hP, hB⟩
    have HP := Lib.hid hP
    clear hP
    go_wp2_with fail
    go_ret2
    exact ⟨r, rfl, HP.out, hB⟩
  | int x1 h1 i1 =>
    have ta := as126_131 x1
    clear gb ha hb oa ob ka kb i1
    go_enter Tryz.func139, Tryz.ntmps139
    go_wp2_with fail
    refine H.out.mono ?_
    rintro e w1 ⟨r, rfl, hP, hB⟩
    have HP := Lib.hid hP
    clear hP
    go_wp2_with fail
    go_ret2
    exact ⟨r, rfl, HP.out, hB⟩
  | float h1 =>
    have ta := as129_131 (.float .f64 a.bits)
    clear gb ha hb oa ob ka kb
    go_enter Tryz.func139, Tryz.ntmps139
    go_wp2_with fail
    refine H.out.mono ?_
    rintro e w1 ⟨r, rfl, hP, hB⟩
    have HP := Lib.hid hP
    clear hP
    go_wp2_with fail
    go_ret2
    exact ⟨r, rfl, HP.out, hB⟩
  | string h1 =>
    have ta := as131_131 (.string a.text)
    cases gb with
    | none h2 =>
      have te : ∀ y' W, (binOp .eql 71 (.iface 131 (.string a.text)) (.iface 121 y')).run Tryz.prog W = .ok (.bool false) W := fun y' W => run_eql_iface_types 131 121 _ y' Tryz.underlying71 (by decide) W
      clear H ha hb oa ob
      go_enter Tryz.func139, Tryz.ntmps139
      go_wp2_with fail
      go_ret2
      exact ⟨_, rfl, (fun h => by cases h), Below.refl _ _⟩
    | bool h2 =>
      have te : ∀ y' W, (binOp .eql 71 (.iface 131 (.string a.text)) (.iface 77 y')).run Tryz.prog W = .ok (.bool false) W := fun y' W => run_eql_iface_types 131 77 _ y' Tryz.underlying71 (by decide) W
      clear H ha hb oa ob
      go_enter Tryz.func139, Tryz.ntmps139
      go_wp2_with fail
      go_ret2
      exact ⟨_, rfl, (fun h => by cases h), Below.refl _ _⟩
    | int x2 h2 i2 =>
      have te : ∀ y' W, (binOp .eql 71 (.iface 131 (.string a.text)) (.iface 126 y')).run Tryz.prog W = .ok (.bool false) W := fun y' W => run_eql_iface_types 131 126 _ y' Tryz.underlying71 (by decide) W
      clear H ha hb oa ob
      go_enter Tryz.func139, Tryz.ntmps139
      go_wp2_with fail
      go_ret2
      exact ⟨_, rfl, (fun h => by cases h), Below.refl _ _⟩
    | float h2 =>
      have te : ∀ y' W, (binOp .eql 71 (.iface 131 (.string a.text)) (.iface 129 y')).run Tryz.prog W = .ok (.bool false) W := fun y' W => run_eql_iface_types 131 129 _ y' Tryz.underlying71 (by decide) W
      clear H ha hb oa ob
      go_enter Tryz.func139, Tryz.ntmps139
      go_wp2_with fail
      go_ret2
      exact ⟨_, rfl, (fun h => by cases h), Below.refl _ _⟩
    | string h2 =>
      obtain ⟨r, te, hr⟩ := run_eql_iface_str w a.text b.text
      have HQ : Hid (r = true → EqT n a b) := fun h => EqT.flat oa ob (by omega) (by omega) (by omega) (by omega) (fun h => by omega) (hr h)
      clear hr
      clear H ha hb oa ob
      go_enter Tryz.func139, Tryz.ntmps139
      go_wp2_with fail
      go_ret2
      exact ⟨_, rfl, HQ.out, Below.refl _ _⟩
    | bytes h2 =>
      have te : ∀ y' W, (binOp .eql 71 (.iface 131 (.string a.text)) (.iface 132 y')).run Tryz.prog W = .ok (.bool false) W := fun y' W => run_eql_iface_types 131 132 _ y' Tryz.underlying71 (by decide) W
      clear H ha hb oa ob
      go_enter Tryz.func139, Tryz.ntmps139
      go_wp2_with fail
      go_ret2
      exact ⟨_, rfl, (fun h => by cases h), Below.refl _ _⟩
    | tuple K2 m2 d2 h2 l2 e2 =>
      have te : ∀ y' W, (binOp .eql 71 (.iface 131 (.string a.text)) (.iface 114 y')).run Tryz.prog W = .ok (.bool false) W := fun y' W => run_eql_iface_types 131 114 _ y' Tryz.underlying71 (by decide) W
      clear H ha hb oa ob
      go_enter Tryz.func139, Tryz.ntmps139
      go_wp2_with fail
      go_ret2
      exact ⟨_, rfl, (fun h => by cases h), Below.refl _ _⟩
    | list b K m d h6 => have := (VT.key_ge kb (by omega)).1; omega
    | dict b ini L h6 => have := (VT.key_ge kb (by omega)).1; omega
    | set b ini L h6 => have := (VT.key_ge kb (by omega)).1; omega
  | bytes h1 =>
    have ta := as132_131 (.string a.text)
    clear gb ha hb oa ob ka kb
    go_enter Tryz.func139, Tryz.ntmps139
    go_wp2_with fail
    refine H.out.mono ?_
    rintro e w1 ⟨r, rfl, hP, hB⟩
    have HP := Lib.hid hP
    clear hP
    go_wp2_with fail
    go_ret2
    exact ⟨r, rfl, HP.out, hB⟩
  | tuple K1 m1 d1 h1 l1 e1 =>
    have ta := as114_131 (.slice K1 m1 d1)
    clear gb ha hb oa ob ka kb e1
    go_enter Tryz.func139, Tryz.ntmps139
    go_wp2_with fail
    refine H.out.mono ?_
    rintro e w1 ⟨r, rfl, hP, hB⟩
    have HP := Lib.hid hP
    clear hP
    go_wp2_with fail
    go_ret2
    exact ⟨r, rfl, HP.out, hB⟩
  | list b K m d h6 => have := (VT.key_ge ka (by omega)).1; omega
  | dict b ini L h6 => have := (VT.key_ge ka (by omega)).1; omega
  | set b ini L h6 => have := (VT.key_ge ka (by omega)).1; omega
end Go.Proofs.YtpfihjkhgfoijaaGreatDoor
