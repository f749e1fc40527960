/- sort.Slice over names with trees. -/
import Derived.Shelf.GgSortFunc.SmallK
import Derived.Shelf.GgSortFunc.Tiny
import Derived.Test.YtpfihjkhgfoijaaGreatDoorQ39
import Derived.Test.YtpfihjkhgfoijaaGreatDoorQ06
set_option linter.unusedVariables false
set_option linter.unusedSimpArgs false
set_option maxRecDepth 100000
namespace Go.Proofs.YtpfihjkhgfoijaaGreatDoor
open Go.RowKit Go.Lib Go.Sort

/-- a name with its tree, as it lies in seven cells -/
structure N7 where
  s : ByteArray
  t : VT
  k : Int
  ng : Bool
  A : Option Addr
  a : Nat
  c : Nat
  u : Int
  tx : ByteArray
  K : Option Addr
  m : Nat
  d : Nat
instance : Inhabited N7 := ⟨⟨⟨#[]⟩, default, 0, false, none, 0, 0, 0, ⟨#[]⟩, none, 0, 0⟩⟩
def N7.enc (x : N7) : List Value := [.string x.s, .int .i64 x.k, .bool x.ng, .slice x.A x.a x.c, .int .u64 x.u, .string x.tx, .slice x.K x.m x.d]
def N7.lt (x y : N7) : Bool := Op.bytesLess x.s.toList y.s.toList
theorem N7.len (x : N7) : x.enc.length = 7 := rfl
theorem N7.one (x : N7) : ∀ v ∈ x.enc, v.oneCell' = true := by
  intro v hv
  simp [N7.enc] at hv
  rcases hv with rfl | rfl | rfl | rfl | rfl | rfl | rfl <;> rfl
theorem N7.swo : SWO N7.lt := by
  refine ⟨fun x => ?_, fun x y z h1 h2 => ?_, fun x y z h1 h2 => ?_⟩
  · unfold N7.lt; rw [bytesLess_eq]; simp
  · unfold N7.lt at *; rw [bytesLess_eq, decide_eq_true_eq] at *; exact List.lt_trans h1 h2
  · unfold N7.lt at *
    rw [bytesLess_eq, decide_eq_false_iff_not, List.not_lt] at *
    exact List.le_trans h2 h1
theorem i38s : (Tryz.prog.info? 38).map (fun i => (i.size, i.bytes, i.hasPointers)) = some (7, 104, true) := by kernel_rfl
theorem i22d : (Tryz.prog.info? 22).map (fun i => i.desc) = some (.slice 38) := by kernel_rfl
theorem packed22 : Tryz.prog.packed 22 = false := by kernel_rfl
theorem kind38 : ∀ w, (Extern.Rtype.kind 38).run Tryz.prog w = .ok 25 w := fun w => by kernel_rfl
theorem agg38 : ∀ w, (isAgg 38).run Tryz.prog w = .ok true w := fun w => by kernel_rfl
theorem sw9 : Tryz.prog.funcs.findIdx? (·.name == "internal/reflectlite" ++ ".Swapper$" ++ toString 9) = some 52 := by kernel_rfl
theorem sw1 : Tryz.prog.funcs.findIdx? (·.name == "internal/reflectlite" ++ ".Swapper$" ++ toString 1) = some 44 := by kernel_rfl
theorem sw2 : Tryz.prog.funcs.findIdx? (·.name == "internal/reflectlite" ++ ".Swapper$" ++ toString 2) = some 45 := by kernel_rfl
theorem globals14 : Tryz.prog.globals.size = 14 := by kernel_rfl
/-- the number of Swapper's literal -/
def swF (n : Nat) : Nat := if n = 0 then 44 else if n = 1 then 45 else 52
theorem swK (n : Nat) (ie : TypeInfo) (h : (ie.size, ie.bytes, ie.hasPointers) = (7, 104, true)) : swapperK n ie 25 = if n = 0 then 1 else if n = 1 then 2 else 9 := by
  simp only [Prod.mk.injEq] at h
  obtain ⟨-, h1, h2⟩ := h
  unfold swapperK
  rw [h1, h2]
  by_cases h0 : n = 0
  · simp [h0]
  · by_cases h1 : n = 1
    · simp [h1]
    · simp [h0, h1]
theorem swFind (n : Nat) (ie : TypeInfo) (h : (ie.size, ie.bytes, ie.hasPointers) = (7, 104, true)) : Tryz.prog.funcs.findIdx? (·.name == "internal/reflectlite" ++ ".Swapper$" ++ toString (swapperK n ie 25)) = some (swF n) := by
  rw [swK n ie h]
  unfold swF
  by_cases h0 : n = 0
  · rw [if_pos h0, if_pos h0]; exact sw1
  · rw [if_neg h0, if_neg h0]
    by_cases h1 : n = 1
    · rw [if_pos h1, if_pos h1]; exact sw2
    · rw [if_neg h1, if_neg h1]; exact sw9
set_option maxHeartbeats 1000000 in
/-- sort.Slice, whatever pdqsort_func gives -/
theorem c9of (p : Option Addr) (n c : Nat) (hn : n < 1000) (lf : Fn) (la lb : Array Value) (w : World) (R : World → Prop)
    (hp : ∀ sb, (2 ≤ n → sb = #[.slice p n c, typeHandle Tryz.prog 38]) → Calls Tryz.prog 25 #[.agg #[.func lf la lb, .func (.func (swF n)) #[] sb], .int .i64 0, .int .i64 n, .int .i64 (Lib.bitLen n)]
      ((w.alloc (.cells #[.slice p n c] 22)).alloc (.cells #[.pointer (some ⟨14, 22, none⟩), .pointer (some ⟨w.heap.size, 0, none⟩), .int .u64 151] 60)) fun e w' => e = .returned (.tuple #[]) ∧ R w') :
    Calls Tryz.prog 9 #[.iface 22 (.slice p n c), .func lf la lb] w fun e w' => e = .returned (.tuple #[]) ∧ R w' := by
  obtain ⟨i, hi, hd⟩ := Option.map_eq_some_iff.1 i22d
  obtain ⟨ie, hie, hs⟩ := Option.map_eq_some_iff.1 i38s
  have hv := run_valueOf_slice (P := Tryz.prog) 22 38 i hi hd p n c w
  have hs := fun w => run_swapper_slice (P := Tryz.prog) 22 38 i ie hi hd hie 25 kind38 p n c (swF n) (swFind n ie hs) w
  have hl := fun a w ha => run_valueLen_slice (P := Tryz.prog) 22 38 i hi hd packed22 a p n c w ha
  have hb := fun w => Tryz.bits_Len (n : Int) w (by omega) (by omega)
  have hsb : 2 ≤ n → (if swapperK n ie 25 ≤ 2 then (#[] : Array Value) else #[.slice p n c, typeHandle Tryz.prog 38]) = #[.slice p n c, typeHandle Tryz.prog 38] := fun h => if_neg (swapperK_gt n ie 25 h)
  generalize (if swapperK n ie 25 ≤ 2 then (#[] : Array Value) else #[.slice p n c, typeHandle Tryz.prog 38]) = sb at hs hsb
  have HP := Lib.hid (hp sb hsb)
  clear hp hsb
  simp only [typeHandle, globals14] at hv hl
  have wr : IntKind.u64.wrap (n : Int) = n := by simp [IntKind.wrap, IntKind.bits, IntKind.signed]; omega
  generalize swF n = f at hs HP
  go_enter Tryz.func9, Tryz.ntmps9
  go_wp2
  rw [run_callFunc_extern Tryz.func21 (by kernel_rfl) (by kernel_rfl) (by kernel_rfl) (e := fun args => Extern.ReflectliteValue.unpack (args.getD 0 (.tuple #[]))) (by kernel_rfl),
    show Sem.run Tryz.prog ((fun args : Array Value => Extern.ReflectliteValue.unpack (args.getD 0 (.tuple #[]))) #[.iface 22 (.slice p n c)]) w = _ from hv]
  simp only [Result.andThen]
  rw [Oper.upon_value]
  go_wp2
  rw [run_callFunc_extern Tryz.func22 (by kernel_rfl) (by kernel_rfl) (by kernel_rfl) (e := Extern.ReflectliteSwapper.swapper "internal/reflectlite" (Extern.ReflectliteValue.valueError "Swapper")) (by kernel_rfl), hs]
  simp only [Result.andThen]
  rw [Oper.upon_value]
  go_wp2
  rw [run_callFunc_extern Tryz.func23 (by kernel_rfl) (by kernel_rfl) (by kernel_rfl) (e := Extern.ReflectliteValue.method (Extern.ReflectliteValue.valueError "reflectlite.Value.Len" 0) Extern.ReflectliteValue.len) (by kernel_rfl),
    hl _ _ (by simp)]
  simp only [Result.andThen]
  rw [Oper.upon_value]
  go_wp2_with (first
    | (go_at_call 24; refine (hb _).mono ?_; rintro e w' ⟨rfl, rfl⟩)
    | (go_at_call 25; refine HP.out.mono ?_; rintro e w' ⟨rfl, hR⟩))
  go_end0
  exact ⟨rfl, hR⟩
end Go.Proofs.YtpfihjkhgfoijaaGreatDoor
