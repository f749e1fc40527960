/- Iteration through a list; impl.gone over a list; Iteration through a hash table's keys; impl.gone over it; A hash table's items; The dictionary of names (a map of strings to values); starlarkstruct.Module's methods. -/
import Derived.Test.YtpfihjkhgfoijaaGreatDoorQ28
import Derived.Maps.RangeWalk
import Derived.Maps.OwnSet
import Derived.Maps.AppendAt
import Derived.Sort.KeysCollected
import Derived.Sort.OwnSorted
import Derived.Test.YtpfihjkhgfoijaaGreatDoorQ06
set_option linter.unusedVariables false
set_option linter.unusedSimpArgs false
set_option maxRecDepth 100000
namespace Go.Proofs.YtpfihjkhgfoijaaGreatDoor
open Go.RowKit

/-- block b is a list's head: its row, how many go through it -/
abbrev LstR (w : World) (b : Nat) (K : Option Addr) (m d : Nat) (c : Int) : Prop := BlkF w b 3 (fun i => if i = 0 then .slice K m d else if i = 1 then .bool false else .int .u32 c)
theorem c73 (b : Nat) (K : Option Addr) (m d : Nat) (w : World) (h : LstR w b K m d 0) :
    Calls Tryz.prog 73 #[.pointer (some ⟨b, 0, none⟩)] w fun e w' => e = .returned (.iface 183 (.pointer (some ⟨w.heap.size, 0, none⟩))) ∧ w' = (w.setCell ⟨b, 2, none⟩ (.int .u32 1)).alloc (.cells #[.pointer (some ⟨b, 0, none⟩), .int .i64 0] 185) := by
  have k1 : w.cell? ⟨b, 1, none⟩ = some (.bool false) := h.cell 1 (by omega)
  have k2 : w.cell? ⟨b, 2, none⟩ = some (.int .u32 0) := h.cell 2 (by omega)
  have f2 := h.free 2
  have hs := setCell_size w ⟨b, 2, none⟩ (.int .u32 1)
  clear h
  go_enter Tryz.func73, Tryz.ntmps73
  go_wp2_with fail
  go_ret
  exact ⟨rfl, rfl⟩
theorem c394 (it b : Nat) (i : Int) (K : Option Addr) (m d : Nat) (w : World) (hi : RowB w it #[.pointer (some ⟨b, 0, none⟩), .int .i64 i] 185) (h : LstR w b K m d 1) :
    Calls Tryz.prog 394 #[.pointer (some ⟨it, 0, none⟩)] w fun e w' => e = .returned (.tuple #[]) ∧ w' = w.setCell ⟨b, 2, none⟩ (.int .u32 0) := by
  have k0 := hi.cell 0 _ rfl
  have k1 : w.cell? ⟨b, 1, none⟩ = some (.bool false) := h.cell 1 (by omega)
  have k2 : w.cell? ⟨b, 2, none⟩ = some (.int .u32 1) := h.cell 2 (by omega)
  have f2 := h.free 2
  clear h hi
  go_enter Tryz.func394, Tryz.ntmps394
  go_wp2_with fail
  go_end0
  exact ⟨rfl, rfl⟩
theorem c396 (b : Nat) (K : Option Addr) (m d : Nat) (c : Int) (w : World) (h : LstR w b K m d c) :
    Calls Tryz.prog 396 #[.pointer (some ⟨b, 0, none⟩)] w fun e w' => e = .returned (.int .i64 (m : Int)) ∧ w = w' := by
  have k0 : w.cell? ⟨b, 0, none⟩ = some (.slice K m d) := h.cell 0 (by omega)
  clear h
  go_enter Tryz.func396, Tryz.ntmps396
  go_wp2_with fail
  go_ret
  exact ⟨rfl, rfl⟩
/-- what Next leaves: the value in the variable p, the iterator a step further -/
def NxtP (p it b i : Nat) (x : Value) (w : World) (e : Ending) (w' : World) : Prop :=
  e = .returned (.bool true) ∧ RowB w' p #[x] 71 ∧ RowB w' it #[.pointer (some ⟨b, 0, none⟩), .int .i64 ((i + 1 : Nat) : Int)] 185 ∧ But2 p it w w'
set_option maxHeartbeats 1000000 in
theorem c395 (p it b i g : Nat) (K : Option Addr) (m d : Nat) (T : TypeId) (x y : Value) (w : World) (hi : RowB w it #[.pointer (some ⟨b, 0, none⟩), .int .i64 (i : Int)] 185) (h : LstR w b K m d 1) (hp : RowB w p #[y] 71) (hpi : p ≠ it) (hpb : p ≠ b) (hpg : p ≠ g)
    (hlt : i < m) (hm : m ≤ 1000) (hmd : m ≤ d) (hK : K = some ⟨g, 0, none⟩) (hc : w.cell? ⟨g, i, none⟩ = some (.iface T x)) :
    Calls Tryz.prog 395 #[.pointer (some ⟨it, 0, none⟩), .pointer (some ⟨p, 0, none⟩)] w (NxtP p it b i (.iface T x) w) := by
  subst hK
  have k0 := hi.cell 0 _ rfl
  have k1 := hi.cell 1 _ rfl
  have k2 : w.cell? ⟨b, 0, none⟩ = some (.slice (some ⟨g, 0, none⟩) m d) := h.cell 0 (by omega)
  have k3 := hp.cell 0 _ rfl
  have f3 := hp.free 0
  have HI := Lib.hid hi
  have HP := Lib.hid hp
  have H396 : Hid (∀ W, LstR W b (some ⟨g, 0, none⟩) m d 1 → Calls Tryz.prog 396 #[.pointer (some ⟨b, 0, none⟩)] W fun e w' => e = .returned (.int .i64 (m : Int)) ∧ W = w') := fun W hW => c396 b _ m d 1 W hW
  have HB := Lib.hid h
  have q1 : (i : Int) < (m : Int) := by omega
  have a1 : IntKind.i64.wrap ((i : Int) + 1) = ((i + 1 : Nat) : Int) := by rw [IntWalk.i64_in _ (by omega)]; omega
  clear hi hp h
  go_enter Tryz.func395, Tryz.ntmps395
  go_upto_region 1 with (fail)
  have sA : w.drew.cell? ⟨it, 0, none⟩ = some (.pointer (some ⟨b, 0, none⟩)) ∧ w.drew.cell? ⟨it, 1, none⟩ = some (.int .i64 (i : Int)) := ⟨k0, k1⟩
  go_region_held3 (fun W => W.cell? ⟨it, 0, none⟩ = some (.pointer (some ⟨b, 0, none⟩)) ∧ W.cell? ⟨it, 1, none⟩ = some (.int .i64 (i : Int))) (first | with_reducible exact sA)
    (first | (go_at_call 396; (with_reducible refine (H396.out _ HB.out.drew).mono ?_); rintro e w2 ⟨rfl, rfl⟩))
  go_upto_region 2 with (fail)
  have sB : w.drew.drew.cell? ⟨it, 0, none⟩ = some (.pointer (some ⟨b, 0, none⟩)) ∧ w.drew.drew.cell? ⟨it, 1, none⟩ = some (.int .i64 (i : Int)) ∧ w.drew.drew.cell? ⟨b, 0, none⟩ = some (.slice (some ⟨g, 0, none⟩) m d) ∧ w.drew.drew.cell? ⟨g, i, none⟩ = some (.iface T x) := ⟨k0, k1, k2, hc⟩
  have sC : (w.setCell ⟨p, 0, none⟩ (.iface T x)).drew.drew.cell? ⟨it, 0, none⟩ = some (.pointer (some ⟨b, 0, none⟩)) ∧ (w.setCell ⟨p, 0, none⟩ (.iface T x)).drew.drew.cell? ⟨it, 1, none⟩ = some (.int .i64 (i : Int)) ∧ (w.setCell ⟨p, 0, none⟩ (.iface T x)).drew.drew.cell? ⟨b, 0, none⟩ = some (.slice (some ⟨g, 0, none⟩) m d) ∧ (w.setCell ⟨p, 0, none⟩ (.iface T x)).drew.drew.cell? ⟨g, i, none⟩ = some (.iface T x) := And.intro (cell_setCell_ne (p := ⟨p, 0, none⟩) (v := .iface T x) sB.1 (by simpa using hpi)) (And.intro (cell_setCell_ne (p := ⟨p, 0, none⟩) (v := .iface T x) sB.2.1 (by simpa using hpi)) (And.intro (cell_setCell_ne (p := ⟨p, 0, none⟩) (v := .iface T x) sB.2.2.1 (by simpa using hpb)) (cell_setCell_ne (p := ⟨p, 0, none⟩) (v := .iface T x) sB.2.2.2 (by simpa using hpg))))
  go_region_held3 (fun W => W.cell? ⟨it, 0, none⟩ = some (.pointer (some ⟨b, 0, none⟩)) ∧ W.cell? ⟨it, 1, none⟩ = some (.int .i64 (i : Int)) ∧ W.cell? ⟨b, 0, none⟩ = some (.slice (some ⟨g, 0, none⟩) m d) ∧ W.cell? ⟨g, i, none⟩ = some (.iface T x)) (first | with_reducible exact sB | with_reducible exact sC)
    (first | fail)
  all_goals
    have hp2 := HP.out.drew.drew.set 0 (.iface T x) #[.iface T x] rfl
    have hi2 := HI.out.drew.drew.setNe ⟨p, 0, none⟩ (.iface T x) (by simpa using hpi)
    have k5 : (w.setCell ⟨p, 0, none⟩ (.iface T x)).drew.drew.cell? ⟨it, 1, none⟩ = some (.int .i64 (i : Int)) := hi2.cell 1 _ rfl
    have f5 : (w.setCell ⟨p, 0, none⟩ (.iface T x)).drew.drew.frozen? ⟨it, 1, none⟩ = false := hi2.free 1
    have hi3 := hi2.set 1 (.int .i64 ((i + 1 : Nat) : Int)) #[.pointer (some ⟨b, 0, none⟩), .int .i64 ((i + 1 : Nat) : Int)] rfl
    have hp3 := hp2.setNe ⟨it, 1, none⟩ (.int .i64 ((i + 1 : Nat) : Int)) (by simpa using Ne.symm hpi)
    have HI3 := Lib.hid hi3
    have HP3 := Lib.hid hp3
    have HU : Hid (But2 p it w ((w.drew.drew.setCell ⟨p, 0, none⟩ (.iface T x)).setCell ⟨it, 1, none⟩ (.int .i64 ((i + 1 : Nat) : Int)))) := (((But2.of_below (Below.refl _ _)).drew.drew.set ⟨p, 0, none⟩ (.inl rfl) _).set ⟨it, 1, none⟩ (.inr rfl) _)
    clear hi2 hi3 hp2 hp3
    go_wp2_with fail
    go_ret
    exact ⟨rfl, HP3.out, HI3.out, HU.out⟩
end Go.Proofs.YtpfihjkhgfoijaaGreatDoor
namespace Go.Proofs.YtpfihjkhgfoijaaGreatDoor
open Go.RowKit

theorem own_agree {w W : World} {base : Nat} {e : TypeId} {size : Nat} {v : Value} {n : Nat} {xs : List Value} (h : w.ownsRow base e size v n xs) (hW : ∀ k, base ≤ k → k < w.heap.size → W.heap[k]? = w.heap[k]?) : W.ownsRow base e size v n xs :=
  ⟨h.1, h.2.imp id fun ⟨g, cap, cur, h1, h2, h3, h4⟩ => ⟨g, cap, cur, h1, h2, (hW g h2 (Array.getElem?_eq_some_iff.1 h3).1).trans h3, h4⟩⟩
theorem own_mono {w : World} {base base' : Nat} {e : TypeId} {size : Nat} {v : Value} {n : Nat} {xs : List Value} (h : w.ownsRow base e size v n xs) (hb : base' ≤ base) : w.ownsRow base' e size v n xs :=
  ⟨h.1, h.2.imp id fun ⟨g, cap, cur, h1, h2, h3⟩ => ⟨g, cap, cur, h1, Nat.le_trans hb h2, h3⟩⟩
theorem own_lt {w : World} {base : Nat} {e : TypeId} {size : Nat} {v : Value} {n : Nat} {xs : List Value} (h : w.ownsRow base e size v n xs) (g : Nat) (hg : v.ownBlock = some g) : base ≤ g ∧ g < w.heap.size := by
  rcases h.2 with ⟨rfl, _⟩ | ⟨g', cap, cur, rfl, h2, h3, _⟩
  · cases hg
  · cases hg; exact ⟨h2, (Array.getElem?_eq_some_iff.1 h3).1⟩
theorem own_shape {w : World} {base : Nat} {e : TypeId} {size : Nat} {v : Value} {n : Nat} {xs : List Value} (h : w.ownsRow base e size v n xs) : ∃ K d, v = .slice K n d ∧ n ≤ d ∧ d ≤ maxLen ∧ (K = none ∨ ∃ g, K = some ⟨g, 0, none⟩) := by
  rcases h.2 with ⟨rfl, rfl⟩ | ⟨g', cap, cur, rfl, h2, h3, h4, h5, _⟩
  · exact ⟨none, 0, rfl, Nat.le_refl _, by simp [maxLen], .inl rfl⟩
  · exact ⟨_, cap, rfl, h4, h5, .inr ⟨g', rfl⟩⟩
theorem But2.comp {b b4 c c4 : Nat} {w w1 w2 : World} (h : But2 b b4 w w1) (k : But2 c c4 w1 w2) (h1 : c = b ∨ c = b4 ∨ w.heap.size ≤ c) (h2 : c4 = b ∨ c4 = b4 ∨ w.heap.size ≤ c4) : But2 b b4 w w2 :=
  ⟨k.os.trans h.os, k.tape.trans h.tape, k.output.trans h.output, Nat.le_trans h.size k.size, fun i hi e1 e2 => (k.block i (by have := h.size; omega) (by omega) (by omega)).trans (h.block i hi e1 e2)⟩
theorem But2.own {b b4 : Nat} {w w1 w2 : World} {o : Option Nat} (h : But2 b b4 w w1) (k : w1.grownBy w2 o) (ho : ∀ g, o = some g → w.heap.size ≤ g) : But2 b b4 w w2 :=
  ⟨k.os.trans h.os, k.tape.trans h.tape, k.output.trans h.output, Nat.le_trans h.size k.size, fun i hi e1 e2 => (k.block i (by have := h.size; omega) (by intro e; have := ho i e.symm; omega)).trans (h.block i hi e1 e2)⟩
theorem setCell_at {w w' : World} {p : Addr} (v : Value) (h : w'.heap[p.block]? = w.heap[p.block]?) : (w'.setCell p v).heap[p.block]? = (w.setCell p v).heap[p.block]? := by
  simp only [World.setCell, Array.getElem?_modify, if_true, h]
set_option maxHeartbeats 1000000 in
theorem c395_end (p it b i : Nat) (K : Option Addr) (m d : Nat) (w : World) (hi : RowB w it #[.pointer (some ⟨b, 0, none⟩), .int .i64 (i : Int)] 185) (h : LstR w b K m d 1) (hlt : m ≤ i) :
    Calls Tryz.prog 395 #[.pointer (some ⟨it, 0, none⟩), .pointer (some ⟨p, 0, none⟩)] w fun e w' => e = .returned (.bool false) ∧ Below w.heap.size w w' := by
  have k0 := hi.cell 0 _ rfl
  have k1 := hi.cell 1 _ rfl
  have H396 : Hid (∀ W, LstR W b K m d 1 → Calls Tryz.prog 396 #[.pointer (some ⟨b, 0, none⟩)] W fun e w' => e = .returned (.int .i64 (m : Int)) ∧ W = w') := fun W hW => c396 b _ m d 1 W hW
  have HB := Lib.hid h
  have q1 : ¬ (i : Int) < (m : Int) := by omega
  clear hi h
  go_enter Tryz.func395, Tryz.ntmps395
  go_upto_region 1 with (fail)
  have sA : w.drew.cell? ⟨it, 0, none⟩ = some (.pointer (some ⟨b, 0, none⟩)) ∧ w.drew.cell? ⟨it, 1, none⟩ = some (.int .i64 (i : Int)) := ⟨k0, k1⟩
  go_region_held3 (fun W => W.cell? ⟨it, 0, none⟩ = some (.pointer (some ⟨b, 0, none⟩)) ∧ W.cell? ⟨it, 1, none⟩ = some (.int .i64 (i : Int))) (first | with_reducible exact sA)
    (first | (go_at_call 396; (with_reducible refine (H396.out _ HB.out.drew).mono ?_); rintro e w2 ⟨rfl, rfl⟩))
  go_wp2_with fail
  go_ret
  exact ⟨rfl, bdrew1 w⟩
/-- what gone leaves: a row of the values; the head as it was before it was gone through -/
def GoneP (it b off m : Nat) (xs : List Value) (w : World) (e : Ending) (w' : World) : Prop :=
  ∃ v, e = .returned v ∧ w'.ownsRow w.heap.size 71 1 v m xs ∧ But2 it b w w' ∧ w'.heap[b]? = (w.setCell ⟨b, off, none⟩ (.int .u32 0)).heap[b]?
set_option maxHeartbeats 4000000 in
theorem c72L (it b g : Nat) (K : Option Addr) (m d : Nat) (xs : List Value) (w : World) (hi : RowB w it #[.pointer (some ⟨b, 0, none⟩), .int .i64 0] 185) (h : LstR w b K m d 1) (hib : it ≠ b) (hig : m = 0 ∨ it ≠ g) (hm : m ≤ 100) (hmd : m ≤ d) (hl : xs.length = m)
    (hK : m = 0 ∨ K = some ⟨g, 0, none⟩) (hc : ∀ i, i < m → ∃ T x, xs.getD i .nilIface = .iface T x ∧ w.cell? ⟨g, i, none⟩ = some (.iface T x)) :
    Calls Tryz.prog 72 #[.iface 183 (.pointer (some ⟨it, 0, none⟩))] w (GoneP it b 2 m xs w) := by
  have li := hi.lt
  have lb := h.lt (by omega)
  have HB1 : Hid (Below w.heap.size w (w.alloc (.cells #[.nilIface] 71))) := below_alloc' (Below.refl _ _) _
  have HP0 := Lib.hid (RowB.new w #[.nilIface] 71)
  have HI0 := Lib.hid (hi.alloc (.cells #[.nilIface] 71))
  have HL0 := Lib.hid (h.below (by omega) HB1.out)
  have HC := Lib.hid hc
  have HXL := Lib.hid hl
  have HS0 : Hid ((w.alloc (.cells #[.nilIface] 71)).heap.size = w.heap.size + 1) := alloc_size _ _
  clear hi h hc hl
  go_enter Tryz.func72, Tryz.ntmps72
  go_wp2_with fail
  go_loopw [2] (fun v2 wr => ∃ (i : Nat) (y : Value), i ≤ m ∧ Hid (wr.ownsRow (w.heap.size + 1) 71 1 v2 i (xs.take i)) ∧ Hid (RowB wr w.heap.size #[y] 71) ∧ Hid (RowB wr it #[.pointer (some ⟨b, 0, none⟩), .int .i64 (i : Int)] 185) ∧ Hid (LstR wr b K m d 1) ∧ Hid (But2 it it w wr) ∧ w.heap.size + 1 ≤ wr.heap.size) (fun v2 _ => m - (match v2 with | .slice _ n _ => n | _ => 0))
  case atStart => exact ⟨0, .nilIface, by omega, World.ownsRow_nil _ _ _ _, HP0.out, HI0.out, HL0.out, But2.of_below HB1.out, by have := HS0.out; omega⟩
  case round =>
    obtain ⟨i, y, hi, hO, hP, hI, hL, hU, hsz⟩ := hrel
    by_cases hlt : i < m
    · obtain rfl := hK.resolve_left (by omega)
      have hne := hig.resolve_left (by omega)
      obtain ⟨T, x, ex, hcx⟩ := HC.out i hlt
      have hgl : g < w.heap.size := cell_lt hcx
      have hcr : wr.cell? ⟨g, i, none⟩ = some (.iface T x) := by
        rw [← hcx]
        unfold World.cell?
        rw [hU.out.block g hgl (by omega) (by omega)]
      have hbg : b ≠ w.heap.size := by omega
      have H395 := Lib.hid (c395 w.heap.size it b i g _ m d T x y wr hI.out hL.out hP.out (by omega) (by omega) (by omega) hlt (by omega) hmd rfl hcr)
      have hxt : Hid (xs.take i ++ [.iface T x] = xs.take (i + 1)) := by
        show _ = _
        rw [List.take_add_one, ← ex, List.getD_eq_getElem?_getD, List.getElem?_eq_getElem (by rw [HXL.out]; exact hlt)]; rfl
      clear hcx ex hcr
      go_wp2_with fail
      refine H395.out.mono ?_
      rintro e w2 ⟨rfl, hP2, hI2, hU2⟩
      have hs2 := hU2.size
      have hO2 := own_agree (W := w2) hO.out (fun k h1 h2 => hU2.block k h2 (by omega) (by omega))
      have k0 := hP2.cell 0 _ rfl
      obtain ⟨v', w3, hrun, hO3, hgr, hob⟩ := app71 (hO2.alloc (.cells #[.iface T x] 71)) ⟨w2.heap.size, 0, none⟩ 1 1 [.iface T x] rfl (fun j u hu => by rw [add_at]; exact (RowB.new w2 #[.iface T x] 71).cell j u (by simpa using hu)) (by simp [Value.oneCell']) (by omega) (by rw [alloc_size]; omega) 109
      obtain ⟨Kv, dv, rfl, -⟩ := own_shape hO.out
      obtain ⟨Kv', dv', rfl, -⟩ := own_shape hO3
      have hob2 : ∀ q, (Value.slice Kv i dv).ownBlock = some q → w.heap.size + 1 ≤ q := fun q hq => (own_lt hO2 q hq).1
      have hUa : But2 it it w (w2.alloc (.cells #[.iface T x] 71)) := (hU.out.comp hU2 (by omega) (by omega)).comp (But2.of_below (b := it) (b4 := it) (below_alloc' (Below.refl _ _) _)) (.inl rfl) (.inl rfl)
      have HU3 := Lib.hid (hUa.own hgr (fun q hq => by have := hob2 q hq; omega))
      have HP3 := Lib.hid ((hP2.alloc (.cells #[.iface T x] 71)).grownO hgr (fun q hq => by have := hob2 q hq; omega))
      have HI3 := Lib.hid ((hI2.alloc (.cells #[.iface T x] 71)).grownO hgr (fun q hq => by have := hob2 q hq; omega))
      have hLk : ∀ W, But2 it it w W → LstR W b (some ⟨g, 0, none⟩) m d 1 := fun W hW => by
        have e := hW.block b lb (by omega) (by omega)
        have e0 := HL0.out
        refine ⟨fun off ho => ?_, fun off => ?_⟩
        · have h1 := e0.cell off ho
          unfold World.cell? at h1 ⊢
          rw [e, ← HB1.out.block b lb]; exact h1
        · have h1 := e0.free off
          unfold World.frozen? at h1 ⊢
          rw [e, ← HB1.out.block b lb]; exact h1
      have HL3 := Lib.hid (hLk w3 HU3.out)
      have HO3 := Lib.hid hO3
      have HR := Lib.hid hrun
      have hs3 : w.heap.size + 1 ≤ w3.heap.size := by
        have h1 := hgr.size
        rw [alloc_size] at h1
        omega
      clear hrun hO3 hgr hob hO2 hP2 hI2 hU2 hUa hLk H395
      go_wp2_with (at_builtin; go_loud (refine wpl_append rfl (.tmp 6) (.tmp 8) 109 rfl _ _ _ _ rfl rfl HR.out ?_))
      go_round
      case rel => exact ⟨i + 1, .iface T x, by omega, by show World.ownsRow _ _ _ _ _ _ _; rw [← hxt.out]; exact HO3.out, HP3.out, HI3.out, HL3.out, HU3.out, hs3⟩
      case measure => simp; omega
    · have e : i = m := by omega
      subst e
      have H395 := Lib.hid (c395_end w.heap.size it b i K i d wr hI.out hL.out (Nat.le_refl _))
      go_wp2_with fail
      refine H395.out.mono ?_
      rintro e w2 ⟨rfl, hB2⟩
      have H394 := Lib.hid (c394 it b i K i d w2 (hI.out.below hB2) (hL.out.below (by omega) hB2))
      have HB2 := Lib.hid hB2
      clear hB2 H395
      go_wp2_with fail
      refine H394.out.mono ?_
      rintro e w3 ⟨rfl, rfl⟩
      clear H394
      go_wp2_with fail
      go_ret
      have hU2 := hU.out.comp (But2.of_below (b := it) (b4 := it) HB2.out) (.inl rfl) (.inl rfl)
      have hO2 := own_agree (W := w2.setCell ⟨b, 2, none⟩ (.int .u32 0)) hO.out (fun k h1 h2 => by rw [setCell_block _ _ _ _ (by show k ≠ b; omega)]; exact HB2.out.block k h2)
      have hU3 : But2 it b w w2 := ⟨hU2.os, hU2.tape, hU2.output, hU2.size, fun k h1 h2 h3 => hU2.block k h1 h2 h2⟩
      refine ⟨_, rfl, ?_, hU3.set ⟨b, 2, none⟩ (.inr rfl) _, setCell_at (p := ⟨b, 2, none⟩) _ (hU2.block b lb (by omega) (by omega))⟩
      have := own_mono (base' := w.heap.size) hO2 (by omega)
      rwa [List.take_of_length_le (by rw [HXL.out]; exact Nat.le_refl _)] at this
end Go.Proofs.YtpfihjkhgfoijaaGreatDoor
namespace Go.Proofs.YtpfihjkhgfoijaaGreatDoor
open Go.RowKit

/-- where the j-th entry lies -/
def posA (b : Nat) (L : List (Nat × Value × Value)) (j : Nat) : Option Addr := if j < L.length then some ⟨b, 1 + 5 * (7 - j), none⟩ else none
theorem HtR.agree {w W : World} {b it : Nat} {ini : Bool} {L : List (Nat × Value × Value)} (h : HtR w b ini it L) (e : W.heap[b]? = w.heap[b]?) : HtR W b ini it L := by
  refine ⟨⟨fun off ho => ?_, fun off => ?_⟩, h.few, h.set, h.hash⟩
  · have h1 := h.cells off ho
    unfold World.cell? at h1 ⊢
    rw [e]; exact h1
  · have h1 := h.free off
    unfold World.frozen? at h1 ⊢
    rw [e]; exact h1
theorem ht_key (b : Nat) (ini : Bool) (it : Nat) (L : List (Nat × Value × Value)) (j : Nat) (k : Nat × Value × Value) (hk : L[j]? = some k) (hj : j < 8) : htAt b ini it L (1 + 5 * (7 - j) + 1) = k.2.1 := by
  rw [show 1 + 5 * (7 - j) + 1 = 1 + (7 - j) * 5 + 1 by omega, ht_ent b ini it L (7 - j) 1 (by omega) (by omega), show 7 - (7 - j) = j by omega]
  unfold entAt
  rw [hk]; rfl
theorem ht_val (b : Nat) (ini : Bool) (it : Nat) (L : List (Nat × Value × Value)) (j : Nat) (k : Nat × Value × Value) (hk : L[j]? = some k) (hj : j < 8) : htAt b ini it L (1 + 5 * (7 - j) + 2) = k.2.2 := by
  rw [show 1 + 5 * (7 - j) + 2 = 1 + (7 - j) * 5 + 2 by omega, ht_ent b ini it L (7 - j) 2 (by omega) (by omega), show 7 - (7 - j) = j by omega]
  unfold entAt
  rw [hk]; rfl
theorem ht_next (b : Nat) (ini : Bool) (it : Nat) (L : List (Nat × Value × Value)) (j : Nat) (hj : j < L.length) (hj8 : j < 8) : htAt b ini it L (1 + 5 * (7 - j) + 3) = .pointer (posA b L (j + 1)) := by
  rw [show 1 + 5 * (7 - j) + 3 = 1 + (7 - j) * 5 + 3 by omega, ht_ent b ini it L (7 - j) 3 (by omega) (by omega), show 7 - (7 - j) = j by omega]
  unfold entAt posA
  rw [List.getElem?_eq_getElem hj]
  by_cases h : j + 1 < L.length
  · simp [h]
  · simp [h]
theorem ht_head (b : Nat) (ini : Bool) (it : Nat) (L : List (Nat × Value × Value)) : htAt b ini it L 44 = .pointer (posA b L 0) := by
  unfold htAt posA
  by_cases h : L.length = 0
  · simp [h]
  · have : 0 < L.length := by omega
    simp [h, this]
theorem c104 (b : Nat) (ini : Bool) (L : List (Nat × Value × Value)) (w : World) (h : HtR w b ini 0 L) :
    Calls Tryz.prog 104 #[.pointer (some ⟨b, 0, none⟩)] w fun e w' => e = .returned (.pointer (some ⟨w.heap.size, 0, none⟩)) ∧ w' = (w.setCell ⟨b, 43, none⟩ (.int .u32 1)).alloc (.cells #[.pointer (some ⟨b, 0, none⟩), .pointer (posA b L 0)] 239) := by
  have k0 := h.cells 0 (by omega)
  have k1 : w.cell? ⟨b, 46, none⟩ = some (.bool false) := h.cells 46 (by omega)
  have k2 : w.cell? ⟨b, 43, none⟩ = some (.int .u32 0) := h.cells 43 (by omega)
  have k3 : w.cell? ⟨b, 44, none⟩ = some (.pointer (posA b L 0)) := by rw [h.cells 44 (by omega), ht_head]
  have k4 : (w.setCell ⟨b, 43, none⟩ (.int .u32 1)).cell? ⟨b, 44, none⟩ = some (.pointer (posA b L 0)) := by rw [cell_setCell_at k2, if_neg (by omega)]; exact k3
  have f2 := h.free 43
  have hs := setCell_size w ⟨b, 43, none⟩ (.int .u32 1)
  clear h
  go_enter Tryz.func104, Tryz.ntmps104
  go_wp2_with fail
  go_ret
  exact ⟨rfl, rfl⟩
theorem c75 (b : Nat) (ini : Bool) (L : List (Nat × Value × Value)) (w : World) (h : HtR w b ini 0 L) :
    Calls Tryz.prog 75 #[.pointer (some ⟨b, 0, none⟩)] w fun e w' => e = .returned (.iface 188 (.pointer (some ⟨w.heap.size, 0, none⟩))) ∧ w' = (w.setCell ⟨b, 43, none⟩ (.int .u32 1)).alloc (.cells #[.pointer (some ⟨b, 0, none⟩), .pointer (posA b L 0)] 239) := by
  have k0 := h.cells 0 (by omega)
  have H := Lib.hid (c104 b ini L w h)
  clear h
  go_enter Tryz.func75, Tryz.ntmps75
  go_wp2_with fail
  refine H.out.mono ?_
  rintro e w1 ⟨rfl, rfl⟩
  clear H
  go_wp2_with fail
  go_ret
  exact ⟨rfl, rfl⟩
theorem c397 (it b : Nat) (q : Option Addr) (ini : Bool) (L : List (Nat × Value × Value)) (w : World) (hi : RowB w it #[.pointer (some ⟨b, 0, none⟩), .pointer q] 239) (h : HtR w b ini 1 L) :
    Calls Tryz.prog 397 #[.pointer (some ⟨it, 0, none⟩)] w fun e w' => e = .returned (.tuple #[]) ∧ w' = w.setCell ⟨b, 43, none⟩ (.int .u32 0) := by
  have k0 := hi.cell 0 _ rfl
  have k1 : w.cell? ⟨b, 46, none⟩ = some (.bool false) := h.cells 46 (by omega)
  have k2 : w.cell? ⟨b, 43, none⟩ = some (.int .u32 1) := h.cells 43 (by omega)
  have f2 := h.free 43
  clear h hi
  go_enter Tryz.func397, Tryz.ntmps397
  go_wp2_with fail
  go_end0
  exact ⟨rfl, rfl⟩
def NxtK (p it b : Nat) (q : Option Addr) (x : Value) (w : World) (e : Ending) (w' : World) : Prop :=
  e = .returned (.bool true) ∧ RowB w' p #[x] 71 ∧ RowB w' it #[.pointer (some ⟨b, 0, none⟩), .pointer q] 239 ∧ But2 p it w w'
set_option maxHeartbeats 1000000 in
theorem c398 (p it b o : Nat) (q : Option Addr) (T : TypeId) (x y : Value) (w : World) (hi : RowB w it #[.pointer (some ⟨b, 0, none⟩), .pointer (some ⟨b, o, none⟩)] 239) (hp : RowB w p #[y] 71) (hpi : p ≠ it) (hpb : p ≠ b) (hib : it ≠ b)
    (kk : w.cell? ⟨b, o + 1, none⟩ = some (.iface T x)) (kn : w.cell? ⟨b, o + 3, none⟩ = some (.pointer q)) :
    Calls Tryz.prog 398 #[.pointer (some ⟨it, 0, none⟩), .pointer (some ⟨p, 0, none⟩)] w (NxtK p it b q (.iface T x) w) := by
  have k0 := hi.cell 0 _ rfl
  have k1 := hi.cell 1 _ rfl
  have k3 := hp.cell 0 _ rfl
  have f3 := hp.free 0
  have hp2 := hp.set 0 (.iface T x) #[.iface T x] rfl
  have hi2 := hi.setNe ⟨p, 0, none⟩ (.iface T x) (by simpa using hpi)
  have k4 := hi2.cell 0 _ rfl
  have k5 := hi2.cell 1 _ rfl
  have f5 := hi2.free 1
  have k6 := cell_setCell_ne (p := ⟨p, 0, none⟩) (v := .iface T x) kn (by simpa using hpb)
  have HI3 := Lib.hid (hi2.set 1 (.pointer q) #[.pointer (some ⟨b, 0, none⟩), .pointer q] rfl)
  have HP3 := Lib.hid (hp2.setNe ⟨it, 1, none⟩ (.pointer q) (by simpa using Ne.symm hpi))
  have HU : Hid (But2 p it w ((w.setCell ⟨p, 0, none⟩ (.iface T x)).setCell ⟨it, 1, none⟩ (.pointer q))) := ((But2.of_below (Below.refl _ _)).set ⟨p, 0, none⟩ (.inl rfl) _).set ⟨it, 1, none⟩ (.inr rfl) _
  clear hi hp hp2 hi2
  go_enter Tryz.func398, Tryz.ntmps398
  go_wp2_with fail
  go_ret
  exact ⟨rfl, HP3.out, HI3.out, HU.out⟩
theorem c398_end (p it b : Nat) (w : World) (hi : RowB w it #[.pointer (some ⟨b, 0, none⟩), .pointer none] 239) :
    Calls Tryz.prog 398 #[.pointer (some ⟨it, 0, none⟩), .pointer (some ⟨p, 0, none⟩)] w fun e w' => e = .returned (.bool false) ∧ w = w' := by
  have k0 := hi.cell 0 _ rfl
  have k1 := hi.cell 1 _ rfl
  clear hi
  go_enter Tryz.func398, Tryz.ntmps398
  go_wp2_with fail
  go_ret
  exact ⟨rfl, rfl⟩
set_option maxHeartbeats 4000000 in
theorem c72K (it b m : Nat) (ini : Bool) (L : List (Nat × Value × Value)) (xs : List Value) (w : World) (hi : RowB w it #[.pointer (some ⟨b, 0, none⟩), .pointer (posA b L 0)] 239) (h : HtR w b ini 1 L) (hib : it ≠ b) (hl : xs.length = m) (hlm : L.length = m)
    (hc : ∀ i, i < m → ∃ T x, xs.getD i .nilIface = .iface T x ∧ ∃ k, L[i]? = some k ∧ k.2.1 = .iface T x) :
    Calls Tryz.prog 72 #[.iface 188 (.pointer (some ⟨it, 0, none⟩))] w (GoneP it b 43 m xs w) := by
  have li := hi.lt
  have lb := h.lt
  have hm : m ≤ 8 := by have := h.few; omega
  have HLM := Lib.hid hlm
  clear hlm
  have HB1 : Hid (Below w.heap.size w (w.alloc (.cells #[.nilIface] 71))) := below_alloc' (Below.refl _ _) _
  have HP0 := Lib.hid (RowB.new w #[.nilIface] 71)
  have HI0 := Lib.hid (hi.alloc (.cells #[.nilIface] 71))
  have HL0 := Lib.hid (h.below HB1.out)
  have HC := Lib.hid hc
  have HXL := Lib.hid hl
  have HS0 : Hid ((w.alloc (.cells #[.nilIface] 71)).heap.size = w.heap.size + 1) := alloc_size _ _
  clear hi h hc hl
  go_enter Tryz.func72, Tryz.ntmps72
  go_wp2_with fail
  go_loopw [2] (fun v2 wr => ∃ (i : Nat) (y : Value), i ≤ m ∧ Hid (wr.ownsRow (w.heap.size + 1) 71 1 v2 i (xs.take i)) ∧ Hid (RowB wr w.heap.size #[y] 71) ∧ Hid (RowB wr it #[.pointer (some ⟨b, 0, none⟩), .pointer (posA b L i)] 239) ∧ Hid (HtR wr b ini 1 L) ∧ Hid (But2 it it w wr) ∧ w.heap.size + 1 ≤ wr.heap.size) (fun v2 _ => m - (match v2 with | .slice _ n _ => n | _ => 0))
  case atStart => exact ⟨0, .nilIface, by omega, World.ownsRow_nil _ _ _ _, HP0.out, HI0.out, HL0.out, But2.of_below HB1.out, by have := HS0.out; omega⟩
  case round =>
    obtain ⟨i, y, hi, hO, hP, hI, hL, hU, hsz⟩ := hrel
    by_cases hlt : i < m
    · obtain ⟨T, x, ex, k, ek, ekx⟩ := HC.out i hlt
      have hpos : posA b L i = some ⟨b, 1 + 5 * (7 - i), none⟩ := if_pos (by rw [HLM.out]; exact hlt)
      have kk := hL.out.cells (1 + 5 * (7 - i) + 1) (by omega)
      rw [ht_key b ini 1 L i k ek (by omega), ekx] at kk
      have kn := hL.out.cells (1 + 5 * (7 - i) + 3) (by omega)
      rw [ht_next b ini 1 L i (by rw [HLM.out]; exact hlt) (by omega)] at kn
      have hI' := hI.out
      rw [hpos] at hI'
      have hbg : b ≠ w.heap.size := by omega
      have H395 := Lib.hid (c398 w.heap.size it b (1 + 5 * (7 - i)) (posA b L (i + 1)) T x y wr hI' hP.out (by omega) (by omega) hib kk kn)
      have hxt : Hid (xs.take i ++ [.iface T x] = xs.take (i + 1)) := by
        show _ = _
        rw [List.take_add_one, ← ex, List.getD_eq_getElem?_getD, List.getElem?_eq_getElem (by rw [HXL.out]; exact hlt)]; rfl
      clear ex ek ekx hpos kk kn hI'
      go_wp2_with fail
      refine H395.out.mono ?_
      rintro e w2 ⟨rfl, hP2, hI2, hU2⟩
      have hs2 := hU2.size
      have hO2 := own_agree (W := w2) hO.out (fun k h1 h2 => hU2.block k h2 (by omega) (by omega))
      have k0 := hP2.cell 0 _ rfl
      obtain ⟨v', w3, hrun, hO3, hgr, hob⟩ := app71 (hO2.alloc (.cells #[.iface T x] 71)) ⟨w2.heap.size, 0, none⟩ 1 1 [.iface T x] rfl (fun j u hu => by rw [add_at]; exact (RowB.new w2 #[.iface T x] 71).cell j u (by simpa using hu)) (by simp [Value.oneCell']) (by omega) (by rw [alloc_size]; omega) 109
      obtain ⟨Kv, dv, rfl, -⟩ := own_shape hO.out
      obtain ⟨Kv', dv', rfl, -⟩ := own_shape hO3
      have hob2 : ∀ q, (Value.slice Kv i dv).ownBlock = some q → w.heap.size + 1 ≤ q := fun q hq => (own_lt hO2 q hq).1
      have hUa : But2 it it w (w2.alloc (.cells #[.iface T x] 71)) := (hU.out.comp hU2 (by omega) (by omega)).comp (But2.of_below (b := it) (b4 := it) (below_alloc' (Below.refl _ _) _)) (.inl rfl) (.inl rfl)
      have HU3 := Lib.hid (hUa.own hgr (fun q hq => by have := hob2 q hq; omega))
      have HP3 := Lib.hid ((hP2.alloc (.cells #[.iface T x] 71)).grownO hgr (fun q hq => by have := hob2 q hq; omega))
      have HI3 := Lib.hid ((hI2.alloc (.cells #[.iface T x] 71)).grownO hgr (fun q hq => by have := hob2 q hq; omega))
      have hLk : ∀ W, But2 it it w W → HtR W b ini 1 L := fun W hW => HL0.out.agree ((hW.block b lb (by omega) (by omega)).trans (HB1.out.block b lb).symm)
      have HL3 := Lib.hid (hLk w3 HU3.out)
      have HO3 := Lib.hid hO3
      have HR := Lib.hid hrun
      have hs3 : w.heap.size + 1 ≤ w3.heap.size := by
        have h1 := hgr.size
        rw [alloc_size] at h1
        omega
      clear hrun hO3 hgr hob hO2 hP2 hI2 hU2 hUa hLk H395
      go_wp2_with (at_builtin; go_loud (refine wpl_append rfl (.tmp 6) (.tmp 8) 109 rfl _ _ _ _ rfl rfl HR.out ?_))
      go_round
      case rel => exact ⟨i + 1, .iface T x, by omega, by show World.ownsRow _ _ _ _ _ _ _; rw [← hxt.out]; exact HO3.out, HP3.out, HI3.out, HL3.out, HU3.out, hs3⟩
      case measure => simp; omega
    · have e : i = m := by omega
      subst e
      have H395 := Lib.hid (c398_end w.heap.size it b wr (by have := hI.out; rwa [show posA b L i = none from if_neg (by rw [HLM.out]; omega)] at this))
      go_wp2_with fail
      refine H395.out.mono ?_
      rintro e w2 ⟨rfl, rfl⟩
      have hB2 : Below wr.heap.size wr wr := Below.refl _ _
      have H394 := Lib.hid (c397 it b (posA b L i) ini L wr hI.out hL.out)
      have HB2 := Lib.hid hB2
      clear hB2 H395
      go_wp2_with fail
      refine H394.out.mono ?_
      rintro e w3 ⟨rfl, rfl⟩
      clear H394
      go_wp2_with fail
      go_ret
      have hU2 := hU.out.comp (But2.of_below (b := it) (b4 := it) HB2.out) (.inl rfl) (.inl rfl)
      have hO2 := own_agree (W := wr.setCell ⟨b, 43, none⟩ (.int .u32 0)) hO.out (fun k h1 h2 => by rw [setCell_block _ _ _ _ (by show k ≠ b; omega)])
      have hU3 : But2 it b w wr := ⟨hU2.os, hU2.tape, hU2.output, hU2.size, fun k h1 h2 h3 => hU2.block k h1 h2 h2⟩
      refine ⟨_, rfl, ?_, hU3.set ⟨b, 43, none⟩ (.inr rfl) _, setCell_at (p := ⟨b, 43, none⟩) _ (hU2.block b lb (by omega) (by omega))⟩
      have := own_mono (base' := w.heap.size) hO2 (by omega)
      rwa [List.take_of_length_le (by rw [HXL.out]; exact Nat.le_refl _)] at this
end Go.Proofs.YtpfihjkhgfoijaaGreatDoor
namespace Go.Proofs.YtpfihjkhgfoijaaGreatDoor
open Go.RowKit

theorem info114 : (Tryz.prog.info? 114).map (fun i => (i.zero, i.size, i.bytes)) = some (some (.slice none 0 0), 1, 24) := by kernel_rfl
theorem run_make114 (c : Nat) (hc : c ≤ 46116860184) (w : World) :
   ∃ cur : Array Value, cur.size = c ∧ (Instr.makeSlice 186 (.int .i64 0) (.int .u32 (c : Int))).run Tryz.prog w = .ok (.slice (some ⟨w.heap.size, 0, none⟩) 0 c) (w.alloc (.cells cur 114)) := by
  obtain ⟨i, hi, hzz⟩ := Option.map_eq_some_iff.1 info114
  simp only [Prod.mk.injEq] at hzz
  obtain ⟨hz, hs, hb⟩ := hzz
  have := run_make (P := Tryz.prog) w 186 114 i (.slice none 0 0) Tryz.underlying186 hi hz .i64 .u32 0 c (by omega) (by omega) (by rw [hb]; omega) (by omega)
  rw [this]
  exact ⟨_, by simp [madeCells, Value.cells, hs], rfl⟩
theorem run_make71u (c : Nat) (hc : c ≤ 46116860184) (w : World) :
   ∃ cur : Array Value, cur.size = c ∧ (Instr.makeSlice 109 (.int .u32 (c : Int)) (.int .u32 (c : Int))).run Tryz.prog w = .ok (.slice (some ⟨w.heap.size, 0, none⟩) c c) (w.alloc (.cells cur 71)) := by
  obtain ⟨i, hi, hzz⟩ := Option.map_eq_some_iff.1 info71
  simp only [Prod.mk.injEq] at hzz
  obtain ⟨hz, hs, hb⟩ := hzz
  have := run_make (P := Tryz.prog) w 109 71 i .nilIface Tryz.underlying109 hi hz .u32 .u32 c c (by omega) (by omega) (by rw [hb]; omega) (by omega)
  rw [this]
  exact ⟨_, by simp [madeCells, Value.cells, hs], rfl⟩
/-- append of one tuple to a row of tuples -/
theorem app114 {w : World} {base : Nat} {v : Value} {n : Nat} {xs : List Value} (hown : w.ownsRow base 114 1 v n xs) (a : Addr) (x : Value) (hx : x.oneCell' = true)
    (hc : w.cell? a = some x) (hn : n ≤ 500) (hbase : base ≤ w.heap.size) (ty : TypeId) :
    ∃ v' w', (Builtin.append_ #[186, 186] ty #[v, .slice (some a) 1 1]).run Tryz.prog w = .ok v' w' ∧ w'.ownsRow base 114 1 v' (n + 1) (xs ++ [x]) ∧ w.grownBy w' v.ownBlock ∧ (v'.ownBlock = v.ownBlock ∨ v'.ownBlock = some w.heap.size) := by
  obtain ⟨i, hi, hz0, hz1, hz2⟩ := info_parts info114
  obtain ⟨v', w', k1, k2, k3, _, k5⟩ := run_append_own_at (P := Tryz.prog) w base 186 ty 114 i (.slice none 0 0) 1 24 Tryz.underlying186 hi hz0 hz1 hz2 rfl (by omega) v n xs hown a 1 1 [x] (by simp) (fun j u hu => by
    cases j with
    | zero => simp at hu; subst hu; exact hc
    | succ j => simp at hu) (by simpa using hx) (by simp only [maxLen]; omega) (by omega) hbase
  exact ⟨v', w', k1, k2, k3, k5⟩
theorem own_agree2 {w W : World} {base : Nat} {e : TypeId} {size : Nat} {v : Value} {n : Nat} {xs : List Value} (h : w.ownsRow base e size v n xs) (hW : ∀ q, v.ownBlock = some q → W.heap[q]? = w.heap[q]?) : W.ownsRow base e size v n xs := by
  refine ⟨h.1, ?_⟩
  rcases h.2 with h0 | ⟨g, cap, cur, h1, h2, h3, h4⟩
  · exact .inl h0
  · subst h1
    exact .inr ⟨g, cap, cur, rfl, h2, (hW g rfl).trans h3, h4⟩
/-- the j-th pair of the row in block g -/
def pairA (g j : Nat) : Value := .slice (some ⟨g, 2 * j, none⟩) 2 2
/-- the first i entries lie in the row -/
def Pairs (cs : Array Value) (L : List (Nat × Value × Value)) (i : Nat) : Prop := ∀ j, j < i → ∃ k, L[j]? = some k ∧ cs[2 * j]? = some k.2.1 ∧ cs[2 * j + 1]? = some k.2.2
def ItemsP (n : Nat) (L : List (Nat × Value × Value)) (w : World) (e : Ending) (w' : World) : Prop :=
  ∃ v g cs, e = .returned v ∧ w'.ownsRow w.heap.size 114 1 v n ((List.range n).map (pairA g)) ∧ RowB w' g cs 71 ∧ w.heap.size ≤ g ∧ cs.size = 2 * n ∧ Pairs cs L n ∧ Below w.heap.size w w'
set_option maxHeartbeats 4000000 in
theorem c123 (b n : Nat) (ini : Bool) (L : List (Nat × Value × Value)) (w : World) (h : HtR w b ini 0 L) (hn : L.length = n) (hsh : ∀ (k : Nat × Value × Value), k ∈ L → (∃ T x, k.2.1 = .iface T x) ∧ ∃ T x, k.2.2 = .iface T x) :
    Calls Tryz.prog 123 #[.pointer (some ⟨b, 0, none⟩)] w (ItemsP n L w) := by
  have lb := h.lt
  have hn8 : n ≤ 8 := by have := h.few; omega
  have k0 := h.cells 0 (by omega)
  have k42 : w.cell? ⟨b, 42, none⟩ = some (.int .u32 (n : Int)) := by rw [← hn]; exact h.cells 42 (by omega)
  have k44 : w.cell? ⟨b, 44, none⟩ = some (.pointer (posA b L 0)) := by rw [h.cells 44 (by omega), ht_head]
  obtain ⟨c1, hc1, hm1⟩ := run_make114 n (by omega) w
  obtain ⟨c2, hc2, hm2⟩ := run_make71u (2 * n) (by omega) (w.alloc (.cells c1 114))
  have hB1 : Below w.heap.size w (w.alloc (.cells c1 114)) := below_alloc' (Below.refl _ _) _
  have hB2 : Below w.heap.size w ((w.alloc (.cells c1 114)).alloc (.cells c2 71)) := below_alloc' hB1 _
  have k42' := below_cell hB1 k42
  have k44' := below_cell hB2 k44
  have hw : IntKind.u32.wrap ((n : Int) * 2) = ((2 * n : Nat) : Int) := by rw [IntKind.wrap_u32]; omega
  have e1 : (w.alloc (.cells c1 114)).heap.size = w.heap.size + 1 := alloc_size _ _
  rw [e1, show ((2 * n : Nat) : Int) = 2 * (n : Int) from by omega] at hm2
  have R2 : RowB ((w.alloc (.cells c1 114)).alloc (.cells c2 71)) (w.heap.size + 1) c2 71 := by
    have := RowB.new (w.alloc (.cells c1 114)) c2 71
    rwa [e1] at this
  have O1 := own_agree (W := (w.alloc (.cells c1 114)).alloc (.cells c2 71)) (World.ownsRow_made (base := w.heap.size) (e := 114) (size := 1) w c1 n (Nat.le_refl _) (by simp only [maxLen]; omega) (by omega)) (fun k h1 h2 => (below_alloc' (Below.refl (w.alloc (.cells c1 114)).heap.size _) (.cells c2 71)).block k h2)
  have HR2 := Lib.hid R2
  have HO1 := Lib.hid O1
  have HH := Lib.hid h
  have HN := Lib.hid hn
  have HSH := Lib.hid hsh
  have HC2 := Lib.hid hc2
  have HB2 := Lib.hid hB2
  clear h hn hsh hc1 hc2 R2 O1 hB1 hB2 e1
  go_enter Tryz.func123, Tryz.ntmps123
  go_wp2_with fail
  clear hm1 hm2 k42' k44' k42 k44 k0 hw
  go_loopw [3, 4, 5] (fun v3 v4 v5 wr => ∃ (i a r : Nat) (cs : Array Value), i ≤ n ∧ Hid (wr.ownsRow w.heap.size 114 1 v3 i ((List.range i).map (pairA (w.heap.size + 1)))) ∧ (i < n → v4 = .slice (some ⟨w.heap.size + 1, a, none⟩) r r) ∧ Hid (a = 2 * i ∧ r + a = 2 * n) ∧ v5 = .pointer (posA b L i) ∧ Hid (∀ q, v3.ownBlock = some q → q ≠ w.heap.size + 1) ∧ Hid (RowB wr (w.heap.size + 1) cs 71) ∧ Hid (cs.size = 2 * n) ∧ Hid (Pairs cs L i) ∧ Hid (Below w.heap.size w wr)) (fun v3 _ _ _ => n - (match v3 with | .slice _ n _ => n | _ => 0))
  case atStart => exact ⟨0, 0, 2 * n, c2, by omega, HO1.out, fun _ => rfl, ⟨rfl, by omega⟩, rfl, (fun q hq => by cases hq; show w.heap.size ≠ _; omega), HR2.out, HC2.out, fun j hj => by omega, HB2.out⟩
  case round =>
    obtain ⟨i, a, r, cs, hi, hO, hv4, har, rfl, hq3, hR, hcs, hPr, hB⟩ := hrel
    by_cases hlt : i < n
    · obtain rfl := hv4 hlt
      have hlL : i < L.length := by rw [HN.out]; exact hlt
      have ek : L[i]? = some L[i] := List.getElem?_eq_getElem hlL
      obtain ⟨⟨T, x, ex⟩, T2, x2, ex2⟩ := HSH.out L[i] (List.getElem_mem hlL)
      have hpos : posA b L i = some ⟨b, 1 + 5 * (7 - i), none⟩ := if_pos hlL
      have hHr := HH.out.below hB.out
      have kk := hHr.cells (1 + 5 * (7 - i) + 1) (by omega)
      rw [ht_key b ini 0 L i _ ek (by omega), ex] at kk
      have kv := hHr.cells (1 + 5 * (7 - i) + 2) (by omega)
      rw [ht_val b ini 0 L i _ ek (by omega), ex2] at kv
      have kn := hHr.cells (1 + 5 * (7 - i) + 3) (by omega)
      rw [ht_next b ini 0 L i hlL (by omega)] at kn
      rw [hpos]
      obtain ⟨har1, har2⟩ := har.out
      have hr2 : 2 ≤ r := by omega
      have q1 : (2 : Int) ≤ (r : Int) := by omega
      have hsz := hcs.out
      have lR := hR.out.lt
      obtain ⟨y1, hy1⟩ : ∃ y, cs[2 * i]? = some y := ⟨_, Array.getElem?_eq_getElem (by omega)⟩
      obtain ⟨y2, hy2⟩ : ∃ y, cs[2 * i + 1]? = some y := ⟨_, Array.getElem?_eq_getElem (by omega)⟩
      have kA := hR.out.cell (2 * i) y1 hy1
      have fA := hR.out.free (2 * i)
      have R1 := hR.out.set (2 * i) (.iface T x) (cs.setIfInBounds (2 * i) (.iface T x)) (by simp)
      have kB := R1.cell (2 * i + 1) y2 (by rw [Array.getElem?_setIfInBounds, if_neg (by omega)]; exact hy2)
      have fB := R1.free (2 * i + 1)
      have kv' := cell_setCell_ne (p := ⟨w.heap.size + 1, 2 * i, none⟩) (v := .iface T x) kv (by show w.heap.size + 1 ≠ b; omega)
      have R2 := R1.set (2 * i + 1) (.iface T2 x2) ((cs.setIfInBounds (2 * i) (.iface T x)).setIfInBounds (2 * i + 1) (.iface T2 x2)) (by simp)
      obtain ⟨wb, hwb, hob, hRb, hBb, hszb⟩ : ∃ wb, (wr.setCell ⟨w.heap.size + 1, 2 * i, none⟩ (.iface T x)).setCell ⟨w.heap.size + 1, 2 * i + 1, none⟩ (.iface T2 x2) = wb ∧ wb.ownsRow w.heap.size 114 1 u3 i ((List.range i).map (pairA (w.heap.size + 1))) ∧ RowB wb (w.heap.size + 1) ((cs.setIfInBounds (2 * i) (.iface T x)).setIfInBounds (2 * i + 1) (.iface T2 x2)) 71 ∧ Below w.heap.size w wb ∧ wb.heap.size = wr.heap.size :=
        ⟨_, rfl, own_agree2 hO.out (fun q hq => by have := hq3.out q hq; rw [setCell_block _ _ _ _ (by show q ≠ w.heap.size + 1; exact this), setCell_block _ _ _ _ (by show q ≠ w.heap.size + 1; exact this)]), R2, (hB.out.setCell (p := ⟨w.heap.size + 1, 2 * i, none⟩) (by show w.heap.size ≤ w.heap.size + 1; omega) _).setCell (p := ⟨w.heap.size + 1, 2 * i + 1, none⟩) (by show w.heap.size ≤ w.heap.size + 1; omega) _, by rw [setCell_size, setCell_size]⟩
      have hsr := hB.out.size
      obtain ⟨v', w3, hrun, hO3, hgr, hob3⟩ := app114 (hob.alloc (.cells #[pairA (w.heap.size + 1) i] 114)) ⟨wb.heap.size, 0, none⟩ (pairA (w.heap.size + 1) i) rfl ((RowB.new wb #[pairA (w.heap.size + 1) i] 114).cell 0 _ rfl) (by omega) (by rw [alloc_size]; omega) 186
      obtain ⟨Kv, dv, rfl, -⟩ := own_shape hob
      obtain ⟨Kv', dv', rfl, -⟩ := own_shape hO3
      have hob2 : ∀ q, (Value.slice Kv i dv).ownBlock = some q → w.heap.size ≤ q ∧ q ≠ w.heap.size + 1 := fun q hq => ⟨(own_lt hob q hq).1, hq3.out q hq⟩
      have hq4 : ∀ q, (Value.slice Kv' (i + 1) dv').ownBlock = some q → q ≠ w.heap.size + 1 := fun q hq => by
        rcases hob3 with e | e
        · rw [e] at hq; exact (hob2 q hq).2
        · rw [e, alloc_size] at hq; cases hq; omega
      have HQ4 := Lib.hid hq4
      have HB3 := Lib.hid (below_own (below_alloc' hBb (.cells #[pairA (w.heap.size + 1) i] 114)) hgr (fun q hq => (hob2 q hq).1))
      have kn' := (HH.out.below HB3.out).cells (1 + 5 * (7 - i) + 3) (by omega)
      rw [ht_next b ini 0 L i hlL (by omega)] at kn'
      have HR3 := Lib.hid ((hRb.alloc (.cells #[pairA (w.heap.size + 1) i] 114)).grownO hgr (fun q hq => by have := (hob2 q hq).2; omega))
      have hO3' : Hid (w3.ownsRow w.heap.size 114 1 (.slice Kv' (i + 1) dv') (i + 1) ((List.range (i + 1)).map (pairA (w.heap.size + 1)))) := by
        show World.ownsRow _ _ _ _ _ _ _
        rw [List.range_succ, List.map_append]; exact hO3
      have HP3 : Hid (Pairs ((cs.setIfInBounds (2 * i) (.iface T x)).setIfInBounds (2 * i + 1) (.iface T2 x2)) L (i + 1)) := by
        show Pairs _ _ _
        intro j hj
        by_cases hji : j < i
        · obtain ⟨k, h1, h2, h3⟩ := hPr.out j hji
          refine ⟨k, h1, ?_, ?_⟩
          · rw [Array.getElem?_setIfInBounds, if_neg (by omega), Array.getElem?_setIfInBounds, if_neg (by omega)]; exact h2
          · rw [Array.getElem?_setIfInBounds, if_neg (by omega), Array.getElem?_setIfInBounds, if_neg (by omega)]; exact h3
        · obtain rfl : j = i := by omega
          refine ⟨_, ek, ?_, ?_⟩
          · rw [Array.getElem?_setIfInBounds, if_neg (by omega), Array.getElem?_setIfInBounds, if_pos rfl, if_pos (by omega), ex]
          · rw [Array.getElem?_setIfInBounds, if_pos rfl, if_pos (by simp; omega), ex2]
      have HRUN := Lib.hid hrun
      have hcs3 : Hid (((cs.setIfInBounds (2 * i) (.iface T x)).setIfInBounds (2 * i + 1) (.iface T2 x2)).size = 2 * n) := by show _ = _; simp; exact hsz
      have ep : pairA (w.heap.size + 1) i = .slice (some ⟨w.heap.size + 1, 2 * i, none⟩) 2 2 := rfl
      rw [ep] at HRUN
      clear hrun hO3 hgr hob3 hob2 hq4 hob hRb hBb hszb R1 R2 hHr kn ek ex ex2 hy1 hy2 ep
      go_wp2_with (at_builtin; go_loud (refine wpl_append rfl (.tmp 44) (.tmp 46) 186 rfl _ _ _ _ rfl rfl HRUN.out ?_))
      go_round
      case rel => exact ⟨i + 1, 2 * i + 2, r - 2, _, by omega, hO3'.out, (fun h => by rw [if_neg (by omega)]), ⟨by omega, by omega⟩, rfl, HQ4.out, HR3.out, hcs3.out, HP3.out, HB3.out⟩
      case measure => simp; omega
    · obtain rfl : i = n := by omega
      have hpos : posA b L i = none := if_neg (by rw [HN.out]; omega)
      rw [hpos]
      go_wp2_with fail
      go_ret
      exact ⟨_, _, cs, rfl, hO.out, hR.out, by omega, hcs.out, hPr.out, hB.out⟩
/-- (*Dict).Items -/
theorem c103 (b n : Nat) (ini : Bool) (L : List (Nat × Value × Value)) (w : World) (h : HtR w b ini 0 L) (hn : L.length = n) (hsh : ∀ (k : Nat × Value × Value), k ∈ L → (∃ T x, k.2.1 = .iface T x) ∧ ∃ T x, k.2.2 = .iface T x) :
    Calls Tryz.prog 103 #[.pointer (some ⟨b, 0, none⟩)] w (ItemsP n L w) := by
  have k0 := h.cells 0 (by omega)
  have H := Lib.hid (c123 b n ini L w h hn hsh)
  clear h hsh
  go_enter Tryz.func103, Tryz.ntmps103
  go_wp2_with fail
  refine H.out.mono ?_
  rintro e w1 ⟨v, g, cs, rfl, h1, h2, h3, h4, h5, h6⟩
  have H1 := Lib.hid h1
  have H2 := Lib.hid h2
  have H5 := Lib.hid h5
  clear H h1 h2 h5
  go_wp2_with fail
  go_ret
  exact ⟨v, g, cs, rfl, H1.out, H2.out, h3, h4, H5.out, h6⟩
end Go.Proofs.YtpfihjkhgfoijaaGreatDoor
namespace Go.Proofs.YtpfihjkhgfoijaaGreatDoor
open Go.RowKit Go.Maps

/-- how a value in a dictionary of names reads: as itself -/
def Rv (v : Value) : Option (DataW Value × List MemPlace) := some (.held v, [])
theorem law9 : Keyed Tryz.prog 9 := string_keyed Tryz.underlying9
theorem zero71 (w : World) : (zeroValue 71).run Tryz.prog w = .ok .nilIface w := by kernel_rfl
theorem info9 : (Tryz.prog.info? 9).map (fun i => (i.zero, i.size, i.bytes)) = some (some (.string ⟨#[]⟩), 1, 16) := by kernel_rfl
theorem c27 (B k : Nat) (D : DataW Value) (s : ByteArray) (w : World) (hown : w.ownsMap Tryz.prog 9 Rv B k D) (hs : s.size ≤ maxLen) (hno : Maps.has D (.string s.data.toList) = false) :
    Calls Tryz.prog 27 #[.map (some B), .string s] w fun e w' => e = .returned (.bool false) ∧ w = w' := by
  have hkey := Go.WideMaps.keyOf_string_mk (P := Tryz.prog) Tryz.underlying9 hs
  have HO := Lib.hid hown
  have HN := Lib.hid hno
  clear hown hno
  go_enter Tryz.func27, Tryz.ntmps27
  go_wp2_with (at_lookup; refine wpList_lookup_own_ok _ rfl _ _ 43 rfl 9 71 law9 Tryz.underlying43 Rv (zero71 _) (.held .nilIface) [] rfl B k D rfl HO.out _ _ rfl hkey ?_; intro v ps hv; rw [HN.out])
  go_ret
  exact ⟨rfl, rfl⟩
/-- Attr -/
theorem c32 (b B k : Nat) (D : DataW Value) (nm s : ByteArray) (w : World) (hm : RowB w b #[.string nm, .map (some B)] 49) (hown : w.ownsMap Tryz.prog 9 Rv B k D) (hs : s.size ≤ maxLen) :
    Calls Tryz.prog 32 #[.pointer (some ⟨b, 0, none⟩), .string s] w fun e w' => ∃ v, e = .returned (.tuple #[v, .nilIface]) ∧ D.atKey (.string s.data.toList) (.held .nilIface) = .held v ∧ w = w' := by
  have hkey := Go.WideMaps.keyOf_string_mk (P := Tryz.prog) Tryz.underlying9 hs
  obtain ⟨v, ps, hrun, hv⟩ := hown.lookup law9 Tryz.underlying43 (zero71 w) (R := Rv) rfl hkey
  have k1 := hm.cell 1 _ rfl
  have HV := Lib.hid hv
  clear hown hv hm
  go_enter Tryz.func32, Tryz.ntmps32
  go_wp2_with fail
  go_ret2
  refine ⟨v, rfl, ?_, rfl⟩
  have := HV.out
  simp only [Rv, Option.some.injEq, Prod.mk.injEq] at this
  exact this.1.symm
def KeysP (ks : List (List UInt8)) (w : World) (e : Ending) (w' : World) : Prop :=
  ∃ g cap, e = .returned (.slice (some ⟨g, 0, none⟩) ks.length cap) ∧ w'.ownsRow w.heap.size 9 1 (.slice (some ⟨g, 0, none⟩) ks.length cap) ks.length ((ks.mergeSort leB).map Go.Proofs.encStr) ∧ Below w.heap.size w w'
set_option maxHeartbeats 2000000 in
theorem c68 (B k : Nat) (D : DataW Value) (w : World) (hown : w.ownsMap Tryz.prog 9 Rv B k D) (hk : k ≤ 100) : Calls Tryz.prog 68 #[.map (some B)] w (KeysP (strKeys D) w) := by
  obtain ⟨i0, hi, hz0, hz1, hz2⟩ := info_parts info9
  have hbl := hown.lt
  have hmax : Maps.size D ≤ maxLen := by have := hown.size_le; simp only [maxLen]; omega
  have hbytes : 16 * Maps.size D ≤ 140737488355328 := by have := hown.size_le; omega
  go_enter Tryz.func68, Tryz.ntmps68
  go_wp2_with (first
    | (at_len; refine wpList_len_own _ rfl _ 43 rfl 9 71 Tryz.underlying43 _ B k _ rfl hown ?_)
    | (at_make; refine wpList_make_own _ rfl _ _ 25 rfl w.heap.size 9 i0 (.string ⟨#[]⟩) 1 Tryz.underlying25 hi hz0 hz1 _ _ _ (Maps.size D) rfl rfl rfl (by rw [hz2]; omega) hmax (Nat.le_refl _) ?_; intro w1 hrow1 hg1)
    | (at_range; refine wpList_range_own _ rfl _ 43 rfl 9 71 law9 Tryz.underlying43 _ B k _ rfl (hown.kept hg1 (by simp)) ?_; intro w0 hrg0 hg0 hs0)
    | go_in)
  go_frame
  go_loopw [3] (fun v wr => ∃ (left : Lit → Bool) (cnt : Nat) (ss : List (List UInt8)), wr.ranges Tryz.prog 9 Rv B w1.heap.size k D left cnt ∧ ss.length + cnt ≤ Maps.size D ∧
      wr.ownsRow w.heap.size 9 1 v ss.length (ss.map Go.Proofs.encStr) ∧ v ≠ .slice none 0 0 ∧ Collected D left ss ∧ Below w.heap.size w wr)
    (fun _ wr => wr.rangeLeft B w1.heap.size)
  case atStart =>
    exact ⟨_, _, [], hrg0, by simp, hrow1.kept hg0 (Or.inr (by simp [Value.ownBlock])), by simp, Collected.start D,
      ((Below.refl _ _).grown hg1 (Nat.le_refl _) (fun j hj => by cases hj)).grown hg0 hg1.size (fun j hj => by cases hj)⟩
  case round =>
    obtain ⟨left, cnt, ss, hrg, hcs, hrow, hnn, hC, hnx⟩ := hrel
    go_wp2_with (first
      | (at_next; refine wpList_next_ranges _ rfl _ rfl 9 law9 Rv Go.Proofs.encStr (fun v => v) (fun key kl hk => by obtain ⟨x, hx, _⟩ := Maps.keyOf_str Tryz.underlying9 hk; exact ⟨x, hx⟩) (fun v y hv => ⟨v, rfl⟩) B w1.heap.size k _ _ _ rfl hrg ?_ ?_)
      | go_in)
    · intro hc0 hl0
      rcases hrow.2 with ⟨hnil, _⟩ | ⟨g, cap, cur, rfl, hbase, hb, h1, h2, h3, h4⟩
      · exact absurd hnil hnn
      have hH : Go.Sort.Holds Go.Proofs.encStr wr g 0 ss.toArray := holds_of_block hb (by simpa using h4)
      have hgl : g < wr.heap.size := (Array.getElem?_eq_some_iff.1 hb).1
      have hc := Tryz.sort_Strings g 0 cap ss wr hH hgl (by simp only [maxLen] at hmax; omega)
      go_wp2_with (go_at_call 98; refine hc.mono ?_; rintro e w' ⟨rfl, nn, os, rfl⟩)
      go_ret
      have hp := hC.perm hown law9 Tryz.underlying9 hl0
      have hl := hp.length_eq
      refine ⟨g, cap, by rw [hl]; rfl, ?_, hnx.grown (grownBy_sorted _) hnx.size (fun j hj => by cases hj; exact hbase)⟩
      have := ownsRow_sorted (ss := ss) (ts := ss.mergeSort leB) (n := nn) (os := os) (by simp) hbase hb h1 h2 h3
      rw [← hl, ← mergeSort_of_perm hp]; exact this
    · intro x c kl yd yp w2 cnt2 hkey hlk hv hat hrg2 hlt hg2 hs2 hen
      obtain ⟨x', ex, rfl, _⟩ := Maps.keyOf_str Tryz.underlying9 hkey
      obtain rfl : x = x' := encStr_inj ex
      have hrow2 := hrow.kept hg2 (Or.inr (row_ne_iter hrow hrg).symm)
      clear hs2
      go_wp2_with (first
        | (at_builtin; refine wpList_append_own _ rfl _ _ 25 rfl w.heap.size 9 i0 (.string ⟨#[]⟩) 1 16 Tryz.underlying25 hi hz0 hz1 hz2 rfl (by decide) _ _ _ rfl (hrow2.alloc _) ⟨w2.heap.size, 0, none⟩ 1 1 [Go.Proofs.encStr x] rfl rfl (cell_one_new _ _ _) (by simp [Value.oneCell', Go.Proofs.encStr]) (by unfold maxLen at *; omega) (by omega) (by have := hnx.size; have := hg2.size; simp; omega) ?_; intro v' w3 hown' hg3 hnil3; go_frame)
        | go_in)
      have hrg3 := (hrg2.alloc _).kept hg3 (row_ne_low hrow2 hbl) (row_ne_iter hrow2 hrg2)
      go_roundw
      case rel =>
        refine ⟨_, cnt2, ss ++ [x], hrg3, by simp; omega, by simpa using hown', fun hv' => by have := (hnil3.1 hv').2; omega, hC.step hlk hat, ?_⟩
        exact ((hnx.grown hg2 hnx.size (fun j hj => by cases hj; exact hg1.size)).alloc (by have := hnx.size; have := hg2.size; omega) _).grown hg3 (by have := hnx.size; have := hg2.size; simp; omega) (fun j hj => (hrow2.lt j hj).1)
      case measure => rw [hrg3.left_eq, hrg.left_eq]; exact hlt
/-- AttrNames -/
theorem c30 (b B k : Nat) (D : DataW Value) (nm : ByteArray) (w : World) (hm : RowB w b #[.string nm, .map (some B)] 49) (hown : w.ownsMap Tryz.prog 9 Rv B k D) (hk : k ≤ 100) :
    Calls Tryz.prog 30 #[.pointer (some ⟨b, 0, none⟩)] w (KeysP (strKeys D) w) := by
  have H := Lib.hid (c68 B k D w hown hk)
  have k1 := hm.cell 1 _ rfl
  clear hown hm
  go_enter Tryz.func30, Tryz.ntmps30
  go_wp2_with fail
  refine H.out.mono ?_
  rintro e w1 ⟨g, cap, rfl, h1, h2⟩
  have H1 := Lib.hid h1
  clear H h1
  go_wp2_with fail
  go_ret
  exact ⟨g, cap, rfl, H1.out, h2⟩
theorem c29 (v : Value) (w : World) : Calls Tryz.prog 29 #[v] w fun e w' => e = .returned (.string ⟨#[109, 111, 100, 117, 108, 101]⟩) ∧ w = w' := by
  go_enter Tryz.func29, Tryz.ntmps29
  go_wp2_with fail
  go_ret
  exact ⟨rfl, rfl⟩
theorem c31 (v : Value) (w : World) : Calls Tryz.prog 31 #[v] w fun e w' => e = .returned (.bool true) ∧ w = w' := by
  go_enter Tryz.func31, Tryz.ntmps31
  go_wp2_with fail
  go_ret
  exact ⟨rfl, rfl⟩
/-- the text of a module whose name's quoted form is q -/
def mtx (q : ByteArray) : ByteArray := (⟨#[60, 109, 111, 100, 117, 108, 101, 32]⟩ ++ q) ++ ⟨#[62]⟩
theorem mtx1 (q : ByteArray) (h : q.size ≤ 100000) (w : World) : (Op.stringOp .add ⟨#[60, 109, 111, 100, 117, 108, 101, 32]⟩ q).run Tryz.prog w = .ok (.string (⟨#[60, 109, 111, 100, 117, 108, 101, 32]⟩ ++ q)) w := run_string_add_sum w _ _ (by
  have : (⟨#[60, 109, 111, 100, 117, 108, 101, 32]⟩ : ByteArray).size = 8 := rfl
  omega)
theorem mtx2 (q : ByteArray) (h : q.size ≤ 100000) (w : World) : (Op.stringOp .add (⟨#[60, 109, 111, 100, 117, 108, 101, 32]⟩ ++ q) ⟨#[62]⟩).run Tryz.prog w = .ok (.string (mtx q)) w := run_string_add_sum w _ _ (by
  have e1 : (⟨#[60, 109, 111, 100, 117, 108, 101, 32]⟩ : ByteArray).size = 8 := rfl
  have e2 : (⟨#[62]⟩ : ByteArray).size = 1 := rfl
  rw [ByteArray.size_append]
  omega)
theorem c28 (b : Nat) (v : Value) (T : Lib.PrintTabs) (nm : ByteArray) (w : World) (hm : RowB w b #[.string nm, v] 49) (hlen : nm.size ≤ 100) (hT : Lib.PrintTabsAt 3 4 5 6 T w) (hU : Lib.Utf8Tabs 1 2 w) :
    Calls Tryz.prog 28 #[.pointer (some ⟨b, 0, none⟩)] w fun e w' => e = .returned (.string (mtx (strOfNums (Lib.quoteZ T nm)))) ∧ Below w.heap.size w w' := by
  have h := Tryz.strconv_Quote T nm w (by omega) hT hU
  have hq : (strOfNums (Lib.quoteZ T nm)).size ≤ 10 * nm.size + 2 := by rw [strOfNums_size]; exact Lib.quoteZ_length_le T nm
  generalize strOfNums (Lib.quoteZ T nm) = q at hq h ⊢
  have H := Lib.hid h
  have k0 := hm.cell 0 _ rfl
  clear hm hT hU h
  go_enter Tryz.func28, Tryz.ntmps28
  go_wp2_with fail
  refine H.out.mono ?_
  rintro e w1 ⟨rfl, hB⟩
  clear H
  have c1 := mtx1 q (by omega)
  have c2 := mtx2 q (by omega)
  go_wp2_with fail
  go_ret
  exact ⟨rfl, hB⟩
/-- Hash -/
theorem c34 (v : Value) (w : World) : Calls Tryz.prog 34 #[v] w fun e w' => (∃ p, e = .returned (.tuple #[.int .u32 0, .iface 214 p])) ∧ Below w.heap.size w w' := by
  go_enter Tryz.func34, Tryz.ntmps34
  go_wp2
  go_ret2
  exact ⟨⟨_, rfl⟩, below_alloc' (Below.refl _ _) _⟩
end Go.Proofs.YtpfihjkhgfoijaaGreatDoor
