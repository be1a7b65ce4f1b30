/-
  bytes.Buffer, in general: tryGrowByReslice, Len, grow.
-/
import Derived.Test.Qxb6616725aFmtW4
import Derived.Test.Qxb6616725aFmtShelf
import Derived.Lib.SliceRun
import Derived.Shelf.RegionOpenPlain
import Derived.RegionTactic
import Derived.Deep.RegionWith
import Derived.Deep.Draws
namespace Go.Proofs.Qxb6616725aFmt
open Go.RowKit
set_option linter.unusedVariables false

/-- A bytes.Buffer in block bb that has only been written; its row, if any, in block g. -/
def Bb (w : World) (bb : Nat) (v : Value) (lr : Int) : Prop := w.heap[bb]? = some (.cells #[v, .int .i64 0, .int .i8 lr] 55 (0, 0))
theorem Bb.c {w : World} {bb : Nat} {v : Value} {lr : Int} (h : Bb w bb v lr) : w.cell? ⟨bb, 0, none⟩ = some v ∧ w.cell? ⟨bb, 1, none⟩ = some (.int .i64 0) ∧ w.cell? ⟨bb, 2, none⟩ = some (.int .i8 lr) := by
  refine ⟨?_, ?_, ?_⟩ <;> (rw [cell_of_row w _ _ _ _ _ h]; rfl)
theorem Bb.z {w : World} {bb : Nat} {v : Value} {lr : Int} (h : Bb w bb v lr) (k : Nat) : w.frozen? ⟨bb, k, none⟩ = false := frozen_of_row w bb k _ _ h
theorem Bb.lt {w : World} {bb : Nat} {v : Value} {lr : Int} (h : Bb w bb v lr) : bb < w.heap.size := (Array.getElem?_eq_some_iff.1 h).1
theorem Bb.set {w : World} {bb : Nat} {v : Value} {lr : Int} (h : Bb w bb v lr) (u : Value) : Bb (w.setCell ⟨bb, 0, none⟩ u) bb u lr := by
  unfold Bb
  rw [heap_setCell_same w bb 0 _ 55 _ h]
  rfl

set_option maxRecDepth 100000 in
set_option maxHeartbeats 1000000 in
theorem f58y (bb g len cap n : Nat) (lr : Int) (w : World) (h : Bb w bb (.slice (some ⟨g, 0, none⟩) len cap) lr) (hr : len + n ≤ cap) (hc : cap ≤ 9223372036854775807) :
    Calls Tryf.prog 58 #[.pointer (some ⟨bb, 0, none⟩), .int .i64 n] w fun e w' => e = .returned (.tuple #[.int .i64 len, .bool true]) ∧ w' = w.setCell ⟨bb, 0, none⟩ (.slice (some ⟨g, 0, none⟩) (len + n) cap) := by
  obtain ⟨c0, c1, c2⟩ := h.c
  have z0 := h.z 0
  have ht : decide ((n : Int) ≤ (cap : Int) - (len : Int)) = true := by simp; omega
  have x1 : IntKind.i64.wrap ((cap : Int) - (len : Int)) = (cap : Int) - (len : Int) := by rw [IntKind.wrap_i64]; omega
  have x2 : IntKind.i64.wrap ((len : Int) + (n : Int)) = (len : Int) + (n : Int) := by rw [IntKind.wrap_i64]; omega
  have t2 : ((len : Int) + (n : Int)).toNat = len + n := by omega
  have n2 : (0 : Int) ≤ (len : Int) + (n : Int) := by omega
  have n3 : (len : Int) + (n : Int) ≤ (cap : Int) := by omega
  clear h
  go_enter Tryf.func58, Tryf.ntmps58
  go_wp2
  go_ret2
  exact ⟨rfl, rfl⟩

set_option maxRecDepth 100000 in
set_option maxHeartbeats 1000000 in
theorem f58r (bb g len cap n : Nat) (lr : Int) (w : World) (h : Bb w bb (.slice (some ⟨g, 0, none⟩) len cap) lr) (hr : cap < len + n) (hlc : len ≤ cap) (hc : cap ≤ 9223372036854775807) :
    Calls Tryf.prog 58 #[.pointer (some ⟨bb, 0, none⟩), .int .i64 n] w fun e w' => e = .returned (.tuple #[.int .i64 0, .bool false]) ∧ w' = w := by
  obtain ⟨c0, c1, c2⟩ := h.c
  have ht : decide ((n : Int) ≤ (cap : Int) - (len : Int)) = false := by simp; omega
  have x1 : IntKind.i64.wrap ((cap : Int) - (len : Int)) = (cap : Int) - (len : Int) := by rw [IntKind.wrap_i64]; omega
  clear h
  go_enter Tryf.func58, Tryf.ntmps58
  go_wp2
  go_ret2
  exact ⟨rfl, rfl⟩

set_option maxRecDepth 100000 in
set_option maxHeartbeats 1000000 in
theorem f60r (bb g len cap : Nat) (lr : Int) (w : World) (h : Bb w bb (.slice (some ⟨g, 0, none⟩) len cap) lr) (hc : len ≤ 9223372036854775807) :
    Calls Tryf.prog 60 #[.pointer (some ⟨bb, 0, none⟩)] w fun e w' => e = .returned (.int .i64 len) ∧ w' = w.drew := by
  obtain ⟨c0, c1, c2⟩ := h.c
  clear h
  go_enter Tryf.func60, Tryf.ntmps60
  go_wp2
  go_region
  go_wp2
  go_ret
  exact ⟨rfl, rfl⟩

theorem Bb.set1 {w : World} {bb : Nat} {v : Value} {lr : Int} (h : Bb w bb v lr) : Bb (w.setCell ⟨bb, 1, none⟩ (.int .i64 0)) bb v lr := by
  unfold Bb
  rw [heap_setCell_same w bb 1 _ 55 _ h]
  rfl
/-- What grow leaves behind growSlice. -/
theorem grow_fin {w w3 : World} {bb len n cap2 : Nat} {v : Value} {lr : Int} {cells : Array Value} {xs : List Value} (hlt : bb < w.heap.size) (hb3 : Bb w3 bb v lr)
    (k1 : w3.heap[w.drew.drew.heap.size]? = some (.cells cells 5 (0, 0))) (k6 : Below w.drew.drew.heap.size w.drew.drew w3) (k2 : cells.size = cap2) (k3 : cells.toList.take len = xs) (k4 : len + n ≤ cap2) (k5 : cap2 ≤ maxLen) :
    Bb (((w3.setCell ⟨bb, 0, none⟩ (.slice (some ⟨w.heap.size, 0, none⟩) len cap2)).setCell ⟨bb, 1, none⟩ (.int .i64 0)).setCell ⟨bb, 0, none⟩ (.slice (some ⟨w.heap.size, 0, none⟩) (len + n) cap2)) bb (.slice (some ⟨w.heap.size, 0, none⟩) (len + n) cap2) lr ∧
    (((w3.setCell ⟨bb, 0, none⟩ (.slice (some ⟨w.heap.size, 0, none⟩) len cap2)).setCell ⟨bb, 1, none⟩ (.int .i64 0)).setCell ⟨bb, 0, none⟩ (.slice (some ⟨w.heap.size, 0, none⟩) (len + n) cap2)).heap[w.heap.size]? = some (.cells cells 5 (0, 0)) ∧
    cells.size = cap2 ∧ cells.toList.take len = xs ∧ len + n ≤ cap2 ∧ cap2 ≤ maxLen ∧ Fr [bb] w (((w3.setCell ⟨bb, 0, none⟩ (.slice (some ⟨w.heap.size, 0, none⟩) len cap2)).setCell ⟨bb, 1, none⟩ (.int .i64 0)).setCell ⟨bb, 0, none⟩ (.slice (some ⟨w.heap.size, 0, none⟩) (len + n) cap2)) := by
  refine ⟨((hb3.set _).set1).set _, ?_, k2, k3, k4, k5, ?_⟩
  · rw [Below.heap_setCell _ _ _ _ (by show w.heap.size ≠ bb; omega), Below.heap_setCell _ _ _ _ (by show w.heap.size ≠ bb; omega), Below.heap_setCell _ _ _ _ (by show w.heap.size ≠ bb; omega)]
    exact k1
  · have hF : Fr [bb] w w3 := ⟨k6.os, k6.tape, k6.output, k6.size, fun k hk _ => k6.block k hk⟩
    exact ((hF.setCell (p := ⟨bb, 0, none⟩) (.inl (by simp)) _).setCell (p := ⟨bb, 1, none⟩) (.inl (by simp)) _).setCell (p := ⟨bb, 0, none⟩) (.inl (by simp)) _

set_option maxRecDepth 100000 in
set_option maxHeartbeats 2000000 in
/-- grow where a row is there and there is no room. -/
theorem f59r (bb g len cap n : Nat) (lr : Int) (cur : Array Value) (w : World) (h : Bb w bb (.slice (some ⟨g, 0, none⟩) len cap) lr) (hg : w.heap[g]? = some (.cells cur 5 (0, 0))) (hcs : cur.size = cap) (h1 : ∀ v ∈ cur.toList.take len, v.oneCell' = true)
    (hl : 0 < len) (hr : cap < len + n) (hlc : len ≤ cap) (hlim : len + n ≤ 1000000000) :
    Calls Tryf.prog 59 #[.pointer (some ⟨bb, 0, none⟩), .int .i64 n] w fun e w' => e = .returned (.int .i64 len) ∧ ∃ g' cap2 cells, w.heap.size ≤ g' ∧
      Bb w' bb (.slice (some ⟨g', 0, none⟩) (len + n) cap2) lr ∧ w'.heap[g']? = some (.cells cells 5 (0, 0)) ∧ cells.size = cap2 ∧ cells.toList.take len = cur.toList.take len ∧ len + n ≤ cap2 ∧ cap2 ≤ maxLen ∧ Fr [bb] w w' := by
  have hlt := h.lt
  obtain ⟨c0, c1, c2⟩ := h.c
  have P60 := hide (f60r bb g len cap lr w h (by omega))
  have P58 := hide (f58r bb g len cap n lr w.drew h hr hlc (by omega))
  have P61 := hide (fun (W : World) (hW : W.heap = w.heap) => Tryf.bytes_growSlice_row g len cap n cur W (by rw [hW]; exact hg) hcs hlc (by omega) (by omega) (by omega) h1)
  have q23 : ∀ (w : World) (a : Option Addr) (n c n' c' : Nat), (binOp .eql 23 (.slice a n c) (.slice none n' c')).run Tryf.prog w = .ok (.bool a.isNone) w := fun w a n c n' c' => Lib.run_eql_slice_nil w _ _ a n c n' c' Tryf.underlying23
  have HH := hide h
  clear h hg h1
  have d1 : decide ((n : Int) ≤ (cap : Int) / 2 - (len : Int)) = false := by simp; omega
  have d2 : decide ((9223372036854775807 : Int) - (cap : Int) - (n : Int) < (cap : Int)) = false := by simp; omega
  have x2 : IntKind.i64.wrap ((len : Int) + (n : Int)) = (len : Int) + (n : Int) := by rw [IntKind.wrap_i64]; omega
  have t2 : ((len : Int) + (n : Int)).toNat = len + n := by omega
  have n2 : (0 : Int) ≤ (len : Int) + (n : Int) := by omega
  have hwn : IntKind.i64.wrap (n : Int) = n := by rw [IntKind.wrap_i64]; omega
  have e0 : ((len : Int) == 0) = false := by simp; omega
  ·
    go_enter Tryf.func59, Tryf.ntmps59
    go_wp2_with fail
    refine P60.out.mono ?_
    rintro e w2 ⟨rfl, rfl⟩
    go_wp2_with fail
    refine P58.out.mono ?_
    rintro e w2 ⟨rfl, rfl⟩
    go_wp2_with fail
    go_region_with (
        go_at_call 61
        refine (P61.out _ ?_).mono ?_
        rfl
        rintro e w3 ⟨cap2, cells, rfl, k1, k2, k3, k4, k5, k6⟩
        have hb3 : Bb w3 bb (.slice (some ⟨g, 0, none⟩) len cap) lr := (k6.block bb hlt).trans HH.out
        obtain ⟨y0, y1, y2⟩ := hb3.c
        have v0 := hb3.z 0
        have v1 := hb3.z 1
        have r2 : (len : Int) + (n : Int) ≤ (cap2 : Int) := by omega
        have K := hide (And.intro k1 (And.intro k2 (And.intro k3 (And.intro k4 (And.intro k5 (And.intro k6 hb3))))))
        clear k1 k2 k3 k4 k5 k6 hb3)
    all_goals
      go_wp2_with fail
      go_ret
      obtain ⟨k1, k2, k3, k4, k5, k6, hb3⟩ := K.out
      exact ⟨rfl, w.heap.size, cap2, cells, Nat.le_refl _, grow_fin hlt hb3 k1 k6 k2 k3 k4 k5⟩
end Go.Proofs.Qxb6616725aFmt
