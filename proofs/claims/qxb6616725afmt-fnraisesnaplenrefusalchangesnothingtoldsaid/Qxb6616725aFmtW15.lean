/-
  bytes.Buffer: grow of an empty one by more than 64 bytes.
-/
import Derived.Test.Qxb6616725aFmtW14
namespace Go.Proofs.Qxb6616725aFmt
open Go.RowKit
set_option linter.unusedVariables false

set_option maxRecDepth 100000 in
set_option maxHeartbeats 1000000 in
theorem f58z (bb n : Nat) (lr : Int) (w : World) (h : Bb w bb (.slice none 0 0) lr) (hn : 0 < n) :
    Calls Tryf.prog 58 #[.pointer (some ⟨bb, 0, none⟩), .int .i64 n] w fun e w' => e = .returned (.tuple #[.int .i64 0, .bool false]) ∧ w' = w := by
  obtain ⟨c0, c1, c2⟩ := h.c
  have ht : decide ((n : Int) ≤ 0) = false := by simp; omega
  clear h
  go_enter Tryf.func58, Tryf.ntmps58
  go_wp2
  go_ret2
  exact ⟨rfl, rfl⟩
set_option maxHeartbeats 1000000 in
theorem f60z (bb : Nat) (lr : Int) (w : World) (h : Bb w bb (.slice none 0 0) lr) :
    Calls Tryf.prog 60 #[.pointer (some ⟨bb, 0, none⟩)] w fun e w' => e = .returned (.int .i64 0) ∧ w' = w.drew := by
  obtain ⟨c0, c1, c2⟩ := h.c
  clear h
  go_enter Tryf.func60, Tryf.ntmps60
  go_wp2
  go_region
  go_wp2
  go_ret
  exact ⟨rfl, rfl⟩

set_option maxRecDepth 100000 in
set_option maxHeartbeats 2000000 in
theorem f59b (bb n : Nat) (lr : Int) (w : World) (h : Bb w bb (.slice none 0 0) lr) (hn : 64 < n) (hlim : n ≤ 1000000000) :
    Calls Tryf.prog 59 #[.pointer (some ⟨bb, 0, none⟩), .int .i64 n] w fun e w' => e = .returned (.int .i64 0) ∧ ∃ g' cap2 cells, w.heap.size ≤ g' ∧
      Bb w' bb (.slice (some ⟨g', 0, none⟩) (0 + n) cap2) lr ∧ w'.heap[g']? = some (.cells cells 5 (0, 0)) ∧ cells.size = cap2 ∧ cells.toList.take 0 = [] ∧ 0 + n ≤ cap2 ∧ cap2 ≤ maxLen ∧ Fr [bb] w w' := by
  have hlt := h.lt
  obtain ⟨c0, c1, c2⟩ := h.c
  have P60 := hide (f60z bb lr w h)
  have P58 := hide (f58z bb n lr w.drew h (by omega))
  have P61 := hide (fun (W : World) (hW : W.heap = w.heap) => Tryf.bytes_growSlice_nil n W (by omega) (by omega))
  have q23 : ∀ (w : World) (a : Option Addr) (n c n' c' : Nat), (binOp .eql 23 (.slice a n c) (.slice none n' c')).run Tryf.prog w = .ok (.bool a.isNone) w := fun w a n c n' c' => Lib.run_eql_slice_nil w _ _ a n c n' c' Tryf.underlying23
  have HH := hide h
  clear h
  have d0 : decide ((n : Int) ≤ 64) = false := by simp; omega
  have d1 : decide ((n : Int) ≤ 0) = false := by simp; omega
  have d2 : decide ((9223372036854775807 : Int) - (n : Int) < 0) = false := by simp; omega
  have hwn : IntKind.i64.wrap (n : Int) = n := by rw [IntKind.wrap_i64]; omega
  go_enter Tryf.func59, Tryf.ntmps59
  go_wp2_with fail
  refine P60.out.mono ?_
  rintro e w2 ⟨rfl, rfl⟩
  go_wp2_with fail
  refine P58.out.mono ?_
  rintro e w2 ⟨rfl, rfl⟩
  go_wp2_with fail
  go_region_with (
      go_at_call 61
      refine (P61.out _ ?_).mono ?_
      rfl
      rintro e w3 ⟨cap2, cells, rfl, k1, k2, k4, k5, k6⟩
      have hb3 : Bb w3 bb (.slice none 0 0) lr := (k6.block bb hlt).trans HH.out
      obtain ⟨y0, y1, y2⟩ := hb3.c
      have v0 := hb3.z 0
      have v1 := hb3.z 1
      have r2 : (n : Int) ≤ (cap2 : Int) := by omega
      have K := hide (And.intro k1 (And.intro k2 (And.intro k4 (And.intro k5 (And.intro k6 hb3)))))
      clear k1 k2 k4 k5 k6 hb3)
  all_goals
    go_wp2_with fail
    go_ret
    obtain ⟨k1, k2, k4, k5, k6, hb3⟩ := K.out
    have G := grow_fin (len := 0) (n := n) hlt hb3 k1 k6 k2 rfl (by omega) k5
    refine ⟨rfl, w.heap.size, cap2, cells, Nat.le_refl _, ?_⟩
    simpa using G
end Go.Proofs.Qxb6616725aFmt
