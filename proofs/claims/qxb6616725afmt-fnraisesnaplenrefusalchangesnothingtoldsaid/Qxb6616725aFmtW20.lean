/-
  ZZBytes over a Buffer that has grown; zzClone of nil.
-/
import Derived.Test.Qxb6616725aFmtW11
import Derived.Test.Qxb6616725aFmtW17
namespace Go.Proofs.Qxb6616725aFmt
open Go.RowKit
set_option linter.unusedVariables false

set_option maxHeartbeats 1000000 in
theorem f28g (bb g : Nat) (sink : List Int) (w : World) (h : SkG w bb g sink) :
    Calls Tryf.prog 28 #[.pointer (some ⟨bb, 0, none⟩)] w fun e w' => ∃ cap, e = .returned (.slice (some ⟨g, 0, none⟩) sink.length cap) ∧ w' = w.drew := by
  obtain ⟨lr, cap, cur, h, _⟩ := h
  obtain ⟨c0, c1, c2⟩ := h.c
  clear h
  go_enter Tryf.func28, Tryf.ntmps28
  go_wp2
  go_region
  go_wp2
  go_ret
  exact ⟨cap, by simp, rfl⟩
set_option maxHeartbeats 1000000 in
theorem f9g (bb g : Nat) (sink : List Int) (w : World) (h : SkG w bb g sink) :
    Calls Tryf.prog 9 #[.pointer (some ⟨bb, 0, none⟩)] w fun e w' => ∃ cap, e = .returned (.slice (some ⟨g, 0, none⟩) sink.length cap) ∧ w' = w.drew := by
  have HP := hide (f28g bb g sink w h)
  clear h
  go_enter Tryf.func9, Tryf.ntmps9
  go_wp2_with fail
  refine HP.out.mono ?_
  rintro e w1 ⟨cap, rfl, rfl⟩
  go_wp2_with fail
  go_ret
  exact ⟨cap, rfl, rfl⟩
theorem SkG.src {w : World} {bb g : Nat} {sink : List Int} (h : SkG w bb g sink) : Src w g 0 sink := by
  obtain ⟨lr, cap, cur, _, hg, hcs, htk, hlc, _⟩ := h
  intro j hj
  rw [Nat.zero_add, cell_of_row w g j cur 5 (0, 0) hg, ← Array.getElem?_toList]
  have e : cur.toList[j]? = (cur.toList.take sink.length)[j]? := by rw [List.getElem?_take]; simp [hj]
  rw [e, htk]
  simp [by8, List.getD, List.getElem?_eq_getElem hj]

set_option maxRecDepth 100000 in
set_option maxHeartbeats 1000000 in
theorem f20z (w : World) :
    Calls Tryf.prog 20 #[.slice none 0 0] w fun e w' => e = .returned (.slice (some ⟨w.heap.size, 0, none⟩) 0 0) ∧ Fr [] w w' := by
  obtain ⟨w1, hmk, hrow, hb, hs⟩ := mk 0 0 (Nat.le_refl _) (by omega) w
  replace hmk : (Instr.makeSlice 23 (.int .i64 0) (.int .i64 0)).run Tryf.prog w = .ok (.slice (some ⟨w.heap.size, 0, none⟩) 0 0) w1 := hmk
  have HB := hide hb
  clear hrow hb hs
  go_enter Tryf.func20, Tryf.ntmps20
  go_wp2_with fail
  go_loopw [4] (fun i wr => i = .int .i64 0 ∧ wr = w1) (fun i _ => 0)
  case atStart => exact ⟨rfl, rfl⟩
  case round =>
    obtain ⟨rfl, rfl⟩ := hrel
    go_wp2_with fail
    go_ret
    exact ⟨rfl, Fr.of_below HB.out⟩
end Go.Proofs.Qxb6616725aFmt
