/-
  bufio.NewWriter, zzOrder.
-/
import Derived.Test.Qxb6616725aFmtW2
import Derived.Stop.Asserts
import Derived.Deep.RegionWith
import Derived.Deep.DeepCutAuto
namespace Go.Proofs.Qxb6616725aFmt
open Go.RowKit
set_option linter.unusedVariables false

theorem by8_zeros (n : Nat) : madeCells #[.int .u8 0] n = (by8 (List.replicate n 0)).toArray := by
  apply Array.ext'
  rw [toList_madeCells_one]
  simp [by8]
/-- make([]byte, n, c). -/
theorem mk (n c : Nat) (hnc : n ≤ c) (hc : c ≤ 140737488355328) (w : World) : ∃ w1, (Instr.makeSlice 23 (.int .i64 (n : Int)) (.int .i64 (c : Int))).run Tryf.prog w = .ok (.slice (some ⟨w.heap.size, 0, none⟩) n c) w1 ∧ Row w1 w.heap.size 5 (List.replicate c 0) ∧ Below w.heap.size w w1 ∧ w1.heap.size = w.heap.size + 1 := by
  obtain ⟨i0, hi, hz0, hz1, hz2⟩ := info_parts info5
  have h := run_make (P := Tryf.prog) w 23 5 i0 (.int .u8 0) Tryf.underlying23 hi hz0 .i64 .i64 n c (by omega) (by omega) (by rw [hz2]; omega) (by omega)
  rw [hz1] at h
  refine ⟨_, h, ?_, (Below.refl _ w).alloc (Nat.le_refl _) _, by simp⟩
  have e : madeCells (Value.cells (.int .u8 0)) ((c : Int).toNat * 1) = (by8 (List.replicate c 0)).toArray := by
    have : (c : Int).toNat * 1 = c := by simp
    rw [this]
    exact by8_zeros c
  rw [e]
  exact heap_alloc_new w _

/-- A *bytes.Buffer is no *bufio.Writer, and has no WriteAt. -/
theorem ta63 (v : Value) (w : World) : (Instr.typeAssert (.iface 26 v) 77 63 true).run Tryf.prog w = .ok (.tuple #[.pointer none, .bool false]) w := by kernel_rfl
theorem ta81 (v : Value) (w : World) : (Instr.typeAssert (.iface 26 v) 77 81 true).run Tryf.prog w = .ok (.tuple #[.nilIface, .bool false]) w := run_typeAssert_lacksB Tryf.underlying81 (by kernel_rfl) (by kernel_rfl) v 77 w

/-- A bufio.Writer of 4096 bytes in block bw, its row in block bs, its sink in block bb: n bytes held; no error met. -/
def Bw (w : World) (bw bs bb : Nat) (n : Nat) : Prop := w.heap[bw]? = some (.cells #[.nilIface, .slice (some ⟨bs, 0, none⟩) 4096 4096, .int .i64 n, .iface 26 (.pointer (some ⟨bb, 0, none⟩))] 89 (0, 0))

set_option maxRecDepth 100000 in
set_option maxHeartbeats 1000000 in
theorem f37 (bb : Nat) (w : World) :
    Calls Tryf.prog 37 #[.iface 26 (.pointer (some ⟨bb, 0, none⟩)), .int .i64 4096] w fun e w' => e = .returned (.pointer (some ⟨w.heap.size + 1, 0, none⟩)) ∧
      Row w' w.heap.size 5 (List.replicate 4096 0) ∧ Bw w' (w.heap.size + 1) w.heap.size bb 0 ∧ Below w.heap.size w w' ∧ w'.heap.size = w.heap.size + 2 := by
  obtain ⟨w1, hmk, hrow, hb, hs⟩ := mk 4096 4096 (Nat.le_refl _) (by omega) w
  replace hmk : (Instr.makeSlice 23 (.int .i64 4096) (.int .i64 4096)).run Tryf.prog w = .ok (.slice (some ⟨w.heap.size, 0, none⟩) 4096 4096) w1 := hmk
  have H := hide hrow
  clear hrow
  have h63 := ta63
  go_enter Tryf.func37, Tryf.ntmps37
  go_wp2
  go_ret
  refine ⟨by simp [go_sem], H.out.alloc _, ?_, hb.alloc hb.size _, by simp [hs]⟩
  unfold Bw
  rw [← hs]
  exact heap_alloc_new w1 _

set_option maxHeartbeats 1000000 in
theorem f33 (bb : Nat) (w : World) :
    Calls Tryf.prog 33 #[.iface 26 (.pointer (some ⟨bb, 0, none⟩))] w fun e w' => e = .returned (.pointer (some ⟨w.heap.size + 1, 0, none⟩)) ∧
      Row w' w.heap.size 5 (List.replicate 4096 0) ∧ Bw w' (w.heap.size + 1) w.heap.size bb 0 ∧ Below w.heap.size w w' ∧ w'.heap.size = w.heap.size + 2 := by
  have HP := hide (f37 bb w)
  go_enter Tryf.func33, Tryf.ntmps33
  go_wp2_with fail
  refine HP.out.mono ?_
  rintro e w1 ⟨rfl, h1, h2, h3, h4⟩
  have H1 := hide h1
  have H2 := hide h2
  have H3 := hide h3
  have H4 := hide h4
  clear h1 h2 h3 h4
  go_wp2_with fail
  go_ret
  exact ⟨rfl, H1.out, H2.out, H3.out, H4.out⟩

/-- The order's type. -/
def oty (big : Bool) : TypeId := if big = true then 86 else 87
set_option maxHeartbeats 1000000 in
theorem f27 (big : Bool) (w : World) : Calls Tryf.prog 27 #[.bool big] w fun e w' => e = .returned (.iface (oty big) (.agg #[])) ∧ w' = w := by
  cases big
  · go_enter Tryf.func27, Tryf.ntmps27
    go_wp2
    go_ret
    exact ⟨rfl, rfl⟩
  · go_enter Tryf.func27, Tryf.ntmps27
    go_wp2
    go_ret
    exact ⟨rfl, rfl⟩

/-- Ahead of bufio: the header's block, the array's. -/
structure St (w W : World) (ot : TypeId) (nano : Bool) (snap link : Int) (xs : List Int) : Prop where
  h : W.heap[w.heap.size]? = some (.cells #[.iface ot (.agg #[]), .bool nano, .int .u32 snap, .int .u32 link] 61 (0, 0))
  g : Row W (w.heap.size + 1) 78 xs
  b : Below w.heap.size w W

theorem st0 (w : World) (ot : TypeId) (nano : Bool) (snap link : Int) : St w ((w.alloc (.cells #[.iface ot (.agg #[]), .bool nano, .int .u32 snap, .int .u32 link] 61)).alloc (.cells (by8 (List.replicate 24 0)).toArray 78)) ot nano snap link (List.replicate 24 0) := by
  refine ⟨?_, ?_, ((Below.refl _ w).alloc (Nat.le_refl _) _).alloc (by simp) _⟩
  · rw [Below.heap_alloc _ _ _ (by simp)]
    exact heap_alloc_new w _
  · have := heap_alloc_new (w.alloc (.cells #[.iface ot (.agg #[]), .bool nano, .int .u32 snap, .int .u32 link] 61)) (.cells (by8 (List.replicate 24 0)).toArray 78)
    unfold Row
    simpa using this

theorem St.c0 {w W : World} {ot : TypeId} {nano : Bool} {snap link : Int} {xs : List Int} (h : St w W ot nano snap link xs) : W.cell? ⟨w.heap.size, 0, none⟩ = some (.iface ot (.agg #[])) := by rw [cell_of_row W _ _ _ _ _ h.h]; rfl
theorem St.c2 {w W : World} {ot : TypeId} {nano : Bool} {snap link : Int} {xs : List Int} (h : St w W ot nano snap link xs) : W.cell? ⟨w.heap.size, 2, none⟩ = some (.int .u32 snap) := by rw [cell_of_row W _ _ _ _ _ h.h]; rfl
theorem St.c3 {w W : World} {ot : TypeId} {nano : Bool} {snap link : Int} {xs : List Int} (h : St w W ot nano snap link xs) : W.cell? ⟨w.heap.size, 3, none⟩ = some (.int .u32 link) := by rw [cell_of_row W _ _ _ _ _ h.h]; rfl
theorem St.put {w W w1 : World} {ot : TypeId} {nano : Bool} {snap link : Int} {xs ys : List Int} (h : St w W ot nano snap link xs) (hr : Row w1 (w.heap.size + 1) 78 ys) (hf : Fr [w.heap.size + 1] W.drew w1) : St w w1 ot nano snap link ys :=
  ⟨hf.keeps h.h (by simp), hr, h.b.drew.trans (hf.below h.b.size (by simp))⟩
theorem m86_32 (w : World) : (method 231 86 (.agg #[]) "PutUint32").run Tryf.prog w = .ok (65, .agg #[]) w := by kernel_rfl
theorem m86_16 (w : World) : (method 231 86 (.agg #[]) "PutUint16").run Tryf.prog w = .ok (64, .agg #[]) w := by kernel_rfl
theorem m87_32 (w : World) : (method 231 87 (.agg #[]) "PutUint32").run Tryf.prog w = .ok (73, .agg #[]) w := by kernel_rfl
theorem m87_16 (w : World) : (method 231 87 (.agg #[]) "PutUint16").run Tryf.prog w = .ok (72, .agg #[]) w := by kernel_rfl
theorem z24 : (by8 (List.replicate 24 0)).toArray = #[Value.int .u8 0, Value.int .u8 0, Value.int .u8 0, Value.int .u8 0, Value.int .u8 0, Value.int .u8 0, Value.int .u8 0, Value.int .u8 0, Value.int .u8 0, Value.int .u8 0, Value.int .u8 0, Value.int .u8 0, Value.int .u8 0, Value.int .u8 0, Value.int .u8 0, Value.int .u8 0, Value.int .u8 0, Value.int .u8 0, Value.int .u8 0, Value.int .u8 0, Value.int .u8 0, Value.int .u8 0, Value.int .u8 0, Value.int .u8 0] := rfl

end Go.Proofs.Qxb6616725aFmt
