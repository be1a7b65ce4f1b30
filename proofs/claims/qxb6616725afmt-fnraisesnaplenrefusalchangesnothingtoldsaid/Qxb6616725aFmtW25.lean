/-
  Ahead of Writer.Write: the blocks on its road.
-/
import Derived.Test.Qxb6616725aFmtW21
import Derived.Test.Qxb6616725aFmtW16
namespace Go.Proofs.Qxb6616725aFmt
open Go.RowKit
set_option linter.unusedVariables false

theorem pw_bw {w : World} {pw bw bw' bs bb n : Nat} {ord : Value} {snap : Int} (h : Pw w pw bw ord snap) (hb : Bw w bw' bs bb n) : pw ≠ bw' := by
  rintro rfl
  unfold Pw at h
  unfold Bw at hb
  rw [h] at hb
  simp at hb
theorem pw_row {w : World} {pw bw bs : Nat} {ord : Value} {snap : Int} {xs : List Int} (h : Pw w pw bw ord snap) (hb : Row w bs 5 xs) : pw ≠ bs := by
  rintro rfl
  unfold Pw at h
  unfold Row at hb
  rw [h] at hb
  simp at hb
theorem sk_pw {w : World} {bb pw bw : Nat} {ord : Value} {snap : Int} (h : Sk0 w bb) (hb : Pw w pw bw ord snap) : pw ≠ bb := by
  rintro rfl
  obtain ⟨lr, h⟩ := h
  unfold Pw at hb
  rw [h] at hb
  simp at hb
theorem sk_bw {w : World} {bb bw bs b n : Nat} {v : Array Value} (h : w.heap[bb]? = some (.cells v 55 (0, 0))) (hb : Bw w bw bs b n) : bb ≠ bw := by
  rintro rfl
  unfold Bw at hb
  rw [h] at hb
  simp at hb
theorem sk_row {w : World} {bb bs : Nat} {v : Array Value} {xs : List Int} (h : w.heap[bb]? = some (.cells v 55 (0, 0))) (hb : Row w bs 5 xs) : bb ≠ bs := by
  rintro rfl
  unfold Row at hb
  rw [h] at hb
  simp at hb
theorem src_lt {w : World} {sb so : Nat} {cs : List Int} (h : Src w sb so cs) (hl : 0 < cs.length) : sb < w.heap.size := World.block_lt_of_cell? w ⟨sb, so + 0, none⟩ (h 0 hl)

/-- Ahead of bufio: the Writer, the record's block, the array's. -/
structure Rs (w W : World) (pw bw : Nat) (ot : TypeId) (snap sec frac orig : Int) (a : Option Addr) (l c : Nat) (xs : List Int) : Prop where
  p : Pw W pw bw (.iface ot (.agg #[])) snap
  h : W.heap[w.heap.size]? = some (.cells #[.int .u32 sec, .int .u32 frac, .int .u32 orig, .slice a l c] 46 (0, 0))
  g : Row W (w.heap.size + 1) 72 xs
  b : Below w.heap.size w W
theorem rs0 (w : World) (pw bw : Nat) (ot : TypeId) (snap sec frac orig : Int) (a : Option Addr) (l c : Nat) (hP : Pw w pw bw (.iface ot (.agg #[])) snap) : Rs w ((w.alloc (.cells #[.int .u32 sec, .int .u32 frac, .int .u32 orig, .slice a l c] 46)).alloc (.cells (by8 (List.replicate 16 0)).toArray 72)) pw bw ot snap sec frac orig a l c (List.replicate 16 0) := by
  have hb : Below w.heap.size w ((w.alloc (.cells #[.int .u32 sec, .int .u32 frac, .int .u32 orig, .slice a l c] 46)).alloc (.cells (by8 (List.replicate 16 0)).toArray 72)) := ((Below.refl _ w).alloc (Nat.le_refl _) _).alloc (by simp) _
  refine ⟨(hb.block pw (Array.getElem?_eq_some_iff.1 hP).1).trans hP, ?_, ?_, hb⟩
  · rw [Below.heap_alloc _ _ _ (by simp)]
    exact heap_alloc_new w _
  · have := heap_alloc_new (w.alloc (.cells #[.int .u32 sec, .int .u32 frac, .int .u32 orig, .slice a l c] 46)) (.cells (by8 (List.replicate 16 0)).toArray 72)
    unfold Row
    simpa using this
theorem Rs.put {w W w1 : World} {pw bw : Nat} {ot : TypeId} {snap sec frac orig : Int} {a : Option Addr} {l c : Nat} {xs ys : List Int} (h : Rs w W pw bw ot snap sec frac orig a l c xs) (hp : pw < w.heap.size) (hr : Row w1 (w.heap.size + 1) 72 ys) (hf : Fr [w.heap.size + 1] W.drew w1) : Rs w w1 pw bw ot snap sec frac orig a l c ys :=
  ⟨hf.keeps h.p (by simp; omega), hf.keeps h.h (by simp), hr, h.b.drew.trans (hf.below h.b.size (by simp))⟩
theorem Rs.c3 {w W : World} {pw bw : Nat} {ot : TypeId} {snap sec frac orig : Int} {a : Option Addr} {l c : Nat} {xs : List Int} (h : Rs w W pw bw ot snap sec frac orig a l c xs) : W.cell? ⟨pw, 3, none⟩ = some (.iface ot (.agg #[])) := by rw [cell_of_row W _ _ _ _ _ h.p]; rfl
theorem Rs.h0 {w W : World} {pw bw : Nat} {ot : TypeId} {snap sec frac orig : Int} {a : Option Addr} {l c : Nat} {xs : List Int} (h : Rs w W pw bw ot snap sec frac orig a l c xs) : W.cell? ⟨w.heap.size, 0, none⟩ = some (.int .u32 sec) := by rw [cell_of_row W _ _ _ _ _ h.h]; rfl
theorem Rs.h1 {w W : World} {pw bw : Nat} {ot : TypeId} {snap sec frac orig : Int} {a : Option Addr} {l c : Nat} {xs : List Int} (h : Rs w W pw bw ot snap sec frac orig a l c xs) : W.cell? ⟨w.heap.size, 1, none⟩ = some (.int .u32 frac) := by rw [cell_of_row W _ _ _ _ _ h.h]; rfl
theorem Rs.h2 {w W : World} {pw bw : Nat} {ot : TypeId} {snap sec frac orig : Int} {a : Option Addr} {l c : Nat} {xs : List Int} (h : Rs w W pw bw ot snap sec frac orig a l c xs) : W.cell? ⟨w.heap.size, 2, none⟩ = some (.int .u32 orig) := by rw [cell_of_row W _ _ _ _ _ h.h]; rfl
theorem Rs.h3 {w W : World} {pw bw : Nat} {ot : TypeId} {snap sec frac orig : Int} {a : Option Addr} {l c : Nat} {xs : List Int} (h : Rs w W pw bw ot snap sec frac orig a l c xs) : W.cell? ⟨w.heap.size, 3, none⟩ = some (.slice a l c) := by rw [cell_of_row W _ _ _ _ _ h.h]; rfl
theorem z16 : (by8 (List.replicate 16 0)).toArray = #[Value.int .u8 0, Value.int .u8 0, Value.int .u8 0, Value.int .u8 0, Value.int .u8 0, Value.int .u8 0, Value.int .u8 0, Value.int .u8 0, Value.int .u8 0, Value.int .u8 0, Value.int .u8 0, Value.int .u8 0, Value.int .u8 0, Value.int .u8 0, Value.int .u8 0, Value.int .u8 0] := rfl
def laid4 (big : Bool) (p q r s : Int) : List Int := lay (lay (lay (lay (List.replicate 16 0) 0 (put32 big p)) 4 (put32 big q)) 8 (put32 big r)) 12 (put32 big s)
theorem laid4_eq (big : Bool) (p q r s : Int) : laid4 big p q r s = put32 big p ++ put32 big q ++ put32 big r ++ put32 big s := by cases big <;> rfl
end Go.Proofs.Qxb6616725aFmt
