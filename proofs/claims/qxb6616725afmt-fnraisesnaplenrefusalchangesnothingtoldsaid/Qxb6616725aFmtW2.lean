/-
  ROWS OF BYTES BY BLOCK, FRAMES BY LIST, AND encoding/binary's FOUR PUTTERS.
-/
import Derived.Test.Qxb6616725aFmtW1
import Derived.Maps.AppendAt
namespace Go.Proofs.Qxb6616725aFmt
open Go.RowKit
set_option linter.unusedVariables false

/-- The world grows; of its old blocks only those of S may turn. -/
structure Fr (S : List Nat) (w w' : World) : Prop where
  os : w'.os = w.os
  tape : w'.tape = w.tape
  output : w'.output = w.output
  size : w.heap.size ≤ w'.heap.size
  block : ∀ k, k < w.heap.size → ¬ k ∈ S → w'.heap[k]? = w.heap[k]?

theorem Fr.refl (S : List Nat) (w : World) : Fr S w w := ⟨rfl, rfl, rfl, Nat.le_refl _, fun _ _ _ => rfl⟩
theorem Fr.alloc {S : List Nat} {a w : World} (h : Fr S a w) (o : Obj) : Fr S a (w.alloc o) :=
  ⟨h.os, h.tape, h.output, by have := h.size; simp; omega, fun k hk hs => (Below.heap_alloc w o k (Nat.lt_of_lt_of_le hk h.size)).trans (h.block k hk hs)⟩
theorem Fr.drew {S : List Nat} {a w : World} (h : Fr S a w) : Fr S a w.drew := ⟨h.os, h.tape, h.output, h.size, h.block⟩
theorem Fr.setCell {S : List Nat} {a w : World} (h : Fr S a w) {p : Addr} (hp : p.block ∈ S ∨ a.heap.size ≤ p.block) (v : Value) : Fr S a (w.setCell p v) :=
  ⟨h.os, h.tape, h.output, by simpa using h.size, fun k hk hs => (Below.heap_setCell w p v k (by rintro rfl; rcases hp with hp | hp; exact hs hp; omega)).trans (h.block k hk hs)⟩
theorem setRow_size (w : World) (g : Nat) (cs : Array Value) : (w.setRow g cs).heap.size = w.heap.size := by simp [World.setRow]
theorem Fr.setRow {S : List Nat} {a w : World} (h : Fr S a w) {g : Nat} (hp : g ∈ S ∨ a.heap.size ≤ g) (cs : Array Value) : Fr S a (w.setRow g cs) :=
  ⟨h.os, h.tape, h.output, by rw [setRow_size]; exact h.size, fun k hk hs => (setRow_other w g k cs (by rintro rfl; rcases hp with hp | hp; exact hs hp; omega)).trans (h.block k hk hs)⟩
theorem Fr.trans {S T : List Nat} {a b c : World} (h : Fr S a b) (k : Fr T b c) (hT : ∀ x, x ∈ T → x ∈ S ∨ a.heap.size ≤ x) : Fr S a c :=
  ⟨k.os.trans h.os, k.tape.trans h.tape, k.output.trans h.output, Nat.le_trans h.size k.size, fun i hi hs =>
    (k.block i (Nat.lt_of_lt_of_le hi h.size) (fun hm => by rcases hT i hm with hh | hh; exact hs hh; omega)).trans (h.block i hi hs)⟩
theorem Fr.weak {S T : List Nat} {a b : World} (h : Fr S a b) (hST : ∀ x, x ∈ S → x ∈ T) : Fr T a b :=
  ⟨h.os, h.tape, h.output, h.size, fun i hi hs => h.block i hi (fun hm => hs (hST i hm))⟩
theorem Fr.below {S : List Nat} {a b : World} {B : Nat} (h : Fr S a b) (hB : B ≤ a.heap.size) (hS : ∀ x, x ∈ S → B ≤ x) : Below B a b :=
  ⟨h.os, h.tape, h.output, h.size, fun k hk => h.block k (Nat.lt_of_lt_of_le hk hB) (fun hm => by have := hS k hm; omega)⟩
theorem Fr.of_below {S : List Nat} {a b : World} (h : Below a.heap.size a b) : Fr S a b := ⟨h.os, h.tape, h.output, h.size, fun k hk _ => h.block k hk⟩
theorem Fr.keeps {S : List Nat} {a b : World} (h : Fr S a b) {k : Nat} {o : Obj} (hk : a.heap[k]? = some o) (hs : ¬ k ∈ S) : b.heap[k]? = some o :=
  (h.block k (Array.getElem?_eq_some_iff.1 hk).1 hs).trans hk

/-- A row of bytes: block g holds just xs. -/
def Row (w : World) (g : Nat) (T : TypeId) (xs : List Int) : Prop := w.heap[g]? = some (.cells (by8 xs).toArray T (0, 0))
theorem Row.cell {w : World} {g : Nat} {T : TypeId} {xs : List Int} (h : Row w g T xs) (k : Nat) (hk : k < xs.length) : w.cell? ⟨g, k, none⟩ = some (.int .u8 (xs.getD k 0)) := by
  rw [cell_of_row w g k _ T (0, 0) h]
  simp [by8, List.getD, List.getElem?_eq_getElem hk]
theorem Row.frozen {w : World} {g : Nat} {T : TypeId} {xs : List Int} (h : Row w g T xs) (k : Nat) : w.frozen? ⟨g, k, none⟩ = false := frozen_of_row w g k _ T h
theorem Row.lt {w : World} {g : Nat} {T : TypeId} {xs : List Int} (h : Row w g T xs) : g < w.heap.size := (Array.getElem?_eq_some_iff.1 h).1
theorem Row.set {w : World} {g : Nat} {T : TypeId} {xs : List Int} (h : Row w g T xs) (k : Nat) (x : Int) : Row (w.setCell ⟨g, k, none⟩ (.int .u8 x)) g T (xs.set k x) := by
  have := heap_setCell_same w g k _ T (.int .u8 x) h
  unfold Row
  rw [this]
  simp [by8, List.map_set]
theorem Row.alloc {w : World} {g : Nat} {T : TypeId} {xs : List Int} (h : Row w g T xs) (o : Obj) : Row (w.alloc o) g T xs := (Below.heap_alloc w o g h.lt).trans h
theorem Row.fr {S : List Nat} {w w' : World} {g : Nat} {T : TypeId} {xs : List Int} (h : Row w g T xs) (f : Fr S w w') (hs : ¬ g ∈ S) : Row w' g T xs := f.keeps h hs

/-- News laid over a list from o on. -/
def lay (xs : List Int) (o : Nat) (ys : List Int) : List Int := xs.take o ++ ys ++ xs.drop (o + ys.length)
theorem lay_len (xs : List Int) (o : Nat) (ys : List Int) (h : o + ys.length ≤ xs.length) : (lay xs o ys).length = xs.length := by simp [lay]; omega
theorem set4 (xs : List Int) (o : Nat) (a b c d : Int) (h : o + 4 ≤ xs.length) : (((xs.set o a).set (o + 1) b).set (o + 2) c).set (o + 3) d = lay xs o [a, b, c, d] := by
  obtain ⟨A, D, rfl, hA⟩ : ∃ A D, xs = A ++ D ∧ A.length = o := ⟨xs.take o, xs.drop o, (List.take_append_drop o xs).symm, by simp; omega⟩
  subst hA
  rw [List.length_append] at h
  match D, h with
  | p :: q :: r :: s :: D, _ => simp [lay, List.drop_append]
  | [], h => simp at h; omega
  | [_], h => simp at h
  | [_, _], h => simp at h
  | [_, _, _], h => simp at h
theorem set2 (xs : List Int) (o : Nat) (a b : Int) (h : o + 2 ≤ xs.length) : (xs.set o a).set (o + 1) b = lay xs o [a, b] := by
  obtain ⟨A, D, rfl, hA⟩ : ∃ A D, xs = A ++ D ∧ A.length = o := ⟨xs.take o, xs.drop o, (List.take_append_drop o xs).symm, by simp; omega⟩
  subst hA
  rw [List.length_append] at h
  match D, h with
  | p :: q :: D, _ => simp [lay, List.drop_append]
  | [], h => simp at h; omega
  | [_], h => simp at h

set_option maxRecDepth 100000 in
set_option maxHeartbeats 1000000 in
theorem f65 (g o n c : Nat) (T : TypeId) (xs : List Int) (v : Int) (w : World) (h : Row w g T xs) (ho : o + 4 ≤ xs.length) (hn : 4 ≤ n) (h0 : 0 ≤ v) (h1 : v < 4294967296) :
    Calls Tryf.prog 65 #[.agg #[], .slice (some ⟨g, o, none⟩) n c, .int .u32 v] w fun e w' => e = .returned (.tuple #[]) ∧ Row w' g T (lay xs o (put32 true v)) ∧ Fr [g] w w' := by
  have hlt := h.lt
  have c0 := h.cell o (by omega)
  have c1 := h.cell (o + 1) (by omega)
  have c2 := h.cell (o + 2) (by omega)
  have c3 := h.cell (o + 3) (by omega)
  have z0 := h.frozen o
  have z1 := h.frozen (o + 1)
  have z2 := h.frozen (o + 2)
  have z3 := h.frozen (o + 3)
  have b3 : 3 < n := by omega
  have b2 : 2 < n := by omega
  have b1 : 1 < n := by omega
  have b0 : 0 < n := by omega
  have H := hide h
  clear h hn
  go_enter Tryf.func65, Tryf.ntmps65
  go_wp2
  go_end0
  refine ⟨rfl, ?_, ?_⟩
  · unfold put32
    first | rw [if_pos rfl] | rw [if_neg (by decide)]
    rw [← set4 _ _ _ _ _ _ ho]
    exact ((((H.out.set o _).set (o + 1) _).set (o + 2) _).set (o + 3) _).alloc _
  · exact (((((Fr.refl [g] w).setCell (p := ⟨g, o, none⟩) (.inl (by simp)) _).setCell (p := ⟨g, o + 1, none⟩) (.inl (by simp)) _).setCell (p := ⟨g, o + 2, none⟩) (.inl (by simp)) _).setCell (p := ⟨g, o + 3, none⟩) (.inl (by simp)) _).alloc _

set_option maxRecDepth 100000 in
set_option maxHeartbeats 1000000 in
theorem f73 (g o n c : Nat) (T : TypeId) (xs : List Int) (v : Int) (w : World) (h : Row w g T xs) (ho : o + 4 ≤ xs.length) (hn : 4 ≤ n) (h0 : 0 ≤ v) (h1 : v < 4294967296) :
    Calls Tryf.prog 73 #[.agg #[], .slice (some ⟨g, o, none⟩) n c, .int .u32 v] w fun e w' => e = .returned (.tuple #[]) ∧ Row w' g T (lay xs o (put32 false v)) ∧ Fr [g] w w' := by
  have hlt := h.lt
  have c0 := h.cell o (by omega)
  have c1 := h.cell (o + 1) (by omega)
  have c2 := h.cell (o + 2) (by omega)
  have c3 := h.cell (o + 3) (by omega)
  have z0 := h.frozen o
  have z1 := h.frozen (o + 1)
  have z2 := h.frozen (o + 2)
  have z3 := h.frozen (o + 3)
  have b3 : 3 < n := by omega
  have b2 : 2 < n := by omega
  have b1 : 1 < n := by omega
  have b0 : 0 < n := by omega
  have H := hide h
  clear h hn
  go_enter Tryf.func73, Tryf.ntmps73
  go_wp2
  go_end0
  refine ⟨rfl, ?_, ?_⟩
  · unfold put32
    first | rw [if_pos rfl] | rw [if_neg (by decide)]
    rw [← set4 _ _ _ _ _ _ ho]
    exact ((((H.out.set o _).set (o + 1) _).set (o + 2) _).set (o + 3) _).alloc _
  · exact (((((Fr.refl [g] w).setCell (p := ⟨g, o, none⟩) (.inl (by simp)) _).setCell (p := ⟨g, o + 1, none⟩) (.inl (by simp)) _).setCell (p := ⟨g, o + 2, none⟩) (.inl (by simp)) _).setCell (p := ⟨g, o + 3, none⟩) (.inl (by simp)) _).alloc _

set_option maxRecDepth 100000 in
set_option maxHeartbeats 1000000 in
theorem f64 (g o n c : Nat) (T : TypeId) (xs : List Int) (v : Int) (w : World) (h : Row w g T xs) (ho : o + 2 ≤ xs.length) (hn : 2 ≤ n) (h0 : 0 ≤ v) (h1 : v < 65536) :
    Calls Tryf.prog 64 #[.agg #[], .slice (some ⟨g, o, none⟩) n c, .int .u16 v] w fun e w' => e = .returned (.tuple #[]) ∧ Row w' g T (lay xs o (put16 true v)) ∧ Fr [g] w w' := by
  have hlt := h.lt
  have c0 := h.cell o (by omega)
  have c1 := h.cell (o + 1) (by omega)
  have z0 := h.frozen o
  have z1 := h.frozen (o + 1)
  have b1 : 1 < n := by omega
  have b0 : 0 < n := by omega
  have H := hide h
  clear h hn
  go_enter Tryf.func64, Tryf.ntmps64
  go_wp2
  go_end0
  refine ⟨rfl, ?_, ?_⟩
  · unfold put16
    first | rw [if_pos rfl] | rw [if_neg (by decide)]
    rw [← set2 _ _ _ _ ho]
    exact ((H.out.set o _).set (o + 1) _).alloc _
  · exact (((Fr.refl [g] w).setCell (p := ⟨g, o, none⟩) (.inl (by simp)) _).setCell (p := ⟨g, o + 1, none⟩) (.inl (by simp)) _).alloc _

set_option maxRecDepth 100000 in
set_option maxHeartbeats 1000000 in
theorem f72 (g o n c : Nat) (T : TypeId) (xs : List Int) (v : Int) (w : World) (h : Row w g T xs) (ho : o + 2 ≤ xs.length) (hn : 2 ≤ n) (h0 : 0 ≤ v) (h1 : v < 65536) :
    Calls Tryf.prog 72 #[.agg #[], .slice (some ⟨g, o, none⟩) n c, .int .u16 v] w fun e w' => e = .returned (.tuple #[]) ∧ Row w' g T (lay xs o (put16 false v)) ∧ Fr [g] w w' := by
  have hlt := h.lt
  have c0 := h.cell o (by omega)
  have c1 := h.cell (o + 1) (by omega)
  have z0 := h.frozen o
  have z1 := h.frozen (o + 1)
  have b1 : 1 < n := by omega
  have b0 : 0 < n := by omega
  have H := hide h
  clear h hn
  go_enter Tryf.func72, Tryf.ntmps72
  go_wp2
  go_end0
  refine ⟨rfl, ?_, ?_⟩
  · unfold put16
    first | rw [if_pos rfl] | rw [if_neg (by decide)]
    rw [← set2 _ _ _ _ ho]
    exact ((H.out.set o _).set (o + 1) _).alloc _
  · exact (((Fr.refl [g] w).setCell (p := ⟨g, o, none⟩) (.inl (by simp)) _).setCell (p := ⟨g, o + 1, none⟩) (.inl (by simp)) _).alloc _

end Go.Proofs.Qxb6616725aFmt
