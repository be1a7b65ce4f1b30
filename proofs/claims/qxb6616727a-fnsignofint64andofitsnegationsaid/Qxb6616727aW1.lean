/-
  THE WALKS: FromInt64 and Sign, by contracts.
-/
import Derived.Test.Qxb6616727aRows
import Derived.WalkKit
import Derived.WalkSpells
import Derived.WalkLawsBesides
namespace Go.Proofs.Qxb6616727a
open Go.RowKit
set_option linter.unusedVariables false

theorem hide {p : Prop} (h : p) : Hid p := h
theorem ret_int {k : IntKind} {a b : Int} (h : a = b) : Ending.returned (.int k a) = .returned (.int k b) := by rw [h]

/-- The sign of a number. -/
def sg (n : Int) : Int := if 0 < n then 1 else if n < 0 then -1 else 0

set_option maxHeartbeats 400000 in
theorem f4 (n : Int) (w : World) : Calls Try.prog 4 #[.int .i64 n] w fun e w' => e = .returned (.int .i64 (sg n)) ∧ w' = w := by
  go_enter Try.func4, Try.ntmps4
  go_wp2
  all_goals
    go_ret
    refine ⟨ret_int ?_, rfl⟩
    simp [sg, *]
    try omega

set_option maxHeartbeats 400000 in
theorem f8 (n : Int) (w : World) : Calls Try.prog 8 #[.int .i64 n, .int .i64 0] w fun e w' => e = .returned (.int .i64 (sg n)) ∧ w' = w := by
  go_enter Try.func8, Try.ntmps8
  go_wp2
  all_goals
    go_ret
    refine ⟨ret_int ?_, rfl⟩
    simp [sg, *]
    try omega

def sgb (b : Bool) : Int := if b = true then -1 else 1

/-- A big.Int that is not 0, in block g: its sign, its one word. -/
structure BigAt (w : World) (g : Nat) (neg : Bool) : Prop where
  lt : g < w.heap.size
  c0 : w.cell? ⟨g, 0, none⟩ = some (.bool neg)
  c1 : ∃ a, w.cell? ⟨g, 1, none⟩ = some (.slice a 1 1)
theorem BigAt.below {w w' : World} {g : Nat} {neg : Bool} (h : BigAt w g neg) (hb : Below w.heap.size w w') : BigAt w' g neg :=
  ⟨Nat.lt_of_lt_of_le h.lt hb.size, by rw [hb.cell (p := ⟨g, 0, none⟩) h.lt]; exact h.c0, by obtain ⟨a, ha⟩ := h.c1; exact ⟨a, by rw [hb.cell (p := ⟨g, 1, none⟩) h.lt]; exact ha⟩⟩

theorem BigAt.setCell {w : World} {g : Nat} {neg : Bool} (h : BigAt w g neg) {p : Addr} (hp : g ≠ p.block) (v : Value) : BigAt (w.setCell p v) g neg := by
  have hb : (w.setCell p v).heap[g]? = w.heap[g]? := Below.heap_setCell w p v g hp
  obtain ⟨a, ha⟩ := h.c1
  refine ⟨by simpa using h.lt, ?_, a, ?_⟩
  · rw [World.cell?_of_block (w := w) (a := ⟨g, 0, none⟩) hb]; exact h.c0
  · rw [World.cell?_of_block (w := w) (a := ⟨g, 1, none⟩) hb]; exact ha

/-- A Decimal with exponent 0 in block h, its number in block g. -/
structure DecAt (w : World) (h g : Nat) (neg : Bool) : Prop where
  lt : h < w.heap.size
  c0 : w.cell? ⟨h, 0, none⟩ = some (.pointer (some ⟨g, 0, none⟩))
  c1 : w.cell? ⟨h, 1, none⟩ = some (.int .i32 0)
  big : BigAt w g neg
theorem DecAt.below {w w' : World} {h g : Nat} {neg : Bool} (d : DecAt w h g neg) (hb : Below w.heap.size w w') : DecAt w' h g neg :=
  ⟨Nat.lt_of_lt_of_le d.lt hb.size, by rw [hb.cell (p := ⟨h, 0, none⟩) d.lt]; exact d.c0, by rw [hb.cell (p := ⟨h, 1, none⟩) d.lt]; exact d.c1, d.big.below hb⟩
theorem DecAt.setCell {w : World} {h g : Nat} {neg : Bool} (d : DecAt w h g neg) {p : Addr} (hp : h ≠ p.block) (hp' : g ≠ p.block) (v : Value) : DecAt (w.setCell p v) h g neg := by
  have hb : (w.setCell p v).heap[h]? = w.heap[h]? := Below.heap_setCell w p v h hp
  refine ⟨by simpa using d.lt, ?_, ?_, d.big.setCell hp' v⟩
  · rw [World.cell?_of_block (w := w) (a := ⟨h, 0, none⟩) hb]; exact d.c0
  · rw [World.cell?_of_block (w := w) (a := ⟨h, 1, none⟩) hb]; exact d.c1

set_option maxHeartbeats 400000 in
theorem f14 (n : Int) (w : World) (h1 : -9223372036854775808 ≤ n) (h2 : n ≤ 9223372036854775807) (hn : ¬ n = 0) :
    Calls Try.prog 14 #[.int .i64 n] w fun e w' => ∃ g, e = .returned (.pointer (some ⟨g, 0, none⟩)) ∧ w.heap.size ≤ g ∧ BigAt w' g (decide (n < 0)) ∧ Below w.heap.size w w' := by
  go_enter Try.func14, Try.ntmps14
  go_wp2
  all_goals
    go_ret
    refine ⟨w.heap.size + 1, rfl, by omega, ⟨by simp, ?_, ?_⟩, ((Below.refl _ w).alloc (Nat.le_refl _) _).alloc (by simp) _⟩
    · simp [go_sem]
      try omega
    · exact ⟨_, by simp [go_sem]; rfl⟩

set_option maxHeartbeats 400000 in
theorem f13 (g : Nat) (neg : Bool) (w : World) (h : BigAt w g neg) :
    Calls Try.prog 13 #[.pointer (some ⟨g, 0, none⟩)] w fun e w' => e = .returned (.int .i64 (sgb neg)) ∧ w' = w := by
  have c0 := h.c0
  obtain ⟨a, c1⟩ := h.c1
  cases neg
  · go_enter Try.func13, Try.ntmps13
    go_wp2
    go_ret
    exact ⟨rfl, rfl⟩
  · go_enter Try.func13, Try.ntmps13
    go_wp2
    go_ret
    exact ⟨rfl, rfl⟩

set_option maxHeartbeats 400000 in
theorem f9 (g : Nat) (neg : Bool) (e32 : Int) (w : World) (h : BigAt w g neg) :
    Calls Try.prog 9 #[.agg #[.pointer (some ⟨g, 0, none⟩), .int .i32 e32]] w fun e w' => e = .returned (.int .i64 (sgb neg)) ∧ Below w.heap.size w w' := by
  have hlt := h.lt
  have HP := hide (fun o => f13 g neg (w.alloc o) (h.below ((Below.refl _ w).alloc (Nat.le_refl _) _)))
  go_enter Try.func9, Try.ntmps9
  go_wp2_with fail
  refine (HP.out _).mono ?_
  rintro e w1 ⟨rfl, rfl⟩
  go_wp2_with fail
  go_ret
  exact ⟨rfl, (Below.refl _ w).alloc (Nat.le_refl _) _⟩

set_option maxHeartbeats 400000 in
theorem f11 (n : Int) (w : World) (h1 : -9223372036854775808 ≤ n) (h2 : n ≤ 9223372036854775807) (hn : ¬ n = 0) :
    Calls Try.prog 11 #[.int .i64 n] w fun e w' => ∃ g, e = .returned (.agg #[.pointer (some ⟨g, 0, none⟩), .int .i32 0]) ∧ w.heap.size ≤ g ∧ BigAt w' g (decide (n < 0)) ∧ Below w.heap.size w w' := by
  go_enter Try.func11, Try.ntmps11
  go_wp2_with fail
  refine (f14 n _ h1 h2 hn).mono ?_
  rintro e w1 ⟨g, rfl, hg, hbig, hb⟩
  have hbg := (show Below w.heap.size w _ from ((Below.refl _ w).alloc (Nat.le_refl _) _)).trans (hb.mono (by simp))
  simp at hg
  have e0 : w1.cell? ⟨w.heap.size, 0, none⟩ = some (.pointer none) := by rw [hb.cell (by simp)]; simp [go_sem]
  have e1 : w1.cell? ⟨w.heap.size, 1, none⟩ = some (.int .i32 0) := by rw [hb.cell (by simp)]; simp [go_sem]
  have fz : w1.frozen? ⟨w.heap.size, 0, none⟩ = false := by rw [hb.frozen (by simp)]; simp [go_sem]
  have fz1 : w1.frozen? ⟨w.heap.size, 1, none⟩ = false := by rw [hb.frozen (by simp)]; simp [go_sem]
  have hlt : w.heap.size < w1.heap.size := by have := hb.size; simp at this; omega
  have hlt2 := hbig.lt
  go_wp2_with fail
  refine bodyPost_ret (v := .agg #[.pointer (some ⟨g, 0, none⟩), .int .i32 0]) ?_ rfl ⟨g, rfl, by omega, (hbig.setCell (by show g ≠ w.heap.size; omega) _).setCell (by show g ≠ w.heap.size; omega) _, (hbg.setCell (Nat.le_refl _) _).setCell (Nat.le_refl _) _⟩
  simp [results, Try.results11, go_sem, e0, e1]

set_option maxHeartbeats 400000 in
theorem f10 (g : Nat) (neg : Bool) (w : World) (hbig : BigAt w g neg) :
    Calls Try.prog 10 #[.agg #[.pointer (some ⟨g, 0, none⟩), .int .i32 0]] w fun e w' => ∃ h, e = .returned (.agg #[.int .i64 0, .pointer (some ⟨h, 0, none⟩)]) ∧ w.heap.size ≤ h ∧ DecAt w' h g neg ∧ Below w.heap.size w w' := by
  have hlt := hbig.lt
  go_enter Try.func10, Try.ntmps10
  go_wp2
  have hb1 := fun o => (Below.refl w.heap.size w).alloc (Nat.le_refl _) o
  have hb2 := fun o o' => (hb1 o).alloc (by simp) o'
  refine bodyPost_ret (v := .agg #[.int .i64 0, .pointer (some ⟨w.heap.size, 0, none⟩)]) ?_ rfl ⟨w.heap.size, rfl, Nat.le_refl _, ⟨by simp; omega, by simp [go_sem], by simp [go_sem], hbig.below (hb2 _ _)⟩, hb2 _ _⟩
  simp [results, Try.results10, go_sem]

/-- The value of FromInt64 n: small, or in a Decimal. -/
def Whole (B : Nat) (w : World) (n : Int) (v : Value) : Prop :=
  v = .agg #[.int .i64 n, .pointer none] ∨ (¬ n = 0 ∧ ∃ h g, v = .agg #[.int .i64 0, .pointer (some ⟨h, 0, none⟩)] ∧ DecAt w h g (decide (n < 0)) ∧ B ≤ h ∧ B ≤ g)

set_option maxHeartbeats 400000 in
theorem f7s (n : Int) (w : World) (h1 : decide (-999999999999999999 ≤ n) = true) (h2 : decide (n ≤ 999999999999999999) = true) :
    Calls Try.prog 7 #[.int .i64 n] w fun e w' => e = .returned (.agg #[.int .i64 n, .pointer none]) ∧ Below w.heap.size w w' := by
  go_enter Try.func7, Try.ntmps7
  go_wp2
  refine bodyPost_ret (v := .agg #[.int .i64 n, .pointer none]) ?_ rfl ⟨rfl, ?_⟩
  · simp [results, Try.results7, go_sem]
  · exact (Below.refl w.heap.size w).alloc (Nat.le_refl _) _

set_option maxHeartbeats 400000 in
theorem f7w (n : Int) (w : World) (h1 : -9223372036854775808 ≤ n) (h2 : n ≤ 9223372036854775807) (h0 : ¬ n = 0) (hw : (decide (-999999999999999999 ≤ n) && decide (n ≤ 999999999999999999)) = false) :
    Calls Try.prog 7 #[.int .i64 n] w fun e w' => ∃ h g, e = .returned (.agg #[.int .i64 0, .pointer (some ⟨h, 0, none⟩)]) ∧ DecAt w' h g (decide (n < 0)) ∧ w.heap.size ≤ h ∧ w.heap.size ≤ g ∧ Below w.heap.size w w' := by
  have HP := hide (fun w => f11 n w h1 h2 h0)
  have key : ∀ Q : Prop, ((decide (-999999999999999999 ≤ n) = false → Q) ∧ (decide (-999999999999999999 ≤ n) = true → decide (n ≤ 999999999999999999) = false → Q)) → Q := by
    intro Q ⟨ha, hb⟩
    cases hc : decide (-999999999999999999 ≤ n)
    · exact ha hc
    · rw [hc] at hw; exact hb hc (by simpa using hw)
  apply key
  constructor
  · intro hc
    go_enter Try.func7, Try.ntmps7
    go_wp2_with fail
    refine (HP.out _).mono ?_
    rintro e w1 ⟨g, rfl, hg, hbig, hb⟩
    have HQ := hide (f10 g (decide (n < 0)) w1 hbig)
    have hbg := (show Below w.heap.size w _ from ((Below.refl _ w).alloc (Nat.le_refl _) _)).trans (hb.mono (by simp))
    simp at hg
    have e0 : w1.cell? ⟨w.heap.size, 0, none⟩ = some (.int .i64 0) := by rw [hb.cell (by simp)]; simp [go_sem]
    have e1 : w1.cell? ⟨w.heap.size, 1, none⟩ = some (.pointer none) := by rw [hb.cell (by simp)]; simp [go_sem]
    have fz : w1.frozen? ⟨w.heap.size, 0, none⟩ = false := by rw [hb.frozen (by simp)]; simp [go_sem]
    have fz1 : w1.frozen? ⟨w.heap.size, 1, none⟩ = false := by rw [hb.frozen (by simp)]; simp [go_sem]
    have hlt : w.heap.size < w1.heap.size := by have := hb.size; simp at this; omega
    clear hb
    go_wp2_with fail
    refine HQ.out.mono ?_
    rintro e w2 ⟨h, rfl, hh, hd, hb⟩
    replace hbg := hbg.trans (hb.mono hbg.size)
    replace e0 := (hb.cell (p := ⟨w.heap.size, 0, none⟩) hlt).trans e0
    replace e1 := (hb.cell (p := ⟨w.heap.size, 1, none⟩) hlt).trans e1
    replace fz := (hb.frozen (p := ⟨w.heap.size, 0, none⟩) hlt).trans fz
    replace fz1 := (hb.frozen (p := ⟨w.heap.size, 1, none⟩) hlt).trans fz1
    have hlt1 := hlt
    replace hlt := Nat.lt_of_lt_of_le hlt hb.size
    go_wp2_with fail
    refine bodyPost_ret (v := .agg #[.int .i64 0, .pointer (some ⟨h, 0, none⟩)]) ?_ rfl ⟨h, g, rfl, (hd.setCell (by show h ≠ w.heap.size; omega) (by show g ≠ w.heap.size; omega) _).setCell (by show h ≠ w.heap.size; omega) (by show g ≠ w.heap.size; omega) _, by omega, by omega, (hbg.setCell (Nat.le_refl _) _).setCell (Nat.le_refl _) _⟩
    simp [results, Try.results7, go_sem, e0, e1]
  · intro hc hd
    go_enter Try.func7, Try.ntmps7
    go_wp2_with fail
    refine (HP.out _).mono ?_
    rintro e w1 ⟨g, rfl, hg, hbig, hb⟩
    have HQ := hide (f10 g (decide (n < 0)) w1 hbig)
    have hbg := (show Below w.heap.size w _ from ((Below.refl _ w).alloc (Nat.le_refl _) _)).trans (hb.mono (by simp))
    simp at hg
    have e0 : w1.cell? ⟨w.heap.size, 0, none⟩ = some (.int .i64 0) := by rw [hb.cell (by simp)]; simp [go_sem]
    have e1 : w1.cell? ⟨w.heap.size, 1, none⟩ = some (.pointer none) := by rw [hb.cell (by simp)]; simp [go_sem]
    have fz : w1.frozen? ⟨w.heap.size, 0, none⟩ = false := by rw [hb.frozen (by simp)]; simp [go_sem]
    have fz1 : w1.frozen? ⟨w.heap.size, 1, none⟩ = false := by rw [hb.frozen (by simp)]; simp [go_sem]
    have hlt : w.heap.size < w1.heap.size := by have := hb.size; simp at this; omega
    clear hb
    go_wp2_with fail
    refine HQ.out.mono ?_
    rintro e w2 ⟨h, rfl, hh, hd, hb⟩
    replace hbg := hbg.trans (hb.mono hbg.size)
    replace e0 := (hb.cell (p := ⟨w.heap.size, 0, none⟩) hlt).trans e0
    replace e1 := (hb.cell (p := ⟨w.heap.size, 1, none⟩) hlt).trans e1
    replace fz := (hb.frozen (p := ⟨w.heap.size, 0, none⟩) hlt).trans fz
    replace fz1 := (hb.frozen (p := ⟨w.heap.size, 1, none⟩) hlt).trans fz1
    have hlt1 := hlt
    replace hlt := Nat.lt_of_lt_of_le hlt hb.size
    go_wp2_with fail
    refine bodyPost_ret (v := .agg #[.int .i64 0, .pointer (some ⟨h, 0, none⟩)]) ?_ rfl ⟨h, g, rfl, (hd.setCell (by show h ≠ w.heap.size; omega) (by show g ≠ w.heap.size; omega) _).setCell (by show h ≠ w.heap.size; omega) (by show g ≠ w.heap.size; omega) _, by omega, by omega, (hbg.setCell (Nat.le_refl _) _).setCell (Nat.le_refl _) _⟩
    simp [results, Try.results7, go_sem, e0, e1]

theorem f7 (n : Int) (w : World) (h1 : -9223372036854775808 ≤ n) (h2 : n ≤ 9223372036854775807) :
    Calls Try.prog 7 #[.int .i64 n] w fun e w' => ∃ v, e = .returned v ∧ Whole w.heap.size w' n v ∧ Below w.heap.size w w' := by
  cases hc : (decide (-999999999999999999 ≤ n) && decide (n ≤ 999999999999999999))
  · have h0 : ¬ n = 0 := by intro h; subst h; simp at hc
    refine (f7w n w h1 h2 h0 hc).mono ?_
    rintro e w' ⟨h, g, rfl, hd, hh, hg, hb⟩
    exact ⟨_, rfl, .inr ⟨h0, h, g, rfl, hd, hh, hg⟩, hb⟩
  · rw [Bool.and_eq_true] at hc
    refine (f7s n w hc.1 hc.2).mono ?_
    rintro e w' ⟨rfl, hb⟩
    exact ⟨_, rfl, .inl rfl, hb⟩

set_option maxHeartbeats 400000 in
theorem f5 (n : Int) (w : World) (h1 : -9223372036854775808 ≤ n) (h2 : n ≤ 9223372036854775807) :
    Calls Try.prog 5 #[.int .i64 n] w fun e w' => ∃ v, e = .returned v ∧ Whole w.heap.size w' n v ∧ Below w.heap.size w w' := by
  have HP := hide (fun w => f7 n w h1 h2)
  go_enter Try.func5, Try.ntmps5
  go_wp2_with fail
  refine (HP.out _).mono ?_
  rintro e w1 ⟨v, rfl, hv, hb⟩
  have hbg := (show Below w.heap.size w _ from ((Below.refl _ w).alloc (Nat.le_refl _) _)).trans (hb.mono (by simp))
  have e0 : w1.cell? ⟨w.heap.size, 0, none⟩ = some (.int .i64 0) := by rw [hb.cell (by simp)]; simp [go_sem]
  have e1 : w1.cell? ⟨w.heap.size, 1, none⟩ = some (.pointer none) := by rw [hb.cell (by simp)]; simp [go_sem]
  have fz : w1.frozen? ⟨w.heap.size, 0, none⟩ = false := by rw [hb.frozen (by simp)]; simp [go_sem]
  have fz1 : w1.frozen? ⟨w.heap.size, 1, none⟩ = false := by rw [hb.frozen (by simp)]; simp [go_sem]
  have hlt : w.heap.size < w1.heap.size := by have := hb.size; simp at this; omega
  clear hb
  have hsz : ∀ o, (w.alloc o).heap.size = w.heap.size + 1 := by simp
  rw [hsz] at hv
  rcases hv with rfl | ⟨h0, h, g, rfl, hd, hh, hg⟩
  · go_wp2_with fail
    refine bodyPost_ret (v := .agg #[.int .i64 n, .pointer none]) ?_ rfl ⟨_, rfl, .inl rfl, (hbg.setCell (Nat.le_refl _) _).setCell (Nat.le_refl _) _⟩
    simp [results, Try.results5, go_sem, e0, e1]
  · go_wp2_with fail
    refine bodyPost_ret (v := .agg #[.int .i64 0, .pointer (some ⟨h, 0, none⟩)]) ?_ rfl ⟨_, rfl, .inr ⟨h0, h, g, rfl, (hd.setCell (by show h ≠ w.heap.size; omega) (by show g ≠ w.heap.size; omega) _).setCell (by show h ≠ w.heap.size; omega) (by show g ≠ w.heap.size; omega) _, by omega, by omega⟩, (hbg.setCell (Nat.le_refl _) _).setCell (Nat.le_refl _) _⟩
    simp [results, Try.results5, go_sem, e0, e1]

theorem sgb_sg (n : Int) (h : ¬ n = 0) : sgb (decide (n < 0)) = sg n := by
  unfold sgb sg
  by_cases hn : n < 0
  · simp [hn]; omega
  · simp [hn]; omega

set_option maxHeartbeats 400000 in
theorem f6 (B : Nat) (n : Int) (v : Value) (w : World) (hv : Whole B w n v) :
    Calls Try.prog 6 #[v] w fun e w' => e = .returned (.int .i64 (sg n)) ∧ Below w.heap.size w w' := by
  rcases hv with rfl | ⟨h0, h, g, rfl, hd, hh, hg⟩
  · have HP := hide (fun w => f8 n w)
    go_enter Try.func6, Try.ntmps6
    go_wp2_with fail
    refine (HP.out _).mono ?_
    rintro e w1 ⟨rfl, rfl⟩
    go_wp2_with fail
    go_ret
    exact ⟨rfl, (Below.refl _ w).alloc (Nat.le_refl _) _⟩
  · have hlt := hd.lt
    have e0 := hd.c0
    have e1 := hd.c1
    have HP := hide (fun o => f9 g (decide (n < 0)) 0 (w.alloc o) (hd.big.below ((Below.refl _ w).alloc (Nat.le_refl _) _)))
    rw [sgb_sg n h0] at HP
    go_enter Try.func6, Try.ntmps6
    go_wp2_with fail
    refine (HP.out _).mono ?_
    rintro e w1 ⟨rfl, hb⟩
    have hbg := (show Below w.heap.size w _ from ((Below.refl _ w).alloc (Nat.le_refl _) _)).trans (hb.mono (by simp))
    go_wp2_with fail
    go_ret
    exact ⟨rfl, hbg⟩

theorem sg_neg (n : Int) : sg (-n) = - sg n := by
  unfold sg
  split <;> split <;> omega
theorem sg_lo (n : Int) : -1 ≤ sg n := by unfold sg; split <;> (try split) <;> omega
theorem sg_hi (n : Int) : sg n ≤ 1 := by unfold sg; split <;> (try split) <;> omega

set_option maxHeartbeats 400000 in
theorem f3 (n : Int) (w : World) (h1 : -9223372036854775808 ≤ n) (h2 : n ≤ 9223372036854775807) :
    Calls Try.prog 3 #[.int .i64 n] w fun e w' => e = .returned (.bool true) ∧ Below w.heap.size w w' := by
  have P4 := hide (fun w => f4 n w)
  have P5 := hide (fun w => f5 n w h1 h2)
  have hs : ((sg n) == (sg n)) = true := by simp
  cases hc : (n == -9223372036854775808)
  · have hne : ¬ n = -9223372036854775808 := by simpa using hc
    have hw : IntKind.i64.wrap (-n) = -n := by rw [IntKind.wrap_i64]; omega
    have hw2 : IntKind.i64.wrap (- sg n) = - sg n := by have := sg_lo n; have := sg_hi n; rw [IntKind.wrap_i64]; omega
    have P5b := hide (fun w => f5 (-n) w (by omega) (by omega))
    go_enter Try.func3, Try.ntmps3
    go_wp2_with fail
    refine (P4.out _).mono ?_
    rintro e w1 ⟨rfl, rfl⟩
    go_wp2_with fail
    refine (P5.out _).mono ?_
    rintro e w2 ⟨v, rfl, hv, hb⟩
    go_wp2_with fail
    refine (f6 _ n v w2 hv).mono ?_
    rintro e w3 ⟨rfl, hb2⟩
    have hbg := hb.trans (hb2.mono hb.size)
    go_wp2_with fail
    refine (P5b.out _).mono ?_
    rintro e w4 ⟨v', rfl, hv', hb3⟩
    replace hbg := hbg.trans (hb3.mono hbg.size)
    go_wp2_with fail
    refine (f6 _ (-n) v' w4 hv').mono ?_
    rintro e w5 ⟨rfl, hb4⟩
    replace hbg := hbg.trans (hb4.mono hbg.size)
    rw [sg_neg n]
    go_wp2_with fail
    go_ret
    exact ⟨by simp [go_sem], hbg⟩
  · go_enter Try.func3, Try.ntmps3
    go_wp2_with fail
    refine (P4.out _).mono ?_
    rintro e w1 ⟨rfl, rfl⟩
    go_wp2_with fail
    refine (P5.out _).mono ?_
    rintro e w2 ⟨v, rfl, hv, hb⟩
    go_wp2_with fail
    refine (f6 _ n v w2 hv).mono ?_
    rintro e w3 ⟨rfl, hb2⟩
    have hbg := hb.trans (hb2.mono hb.size)
    go_wp2_with fail
    go_ret
    exact ⟨rfl, hbg⟩

end Go.Proofs.Qxb6616727a
