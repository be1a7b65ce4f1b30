/-
  bufio.Writer.Flush, whatever it holds.
-/
import Derived.Test.Qxb6616725aFmtW18
namespace Go.Proofs.Qxb6616725aFmt
open Go.RowKit
set_option linter.unusedVariables false

theorem SkO.setOther {w : World} {bb bw bs bb' n : Nat} {g : Nat} {sink : List Int} (h : SkO w bb (some g) sink) (hB : Bw w bw bs bb' n) (k : Nat) (v : Value) : SkO (w.setCell ⟨bw, k, none⟩ v) bb (some g) sink := by
  obtain ⟨hl, lr, cap, cur, a, b, c⟩ := h
  have n1 : bb ≠ bw := by
    rintro rfl
    unfold Bw at hB
    unfold Bb at a
    rw [hB] at a
    simp at a
  have n2 : g ≠ bw := by
    rintro rfl
    unfold Bw at hB
    rw [hB] at b
    simp at b
  exact ⟨hl, lr, cap, cur, (Below.heap_setCell w ⟨bw, k, none⟩ v bb n1).trans a, (Below.heap_setCell w ⟨bw, k, none⟩ v g n2).trans b, c⟩
theorem SkO.ne_bw {w : World} {bb bw bs bb' n : Nat} {r : Option Nat} {sink : List Int} (h : SkO w bb r sink) (hB : Bw w bw bs bb' n) : ¬ bw ∈ bb :: r.toList := by
  have key : ∀ k v lr, Bb w k v lr → bw ≠ k := by
    rintro k v lr a rfl
    unfold Bw at hB
    unfold Bb at a
    rw [hB] at a
    simp at a
  cases r with
  | none =>
    obtain ⟨_, lr, a⟩ := h
    simpa using key bb _ lr a
  | some g =>
    obtain ⟨_, lr, cap, cur, a, b, _⟩ := h
    have n2 : bw ≠ g := by
      rintro rfl
      unfold Bw at hB
      rw [hB] at b
      simp at b
    simp
    exact ⟨key bb _ lr a, n2⟩
theorem SkO.ne_row {w : World} {bb bs : Nat} {r : Option Nat} {sink xs : List Int} (h : SkO w bb r sink) (hr : Row w bs 5 xs) (hne : r ≠ some bs) : ¬ bs ∈ bb :: r.toList := by
  have key : ∀ v lr, Bb w bb v lr → bs ≠ bb := by
    rintro v lr a rfl
    unfold Row at hr
    unfold Bb at a
    rw [hr] at a
    simp at a
  cases r with
  | none =>
    obtain ⟨_, lr, a⟩ := h
    simpa using key _ lr a
  | some g =>
    obtain ⟨_, lr, cap, cur, a, b, _⟩ := h
    simp
    exact ⟨key _ lr a, fun e => hne (by rw [e])⟩

set_option maxRecDepth 100000 in
set_option maxHeartbeats 2000000 in
/-- Flush of n bytes, n not 0. -/
theorem f29o (bw bs bb n : Nat) (r : Option Nat) (sink xs : List Int) (w : World) (h : Bw w bw bs bb n) (hr : Row w bs 5 xs) (hx : xs.length = 4096) (hk : SkO w bb r sink) (hne : r ≠ some bs) (hn : 0 < n) (hn2 : n ≤ 4096) (hlim : sink.length ≤ 100000000) :
    Calls Tryf.prog 29 #[.pointer (some ⟨bw, 0, none⟩)] w fun e w' => e = .returned .nilIface ∧ ∃ g', (r = some g' ∨ w.heap.size ≤ g') ∧ Bw w' bw bs bb 0 ∧ SkO w' bb (some g') (sink ++ xs.take n) ∧ Row w' bs 5 xs ∧ Fr (bw :: bb :: r.toList) w w' := by
  have hl : (xs.take n).length = n := by simp; omega
  have m1 := hk.ne_bw h
  have m2 := hk.ne_row hr hne
  have p57 := f57o bb bs 0 4096 r sink (xs.take n) w.drew hk (fun j hj => by
    have hj' : j < xs.length := by simp at hj; omega
    have := hr.cell j hj'
    rw [Nat.zero_add]
    refine this.trans ?_
    have h2 : j < n := by omega
    simp [List.getD, h2]) (fun e => m2 (by simp [e])) (by omega) (by omega)
  rw [hl] at p57
  have P57 := hide p57
  obtain ⟨c0, c1, c2, c3⟩ := h.c
  have ht : ((n : Int) == 0) = false := by simp; omega
  have ht2 : decide ((n : Int) < (n : Int)) = false := by simp
  have hm := m26w
  have hle : (n : Int) ≤ 4096 := by omega
  have HB := hide h
  have HR := hide hr
  have HM := hide (And.intro m1 m2)
  clear h hr hk p57 m1 m2 hne
  go_enter Tryf.func29, Tryf.ntmps29
  go_wp2_with fail
  go_region_with (go_at_call 57; refine P57.out.mono ?_; rintro e w1 ⟨rfl, g', h0, h1, h2⟩; have H0 := hide h0; have H1 := hide h1; have H2 := hide h2; clear h0 h1 h2)
  all_goals
    have hB1 : Bw w1 bw bs bb n := H2.out.keeps HB.out HM.out.1
    have hR1 : Row w1 bs 5 xs := H2.out.keeps HR.out HM.out.2
    obtain ⟨d0, d1, d2, d3⟩ := hB1.c
    have z2 := hB1.z 2
    have HB1 := hide hB1
    have HR1 := hide hR1
    clear hB1 hR1 c0 c1 c2 c3
    go_wp2_with fail
    go_ret
    refine ⟨rfl, g', H0.out, HB1.out.setN 0, H1.out.setOther HB1.out 2 _, HR1.out.setOther (HB1.out.ne_row HR1.out) _, ?_⟩
    exact (Fr.weak (⟨H2.out.os, H2.out.tape, H2.out.output, H2.out.size, H2.out.block⟩ : Fr (bb :: r.toList) w w1) (fun x hx => List.mem_cons_of_mem _ hx)).setCell (p := ⟨bw, 2, none⟩) (.inl (by simp)) _
end Go.Proofs.Qxb6616725aFmt
