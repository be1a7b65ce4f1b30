/-
  THE WALKS, 2: (*FileError).Error where there is a line.
-/
import Derived.Test.Qxb6616690aFmtW1
namespace Go.Proofs.Qxb6616690aFmt
open Go.RowKit Go.Extern.Stop Go.Stop Go.Extern
set_option linter.unusedVariables false

attribute [local go_sem] call10 guard fmt2 fmt2r fmt3 fmt3r act3_100 op3_100 act9_115 op9_115 actNil_118 opNil_118 act32_118

set_option maxHeartbeats 1000000 in
theorem f9_10 (F : Interp) (g : Nat) (path txt : ByteArray) (line : Int) (hl : ¬ line = 0) (w : World) (hF : F.answers w.tape) (hg : g < w.heap.size) (h : FE w g path line false txt) :
    Calls Tryf.prog 9 #[.pointer (some ⟨g, 0, none⟩)] w fun e w' => e = .returned (.string (FmtStop.textOf (F "fmt.Sprintf" (reading path.data.toList line false txt.data.toList) 0))) ∧ Below w.heap.size w w' := by
  have hF' := answers_open hF
  have c0 := h.c0; have c1 := h.c1; have c2 := h.n2 rfl
  have hl' : (line == 0) = false := beq_eq_false_iff_ne.2 hl
  rw [reading_10 _ _ hl]
  clear hl
  go_enter Tryf.func9, Tryf.ntmps9
  go_wp2_with fail
  go_region_with (apply rows_value nextTurns; (case hr => (go_simp; exact ⟨rfl, rfl⟩)))
  all_goals
    go_wp2_with fail
    go_ret
    exact ⟨rfl, (((Below.refl _ w).alloc (Nat.le_refl _) _).drew).drew⟩

set_option maxHeartbeats 1000000 in
theorem f9_11 (F : Interp) (g : Nat) (path txt : ByteArray) (line : Int) (hl : ¬ line = 0) (w : World) (hF : F.answers w.tape) (hg : g < w.heap.size) (h : FE w g path line true txt) :
    Calls Tryf.prog 9 #[.pointer (some ⟨g, 0, none⟩)] w fun e w' => e = .returned (.string (FmtStop.textOf (F "fmt.Sprintf" (reading path.data.toList line true txt.data.toList) 0))) ∧ Below w.heap.size w w' := by
  have hF' := answers_open hF
  have c0 := h.c0; have c1 := h.c1
  have hl' : (line == 0) = false := beq_eq_false_iff_ne.2 hl
  rw [reading_11 _ _ hl]
  clear hl
  obtain ⟨b, hb, c2, cb⟩ := h.e2 rfl
  have hop : ∀ (o : Obj), (FmtStop.operand "fmt.Sprintf" false 118 false (.iface 32 (.pointer (some ⟨b, 0, none⟩)))).run Tryf.prog (w.alloc o).drew = .ok (plain32, txt.data.toList) (w.alloc o).drew := fun o => op32_118 "fmt.Sprintf" ⟨b, 0, none⟩ txt (w.alloc o).drew (by
    show (w.alloc o).cell? _ = _
    rw [World.cell?_alloc_past _ _ _ hb]
    exact cb)
  go_enter Tryf.func9, Tryf.ntmps9
  go_wp2_with fail
  go_region_with (apply rows_value nextTurns; (case hr => (go_simp; exact ⟨rfl, rfl⟩)))
  all_goals
    go_wp2_with fail
    go_ret
    exact ⟨rfl, (((Below.refl _ w).alloc (Nat.le_refl _) _).drew).drew⟩

end Go.Proofs.Qxb6616690aFmt
