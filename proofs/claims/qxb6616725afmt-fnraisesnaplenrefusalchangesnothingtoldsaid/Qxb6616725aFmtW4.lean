/-
  bufio.Writer: Available, Buffered, Write where the bytes fit.
-/
import Derived.Test.Qxb6616725aFmtW3
import Derived.Laws.CopyRow
import Derived.BigQuiet
import Derived.Deep.QuietTactic
namespace Go.Proofs.Qxb6616725aFmt
open Go.RowKit
set_option linter.unusedVariables false

theorem Bw.c {w : World} {bw bs bb n : Nat} (h : Bw w bw bs bb n) : w.cell? ⟨bw, 0, none⟩ = some .nilIface ∧ w.cell? ⟨bw, 1, none⟩ = some (.slice (some ⟨bs, 0, none⟩) 4096 4096) ∧ w.cell? ⟨bw, 2, none⟩ = some (.int .i64 n) ∧ w.cell? ⟨bw, 3, none⟩ = some (.iface 26 (.pointer (some ⟨bb, 0, none⟩))) := by
  refine ⟨?_, ?_, ?_, ?_⟩ <;> (rw [cell_of_row w _ _ _ _ _ h]; rfl)
theorem Bw.z {w : World} {bw bs bb n : Nat} (h : Bw w bw bs bb n) (k : Nat) : w.frozen? ⟨bw, k, none⟩ = false := frozen_of_row w bw k _ _ h
theorem Bw.lt {w : World} {bw bs bb n : Nat} (h : Bw w bw bs bb n) : bw < w.heap.size := (Array.getElem?_eq_some_iff.1 h).1

theorem Bw.setN {w : World} {bw bs bb n : Nat} (h : Bw w bw bs bb n) (m : Nat) : Bw (w.setCell ⟨bw, 2, none⟩ (.int .i64 (m : Nat))) bw bs bb m := by
  unfold Bw
  rw [heap_setCell_same w bw 2 _ 89 _ h]
  rfl
theorem Row.setOther {w : World} {g : Nat} {T : TypeId} {xs : List Int} (h : Row w g T xs) {p : Addr} (hp : g ≠ p.block) (v : Value) : Row (w.setCell p v) g T xs := (Below.heap_setCell w p v g hp).trans h

set_option maxHeartbeats 1000000 in
theorem f35 (bw bs bb n : Nat) (w : World) (h : Bw w bw bs bb n) (hn : n ≤ 4096) :
    Calls Tryf.prog 35 #[.pointer (some ⟨bw, 0, none⟩)] w fun e w' => e = .returned (.int .i64 (4096 - n)) ∧ w' = w.drew := by
  obtain ⟨c0, c1, c2, c3⟩ := h.c
  have hw : IntKind.i64.wrap (4096 - (n : Int)) = 4096 - (n : Int) := by rw [IntKind.wrap_i64]; omega
  clear h
  go_enter Tryf.func35, Tryf.ntmps35
  go_wp2
  go_region
  go_wp2
  go_ret
  exact ⟨rfl, rfl⟩
set_option maxHeartbeats 1000000 in
theorem f36 (bw bs bb n : Nat) (w : World) (h : Bw w bw bs bb n) :
    Calls Tryf.prog 36 #[.pointer (some ⟨bw, 0, none⟩)] w fun e w' => e = .returned (.int .i64 n) ∧ w' = w := by
  obtain ⟨c0, c1, c2, c3⟩ := h.c
  clear h
  go_enter Tryf.func36, Tryf.ntmps36
  go_wp2
  go_ret
  exact ⟨rfl, rfl⟩
/-- The source of a copy: a slice's cells. -/
def Src (w : World) (sb so : Nat) (cs : List Int) : Prop := ∀ j, j < cs.length → w.cell? ⟨sb, so + j, none⟩ = some (.int .u8 (cs.getD j 0))

theorem add_none (sb so j : Nat) : (⟨sb, so, none⟩ : Addr).add j = ⟨sb, so + j, none⟩ := by unfold Addr.add; split <;> simp_all
/-- copy(row[o:], src): the row's cells turn. -/
theorem copy_eq (W : World) (g o dl dc : Nat) (xs cs : List Int) (sb so m c : Nat) (hg : Row W g 5 xs) (hs : Src W sb so cs) (hm : m = cs.length) (hd : cs.length ≤ dl) (hf : o + cs.length ≤ xs.length) :
    (Builtin.copy_ #[23, 23] 3 #[.slice (some ⟨g, o, none⟩) dl dc, .slice (some ⟨sb, so, none⟩) m c]).run Tryf.prog W = .ok (goInt cs.length) (W.setRow g (by8 (lay xs o cs)).toArray) := by
  obtain ⟨i0, hi, hz0, hz1, hz2⟩ := info_parts info5
  subst hm
  have := run_copy_row (P := Tryf.prog) W 23 23 3 5 g o dl dc ⟨sb, so, none⟩ cs.length c (by8 xs).toArray 5 (by8 cs) Tryf.underlying23 (by rw [hi]; simp [hz1]) hg (by rw [by8_len]; exact (Nat.min_eq_left hd).symm) (by
    intro j v hj
    obtain ⟨hk, rfl⟩ := by8_get _ _ _ hj
    rw [add_none]
    exact hs j hk) (by simp [by8_len]; exact hf) (by8_one _)
  have e : (((by8 xs).toArray.toList.take o ++ by8 cs ++ (by8 xs).toArray.toList.drop (o + (by8 cs).length)).toArray) = (by8 (lay xs o cs)).toArray := by
    rw [by8_len, List.toList_toArray]
    unfold lay by8
    rw [List.map_append, List.map_append, List.map_take, List.map_drop]
  rw [e, by8_len] at this
  exact this
theorem Row.setRow {W : World} {g : Nat} {xs : List Int} (h : Row W g 5 xs) (ys : List Int) : Row (W.setRow g (by8 ys).toArray) g 5 ys := setRow_heap W g _ _ 5 _ h

set_option maxRecDepth 100000 in
set_option maxHeartbeats 2000000 in
theorem f32s (bw bs bb sb so c : Nat) (n : Nat) (xs cs : List Int) (w : World) (h : Bw w bw bs bb n) (hr : Row w bs 5 xs) (hx : xs.length = 4096) (hs : Src w sb so cs) (hfit : cs.length + n ≤ 4096) (hn4 : n < 4096) (hne : bw ≠ bs) :
    Calls Tryf.prog 32 #[.pointer (some ⟨bw, 0, none⟩), .slice (some ⟨sb, so, none⟩) cs.length c] w fun e w' => e = .returned (.tuple #[.int .i64 cs.length, .nilIface]) ∧ Bw w' bw bs bb (n + cs.length) ∧ Row w' bs 5 (lay xs n cs) ∧ Fr [bw, bs] w w' := by
  have P35 := hide (f35 bw bs bb n w h (by omega))
  have ht : decide ((4096 : Int) - (n : Int) < (cs.length : Int)) = false := by simp; omega
  have hcp := copy_eq w.drew.drew bs n (4096 - n) (4096 - n) xs cs sb so cs.length c hr hs rfl (by omega) (by omega)
  obtain ⟨w3, h3⟩ : ∃ w3, w3 = w.drew.drew.setRow bs (by8 (lay xs n cs)).toArray := ⟨_, rfl⟩
  rw [← h3] at hcp
  have hF : Fr [bs] w w3 := by rw [h3]; exact (Fr.refl [bs] w).drew.drew.setRow (.inl (by simp)) _
  have hB3 : Bw w3 bw bs bb n := hF.keeps h (by simpa using hne)
  have hR3 : Row w3 bs 5 (lay xs n cs) := by rw [h3]; exact Row.setRow (W := w.drew.drew) hr _
  obtain ⟨c0, c1, c2, c3⟩ := h.c
  obtain ⟨d0, d1, d2, d3⟩ := hB3.c
  have z2 := hB3.z 2
  have hw1 : IntKind.i64.wrap ((n : Int) + (cs.length : Int)) = (n : Int) + (cs.length : Int) := by rw [IntKind.wrap_i64]; omega
  have hle : (n : Int) ≤ 4096 := by omega
  have hnn : ¬ 4096 = n := by omega
  have H := hide (And.intro hF (And.intro hB3 hR3))
  clear hF hB3 hR3 h3 h hr hs
  go_enter Tryf.func32, Tryf.ntmps32
  go_wp2_with fail
  go_loopw [1, 4] (fun p q wr => p = .slice (some ⟨sb, so, none⟩) cs.length c ∧ q = .int .i64 0 ∧ wr = w) (fun _ _ _ => 0)
  case atStart => exact ⟨rfl, rfl, rfl⟩
  case round =>
    obtain ⟨rfl, rfl, rfl⟩ := hrel
    go_wp2_with fail
    refine P35.out.mono ?_
    rintro e w1 ⟨rfl, rfl⟩
    go_wp2_with fail
    go_region
    go_wp2_with fail
    go_ret2
    obtain ⟨h1, h2, h3⟩ := H.out
    refine ⟨rfl, ?_, ?_, ?_⟩
    · have := h2.setN (n + cs.length)
      rw [Int.natCast_add] at this
      exact this
    · exact h3.setOther (by simpa using fun e => hne e.symm) _
    · exact (h1.weak (by simp)).setCell (p := ⟨bw, 2, none⟩) (.inl (by simp)) _
end Go.Proofs.Qxb6616725aFmt
