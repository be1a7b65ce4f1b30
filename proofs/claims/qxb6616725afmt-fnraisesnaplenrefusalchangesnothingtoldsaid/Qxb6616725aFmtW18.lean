/-
  bytes.Buffer.Write, whatever it holds; bufio.Writer.Flush, whatever it holds.
-/
import Derived.Test.Qxb6616725aFmtW5
import Derived.Test.Qxb6616725aFmtW15
import Derived.Test.Qxb6616725aFmtW17
namespace Go.Proofs.Qxb6616725aFmt
open Go.RowKit
set_option linter.unusedVariables false

/-- A bytes.Buffer in block bb: empty, or with a row in block g. -/
def SkO (w : World) (bb : Nat) (r : Option Nat) (sink : List Int) : Prop := match r with
  | none => sink = [] ∧ Sk0 w bb
  | some g => 0 < sink.length ∧ SkG w bb g sink

theorem Sk.toG {w : World} {bb r : Nat} {sink : List Int} (h : Sk w bb r sink) : SkG w bb r sink := by
  obtain ⟨lr, cap, junk, a, b, c, d⟩ := h
  refine ⟨lr, cap, _, a, b, ?_, ?_, ?_, ?_⟩
  · simpa [by8_len] using c
  · rw [List.toList_toArray, ← by8_app]
    exact List.take_left' (by8_len _)
  · rw [List.length_append] at c; omega
  · unfold maxLen; omega

set_option maxRecDepth 100000 in
set_option maxHeartbeats 1000000 in
theorem f57b (bb sb so c : Nat) (cs : List Int) (w : World) (h : Sk0 w bb) (hs : Src w sb so cs) (hne : sb ≠ bb) (hn : 64 < cs.length) (hlim : cs.length ≤ 1000000000) :
    Calls Tryf.prog 57 #[.pointer (some ⟨bb, 0, none⟩), .slice (some ⟨sb, so, none⟩) cs.length c] w fun e w' => e = .returned (.tuple #[.int .i64 cs.length, .nilIface]) ∧ ∃ g', w.heap.size ≤ g' ∧ SkG w' bb g' cs ∧ Fr [bb] w w' := by
  obtain ⟨lr, hb0⟩ := h
  have hb : Bb w bb (.slice none 0 0) lr := hb0
  have hlt := hb.lt
  obtain ⟨c0, c1, c2⟩ := hb.c
  have z2 := hb.z 2
  have hb1 := hb.set2
  have hF1 : Fr [bb] w (w.setCell ⟨bb, 2, none⟩ (.int .i8 0)) := (Fr.refl _ w).setCell (p := ⟨bb, 2, none⟩) (.inl (by simp)) _
  have P58 := hide (f58z bb cs.length 0 _ hb1 (by omega))
  have p59 := f59b bb cs.length 0 _ hb1 hn hlim
  have hsz : (w.setCell ⟨bb, 2, none⟩ (.int .i8 0)).heap.size = w.heap.size := by simp
  rw [hsz, Nat.zero_add] at p59
  have P59 := hide p59
  have HS := hide (hs.frG hF1 (by simpa using hne))
  have HF := hide hF1
  clear hb hb0 hb1 hF1 hs p59 hsz c0 c1
  go_enter Tryf.func57, Tryf.ntmps57
  go_wp2_with fail
  refine P58.out.mono ?_
  rintro e w2 ⟨rfl, rfl⟩
  go_wp2_with fail
  refine P59.out.mono ?_
  rintro e w3 ⟨rfl, g', cap2, cells, q1, q2, q3, q4, q5, q6, q7, q8⟩
  obtain ⟨d0, d1, d2⟩ := q2.c
  have hcp := copy_any w3 g' 0 cs.length cap2 cells cs sb so cs.length c q3 (HS.out.frG q8 (by simpa using hne)) rfl (Nat.le_refl _) (by omega)
  obtain ⟨w4, h4⟩ : ∃ w4, w4 = w3.setRow g' (cells.toList.take 0 ++ by8 cs ++ cells.toList.drop (0 + cs.length)).toArray := ⟨_, rfl⟩
  rw [← h4] at hcp
  have K := hide (And.intro q1 (And.intro q2 (And.intro q3 (And.intro q4 (And.intro q6 (And.intro q7 (And.intro q8 h4)))))))
  clear q1 q2 q3 q4 q5 q7 q8 h4
  go_wp2_with fail
  go_ret2
  obtain ⟨q1, q2, q3, q4, q6, q7, q8, h4⟩ := K.out
  have hF3 : Fr [bb] w w3 := HF.out.trans q8 (by simp)
  refine ⟨rfl, g', q1, ⟨0, cap2, _, ?_, ?_, ?_, laid_take cells [] cs rfl, q6, q7⟩, ?_⟩
  · unfold Bb
    rw [h4, setRow_other w3 _ bb _ (by omega)]
    exact q2
  · rw [h4]; exact setRow_heap w3 g' _ _ 5 _ q3
  · rw [laid_size _ [] _ (by simp; omega), q4]
  · rw [h4]; exact hF3.setRow (.inr q1) _

/-- Write, whatever the Buffer holds. -/
theorem f57o (bb sb so c : Nat) (r : Option Nat) (sink cs : List Int) (w : World) (h : SkO w bb r sink) (hs : Src w sb so cs) (hne : sb ≠ bb) (hn : 0 < cs.length) (hlim : sink.length + cs.length ≤ 1000000000) :
    Calls Tryf.prog 57 #[.pointer (some ⟨bb, 0, none⟩), .slice (some ⟨sb, so, none⟩) cs.length c] w fun e w' => e = .returned (.tuple #[.int .i64 cs.length, .nilIface]) ∧ ∃ g', (r = some g' ∨ w.heap.size ≤ g') ∧ SkO w' bb (some g') (sink ++ cs) ∧ Fr (bb :: r.toList) w w' := by
  cases r with
  | none =>
    obtain ⟨rfl, h0⟩ := h
    by_cases h64 : cs.length ≤ 64
    · refine (f57n bb sb so c cs w h0 hs hne hn h64).mono ?_
      rintro e w' ⟨rfl, hk, hf⟩
      exact ⟨rfl, _, .inr (Nat.le_refl _), ⟨by simpa using hn, by simpa using hk.toG⟩, hf⟩
    · refine (f57b bb sb so c cs w h0 hs hne (by omega) (by simpa using hlim)).mono ?_
      rintro e w' ⟨rfl, g', hg, hk, hf⟩
      exact ⟨rfl, g', .inr hg, ⟨by simpa using hn, by simpa using hk⟩, hf⟩
  | some g =>
    obtain ⟨hl, h0⟩ := h
    refine (f57g bb g sb so c sink cs w h0 hs hne hl hn hlim).mono ?_
    rintro e w' ⟨rfl, g', hg, hk, hf⟩
    refine ⟨rfl, g', ?_, ⟨by rw [List.length_append]; omega, hk⟩, hf⟩
    rcases hg with rfl | hg
    · exact .inl rfl
    · exact .inr hg
end Go.Proofs.Qxb6616725aFmt
