/-
  bytes.Buffer.Write, where a row is there.
-/
import Derived.Test.Qxb6616725aFmtW14
import Derived.Test.Qxb6616725aFmtW16
namespace Go.Proofs.Qxb6616725aFmt
open Go.RowKit
set_option linter.unusedVariables false

/-- A bytes.Buffer in block bb with a row in block g that begins with sink; what lies behind is not said. -/
def SkG (w : World) (bb g : Nat) (sink : List Int) : Prop := ∃ lr cap cur, Bb w bb (.slice (some ⟨g, 0, none⟩) sink.length cap) lr ∧ w.heap[g]? = some (.cells cur 5 (0, 0)) ∧ cur.size = cap ∧ cur.toList.take sink.length = by8 sink ∧ sink.length ≤ cap ∧ cap ≤ maxLen

/-- copy(row[o:], src), the row's cells whatever. -/
theorem copy_any (W : World) (g o dl dc : Nat) (cur : Array Value) (cs : List Int) (sb so m c : Nat) (hg : W.heap[g]? = some (.cells cur 5 (0, 0))) (hs : Src W sb so cs) (hm : m = cs.length) (hd : cs.length ≤ dl) (hf : o + cs.length ≤ cur.size) :
    (Builtin.copy_ #[23, 23] 3 #[.slice (some ⟨g, o, none⟩) dl dc, .slice (some ⟨sb, so, none⟩) m c]).run Tryf.prog W = .ok (goInt cs.length) (W.setRow g (cur.toList.take o ++ by8 cs ++ cur.toList.drop (o + cs.length)).toArray) := by
  obtain ⟨i0, hi, hz0, hz1, hz2⟩ := info_parts info5
  subst hm
  have := run_copy_row (P := Tryf.prog) W 23 23 3 5 g o dl dc ⟨sb, so, none⟩ cs.length c cur 5 (by8 cs) Tryf.underlying23 (by rw [hi]; simp [hz1]) hg (by rw [by8_len]; exact (Nat.min_eq_left hd).symm) (by
    intro j v hj
    obtain ⟨hk, rfl⟩ := by8_get _ _ _ hj
    rw [add_none]
    exact hs j hk) (by rw [by8_len]; exact hf) (by8_one _)
  rw [by8_len] at this
  exact this

theorem Bb.set2 {w : World} {bb : Nat} {v : Value} {lr : Int} (h : Bb w bb v lr) : Bb (w.setCell ⟨bb, 2, none⟩ (.int .i8 0)) bb v 0 := by
  unfold Bb
  rw [heap_setCell_same w bb 2 _ 55 _ h]
  rfl
theorem Bb.ne_row {w : World} {bb g : Nat} {v : Value} {lr : Int} {cur : Array Value} (h : Bb w bb v lr) (hg : w.heap[g]? = some (.cells cur 5 (0, 0))) : g ≠ bb := by
  rintro rfl
  unfold Bb at h
  rw [h] at hg
  simp at hg
theorem laid_take (cur : Array Value) (sink cs : List Int) (h : cur.toList.take sink.length = by8 sink) : ((cur.toList.take sink.length ++ by8 cs ++ cur.toList.drop (sink.length + cs.length)).toArray.toList).take (sink ++ cs).length = by8 (sink ++ cs) := by
  rw [h, by8_app, List.toList_toArray]
  exact List.take_left' (by rw [by8_len])
theorem laid_size (cur : Array Value) (sink cs : List Int) (h : sink.length + cs.length ≤ cur.size) : (cur.toList.take sink.length ++ by8 cs ++ cur.toList.drop (sink.length + cs.length)).toArray.size = cur.size := by
  simp [by8_len]
  omega

set_option maxRecDepth 100000 in
set_option maxHeartbeats 1000000 in
/-- Write where there is room, or where the row must grow. -/
theorem f57g (bb g sb so c : Nat) (sink cs : List Int) (w : World) (h : SkG w bb g sink) (hs : Src w sb so cs) (hne : sb ≠ bb) (hl : 0 < sink.length) (hn : 0 < cs.length) (hlim : sink.length + cs.length ≤ 1000000000) :
    Calls Tryf.prog 57 #[.pointer (some ⟨bb, 0, none⟩), .slice (some ⟨sb, so, none⟩) cs.length c] w fun e w' => e = .returned (.tuple #[.int .i64 cs.length, .nilIface]) ∧ ∃ g', (g' = g ∨ w.heap.size ≤ g') ∧ SkG w' bb g' (sink ++ cs) ∧ Fr [bb, g] w w' := by
  obtain ⟨lr, cap, cur, hb, hg, hcs, htk, hlc, hcm⟩ := h
  have hgb := hb.ne_row hg
  have hlt := hb.lt
  have hgl : g < w.heap.size := (Array.getElem?_eq_some_iff.1 hg).1
  obtain ⟨c0, c1, c2⟩ := hb.c
  have z2 := hb.z 2
  have hb1 := hb.set2
  have hF1 : Fr [bb, g] w (w.setCell ⟨bb, 2, none⟩ (.int .i8 0)) := (Fr.refl _ w).setCell (p := ⟨bb, 2, none⟩) (.inl (by simp)) _
  have hg1 : (w.setCell ⟨bb, 2, none⟩ (.int .i8 0)).heap[g]? = some (.cells cur 5 (0, 0)) := (Below.heap_setCell _ _ _ _ (by show g ≠ bb; exact hgb)).trans hg
  have hcm' : cap ≤ 9223372036854775807 := by unfold maxLen at hcm; omega
  by_cases hroom : sink.length + cs.length ≤ cap
  · have P58 := hide (f58y bb g sink.length cap cs.length 0 _ hb1 hroom hcm')
    have HS := hide (hs.frG (Fr.weak (T := [bb]) ((Fr.refl [bb] w).setCell (p := ⟨bb, 2, none⟩) (.inl (by simp)) (.int .i8 0)) (by simp)) (by simpa using hne))
    have HF := hide hF1
    have HT := hide htk
    have H1 := hide (And.intro hb1 hg1)
    clear hb hg hb1 hg1 hF1 hs htk c0 c1
    go_enter Tryf.func57, Tryf.ntmps57
    go_wp2_with fail
    refine P58.out.mono ?_
    rintro e w3 ⟨rfl, h3⟩
    have q2 : Bb w3 bb (.slice (some ⟨g, 0, none⟩) (sink.length + cs.length) cap) 0 := by rw [h3]; exact H1.out.1.set _
    have q3 : w3.heap[g]? = some (.cells cur 5 (0, 0)) := by rw [h3]; exact (Below.heap_setCell _ _ _ _ (by show g ≠ bb; exact hgb)).trans H1.out.2
    have q8 : Fr [bb] (w.setCell ⟨bb, 2, none⟩ (.int .i8 0)) w3 := by rw [h3]; exact (Fr.refl _ _).setCell (p := ⟨bb, 0, none⟩) (.inl (by simp)) _
    obtain ⟨d0, d1, d2⟩ := q2.c
    have hcp := copy_any w3 g sink.length cs.length (cap - sink.length) cur cs sb so cs.length c q3 (HS.out.frG q8 (by simpa using hne)) rfl (Nat.le_refl _) (by omega)
    obtain ⟨w4, h4⟩ : ∃ w4, w4 = w3.setRow g (cur.toList.take sink.length ++ by8 cs ++ cur.toList.drop (sink.length + cs.length)).toArray := ⟨_, rfl⟩
    rw [← h4] at hcp
    have hnn : ¬ cap = sink.length := by omega
    have K := hide (And.intro q2 (And.intro q3 (And.intro q8 h4)))
    have r1 : (sink.length : Int) ≤ (sink.length : Int) + (cs.length : Int) := by omega
    clear q2 q3 q8 h4 h3
    go_wp2_with fail
    go_ret2
    obtain ⟨q2, q3, q8, h4⟩ := K.out
    have hF3 : Fr [bb, g] w w3 := HF.out.trans q8 (by simp)
    refine ⟨rfl, g, .inl rfl, ⟨0, cap, _, ?_, ?_, ?_, laid_take cur sink cs HT.out, by rw [List.length_append]; exact hroom, hcm⟩, ?_⟩
    · unfold Bb
      rw [h4, setRow_other w3 _ bb _ (fun e => hgb e.symm), List.length_append]
      exact q2
    · rw [h4]; exact setRow_heap w3 g _ _ 5 _ q3
    · rw [laid_size _ _ _ (by omega), hcs]
    · rw [h4]; exact hF3.setRow (.inl (by simp)) _
  · have P58 := hide (f58r bb g sink.length cap cs.length 0 _ hb1 (by omega) hlc hcm')
    have p59 := f59r bb g sink.length cap cs.length 0 cur _ hb1 hg1 hcs (by rw [htk]; exact by8_one _) hl (by omega) hlc hlim
    have hsz : (w.setCell ⟨bb, 2, none⟩ (.int .i8 0)).heap.size = w.heap.size := by simp
    rw [hsz] at p59
    have P59 := hide p59
    have HS := hide (hs.frG (Fr.weak (T := [bb]) ((Fr.refl [bb] w).setCell (p := ⟨bb, 2, none⟩) (.inl (by simp)) (.int .i8 0)) (by simp)) (by simpa using hne))
    have HF := hide hF1
    have HT := hide htk
    clear hb hg hb1 hg1 hF1 hs p59 hsz htk c0 c1
    go_enter Tryf.func57, Tryf.ntmps57
    go_wp2_with fail
    refine P58.out.mono ?_
    rintro e w2 ⟨rfl, rfl⟩
    go_wp2_with fail
    refine P59.out.mono ?_
    rintro e w3 ⟨rfl, g', cap2, cells, q1, q2, q3, q4, q5, q6, q7, q8⟩
    obtain ⟨d0, d1, d2⟩ := q2.c
    have hcp := copy_any w3 g' sink.length cs.length (cap2 - sink.length) cells cs sb so cs.length c q3 (HS.out.frG q8 (by simpa using hne)) rfl (Nat.le_refl _) (by omega)
    obtain ⟨w4, h4⟩ : ∃ w4, w4 = w3.setRow g' (cells.toList.take sink.length ++ by8 cs ++ cells.toList.drop (sink.length + cs.length)).toArray := ⟨_, rfl⟩
    rw [← h4] at hcp
    have hnn : ¬ cap2 = sink.length := by omega
    have K := hide (And.intro q1 (And.intro q2 (And.intro q3 (And.intro q4 (And.intro q5 (And.intro q6 (And.intro q7 (And.intro q8 h4))))))))
    have r1 : (sink.length : Int) ≤ (sink.length : Int) + (cs.length : Int) := by omega
    clear q1 q2 q3 q4 q5 q7 q8 h4
    go_wp2_with fail
    go_ret2
    obtain ⟨q1, q2, q3, q4, q5, q6, q7, q8, h4⟩ := K.out
    have hF3 : Fr [bb, g] w w3 := HF.out.trans q8 (by simp)
    refine ⟨rfl, g', .inr q1, ⟨0, cap2, _, ?_, ?_, ?_, laid_take cells sink cs (q5.trans HT.out), by rw [List.length_append]; exact q6, q7⟩, ?_⟩
    · unfold Bb
      rw [h4, setRow_other w3 _ bb _ (by omega), List.length_append]
      exact q2
    · rw [h4]; exact setRow_heap w3 g' _ _ 5 _ q3
    · rw [laid_size _ _ _ (by omega), q4]
    · rw [h4]; exact hF3.setRow (.inr q1) _
end Go.Proofs.Qxb6616725aFmt
