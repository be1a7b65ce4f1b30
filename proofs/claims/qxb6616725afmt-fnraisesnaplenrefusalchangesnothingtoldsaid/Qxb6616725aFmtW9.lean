/-
  ZZNewWriterBuf, ZZBytes, and the first law's walk.
-/
import Derived.Test.Qxb6616725aFmtW7
import Derived.Test.Qxb6616725aFmtW8
namespace Go.Proofs.Qxb6616725aFmt
open Go.RowKit
set_option linter.unusedVariables false

theorem Pw.ne_bw {w : World} {pw bw bw' bs bb n : Nat} {ord : Value} {snap : Int} (h : Pw w pw bw ord snap) (hb : Bw w bw' bs bb n) : pw ≠ bw' := by
  rintro rfl
  unfold Pw at h
  unfold Bw at hb
  rw [h] at hb
  simp at hb
theorem Sk0.kept {w w' : World} {bb : Nat} (h : Sk0 w bb) (hb : w'.heap[bb]? = w.heap[bb]?) : Sk0 w' bb := by
  obtain ⟨lr, h⟩ := h
  exact ⟨lr, hb.trans h⟩
theorem Sk0.ne {w : World} {bb bw bs n g : Nat} (h : Sk0 w bb) (hb : Bw w bw bs g n) : bw ≠ bb := by
  rintro rfl
  obtain ⟨lr, h⟩ := h
  unfold Bw at hb
  rw [h] at hb
  simp at hb
theorem Sk0.ne_row {w : World} {bb g : Nat} {xs : List Int} (h : Sk0 w bb) (hb : Row w g 5 xs) : g ≠ bb := by
  rintro rfl
  obtain ⟨lr, h⟩ := h
  unfold Row at hb
  rw [h] at hb
  simp at hb

theorem Sk0.ne_pw {w : World} {bb pw bw : Nat} {ord : Value} {snap : Int} (h : Sk0 w bb) (hb : Pw w pw bw ord snap) : pw ≠ bb := by
  rintro rfl
  obtain ⟨lr, h⟩ := h
  unfold Pw at hb
  rw [h] at hb
  simp at hb
theorem Src.lt {w : World} {sb so : Nat} {cs : List Int} (h : Src w sb so cs) (hl : 0 < cs.length) : sb < w.heap.size := World.block_lt_of_cell? w ⟨sb, so + 0, none⟩ (h 0 hl)

/-- NewWriter, whatever the order. -/
theorem f26 (bb : Nat) (big nano : Bool) (snap link : Int) (w : World) (s0 : 0 ≤ snap) (s1 : snap < 4294967296) (l0 : 0 ≤ link) (l1 : link < 4294967296) :
    Calls Tryf.prog 26 #[.iface 26 (.pointer (some ⟨bb, 0, none⟩)), .agg #[.iface (oty big) (.agg #[]), .bool nano, .int .u32 snap, .int .u32 link]] w fun e w' =>
      ∃ pw bw bs, e = .returned (.pointer (some ⟨pw, 0, none⟩)) ∧ Made w w' pw bw bs bb (oty big) snap 24 (lay (List.replicate 4096 0) 0 (hdr big nano snap link)) := by
  cases big
  · exact f26_87 bb nano snap link w s0 s1 l0 l1
  · exact f26_86 bb nano snap link w s0 s1 l0 l1

/-- The bytes that bufio holds behind NewWriter. -/
def xs0 (big nano : Bool) (snap link : Int) : List Int := lay (List.replicate 4096 0) 0 (hdr big nano snap link)
theorem xs0_take (big nano : Bool) (snap link : Int) : (xs0 big nano snap link).take 24 = hdr big nano snap link := by
  unfold xs0 lay
  have := hdr_len big nano snap link
  rw [List.take_zero, List.nil_append, List.take_append_of_le_length (by omega), List.take_of_length_le (by omega)]

set_option maxRecDepth 100000 in
set_option maxHeartbeats 1000000 in
theorem f8 (big nano : Bool) (snap link : Int) (w : World) (s0 : 0 ≤ snap) (s1 : snap < 4294967296) (l0 : 0 ≤ link) (l1 : link < 4294967296) :
    Calls Tryf.prog 8 #[.bool big, .bool nano, .int .u32 snap, .int .u32 link] w fun e w' =>
      ∃ pw bw bs, e = .returned (.tuple #[.pointer (some ⟨pw, 0, none⟩), .pointer (some ⟨w.heap.size, 0, none⟩)]) ∧ Made w w' pw bw bs w.heap.size (oty big) snap 24 (xs0 big nano snap link) ∧ Sk0 w' w.heap.size := by
  have P27 := hide (fun w => f27 big w)
  have P26 := hide (f26 w.heap.size big nano snap link (w.alloc (.cells #[.slice none 0 0, .int .i64 0, .int .i8 0] 55)) s0 s1 l0 l1)
  go_enter Tryf.func8, Tryf.ntmps8
  go_wp2_with fail
  refine (P27.out _).mono ?_
  rintro e w1 ⟨rfl, rfl⟩
  go_wp2_with fail
  refine P26.out.mono ?_
  rintro e w2 ⟨pw, bw, bs, rfl, hM⟩
  have HM := hide hM
  clear hM
  go_wp2_with fail
  go_ret2
  have hM := HM.out
  have hA : Below w.heap.size w (w.alloc (.cells #[.slice none 0 0, .int .i64 0, .int .i8 0] 55)) := (Below.refl _ w).alloc (Nat.le_refl _) _
  refine ⟨pw, bw, bs, rfl, ⟨hM.p, hM.b, hM.r, hM.l, hA.trans (hM.f.mono hA.size), Nat.le_trans hA.size hM.h1, Nat.le_trans hA.size hM.h2, Nat.le_trans hA.size hM.h3⟩, 0, ?_⟩
  rw [hM.f.block w.heap.size (by simp)]
  exact heap_alloc_new w _

set_option maxHeartbeats 1000000 in
theorem f9 (bb r : Nat) (sink : List Int) (w : World) (h : Sk w bb r sink) :
    Calls Tryf.prog 9 #[.pointer (some ⟨bb, 0, none⟩)] w fun e w' => ∃ cap, e = .returned (.slice (some ⟨r, 0, none⟩) sink.length cap) ∧ w' = w.drew := by
  have HP := hide (f28 bb r sink w h)
  clear h
  go_enter Tryf.func9, Tryf.ntmps9
  go_wp2_with fail
  refine HP.out.mono ?_
  rintro e w1 ⟨cap, rfl, rfl⟩
  go_wp2_with fail
  go_ret
  exact ⟨cap, rfl, rfl⟩
set_option maxHeartbeats 1000000 in
theorem f9z (bb : Nat) (w : World) (h : Sk0 w bb) :
    Calls Tryf.prog 9 #[.pointer (some ⟨bb, 0, none⟩)] w fun e w' => e = .returned (.slice none 0 0) ∧ w' = w.drew := by
  have HP := hide (f28z bb w h)
  clear h
  go_enter Tryf.func9, Tryf.ntmps9
  go_wp2_with fail
  refine HP.out.mono ?_
  rintro e w1 ⟨rfl, rfl⟩
  go_wp2_with fail
  go_ret
  exact ⟨rfl, rfl⟩

/-- A row that the call owns, as a source. -/
theorem own_src {w : World} {B n : Nat} {sv : Value} {xs : List Int} (h : w.ownsRow B 5 1 sv n (by8 xs)) (hn : 0 < n) : ∃ g cap, sv = .slice (some ⟨g, 0, none⟩) n cap ∧ Src w g 0 xs ∧ B ≤ g := by
  rcases id h.2 with ⟨_, h0⟩ | ⟨g, cap, cur, rfl, hB, _⟩
  · omega
  · refine ⟨g, cap, rfl, fun j hj => ?_, hB⟩
    have := h.cells (g := g) rfl j (.int .u8 (xs.getD j 0)) (by simp [by8, List.getD, List.getElem?_eq_getElem hj])
    rw [add_none] at this
    exact this

theorem Sk.fr {S : List Nat} {w w' : World} {bb r : Nat} {sink : List Int} (h : Sk w bb r sink) (hf : Fr S w w') (h1 : ¬ bb ∈ S) (h2 : ¬ r ∈ S) : Sk w' bb r sink := by
  obtain ⟨lr, cap, junk, a, b, c, d⟩ := h
  exact ⟨lr, cap, junk, hf.keeps a h1, hf.keeps b h2, c, d⟩
theorem Sk.src {w : World} {bb r : Nat} {sink : List Int} (h : Sk w bb r sink) : Src w r 0 sink := by
  obtain ⟨lr, cap, junk, a, b, c, d⟩ := h
  intro j hj
  rw [Nat.zero_add]
  have := b.cell j (by simp; omega)
  rw [this]
  simp [List.getD, List.getElem?_append_left hj]
theorem drew_fr (w : World) : Fr [] w w.drew := (Fr.refl [] w).drew
theorem fr_drew {S : List Nat} {w w' : World} (h : Fr S w.drew w') : Fr S w w' := ⟨h.os, h.tape, h.output, h.size, h.block⟩

set_option maxRecDepth 100000 in
set_option maxHeartbeats 2000000 in
theorem f3 (big nano : Bool) (snap link : Int) (w : World) (s0 : 0 ≤ snap) (s1 : snap < 4294967296) (l0 : 0 ≤ link) (l1 : link < 4294967296) :
    Calls Tryf.prog 3 #[.bool big, .bool nano, .int .u32 snap, .int .u32 link] w fun e w' => e = .returned (.bool true) ∧ Below w.heap.size w w' := by
  have P7 := hide (f7 big nano snap link w s0 s1 l0 l1)
  go_enter Tryf.func3, Tryf.ntmps3
  go_wp2_with fail
  refine P7.out.mono ?_
  rintro e w1 ⟨sv, rfl, hown, hb⟩
  obtain ⟨g, cap, rfl, hsrc, hg⟩ := own_src hown (by decide)
  have P8 := hide (f8 big nano snap link w1 s0 s1 l0 l1)
  have HS := hide hsrc
  have HB := hide hb
  clear hown hsrc hb hg
  go_wp2_with fail
  refine P8.out.mono ?_
  rintro e w2 ⟨pw, bw, bs, rfl, hM, hk⟩
  have P9 := hide (f9z w1.heap.size w2 hk)
  have p29 := f29n bw bs w1.heap.size 24 _ w2.drew hM.b hM.r hM.l hk (hk.ne_row hM.r) (hk.ne hM.b) (by decide) (by decide)
  rw [xs0_take] at p29
  have P10 := hide (f10 pw bw _ _ w2.drew _ hM.p p29)
  have HM := hide hM
  have HK0 := hide hk
  clear hM hk p29
  go_wp2_with fail
  refine P9.out.mono ?_
  rintro e w3 ⟨rfl, rfl⟩
  go_wp2_with fail
  refine P10.out.mono ?_
  rintro e w3 ⟨rfl, hB3, hK3, hR3, hF3⟩
  have hM := HM.out
  have hlen := hdr_len big nano snap link
  have hgl := HS.out.lt (by omega)
  have hP3 : Pw w3 pw bw (.iface (oty big) (.agg #[])) snap := hF3.keeps hM.p (by simp; exact ⟨hM.p.ne_bw hM.b, HK0.out.ne_pw hM.p⟩)
  have hs2 : Src w2.drew g 0 (hdr big nano snap link) := HS.out.fr (Fr.of_below (S := []) hM.f.drew) (by simp)
  have hs3 := hs2.fr hF3 (by simp; have := hM.h2; omega)
  have p9 := f9 _ _ _ w3 hK3
  have p11 := fun c => f11 w2.drew.heap.size g c cap (hdr big nano snap link) w3.drew hK3.src hs3 (by omega)
  rw [hlen] at p9 p11
  have P9' := hide p9
  have P11 := hide p11
  have b2 := HB.out.trans (hM.f.mono HB.out.size)
  have b3 := b2.trans ((fr_drew hF3).below b2.size (by have := hM.h2; have := HB.out.size; simp; omega))
  have HP3 := hide hP3
  have HB3 := hide hB3
  have HK3 := hide hK3
  have HS3 := hide hs3
  have Hb3 := hide b3
  have HL := hide hlen
  clear hM hlen hgl hP3 hs2 hs3 p9 p11 b2 b3 hB3 hK3 hR3 hF3
  go_wp2_with fail
  refine P9'.out.mono ?_
  rintro e w4 ⟨cap2, rfl, rfl⟩
  go_wp2_with fail
  refine (P11.out cap2).mono ?_
  rintro e w4 ⟨rfl, hF4⟩
  have hF4 := fr_drew hF4
  have hlen := HL.out
  have hK4 := HK3.out.fr hF4 (by simp) (by simp)
  have hs4 := HS3.out.fr hF4 (by simp)
  have P10' := hide (f10 pw bw _ _ w4 _ (hF4.keeps HP3.out (by simp)) (f29z bw bs _ w4 (hF4.keeps HB3.out (by simp))))
  have p9 := f9 _ _ _ w4 hK4
  have p11 := fun c => f11 w2.drew.heap.size g c cap (hdr big nano snap link) w4.drew hK4.src hs4 (by omega)
  rw [hlen] at p9 p11
  have P9'' := hide p9
  have P11' := hide p11
  have b4 := Hb3.out.trans (hF4.below Hb3.out.size (by simp))
  have Hb4 := hide b4
  clear hF4 hK4 hs4 p9 p11 b4 hlen
  go_wp2_with fail
  refine P10'.out.mono ?_
  rintro e w5 ⟨rfl, rfl⟩
  go_wp2_with fail
  refine P9''.out.mono ?_
  rintro e w5 ⟨cap3, rfl, rfl⟩
  go_wp2_with fail
  refine (P11'.out cap3).mono ?_
  rintro e w6 ⟨rfl, hF6⟩
  have HF6 := hide (fr_drew hF6)
  clear hF6
  go_wp2_with fail
  go_ret
  exact ⟨rfl, Hb4.out.trans (HF6.out.below Hb4.out.size (by simp))⟩
end Go.Proofs.Qxb6616725aFmt
