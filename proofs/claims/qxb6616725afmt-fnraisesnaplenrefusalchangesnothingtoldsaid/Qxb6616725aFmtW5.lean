/-
  bytes.Buffer: Write into an empty one; Bytes. bufio.Writer: Flush.
-/
import Derived.Test.Qxb6616725aFmtW4
import Derived.Lib.SliceRun
namespace Go.Proofs.Qxb6616725aFmt
open Go.RowKit
set_option linter.unusedVariables false

/-- A bytes.Buffer that holds nothing yet. -/
def Sk0 (w : World) (bb : Nat) : Prop := ∃ lr, w.heap[bb]? = some (.cells #[.slice none 0 0, .int .i64 0, .int .i8 lr] 55 (0, 0))
/-- A bytes.Buffer in block bb, its row in block r. -/
def Sk (w : World) (bb r : Nat) (sink : List Int) : Prop := ∃ lr cap junk, w.heap[bb]? = some (.cells #[.slice (some ⟨r, 0, none⟩) sink.length cap, .int .i64 0, .int .i8 lr] 55 (0, 0)) ∧ Row w r 5 (sink ++ junk) ∧ (sink ++ junk).length = cap ∧ cap ≤ 140737488355328

theorem Bw.ne_row {w : World} {bw bs bb n g : Nat} {xs : List Int} (h : Bw w bw bs bb n) (hr : Row w g 5 xs) : g ≠ bw := by
  rintro rfl
  unfold Bw at h
  unfold Row at hr
  rw [h] at hr
  simp at hr
theorem Sk.setOther {w : World} {bb r bw : Nat} {sink : List Int} (h : Sk w bb r sink) (hne : bw ≠ bb) (hr : ∀ xs, Row w r 5 xs → r ≠ bw) (k : Nat) (v : Value) : Sk (w.setCell ⟨bw, k, none⟩ v) bb r sink := by
  obtain ⟨lr, cap, junk, h1, h2, h3, h4⟩ := h
  exact ⟨lr, cap, junk, (Below.heap_setCell w ⟨bw, k, none⟩ v bb (fun e => hne e.symm)).trans h1, h2.setOther (hr _ h2) v, h3, h4⟩

set_option maxHeartbeats 1000000 in
theorem f58n (bb n : Nat) (lr : Int) (w : World) (h : w.heap[bb]? = some (.cells #[.slice none 0 0, .int .i64 0, .int .i8 lr] 55 (0, 0))) (hn : 0 < n) :
    Calls Tryf.prog 58 #[.pointer (some ⟨bb, 0, none⟩), .int .i64 n] w fun e w' => e = .returned (.tuple #[.int .i64 0, .bool false]) ∧ w' = w := by
  have c0 : w.cell? ⟨bb, 0, none⟩ = some (.slice none 0 0) := by rw [cell_of_row w _ _ _ _ _ h]; rfl
  have ht : decide ((n : Int) ≤ 0) = false := by simp; omega
  clear h
  go_enter Tryf.func58, Tryf.ntmps58
  go_wp2
  go_ret2
  exact ⟨rfl, rfl⟩
set_option maxHeartbeats 1000000 in
theorem f60n (bb : Nat) (lr : Int) (w : World) (h : w.heap[bb]? = some (.cells #[.slice none 0 0, .int .i64 0, .int .i8 lr] 55 (0, 0))) :
    Calls Tryf.prog 60 #[.pointer (some ⟨bb, 0, none⟩)] w fun e w' => e = .returned (.int .i64 0) ∧ w' = w.drew := by
  have c0 : w.cell? ⟨bb, 0, none⟩ = some (.slice none 0 0) := by rw [cell_of_row w _ _ _ _ _ h]; rfl
  have c1 : w.cell? ⟨bb, 1, none⟩ = some (.int .i64 0) := by rw [cell_of_row w _ _ _ _ _ h]; rfl
  clear h
  go_enter Tryf.func60, Tryf.ntmps60
  go_wp2
  go_region
  go_wp2
  go_ret
  exact ⟨rfl, rfl⟩

set_option maxRecDepth 100000 in
set_option maxHeartbeats 1000000 in
theorem f59n (bb n : Nat) (lr : Int) (w : World) (h : w.heap[bb]? = some (.cells #[.slice none 0 0, .int .i64 0, .int .i8 lr] 55 (0, 0))) (hn : 0 < n) (hn2 : n ≤ 64) :
    Calls Tryf.prog 59 #[.pointer (some ⟨bb, 0, none⟩), .int .i64 n] w fun e w' => e = .returned (.int .i64 0) ∧
      w'.heap[bb]? = some (.cells #[.slice (some ⟨w.heap.size, 0, none⟩) n 64, .int .i64 0, .int .i8 lr] 55 (0, 0)) ∧ Row w' w.heap.size 5 (List.replicate 64 0) ∧ Fr [bb] w w' := by
  have hlt : bb < w.heap.size := (Array.getElem?_eq_some_iff.1 h).1
  have c0 : w.cell? ⟨bb, 0, none⟩ = some (.slice none 0 0) := by rw [cell_of_row w _ _ _ _ _ h]; rfl
  have c1 : w.cell? ⟨bb, 1, none⟩ = some (.int .i64 0) := by rw [cell_of_row w _ _ _ _ _ h]; rfl
  have z0 : w.frozen? ⟨bb, 0, none⟩ = false := frozen_of_row w bb 0 _ _ h
  have P60 := hide (f60n bb lr w h)
  have P58 := hide (f58n bb n lr w.drew h hn)
  obtain ⟨w1, hmk, hrow, hb, hs⟩ := mk n 64 hn2 (by omega) w.drew
  replace hmk : (Instr.makeSlice 23 (.int .i64 (n : Int)) (.int .i64 64)).run Tryf.prog w.drew = .ok (.slice (some ⟨w.heap.size, 0, none⟩) n 64) w1 := hmk
  have d0 : w1.cell? ⟨bb, 0, none⟩ = some (.slice none 0 0) := (hb.cell (p := ⟨bb, 0, none⟩) hlt).trans c0
  have y0 : w1.frozen? ⟨bb, 0, none⟩ = false := (hb.frozen (p := ⟨bb, 0, none⟩) hlt).trans z0
  have hle : decide ((n : Int) ≤ 64) = true := by simp; omega
  have q23 : ∀ (w : World) (a : Option Addr) (n c n' c' : Nat), (binOp .eql 23 (.slice a n c) (.slice none n' c')).run Tryf.prog w = .ok (.bool a.isNone) w := fun w a n c n' c' => Lib.run_eql_slice_nil w _ _ a n c n' c' Tryf.underlying23
  have HB := hide hb
  have HR := hide hrow
  have HH := hide h
  clear hb hrow h
  go_enter Tryf.func59, Tryf.ntmps59
  go_wp2_with fail
  refine P60.out.mono ?_
  rintro e w2 ⟨rfl, rfl⟩
  go_wp2_with fail
  refine P58.out.mono ?_
  rintro e w2 ⟨rfl, rfl⟩
  go_wp2_with fail
  go_ret
  refine ⟨rfl, ?_, ?_, ?_⟩
  · have hk : w1.heap[bb]? = some (.cells #[.slice none 0 0, .int .i64 0, .int .i8 lr] 55 (0, 0)) := (HB.out.block bb hlt).trans HH.out
    rw [heap_setCell_same w1 bb 0 _ 55 _ hk]
    rfl
  · exact HR.out.setOther (by show w.heap.size ≠ bb; omega) _
  · have hF : Fr [bb] w w1 := ⟨HB.out.os, HB.out.tape, HB.out.output, HB.out.size, fun k hk _ => HB.out.block k hk⟩
    exact hF.setCell (p := ⟨bb, 0, none⟩) (.inl (by simp)) _

theorem Src.fr {S : List Nat} {w w' : World} {sb so : Nat} {cs : List Int} (h : Src w sb so cs) (hf : Fr S w w') (hs : ¬ sb ∈ S) : Src w' sb so cs := fun j hj => by
  have hc := h j hj
  rw [World.cell?_of_block (w := w) (a := ⟨sb, so + j, none⟩) (hf.block sb (World.block_lt_of_cell? w _ hc) hs)]
  exact hc

set_option maxRecDepth 100000 in
set_option maxHeartbeats 1000000 in
theorem f57n (bb sb so c : Nat) (cs : List Int) (w : World) (h : Sk0 w bb) (hs : Src w sb so cs) (hne : sb ≠ bb) (hn : 0 < cs.length) (hn2 : cs.length ≤ 64) :
    Calls Tryf.prog 57 #[.pointer (some ⟨bb, 0, none⟩), .slice (some ⟨sb, so, none⟩) cs.length c] w fun e w' => e = .returned (.tuple #[.int .i64 cs.length, .nilIface]) ∧ Sk w' bb w.heap.size cs ∧ Fr [bb] w w' := by
  obtain ⟨lr, h⟩ := h
  have hlt : bb < w.heap.size := (Array.getElem?_eq_some_iff.1 h).1
  have c2 : w.cell? ⟨bb, 2, none⟩ = some (.int .i8 lr) := by rw [cell_of_row w _ _ _ _ _ h]; rfl
  have z2 : w.frozen? ⟨bb, 2, none⟩ = false := frozen_of_row w bb 2 _ _ h
  have hb1 : (w.setCell ⟨bb, 2, none⟩ (.int .i8 0)).heap[bb]? = some (.cells #[.slice none 0 0, .int .i64 0, .int .i8 0] 55 (0, 0)) := by
    rw [heap_setCell_same w bb 2 _ 55 _ h]
    rfl
  have hF1 : Fr [bb] w (w.setCell ⟨bb, 2, none⟩ (.int .i8 0)) := (Fr.refl [bb] w).setCell (p := ⟨bb, 2, none⟩) (.inl (by simp)) _
  have hsz : (w.setCell ⟨bb, 2, none⟩ (.int .i8 0)).heap.size = w.heap.size := by simp
  have P58 := hide (f58n bb cs.length 0 _ hb1 hn)
  have p59 := f59n bb cs.length 0 _ hb1 hn hn2
  rw [hsz] at p59
  have P59 := hide p59
  have HS := hide (hs.fr hF1 (by simpa using hne))
  have HF := hide hF1
  clear h hb1 hF1 hs p59 hsz
  go_enter Tryf.func57, Tryf.ntmps57
  go_wp2_with fail
  refine P58.out.mono ?_
  rintro e w2 ⟨rfl, rfl⟩
  go_wp2_with fail
  refine P59.out.mono ?_
  rintro e w3 ⟨rfl, k1, k2, k3⟩
  have c0 : w3.cell? ⟨bb, 0, none⟩ = some (.slice (some ⟨w.heap.size, 0, none⟩) cs.length 64) := by rw [cell_of_row w3 _ _ _ _ _ k1]; rfl
  have hcp := copy_eq w3 w.heap.size 0 cs.length 64 _ cs sb so cs.length c k2 (HS.out.fr k3 (by simpa using hne)) rfl (Nat.le_refl _) (by simpa using hn2)
  obtain ⟨w4, h4⟩ : ∃ w4, w4 = w3.setRow w.heap.size (by8 (lay (List.replicate 64 0) 0 cs)).toArray := ⟨_, rfl⟩
  rw [← h4] at hcp
  have K1 := hide k1
  have K2 := hide k2
  have K3 := hide k3
  have H4 := hide h4
  clear k1 k2 k3 h4
  go_wp2_with fail
  go_ret2
  have h4 := H4.out
  have hF4 : Fr [bb] w w4 := by rw [h4]; exact (HF.out.trans K3.out (by simp)).setRow (.inr (Nat.le_refl _)) _
  have hbb : w4.heap[bb]? = w3.heap[bb]? := by rw [h4]; exact setRow_other w3 _ bb _ (by omega)
  refine ⟨rfl, ⟨0, 64, (List.replicate 64 0).drop cs.length, ?_, ?_, by simp; omega, by omega⟩, hF4⟩
  · rw [hbb]; exact K1.out
  · have R := K2.out.setRow (lay (List.replicate 64 0) 0 cs)
    rw [← h4] at R
    have e : lay (List.replicate 64 0) 0 cs = cs ++ (List.replicate 64 0).drop cs.length := by simp [lay]
    rw [e] at R
    exact R

theorem m26w (a : Addr) (w : World) : (method 231 26 (.pointer (some a)) "Write").run Tryf.prog w = .ok (57, .pointer (some a)) w := by kernel_rfl

set_option maxRecDepth 100000 in
set_option maxHeartbeats 1000000 in
/-- Flush of 1 to 64 bytes into an empty Buffer. -/
theorem f29n (bw bs bb n : Nat) (xs : List Int) (w : World) (h : Bw w bw bs bb n) (hr : Row w bs 5 xs) (hx : xs.length = 4096) (hk : Sk0 w bb) (hne : bs ≠ bb) (hne2 : bw ≠ bb) (hn : 0 < n) (hn2 : n ≤ 64) :
    Calls Tryf.prog 29 #[.pointer (some ⟨bw, 0, none⟩)] w fun e w' => e = .returned .nilIface ∧ Bw w' bw bs bb 0 ∧ Sk w' bb w.heap.size (xs.take n) ∧ Row w' bs 5 xs ∧ Fr [bw, bb] w w' := by
  have hl : (xs.take n).length = n := by simp; omega
  have p57 := f57n bb bs 0 4096 (xs.take n) w.drew hk (fun j hj => by
    have hj' : j < xs.length := by simp at hj; omega
    have := hr.cell j hj'
    rw [Nat.zero_add]
    refine this.trans ?_
    have h2 : j < n := by omega
    simp [List.getD, h2]) hne (by omega) (by omega)
  rw [hl] at p57
  have P57 := hide p57
  obtain ⟨c0, c1, c2, c3⟩ := h.c
  have ht : ((n : Int) == 0) = false := by simp; omega
  have ht2 : decide ((n : Int) < (n : Int)) = false := by simp
  have hm := m26w
  have hle : (n : Int) ≤ 4096 := by omega
  have HB := hide h
  have HR := hide hr
  clear h hr hk p57
  go_enter Tryf.func29, Tryf.ntmps29
  go_wp2_with fail
  go_region_with (go_at_call 57; refine P57.out.mono ?_; rintro e w1 ⟨rfl, h1, h2⟩; have H1 := hide h1; have H2 := hide h2; clear h1 h2)
  all_goals
    have hB1 : Bw w1 bw bs bb n := H2.out.keeps HB.out (by simpa using hne2)
    have hR1 : Row w1 bs 5 xs := H2.out.keeps HR.out (by simpa using hne)
    obtain ⟨d0, d1, d2, d3⟩ := hB1.c
    have z2 := hB1.z 2
    have HB1 := hide hB1
    have HR1 := hide hR1
    clear hB1 hR1 c0 c1 c2 c3
    go_wp2_with fail
    go_ret
    refine ⟨rfl, HB1.out.setN 0, ?_, ?_, ?_⟩
    · exact H1.out.setOther hne2 (fun _ hr => HB1.out.ne_row hr) 2 _
    · exact HR1.out.setOther (HB1.out.ne_row HR1.out) _
    · exact (Fr.weak (⟨H2.out.os, H2.out.tape, H2.out.output, H2.out.size, H2.out.block⟩ : Fr [bb] w w1) (by simp)).setCell (p := ⟨bw, 2, none⟩) (.inl (by simp)) _

set_option maxHeartbeats 1000000 in
/-- Flush of nothing. -/
theorem f29z (bw bs bb : Nat) (w : World) (h : Bw w bw bs bb 0) :
    Calls Tryf.prog 29 #[.pointer (some ⟨bw, 0, none⟩)] w fun e w' => e = .returned .nilIface ∧ w' = w := by
  obtain ⟨c0, c1, c2, c3⟩ := h.c
  clear h
  go_enter Tryf.func29, Tryf.ntmps29
  go_wp2_with fail
  go_ret
  exact ⟨rfl, rfl⟩

/-- A pcap.Writer in block pw over a bufio.Writer in block bw; no file. -/
def Pw (w : World) (pw bw : Nat) (ord : Value) (snap : Int) : Prop := w.heap[pw]? = some (.cells #[.pointer (some ⟨bw, 0, none⟩), .nilIface, .int .i64 0, ord, .int .u32 snap] 67 (0, 0))
theorem Pw.c0 {w : World} {pw bw : Nat} {ord : Value} {snap : Int} (h : Pw w pw bw ord snap) : w.cell? ⟨pw, 0, none⟩ = some (.pointer (some ⟨bw, 0, none⟩)) := by rw [cell_of_row w _ _ _ _ _ h]; rfl

set_option maxHeartbeats 1000000 in
/-- Writer.Flush hands on what bufio's Flush answers. -/
theorem f10 (pw bw : Nat) (ord : Value) (snap : Int) (w : World) (R : World → Prop) (h : Pw w pw bw ord snap) (hc : Calls Tryf.prog 29 #[.pointer (some ⟨bw, 0, none⟩)] w fun e w' => e = .returned .nilIface ∧ R w') :
    Calls Tryf.prog 10 #[.pointer (some ⟨pw, 0, none⟩)] w fun e w' => e = .returned .nilIface ∧ R w' := by
  have c0 := h.c0
  have HP := hide hc
  clear h hc
  go_enter Tryf.func10, Tryf.ntmps10
  go_wp2_with fail
  refine HP.out.mono ?_
  rintro e w1 ⟨rfl, h1⟩
  have H1 := hide h1
  clear h1
  go_wp2_with fail
  go_ret
  exact ⟨rfl, H1.out⟩

set_option maxHeartbeats 1000000 in
theorem f28 (bb r : Nat) (sink : List Int) (w : World) (h : Sk w bb r sink) :
    Calls Tryf.prog 28 #[.pointer (some ⟨bb, 0, none⟩)] w fun e w' => ∃ cap, e = .returned (.slice (some ⟨r, 0, none⟩) sink.length cap) ∧ w' = w.drew := by
  obtain ⟨lr, cap, junk, h, hr, hl, hc⟩ := h
  have c0 : w.cell? ⟨bb, 0, none⟩ = some (.slice (some ⟨r, 0, none⟩) sink.length cap) := by rw [cell_of_row w _ _ _ _ _ h]; rfl
  have c1 : w.cell? ⟨bb, 1, none⟩ = some (.int .i64 0) := by rw [cell_of_row w _ _ _ _ _ h]; rfl
  clear h hr hl
  go_enter Tryf.func28, Tryf.ntmps28
  go_wp2
  go_region
  go_wp2
  go_ret
  exact ⟨cap, by simp, rfl⟩
set_option maxHeartbeats 1000000 in
theorem f28z (bb : Nat) (w : World) (h : Sk0 w bb) :
    Calls Tryf.prog 28 #[.pointer (some ⟨bb, 0, none⟩)] w fun e w' => e = .returned (.slice none 0 0) ∧ w' = w.drew := by
  obtain ⟨lr, h⟩ := h
  have c0 : w.cell? ⟨bb, 0, none⟩ = some (.slice none 0 0) := by rw [cell_of_row w _ _ _ _ _ h]; rfl
  have c1 : w.cell? ⟨bb, 1, none⟩ = some (.int .i64 0) := by rw [cell_of_row w _ _ _ _ _ h]; rfl
  clear h
  go_enter Tryf.func28, Tryf.ntmps28
  go_wp2
  go_region
  go_wp2
  go_ret
  exact ⟨rfl, rfl⟩
end Go.Proofs.Qxb6616725aFmt
