/-
  ZZBytes, zzClone, Flush over whatever a Buffer holds; the refusals of Writer.Write; ZZRaiseSnapLen.
-/
import Derived.Test.Qxb6616725aFmtW20
import Derived.Test.Qxb6616725aFmtW22
import Derived.Test.Qxb6616725aFmtW25
namespace Go.Proofs.Qxb6616725aFmt
open Go.RowKit Go.Extern.Stop Go.Stop Go.Extern
set_option linter.unusedVariables false

/-- The address of a Buffer's row. -/
def adr : Option Nat → Option Addr
  | none => none
  | some g => some ⟨g, 0, none⟩
/-- No row, no bytes, no room. -/
def Bare (r : Option Nat) (sink : List Int) (cap : Nat) : Prop := r = none → sink = [] ∧ cap = 0
/-- What a row holds. -/
def Held (w : World) (r : Option Nat) (sink : List Int) : Prop := ∀ g, r = some g → Src w g 0 sink

theorem SkO.held {w : World} {bb : Nat} {r : Option Nat} {sink : List Int} (h : SkO w bb r sink) : Held w r sink := by
  intro g e
  subst e
  exact h.2.src

theorem f9o (bb : Nat) (r : Option Nat) (sink : List Int) (w : World) (h : SkO w bb r sink) :
    Calls Tryf.prog 9 #[.pointer (some ⟨bb, 0, none⟩)] w fun e w' => ∃ cap, e = .returned (.slice (adr r) sink.length cap) ∧ Bare r sink cap ∧ w' = w.drew := by
  cases r with
  | none =>
    obtain ⟨rfl, h0⟩ := h
    refine (f9z bb w h0).mono ?_
    rintro e w' ⟨rfl, rfl⟩
    exact ⟨0, rfl, fun _ => ⟨rfl, rfl⟩, rfl⟩
  | some g =>
    refine (f9g bb g sink w h.2).mono ?_
    rintro e w' ⟨cap, rfl, rfl⟩
    exact ⟨cap, rfl, (fun h => nomatch h), rfl⟩

theorem f20o (r : Option Nat) (sink : List Int) (cap : Nat) (w : World) (hc : Bare r sink cap) (hs : Held w r sink) (hl : sink.length ≤ 4000000) :
    Calls Tryf.prog 20 #[.slice (adr r) sink.length cap] w fun e w' => ∃ g c, e = .returned (.slice (some ⟨g, 0, none⟩) sink.length c) ∧ Src w' g 0 sink ∧ Fr [] w w' := by
  cases r with
  | none =>
    obtain ⟨rfl, rfl⟩ := hc rfl
    refine (f20z w).mono ?_
    rintro e w' ⟨rfl, hf⟩
    exact ⟨_, 0, rfl, fun j hj => absurd hj (Nat.not_lt_zero _), hf⟩
  | some g =>
    refine (f20 g cap sink w (hs g rfl) hl).mono ?_
    rintro e w' ⟨rfl, hr, hf⟩
    exact ⟨_, _, rfl, fun j hj => by rw [Nat.zero_add]; exact hr.cell j hj, hf⟩

/-- Flush, whatever is held: all of it lies in the Buffer. -/
theorem f29p (bw bs bb : Nat) (r : Option Nat) (tot : List Int) (w : World) (h : Pipe w bw bs bb r tot) (ht : 0 < tot.length) (hlim : tot.length ≤ 10000000) :
    Calls Tryf.prog 29 #[.pointer (some ⟨bw, 0, none⟩)] w fun e w' => e = .returned .nilIface ∧ ∃ g', Fresh w.heap.size r (some g') ∧ Bw w' bw bs bb 0 ∧ SkG w' bb g' tot ∧ Fr (own bw bs bb r) w w' := by
  obtain ⟨n, xs, sink, hn, hx, hB, hR, hK, hrb, htot⟩ := h
  by_cases hn0 : n = 0
  · subst hn0
    rw [List.take_zero, List.append_nil] at htot
    subst htot
    refine (f29z bw bs bb w hB).mono ?_
    rintro e w' ⟨rfl, rfl⟩
    cases r with
    | none => rw [hK.1] at ht; exact absurd ht (Nat.lt_irrefl _)
    | some g => exact ⟨rfl, g, .inl rfl, hB, hK.2, Fr.refl _ _⟩
  · have hsl : sink.length ≤ 10000000 := by
      have := congrArg List.length htot
      rw [List.length_append] at this
      omega
    refine (f29o bw bs bb n r sink xs w hB hR hx hK hrb (by omega) hn (by omega)).mono ?_
    rintro e w' ⟨rfl, g', hg, h1, h2, h3, h4⟩
    rw [htot] at h2
    refine ⟨rfl, g', ?_, h1, h2.2, h4.weak ?_⟩
    · rcases hg with rfl | hg
      · exact .inl rfl
      · exact .inr ⟨g', rfl, hg⟩
    · intro x hx
      rcases List.mem_cons.1 hx with rfl | hx
      · simp [own]
      · rcases List.mem_cons.1 hx with rfl | hx
        · simp [own]
        · simp [own, hx]

set_option maxHeartbeats 1000000 in
theorem f23 (F : Interp) (pw bw : Nat) (ord : Value) (snap n : Int) (w : World) (hF : F.answers w.tape) (h : Pw w pw bw ord snap) :
    Calls Tryf.prog 23 #[.pointer (some ⟨pw, 0, none⟩), .int .u32 n] w fun e w' => ∃ t p, e = .returned (.iface t p) ∧ Below w.heap.size w w' := by
  have HP := hide (f31 F pw bw ord snap n w hF h)
  clear h hF
  go_enter Tryf.func23, Tryf.ntmps23
  go_wp2_with fail
  refine HP.out.mono ?_
  rintro e w1 ⟨t, p, rfl, hb⟩
  have HB := hide hb
  clear hb
  go_wp2_with fail
  go_ret
  exact ⟨t, p, rfl, HB.out⟩

set_option maxRecDepth 100000 in
set_option maxHeartbeats 1000000 in
/-- Write of a record that is refused. -/
theorem f19r (F : Interp) (pw bw : Nat) (ord : Value) (snap sec frac orig : Int) (a : Option Addr) (n c : Nat) (w : World) (hF : F.answers w.tape) (h : Pw w pw bw ord snap) (hr : refused n snap = true) (hn : n ≤ 1048576) :
    Calls Tryf.prog 19 #[.pointer (some ⟨pw, 0, none⟩), .agg #[.int .u32 sec, .int .u32 frac, .int .u32 orig, .slice a n c]] w fun e w' => ∃ t p, e = .returned (.iface t p) ∧ Below w.heap.size w w' := by
  have hb0 : Below w.heap.size w (w.alloc (.cells #[.int .u32 sec, .int .u32 frac, .int .u32 orig, .slice a n c] 46)) := (Below.refl _ w).alloc (Nat.le_refl _) _
  by_cases h1 : 262144 < n
  · have ht : decide ((262144 : Int) < (n : Int)) = true := by simp; omega
    have HP := hide (fun x => f30 F x (w.alloc (.cells #[.int .u32 sec, .int .u32 frac, .int .u32 orig, .slice a n c] 46)) hF)
    have HB := hide hb0
    clear h hF hb0
    go_enter Tryf.func19, Tryf.ntmps19
    go_wp2_with fail
    refine (HP.out _).mono ?_
    rintro e w1 ⟨t, p, rfl, hb⟩
    have HB1 := hide (HB.out.trans (hb.mono HB.out.size))
    clear hb
    go_wp2_with fail
    go_ret
    exact ⟨t, p, rfl, HB1.out⟩
  · have ht : decide ((262144 : Int) < (n : Int)) = false := by simp; omega
    have ht2 : decide (snap < (n : Int)) = true := by
      unfold refused at hr
      simpa [h1] using hr
    have hw : IntKind.u32.wrap (n : Int) = (n : Int) := by rw [IntKind.wrap_u32]; omega
    have hm : (n : Int) % 4294967296 = (n : Int) := by omega
    have c4 : w.cell? ⟨pw, 4, none⟩ = some (.int .u32 snap) := by rw [cell_of_row w _ _ _ _ _ h]; rfl
    have hpl : pw < w.heap.size := (Array.getElem?_eq_some_iff.1 h).1
    have HP := hide (fun x => f31 F pw bw ord snap x (w.alloc (.cells #[.int .u32 sec, .int .u32 frac, .int .u32 orig, .slice a n c] 46)) hF ((hb0.block pw hpl).trans h))
    have HB := hide hb0
    clear h hF hb0
    go_enter Tryf.func19, Tryf.ntmps19
    go_wp2_with fail
    refine (HP.out _).mono ?_
    rintro e w1 ⟨t, p, rfl, hb⟩
    have HB1 := hide (HB.out.trans (hb.mono HB.out.size))
    clear hb
    go_wp2_with fail
    go_ret
    exact ⟨t, p, rfl, HB1.out⟩
end Go.Proofs.Qxb6616725aFmt
