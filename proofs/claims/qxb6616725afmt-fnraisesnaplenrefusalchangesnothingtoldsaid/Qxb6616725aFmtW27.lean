/-
  Writer.Write behind NewWriter, taken or refused.
-/
import Derived.Test.Qxb6616725aFmtW9
import Derived.Test.Qxb6616725aFmtW23
import Derived.Test.Qxb6616725aFmtW24
import Derived.Test.Qxb6616725aFmtW26
namespace Go.Proofs.Qxb6616725aFmt
open Go.RowKit Go.Extern.Stop Go.Stop Go.Extern
set_option linter.unusedVariables false

/-- What Write answers: an error just where b. -/
def Answers (b : Bool) (v : Value) : Prop := ∀ w : World, (binOp .neq 31 v .nilIface).run Tryf.prog w = .ok (.bool b) w
theorem isIface31 : Tryf.prog.isIface 31 = true := by kernel_rfl
theorem answers_nil : Answers false .nilIface := fun w => run_neq_nil_nil_at w 31 isIface31
theorem answers_iface (t : TypeId) (p : Value) : Answers true (.iface t p) := fun w => run_neq_iface_nil w 31 isIface31 t p

/-- The bytes of a record, none where it is refused. -/
def body (rf big : Bool) (sec frac orig : Int) (ds : List Int) : List Int := if rf = true then [] else rcd big sec frac orig ds

theorem f19 (F : Interp) (B : Nat) (big : Bool) (pw bw bs bb c : Nat) (snap sec frac orig : Int) (xs ds : List Int) (a : Option Addr) (w : World) (hF : F.answers w.tape) (hP : Pw w pw bw (.iface (oty big) (.agg #[])) snap) (hB : Bw w bw bs bb 24) (hR : Row w bs 5 xs) (hx : xs.length = 4096) (hK : Sk0 w bb)
    (hd : Dat B w a ds) (b1 : B ≤ bw) (b2 : B ≤ bs) (b3 : B ≤ bb) (hc : ds.length ≤ c) (hcm : c ≤ 9223372036854775807) (hl : ds.length ≤ 1048576)
    (s0 : 0 ≤ sec) (s1 : sec < 4294967296) (f0 : 0 ≤ frac) (f1 : frac < 4294967296) (o0 : 0 ≤ orig) (o1 : orig < 4294967296) :
    Calls Tryf.prog 19 #[.pointer (some ⟨pw, 0, none⟩), .agg #[.int .u32 sec, .int .u32 frac, .int .u32 orig, .slice a ds.length c]] w fun e w' =>
      ∃ v, e = .returned v ∧ Answers (refused ds.length snap) v ∧ ∃ r', Fresh w.heap.size none r' ∧ Pipe w' bw bs bb r' (xs.take 24 ++ body (refused ds.length snap) big sec frac orig ds) ∧ Fr (own bw bs bb none) w w' := by
  cases hr : refused ds.length snap
  · have h1 : ds.length ≤ 262144 ∧ (ds.length : Int) ≤ snap := by
      unfold refused at hr
      simp at hr
      omega
    have key : Calls Tryf.prog 19 #[.pointer (some ⟨pw, 0, none⟩), .agg #[.int .u32 sec, .int .u32 frac, .int .u32 orig, .slice a ds.length c]] w fun e w' =>
      e = .returned .nilIface ∧ ∃ r', Fresh w.heap.size none r' ∧ Pipe w' bw bs bb r' (xs.take 24 ++ rcd big sec frac orig ds) ∧ Fr (own bw bs bb none) w w' := by
      cases big
      · exact f19_87 B pw bw bs bb c snap sec frac orig xs ds a w hP hB hR hx hK hd b1 b2 b3 hc hcm h1.1 h1.2 s0 s1 f0 f1 o0 o1
      · exact f19_86 B pw bw bs bb c snap sec frac orig xs ds a w hP hB hR hx hK hd b1 b2 b3 hc hcm h1.1 h1.2 s0 s1 f0 f1 o0 o1
    refine key.mono ?_
    rintro e w' ⟨rfl, h⟩
    exact ⟨_, rfl, answers_nil, h⟩
  · refine (f19r F pw bw _ snap sec frac orig a ds.length c w hF hP hr hl).mono ?_
    rintro e w' ⟨t, p, rfl, hb⟩
    obtain ⟨lr, hk⟩ := hK
    refine ⟨_, rfl, answers_iface t p, none, .inl rfl, ⟨24, xs, [], by decide, hx, (hb.block bw hB.lt).trans hB, (hb.block bs hR.lt).trans hR, ⟨rfl, lr, (hb.block bb (Array.getElem?_eq_some_iff.1 hk).1).trans hk⟩, by simp, ?_⟩, Fr.of_below hb⟩
    simp [body]

/-- All that is to be written. -/
def stream (big nano : Bool) (snap link sec frac orig : Int) (ds : List Int) : List Int := hdr big nano snap link ++ body (refused ds.length snap) big sec frac orig ds
theorem stream_pos (big nano : Bool) (snap link sec frac orig : Int) (ds : List Int) : 0 < (stream big nano snap link sec frac orig ds).length := by
  unfold stream
  rw [List.length_append, hdr_len]
  omega
theorem stream_le (big nano : Bool) (snap link sec frac orig : Int) (ds : List Int) (h : ds.length ≤ 1048576) : (stream big nano snap link sec frac orig ds).length ≤ 2000000 := by
  unfold stream body
  rw [List.length_append, hdr_len]
  split
  · simp
  · rw [rcd_len]; omega

theorem Pipe.fr {S : List Nat} {w w' : World} {bw bs bb : Nat} {r : Option Nat} {tot : List Int} {top : Nat} (h : Pipe w bw bs bb r tot top) (f : Fr S w w') (hs : ∀ x, x ∈ own bw bs bb r → ¬ x ∈ S) : Pipe w' bw bs bb r tot top := by
  obtain ⟨n, xs, sink, hn, hx, hB, hR, hK, hrb, ht⟩ := h
  exact ⟨n, xs, sink, hn, hx, f.keeps hB (hs bw (by simp [own])), f.keeps hR (hs bs (by simp [own])), hK.fr f (fun x hx => hs x (by
    rcases List.mem_cons.1 hx with rfl | hx
    · simp [own]
    · simp [own, hx])), hrb, ht⟩
theorem own_ge {B B' bw bs bb : Nat} {r : Option Nat} (h1 : B ≤ bw) (h2 : B ≤ bs) (h3 : B ≤ bb) (hr : Fresh B' none r) (hB : B ≤ B') : ∀ x, x ∈ own bw bs bb r → B ≤ x := by
  intro x hx
  simp only [own, List.mem_cons] at hx
  rcases hx with rfl | rfl | rfl | hx
  · exact h1
  · exact h2
  · exact h3
  · rcases hr.mem x hx with h | h
    · simp at h
    · omega
theorem SkG.fr {S : List Nat} {w w' : World} {bb g : Nat} {sink : List Int} (h : SkG w bb g sink) (f : Fr S w w') (h1 : ¬ bb ∈ S) (h2 : ¬ g ∈ S) : SkG w' bb g sink := by
  obtain ⟨lr, cap, cur, a, b, c⟩ := h
  exact ⟨lr, cap, cur, f.keeps a h1, f.keeps b h2, c⟩
end Go.Proofs.Qxb6616725aFmt
