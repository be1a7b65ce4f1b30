/-
  The third law's walk.
-/
import Derived.Test.Qxb6616725aFmtW27
namespace Go.Proofs.Qxb6616725aFmt
open Go.RowKit Go.Extern.Stop Go.Stop Go.Extern
set_option linter.unusedVariables false

/-- The model's stream lies in block g. -/
def Want (w W : World) (g : Nat) (xs : List Int) : Prop := Src W g 0 xs ∧ w.heap.size ≤ g ∧ Below w.heap.size w W

theorem want_of {w W : World} {sv : Value} {n : Nat} {xs : List Int} (h : W.ownsRow w.heap.size 5 1 sv n (by8 xs)) (hn : n = xs.length) (h0 : 0 < xs.length) (hb : Below w.heap.size w W) : ∃ g cap, sv = .slice (some ⟨g, 0, none⟩) xs.length cap ∧ Want w W g xs := by
  subst hn
  obtain ⟨g, cap, e, hs, hg⟩ := own_src h h0
  exact ⟨g, cap, e, hs, hg, hb⟩

theorem guard_nil (k : Nat) (v : Value) (w : World) : (eqGuard .neq 31 (.tmp k) (.const .nilIface) v .nilIface).run Tryf.prog w = .ok () w := by
  cases v <;> rfl

/-- What stands behind Write, whatever is turned of the pipe's own blocks. -/
structure After (w0 w : World) (pw bw bs bb g : Nat) (r : Option Nat) (ord : Value) (snap : Int) (st : List Int) : Prop where
  p : Pw w pw bw ord snap
  np : ¬ pw ∈ own bw bs bb r
  s : Src w g 0 st
  ng : ¬ g ∈ own bw bs bb r
  b : Below w0.heap.size w0 w
  ge : ∀ x, x ∈ own bw bs bb r → w0.heap.size ≤ x
theorem After.fr {w0 w w' : World} {pw bw bs bb g : Nat} {r : Option Nat} {ord : Value} {snap : Int} {st : List Int} {S : List Nat} (h : After w0 w pw bw bs bb g r ord snap st) (f : Fr S w w') (hS : ∀ x, x ∈ S → x ∈ own bw bs bb r) : After w0 w' pw bw bs bb g r ord snap st :=
  ⟨f.keeps h.p (fun hm => h.np (hS _ hm)), h.np, h.s.frG f (fun hm => h.ng (hS _ hm)), h.ng, h.b.trans (f.below h.b.size (fun x hx => h.ge x (hS x hx))), h.ge⟩
theorem own_none {bw bs bb x : Nat} {r : Option Nat} (h : x ∈ own bw bs bb none) : x ∈ own bw bs bb r := by
  simp [own] at h ⊢
  rcases h with h | h | h <;> simp [h]
theorem after_of {w0 W w3 w4 : World} {pw bw bs g : Nat} {r : Option Nat} {ot : TypeId} {snap : Int} {st xs : List Int} (hpos : 0 < st.length) (hW : Want w0 W g st) (hM : Made W w3 pw bw bs W.heap.size ot snap 24 xs) (hk : Sk0 w3 W.heap.size) (hr : Fresh w3.heap.size none r) (hf : Fr (own bw bs W.heap.size none) w3 w4) :
    After w0 w4 pw bw bs W.heap.size g r (.iface ot (.agg #[])) snap st := by
  obtain ⟨hsrc, hg, hb⟩ := hW
  have hgl := src_lt hsrc hpos
  have hpl : pw < w3.heap.size := (Array.getElem?_eq_some_iff.1 hM.p).1
  have hb3 : Below w0.heap.size w0 w3 := hb.trans (hM.f.mono hb.size)
  have np : ¬ pw ∈ own bw bs W.heap.size r := by
    intro h
    simp only [own, List.mem_cons] at h
    rcases h with h | h | h | h
    · exact pw_bw hM.p hM.b h
    · exact pw_row hM.p hM.r h
    · exact sk_pw hk hM.p h
    · rcases hr.mem _ h with h | h
      · simp at h
      · omega
  have ng : ¬ g ∈ own bw bs W.heap.size r := by
    intro h
    have := own_ge hM.h2 hM.h1 (Nat.le_refl _) hr hM.f.size g h
    omega
  have ge := own_ge (B := w0.heap.size) (Nat.le_trans hb.size hM.h2) (Nat.le_trans hb.size hM.h1) hb.size hr hb3.size
  exact ⟨hf.keeps hM.p (fun h => np (own_none h)), np, (hsrc.frG (Fr.of_below (S := []) hM.f) (by simp)).frG hf (fun h => ng (own_none h)), ng, hb3.trans (hf.below hb3.size (fun x hx => ge x (own_none hx))), ge⟩

set_option maxRecDepth 100000 in
set_option maxHeartbeats 4000000 in
theorem f5 (F : Interp) (big nano : Bool) (snap link sec frac orig : Int) (a : Option Addr) (c : Nat) (ds : List Int) (w : World) (hF : F.answers w.tape) (hd : Dat w.heap.size w a ds) (hc : ds.length ≤ c) (hcm : c ≤ 9223372036854775807)
    (s0 : 0 ≤ snap) (s1 : snap < 4294967296) (l0 : 0 ≤ link) (l1 : link < 4294967296) (t0 : 0 ≤ sec) (t1 : sec < 4294967296) (f0 : 0 ≤ frac) (f1 : frac < 4294967296) (o0 : 0 ≤ orig) (o1 : orig < 4294967296) :
    Calls Tryf.prog 5 #[.bool big, .bool nano, .int .u32 snap, .int .u32 link, .int .u32 sec, .int .u32 frac, .int .u32 orig, .slice a ds.length c] w fun e w' => e = .returned (.bool true) ∧ Below w.heap.size w w' := by
  by_cases hl : ds.length ≤ 1048576
  case neg =>
    have p16 := f16 (.bool big) (.bool nano) (.int .u32 snap) (.int .u32 link) (.int .u32 sec) (.int .u32 frac) (.int .u32 orig) a ds.length c w
    rw [decide_eq_false hl] at p16
    have P16 := hide p16
    clear p16 hF hd
    go_enter Tryf.func5, Tryf.ntmps5
    go_wp2_with fail
    refine P16.out.mono ?_
    rintro e w1 ⟨rfl, rfl⟩
    go_wp2_with fail
    go_ret
    exact ⟨rfl, Below.refl _ _⟩
  case pos =>
  have p16 := f16 (.bool big) (.bool nano) (.int .u32 snap) (.int .u32 link) (.int .u32 sec) (.int .u32 frac) (.int .u32 orig) a ds.length c w
  rw [decide_eq_true hl] at p16
  have P16 := hide p16
  have ht : decide ((1048576 : Int) < (ds.length : Int)) = false := by simp; omega
  have P7 := hide (f7 big nano snap link w s0 s1 l0 l1)
  have p17 := f17 ds.length snap w s0 s1 hl
  obtain ⟨rf, hrf⟩ : ∃ rf, rf = refused ds.length snap := ⟨_, rfl⟩
  obtain ⟨st, hst⟩ : ∃ st, st = stream big nano snap link sec frac orig ds := ⟨_, rfl⟩
  have hpos : 0 < st.length := by rw [hst]; exact stream_pos _ _ _ _ _ _ _ _
  have hle : st.length ≤ 2000000 := by rw [hst]; exact stream_le _ _ _ _ _ _ _ _ hl
  have hst' : st = hdr big nano snap link ++ body rf big sec frac orig ds := by rw [hst, hrf]; rfl
  rw [← hrf] at p17
  have P17 := hide p17
  have HD := hide hd
  have HF := hide hF
  have HRF := hide hrf
  have HST := hide hst'
  clear p16 p17 hd hF hrf hst hst'
  go_enter Tryf.func5, Tryf.ntmps5
  go_wp2_with fail
  refine P16.out.mono ?_
  rintro e w0 ⟨rfl, rfl⟩
  go_wp2_with fail
  refine P17.out.mono ?_
  rintro e w0 ⟨rfl, rfl⟩
  go_wp2_with fail
  refine P7.out.mono ?_
  rintro e w2 ⟨sv, rfl, hown, hb⟩
  have HO := hide (And.intro hown hb)
  clear hown hb P16 P17 P7
  go_upto_if 46 with fail
  go_cut [18] (fun v wc => ∃ g cap, v = .slice (some ⟨g, 0, none⟩) st.length cap ∧ Want w0 wc g st)
  case first =>
    obtain ⟨hown, hb⟩ := HO.out
    cases rf
    · have P18 := hide (f18 w0.heap.size big sec frac orig sv 24 (hdr big nano snap link) ds a c w2 t0 t1 f0 f1 o0 o1 hown hb.size (by decide) (HD.out.below hb) hl)
      clear hown hb
      go_wp2_with fail
      refine P18.out.mono ?_
      rintro e w3 ⟨sv', rfl, hown', hb'⟩
      have H3 := hide (And.intro hown' hb')
      clear hown' hb'
      go_wp2_with fail
      go_meet
      case rel =>
        have hb := HO.out.2.trans H3.out.2
        have e : st = hdr big nano snap link ++ rcd big sec frac orig ds := HST.out
        rw [e]
        exact want_of H3.out.1 (by rw [List.length_append, hdr_len, rcd_len]; omega) (by rw [List.length_append, hdr_len]; omega) hb
    · clear hown hb
      go_wp2_with fail
      go_meet
      case rel =>
        have e : st = hdr big nano snap link := by
          have := HST.out
          simpa [body] using this
        rw [e]
        exact want_of HO.out.1 (by rw [hdr_len]) (by rw [hdr_len]; omega) HO.out.2
  case rest =>
  clear HO
  obtain ⟨g, cg, rfl, hW⟩ := hcut
  obtain ⟨W, rfl⟩ : ∃ W, W = wc := ⟨_, rfl⟩
  have P8 := hide (f8 big nano snap link W s0 s1 l0 l1)
  have HW := hide hW
  clear hW
  go_wp2_with fail
  refine P8.out.mono ?_
  rintro e w3 ⟨pw, bw, bs, rfl, hM, hk⟩
  obtain ⟨hsrc, hg, hb⟩ := HW.out
  have hb3 : Below w0.heap.size w0 w3 := hb.trans (hM.f.mono hb.size)
  have hF3 : F.answers w3.tape := by rw [hb3.tape]; exact HF.out
  have p19 := f19 F w0.heap.size big pw bw bs W.heap.size c snap sec frac orig (xs0 big nano snap link) ds a w3 hF3 hM.p hM.b hM.r hM.l hk (HD.out.below hb3) (Nat.le_trans hb.size hM.h2) (Nat.le_trans hb.size hM.h1) hb.size hc hcm hl t0 t1 f0 f1 o0 o1
  rw [xs0_take, ← HRF.out, ← HST.out] at p19
  have P19 := hide p19
  have HM := hide (And.intro hM (And.intro hk hb3))
  clear p19 hM hk hb3 hsrc hg hb hF3 P8
  go_wp2_with fail
  refine P19.out.mono ?_
  rintro e w4 ⟨v, rfl, hv, r, hr, hp, hf⟩
  obtain ⟨hM, hk, hb3⟩ := HM.out
  have hA := after_of hpos HW.out hM hk hr hf
  obtain ⟨n, xs, sink, hn, hx, hB, hR, hK, hrb, htot⟩ := id hp
  have P9 := hide (f9o W.heap.size r sink w4 hK)
  have hsl : sink.length ≤ st.length := by
    have := congrArg List.length htot
    rw [List.length_append] at this
    omega
  have P20 := hide (fun cap hc => f20o r sink cap w4.drew hc hK.held (by omega))
  have hv' : ∀ w : World, (binOp .neq 31 v .nilIface).run Tryf.prog w = .ok (.bool rf) w := hv
  have hgd := fun k w => guard_nil k v w
  have HA := hide (And.intro hA hp)
  have HT := hide htot
  clear hM hk hb3 hA hB hR hK hx hrb htot hp hf hv hr HM HW P19
  go_wp2_with fail
  refine P9.out.mono ?_
  rintro e w5 ⟨cap, rfl, hbare, rfl⟩
  have P20' := hide (P20.out cap hbare)
  clear hbare P20 P9
  go_wp2_with fail
  refine P20'.out.mono ?_
  rintro e w5 ⟨g1, c1, rfl, hs1, hf5⟩
  have hf5 := fr_drew' hf5
  have hA := HA.out.1.fr hf5 (by simp)
  have hp := HA.out.2.fr hf5 (by simp)
  have P21 := hide (f21 g1 g c1 cg sink st w5 hs1 hA.s (fun k hk => by rw [← HT.out]; simp [List.getD, List.getElem?_append_left hk]) hsl (by omega))
  clear HA
  have HA := hide (And.intro hA hp)
  clear hA hp hs1 hf5 P20'
  go_wp2_with fail
  refine P21.out.mono ?_
  rintro e w6 ⟨rfl, hf6⟩
  have hA := HA.out.1.fr hf6 (by simp)
  have hp := HA.out.2.fr hf6 (by simp)
  have P10 := hide (f10 pw bw _ _ w6 _ hA.p (f29p bw bs _ r st w6 hp hpos (by omega)))
  clear HA
  have HA := hide hA
  clear hA hp hf6 P21
  go_wp2_with fail
  refine P10.out.mono ?_
  rintro e w7 ⟨rfl, g', hg', hB7, hK7, hf7⟩
  have hA := HA.out.fr hf7 (fun x hx => hx)
  have P9 := hide (f9g _ g' st w7 hK7)
  have P11 := hide (fun c => f11 g' g c cg st w7.drew hK7.src hA.s (by omega))
  clear HA
  have HA := hide (And.intro hA (And.intro hB7 hK7))
  clear hA hB7 hK7 hf7 hg' P10
  go_wp2_with fail
  refine P9.out.mono ?_
  rintro e w8 ⟨cap2, rfl, rfl⟩
  go_wp2_with fail
  refine (P11.out cap2).mono ?_
  rintro e w8 ⟨rfl, hf8⟩
  have hf8 := fr_drew' hf8
  obtain ⟨hA, hB7, hK7⟩ := HA.out
  have hA := hA.fr hf8 (by simp)
  have hB8 : Bw w8 bw bs W.heap.size 0 := hf8.keeps hB7 (by simp)
  have hK8 := hK7.fr hf8 (by simp) (by simp)
  have P10 := hide (f10 pw bw _ _ w8 _ hA.p (f29z bw bs _ w8 hB8))
  have P9' := hide (f9g _ g' st w8 hK8)
  have P11' := hide (fun c => f11 g' g c cg st w8.drew hK8.src hA.s (by omega))
  clear HA
  have HA := hide hA
  clear hA hB7 hK7 hf8 hB8 hK8 P9 P11
  go_wp2_with fail
  refine P10.out.mono ?_
  rintro e w9 ⟨rfl, rfl⟩
  go_wp2_with fail
  refine P9'.out.mono ?_
  rintro e w9 ⟨cap3, rfl, rfl⟩
  go_wp2_with fail
  refine (P11'.out cap3).mono ?_
  rintro e w10 ⟨rfl, hf10⟩
  have HF10 := hide (fr_drew' hf10)
  clear hf10
  go_wp2_with fail
  go_ret
  exact ⟨rfl, (HA.out.fr HF10.out (by simp)).b⟩
end Go.Proofs.Qxb6616725aFmt
