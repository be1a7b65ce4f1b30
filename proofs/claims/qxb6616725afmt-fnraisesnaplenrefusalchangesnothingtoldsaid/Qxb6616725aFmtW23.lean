/-
  Writer.Write of a record that is taken, the big order.
-/
import Derived.Test.Qxb6616725aFmtW21
import Derived.Test.Qxb6616725aFmtW6
import Derived.Test.Qxb6616725aFmtW25
namespace Go.Proofs.Qxb6616725aFmt
open Go.RowKit
set_option linter.unusedVariables false

set_option maxRecDepth 100000 in
set_option maxHeartbeats 4000000 in
theorem f19_86 (B pw bw bs bb c : Nat) (snap sec frac orig : Int) (xs ds : List Int) (a : Option Addr) (w : World) (hP : Pw w pw bw (.iface 86 (.agg #[])) snap) (hB : Bw w bw bs bb 24) (hR : Row w bs 5 xs) (hx : xs.length = 4096) (hK : Sk0 w bb)
    (hd : Dat B w a ds) (b1 : B ≤ bw) (b2 : B ≤ bs) (b3 : B ≤ bb) (hc : ds.length ≤ c) (hcm : c ≤ 9223372036854775807) (hl : ds.length ≤ 262144) (hsn : (ds.length : Int) ≤ snap)
    (s0 : 0 ≤ sec) (s1 : sec < 4294967296) (f0 : 0 ≤ frac) (f1 : frac < 4294967296) (o0 : 0 ≤ orig) (o1 : orig < 4294967296) :
    Calls Tryf.prog 19 #[.pointer (some ⟨pw, 0, none⟩), .agg #[.int .u32 sec, .int .u32 frac, .int .u32 orig, .slice a ds.length c]] w fun e w' =>
      e = .returned .nilIface ∧ ∃ r', Fresh w.heap.size none r' ∧ Pipe w' bw bs bb r' (xs.take 24 ++ rcd true sec frac orig ds) ∧ Fr (own bw bs bb none) w w' := by
  have ht1 : decide ((262144 : Int) < (ds.length : Int)) = false := by simp; omega
  have ht2 : decide (snap < (ds.length : Int)) = false := by simp; omega
  have hw : IntKind.u32.wrap (ds.length : Int) = (ds.length : Int) := by rw [IntKind.wrap_u32]; omega
  have hm : (ds.length : Int) % 4294967296 = (ds.length : Int) := by omega
  have c4 : w.cell? ⟨pw, 4, none⟩ = some (.int .u32 snap) := by rw [cell_of_row w _ _ _ _ _ hP]; rfl
  have hpl : pw < w.heap.size := (Array.getElem?_eq_some_iff.1 hP).1
  have H0 := hide (And.intro hP (And.intro hB (And.intro hR (And.intro hK hd))))
  have hS0 := rs0 w pw bw 86 snap sec frac orig a ds.length c hP
  have HS0 := hide hS0
  clear hP hB hR hK hd hS0
  go_enter Tryf.func19, Tryf.ntmps19
  go_upto_region 9 with fail
  clear ht1 ht2 c4
  have hS := HS0.out
  clear HS0
  rw [z16] at hS
  revert hS
  generalize World.alloc (w.alloc (.cells #[.int .u32 sec, .int .u32 frac, .int .u32 orig, .slice a ds.length c] 46)) (.cells #[Value.int .u8 0, Value.int .u8 0, Value.int .u8 0, Value.int .u8 0, Value.int .u8 0, Value.int .u8 0, Value.int .u8 0, Value.int .u8 0, Value.int .u8 0, Value.int .u8 0, Value.int .u8 0, Value.int .u8 0, Value.int .u8 0, Value.int .u8 0, Value.int .u8 0, Value.int .u8 0] 72) = W
  intro hS
  go_cut [7] (fun v wc => v = .pointer (some ⟨w.heap.size + 1, 0, none⟩) ∧ Rs w wc pw bw 86 snap sec frac orig a ds.length c (lay (List.replicate 16 0) 0 (put32 true sec)))
  case first =>
    as_aux_lemma =>
    have HP := hide (f65 (w.heap.size + 1) 0 16 16 72 _ sec W.drew hS.g (by decide) (by decide) s0 s1)
    have c3 := hS.c3
    have h3 := hS.h0
    have hmt := m86_32
    have HS := hide hS
    clear hS
    go_region_with (go_at_call 65; refine HP.out.mono ?_; rintro e w1 ⟨rfl, h1, h2⟩; have H1 := hide h1; have H2 := hide h2; clear h1 h2)
    all_goals
      go_wp2_with fail
      go_meet
      case rel => exact ⟨rfl, HS.out.put hpl H1.out H2.out⟩
  case rest =>
  clear hS W
  obtain ⟨rfl, hS⟩ := hcut
  obtain ⟨W, rfl⟩ : ∃ W, W = wc := ⟨_, rfl⟩
  go_upto_region 10 with fail
  go_cut [7] (fun v wc => v = .pointer (some ⟨w.heap.size + 1, 0, none⟩) ∧ Rs w wc pw bw 86 snap sec frac orig a ds.length c (lay (lay (List.replicate 16 0) 0 (put32 true sec)) 4 (put32 true frac)))
  case first =>
    as_aux_lemma =>
    have HP := hide (f65 (w.heap.size + 1) 4 12 12 72 _ frac W.drew hS.g (by simp [lay, put32_len]) (by decide) f0 f1)
    have c3 := hS.c3
    have h3 := hS.h1
    have hmt := m86_32
    have HS := hide hS
    clear hS
    go_region_with (go_at_call 65; refine HP.out.mono ?_; rintro e w1 ⟨rfl, h1, h2⟩; have H1 := hide h1; have H2 := hide h2; clear h1 h2)
    all_goals
      go_wp2_with fail
      go_meet
      case rel => exact ⟨rfl, HS.out.put hpl H1.out H2.out⟩
  case rest =>
  clear hS W
  obtain ⟨rfl, hS⟩ := hcut
  obtain ⟨W, rfl⟩ : ∃ W, W = wc := ⟨_, rfl⟩
  go_upto_region 11 with fail
  go_cut [7] (fun v wc => v = .pointer (some ⟨w.heap.size + 1, 0, none⟩) ∧ Rs w wc pw bw 86 snap sec frac orig a ds.length c (lay (lay (lay (List.replicate 16 0) 0 (put32 true sec)) 4 (put32 true frac)) 8 (put32 true ds.length)))
  case first =>
    as_aux_lemma =>
    have HP := hide (f65 (w.heap.size + 1) 8 8 8 72 _ ds.length W.drew hS.g (by simp [lay, put32_len]) (by decide) (by omega) (by omega))
    have c3 := hS.c3
    have h3 := hS.h3
    have hmt := m86_32
    have HS := hide hS
    clear hS
    go_region_with (go_at_call 65; refine HP.out.mono ?_; rintro e w1 ⟨rfl, h1, h2⟩; have H1 := hide h1; have H2 := hide h2; clear h1 h2)
    all_goals
      go_wp2_with fail
      go_meet
      case rel => exact ⟨rfl, HS.out.put hpl H1.out H2.out⟩
  case rest =>
  clear hS W
  obtain ⟨rfl, hS⟩ := hcut
  obtain ⟨W, rfl⟩ : ∃ W, W = wc := ⟨_, rfl⟩
  go_upto_region 12 with fail
  go_cut [7] (fun v wc => v = .pointer (some ⟨w.heap.size + 1, 0, none⟩) ∧ Rs w wc pw bw 86 snap sec frac orig a ds.length c (lay (lay (lay (lay (List.replicate 16 0) 0 (put32 true sec)) 4 (put32 true frac)) 8 (put32 true ds.length)) 12 (put32 true orig)))
  case first =>
    as_aux_lemma =>
    have HP := hide (f65 (w.heap.size + 1) 12 4 4 72 _ orig W.drew hS.g (by simp [lay, put32_len]) (by decide) o0 o1)
    have c3 := hS.c3
    have h3 := hS.h2
    have hmt := m86_32
    have HS := hide hS
    clear hS
    go_region_with (go_at_call 65; refine HP.out.mono ?_; rintro e w1 ⟨rfl, h1, h2⟩; have H1 := hide h1; have H2 := hide h2; clear h1 h2)
    all_goals
      go_wp2_with fail
      go_meet
      case rel => exact ⟨rfl, HS.out.put hpl H1.out H2.out⟩
  case rest =>
  clear hS W
  obtain ⟨rfl, hS⟩ := hcut
  obtain ⟨W, rfl⟩ : ∃ W, W = wc := ⟨_, rfl⟩
  go_upto_region 13 with fail
  obtain ⟨cs, hcs⟩ : ∃ cs, cs = put32 true sec ++ put32 true frac ++ put32 true ds.length ++ put32 true orig := ⟨_, rfl⟩
  have hlen : cs.length = 16 := by rw [hcs]; simp [put32_len]
  have hS' : Rs w W pw bw 86 snap sec frac orig a ds.length c cs := by
    rw [hcs]
    have e := laid4_eq true sec frac ds.length orig
    unfold laid4 at e
    rw [← e]
    exact hS
  clear hS
  go_cut [9] (fun v wc => v = .nilIface ∧ Bw wc bw bs bb 40 ∧ Row wc bs 5 (lay xs 24 cs) ∧ Fr [bw, bs] w wc ∧ wc.heap[w.heap.size]? = some (.cells #[.int .u32 sec, .int .u32 frac, .int .u32 orig, .slice a ds.length c] 46 (0, 0)))
  case first =>
    as_aux_lemma =>
    obtain ⟨hP, hB, hR, hK, hd⟩ := H0.out
    have hsrc : Src W.drew (w.heap.size + 1) 0 cs := fun j hj => by rw [Nat.zero_add]; exact hS'.g.cell j hj
    have q1 : Bw W.drew bw bs bb 24 := (hS'.b.block bw hB.lt).trans hB
    have q2 : Row W.drew bs 5 xs := (hS'.b.block bs hR.lt).trans hR
    have p32 := f32s bw bs bb (w.heap.size + 1) 0 16 24 xs cs W.drew q1 q2 hx hsrc (by omega) (by decide) (fun e => hB.ne_row hR e.symm)
    rw [hlen] at p32
    have HP := hide p32
    have c0 := hS'.p.c0
    have HS := hide hS'
    have n1 : w.heap.size ≠ bw := by have := hB.lt; omega
    have n2 : w.heap.size ≠ bs := by have := hR.lt; omega
    clear hP hB hR hK hd hsrc q1 q2 p32 hS' hcs
    go_region_with (go_at_call 32; refine HP.out.mono ?_; rintro e w1 ⟨rfl, h1, h2, h3⟩; have H1 := hide h1; have H2 := hide h2; have H3 := hide h3; clear h1 h2 h3)
    all_goals
      go_wp2_with fail
      go_meet
      case rel => exact ⟨rfl, H1.out, H2.out, (Fr.of_below HS.out.b.drew).trans H3.out (by simp), H3.out.keeps HS.out.h (by simp; exact ⟨n1, n2⟩)⟩
  case rest =>
  clear hS' W
  obtain ⟨rfl, hB1, hR1, hF1, hh1⟩ := hcut
  obtain ⟨W, rfl⟩ : ∃ W, W = wc := ⟨_, rfl⟩
  go_upto_region 16 with fail
  obtain ⟨hP, hB, hR, hK, hd⟩ := H0.out
  have hpn : pw ≠ bw ∧ pw ≠ bs ∧ pw ≠ bb := ⟨pw_bw hP hB, pw_row hP hR, sk_pw hK hP⟩
  have hP1 : Pw W pw bw (.iface 86 (.agg #[])) snap := hF1.keeps hP (by simp; omega)
  have c0 := hP1.c0
  have c3 : W.cell? ⟨w.heap.size, 3, none⟩ = some (.slice a ds.length c) := by rw [cell_of_row W _ _ _ _ _ hh1]; rfl
  have hK1 : Sk0 W bb := by
    obtain ⟨lr, hk⟩ := hK
    exact ⟨lr, hF1.keeps hk (by simp; exact ⟨sk_bw hk hB, sk_row hk hR⟩)⟩
  have hpipe : Pipe W.drew bw bs bb none (xs.take 24 ++ cs) 4095 := by
    refine ⟨40, lay xs 24 cs, [], by decide, ?_, hB1, hR1, ⟨rfl, hK1⟩, by simp, ?_⟩
    · rw [lay_len _ _ _ (by omega)]; exact hx
    · unfold lay
      rw [List.nil_append]
      exact List.take_left' (by rw [List.length_append, List.length_take, hlen]; omega)
  obtain ⟨sb, so, hsrc, hpa, hsb, hsl⟩ : ∃ sb so, Src W.drew sb so ds ∧ (0 < ds.length → a = some ⟨sb, so, none⟩) ∧ ¬ sb ∈ own bw bs bb none ∧ sb < W.drew.heap.size := by
    by_cases hz : 0 < ds.length
    · obtain ⟨b, o, e, hbB, hs⟩ := hd hz
      have hbl := src_lt hs hz
      refine ⟨b, o, ?_, fun _ => e, by simp [own]; omega, Nat.lt_of_lt_of_le hbl hF1.size⟩
      exact hs.frG (w' := W.drew) ⟨hF1.os, hF1.tape, hF1.output, hF1.size, hF1.block⟩ (by simp; omega)
    · exact ⟨pw, 0, fun j hj => absurd hj (by omega), fun h => absurd h hz, by simp [own]; omega, Nat.lt_of_lt_of_le hpl hF1.size⟩
  have htl : (xs.take 24 ++ cs).length = 40 := by rw [List.length_append, List.length_take, hlen]; omega
  have HP := hide (f32o bw bs bb sb so c none (xs.take 24 ++ cs) ds a W.drew hpipe hsrc hpa hsb hsl hc hcm (by omega))
  have HF := hide hF1
  clear hB1 hR1 hF1 hh1 hP hB hR hK hd hP1 hK1 hpipe hsrc hpa hsb hsl htl
  go_region_with (go_at_call 32; refine HP.out.mono ?_; rintro e w1 ⟨rfl, h1⟩; have H1 := hide h1; clear h1)
  all_goals
    go_wp2_with fail
    go_ret
    obtain ⟨r', hr', hp', hf'⟩ := H1.out
    refine ⟨rfl, r', ?_, ?_, ?_⟩
    · rcases hr' with h | ⟨g, e, h⟩
      · exact .inl h
      · exact .inr ⟨g, e, Nat.le_trans HF.out.size h⟩
    · have e : xs.take 24 ++ rcd true sec frac orig ds = (xs.take 24 ++ cs) ++ ds := by rw [hcs, List.append_assoc]; rfl
      rw [e]
      exact hp'
    · exact (HF.out.weak (by simp [own])).trans (fr_drew' hf') (fun x hx => .inl hx)
end Go.Proofs.Qxb6616725aFmt
