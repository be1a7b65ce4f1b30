/-
  bufio.Writer.Write in general.
-/
import Derived.Test.Qxb6616725aFmtW19
import Derived.Laws.IdiomCopy
namespace Go.Proofs.Qxb6616725aFmt
open Go.RowKit
set_option linter.unusedVariables false

/-- A bufio.Writer over a Buffer: all that has been written, sunk or held, is tot. -/
def Pipe (w : World) (bw bs bb : Nat) (r : Option Nat) (tot : List Int) (top : Nat := 4096) : Prop :=
  ∃ n xs sink, n ≤ top ∧ xs.length = 4096 ∧ Bw w bw bs bb n ∧ Row w bs 5 xs ∧ SkO w bb r sink ∧ r ≠ some bs ∧ sink ++ xs.take n = tot

/-- The row's block is the old one, or new. -/
def Fresh (B : Nat) (r r' : Option Nat) : Prop := r' = r ∨ ∃ g, r' = some g ∧ B ≤ g

/-- The blocks that a pipe may turn. -/
def own (bw bs bb : Nat) (r : Option Nat) : List Nat := bw :: bs :: bb :: r.toList

theorem SkO.fr {S : List Nat} {w w' : World} {bb : Nat} {r : Option Nat} {sink : List Int} (h : SkO w bb r sink) (hf : Fr S w w') (hs : ∀ x, x ∈ bb :: r.toList → ¬ x ∈ S) : SkO w' bb r sink := by
  cases r with
  | none =>
    obtain ⟨e, lr, a⟩ := h
    exact ⟨e, lr, hf.keeps a (hs bb (by simp))⟩
  | some g =>
    obtain ⟨hl, lr, cap, cur, a, b, c⟩ := h
    exact ⟨hl, lr, cap, cur, hf.keeps a (hs bb (by simp)), hf.keeps b (hs g (by simp)), c⟩

theorem Fresh.go {B B' : Nat} {r r' : Option Nat} {g : Nat} (h : Fresh B r r') (hg : r' = some g ∨ B' ≤ g) (hB : B ≤ B') : Fresh B r (some g) := by
  rcases hg with hg | hg
  · rw [← hg]; exact h
  · exact .inr ⟨g, rfl, by omega⟩
theorem Fresh.mem {B : Nat} {r r' : Option Nat} (h : Fresh B r r') (x : Nat) (hx : x ∈ r'.toList) : x ∈ r.toList ∨ B ≤ x := by
  rcases h with rfl | ⟨g, rfl, hg⟩
  · exact .inl hx
  · simp at hx; subst hx; exact .inr hg
theorem Bw.set0 {w : World} {bw bs bb n : Nat} (h : Bw w bw bs bb n) : Bw (w.setCell ⟨bw, 0, none⟩ .nilIface) bw bs bb n := by
  unfold Bw
  rw [heap_setCell_same w bw 0 _ 89 _ h]
  rfl
/-- copy(row[o:], src), the source longer than the row's rest. -/
theorem copy_min (W : World) (g o dl dc : Nat) (xs cs : List Int) (sb so m c : Nat) (hg : Row W g 5 xs) (hs : Src W sb so cs) (hm : cs.length ≤ m) (hd : dl = cs.length) (hf : o + cs.length ≤ xs.length) :
    (Builtin.copy_ #[23, 23] 3 #[.slice (some ⟨g, o, none⟩) dl dc, .slice (some ⟨sb, so, none⟩) m c]).run Tryf.prog W = .ok (goInt cs.length) (W.setRow g (by8 (lay xs o cs)).toArray) := by
  obtain ⟨i0, hi, hz0, hz1, hz2⟩ := info_parts info5
  subst hd
  have := run_copy_row (P := Tryf.prog) W 23 23 3 5 g o cs.length dc ⟨sb, so, none⟩ m c (by8 xs).toArray 5 (by8 cs) Tryf.underlying23 (by rw [hi]; simp [hz1]) hg (by rw [by8_len]; exact (Nat.min_eq_right hm).symm) (by
    intro j v hj
    obtain ⟨hk, rfl⟩ := by8_get _ _ _ hj
    rw [add_none]
    exact hs j hk) (by simp [by8_len]; exact hf) (by8_one _)
  have e : (((by8 xs).toArray.toList.take o ++ by8 cs ++ (by8 xs).toArray.toList.drop (o + (by8 cs).length)).toArray) = (by8 (lay xs o cs)).toArray := by
    rw [by8_len, List.toList_toArray]
    unfold lay by8
    rw [List.map_append, List.map_append, List.map_take, List.map_drop]
  rw [e, by8_len] at this
  exact this

theorem fr_drew' {S : List Nat} {w w' : World} (h : Fr S w.drew w') : Fr S w w' := ⟨h.os, h.tape, h.output, h.size, h.block⟩
set_option maxRecDepth 100000 in
set_option maxHeartbeats 4000000 in
theorem f32o (bw bs bb sb so c : Nat) (r : Option Nat) (tot ds : List Int) (pa : Option Addr) (w : World) (h : Pipe w bw bs bb r tot 4095) (hs : Src w sb so ds) (hpa : 0 < ds.length → pa = some ⟨sb, so, none⟩) (hsb : ¬ sb ∈ own bw bs bb r) (hsl : sb < w.heap.size) (hc : ds.length ≤ c) (hcm : c ≤ 9223372036854775807)
    (hlim : tot.length + ds.length ≤ 10000000) :
    Calls Tryf.prog 32 #[.pointer (some ⟨bw, 0, none⟩), .slice pa ds.length c] w fun e w' => e = .returned (.tuple #[.int .i64 ds.length, .nilIface]) ∧ ∃ r', Fresh w.heap.size r r' ∧ Pipe w' bw bs bb r' (tot ++ ds) ∧ Fr (own bw bs bb r) w w' := by
  have H0 := hide h
  have HS := hide hs
  have HN := hide hsb
  clear h hs hsb
  go_enter Tryf.func32, Tryf.ntmps32
  go_wp2_with fail
  go_loopw [1, 4] (fun p q wr => ∃ (k : Nat) (a : Option Addr) (cp : Nat), k ≤ ds.length ∧ p = .slice a (ds.length - k) cp ∧ (k < ds.length → a = some ⟨sb, so + k, none⟩) ∧ ds.length - k ≤ cp ∧ cp ≤ c ∧ q = .int .i64 k ∧
      ∃ r', Fresh w.heap.size r r' ∧ Pipe wr bw bs bb r' (tot ++ ds.take k) 4095 ∧ Fr (own bw bs bb r) w wr) (fun _ i _ => ds.length - (intOf i).toNat)
  case atStart => exact ⟨0, pa, c, Nat.zero_le _, rfl, hpa, hc, Nat.le_refl _, rfl, r, .inl rfl, by simpa using H0.out, Fr.refl _ _⟩
  case round =>
    obtain ⟨k, a, cp, hk, rfl, ha, hcp1, hcp2, rfl, r', hr', ⟨n, xs, sink, hn, hx, hB, hR, hK, hrb, htot⟩, hF⟩ := hrel
    have P35 := hide (f35 bw bs bb n wr hB (by omega))
    obtain ⟨m, hm⟩ : ∃ m, m = ds.length - k := ⟨_, rfl⟩
    rw [← hm]
    rw [← hm] at hcp1
    by_cases hbig : 4096 < m + n
    · have ht : decide ((4096 : Int) - (n : Int) < (m : Int)) = true := by simp; omega
      have ha' := ha (by omega)
      subst ha'
      have hsk : Src wr sb (so + k) (ds.drop k) := fun j hj => by
        have hj' : k + j < ds.length := by rw [List.length_drop] at hj; omega
        have := (HS.out.fr hF HN.out) (k + j) hj'
        rw [Nat.add_assoc, this]
        simp [List.getD, List.getElem?_drop]
      have hdl : (ds.drop k).length = m := by rw [List.length_drop, hm]
      have P36 := hide (f36 bw bs bb n wr.drew hB)
      obtain ⟨c0, c1, c2, c3⟩ := hB.c
      have hm26 := m26w
      by_cases hn0 : n = 0
      · subst hn0
        have hsink : sink.length ≤ 10000000 := by
          have := congrArg List.length htot
          simp at this
          omega
        have p57 := f57o bb sb (so + k) cp r' sink (ds.drop k) wr.drew hK hsk (fun e => HN.out (by simp [own, e])) (by omega) (by omega)
        rw [hdl] at p57
        have P57 := hide p57
        have H := hide (And.intro hB (And.intro hR (And.intro hK (And.intro hF hr'))))
        have HT := hide htot
        have HM := hide hm
        clear hB hR hK hF hr' htot hm hsk p57
        go_wp2_with fail
        refine P35.out.mono ?_
        rintro e w1 ⟨rfl, rfl⟩
        go_wp2_with fail
        refine P36.out.mono ?_
        rintro e w1 ⟨rfl, rfl⟩
        go_wp2_with fail
        refine P57.out.mono ?_
        rintro e w1 ⟨rfl, g', hg, hk1, hf1⟩
        have hf1 := fr_drew' hf1
        obtain ⟨hB, hR, hK, hF, hr'⟩ := H.out
        have hB1 : Bw w1 bw bs bb 0 := hf1.keeps hB (hK.ne_bw hB)
        have hR1 : Row w1 bs 5 xs := hf1.keeps hR (hK.ne_row hR hrb)
        obtain ⟨d0, d1, d2, d3⟩ := hB1.c
        have z0 := hB1.z 0
        have hw2 : IntKind.i64.wrap ((k : Int) + (m : Int)) = (k : Int) + (m : Int) := by rw [IntKind.wrap_i64]; have := HM.out; omega
        have hmc : (m : Int) ≤ (m : Int) := Int.le_refl _
        have K := hide (And.intro hg (And.intro hk1 (And.intro hf1 (And.intro hB1 hR1))))
        clear hg hk1 hf1 hB1 hR1 hB hR hK hF hr' c0 c1 c2 c3
        go_wp2_with fail
        go_roundw
        case rel =>
          obtain ⟨hg, hk1, hf1, hB1, hR1⟩ := K.out
          obtain ⟨hB, hR, hK, hF, hr'⟩ := H.out
          have hsum : k + m = ds.length := by have := HM.out; omega
          have hgb : some g' ≠ some bs := by
            rcases hg with hg | hg
            · rw [← hg]; exact hrb
            · have := hR.lt
              have hg : wr.heap.size ≤ g' := hg
              simp; omega
          have hFw : Fr [bw] w1 (w1.setCell ⟨bw, 0, none⟩ .nilIface) := (Fr.refl _ _).setCell (p := ⟨bw, 0, none⟩) (.inl (by simp)) _
          refine ⟨k + m, if cp = m then some ⟨sb, so + k, none⟩ else some ⟨sb, so + k + m, none⟩, cp - m, by omega, ?_, fun h => absurd h (by omega), by omega, by omega, by go_num, some g', hr'.go hg hF.size, ⟨0, xs, sink ++ ds.drop k, by omega, hx, hB1.set0, hR1.setOther (hB1.ne_row hR1) _, hk1.setOther hB1 0 _, hgb, ?_⟩, ?_⟩
          · rw [hsum, Nat.sub_self]
          · have := HT.out
            rw [List.take_zero, List.append_nil] at this ⊢
            rw [this, hsum, List.take_length, List.append_assoc, List.take_append_drop]
          · refine (hF.trans hf1 ?_).trans hFw (by simp [own])
            intro x hx
            rcases List.mem_cons.1 hx with rfl | hx
            · exact .inl (by simp [own])
            · rcases hr'.mem x hx with h | h
              · exact .inl (by simp [own, h])
              · exact .inr h
        case measure => simp [intOf]; have := HM.out; omega
      · obtain ⟨q, hq⟩ : ∃ q, q = 4096 - n := ⟨_, rfl⟩
        have hqs : Src wr sb (so + k) ((ds.drop k).take q) := fun j hj => by
          have hj' : j < q := by rw [List.length_take] at hj; omega
          rw [hsk j (by rw [List.length_take] at hj; omega)]
          simp [List.getD, hj']
        have hql : ((ds.drop k).take q).length = q := by rw [List.length_take]; omega
        have hcp := copy_min wr.drew.drew bs n (4096 - n) (4096 - n) xs ((ds.drop k).take q) sb (so + k) m cp hR hqs (by omega) (by omega) (by omega)
        rw [hql] at hcp
        have hnb : bw ≠ bs := fun e => hB.ne_row hR e.symm
        obtain ⟨w3, h3⟩ : ∃ w3, w3 = wr.drew.drew.setRow bs (by8 (lay xs n ((ds.drop k).take q))).toArray := ⟨_, rfl⟩
        rw [← h3] at hcp
        have hF3 : Fr [bs] wr w3 := by rw [h3]; exact (Fr.refl [bs] wr).drew.drew.setRow (.inl (by simp)) _
        have hB3 : Bw w3 bw bs bb n := hF3.keeps hB (by simpa using hnb)
        have hR3 : Row w3 bs 5 (lay xs n ((ds.drop k).take q)) := by rw [h3]; exact Row.setRow (W := wr.drew.drew) hR _
        have hK3 : SkO w3 bb r' sink := hK.fr hF3 (fun x hx hm => by simp at hm; subst hm; exact hK.ne_row hR hrb hx)
        have hFw : Fr [bw] w3 (w3.setCell ⟨bw, 2, none⟩ (.int .i64 4096)) := (Fr.refl _ _).setCell (p := ⟨bw, 2, none⟩) (.inl (by simp)) _
        have hB4 : Bw (w3.setCell ⟨bw, 2, none⟩ (.int .i64 4096)) bw bs bb 4096 := hB3.setN 4096
        have hsink : sink.length ≤ 10000000 := by
          have := congrArg List.length htot
          simp at this
          omega
        have p29 := f29o bw bs bb 4096 r' sink _ _ hB4 (hR3.setOther (hB3.ne_row hR3) _) (by rw [lay_len _ _ _ (by omega)]; exact hx) (hK3.fr hFw (fun x hx hm => by simp at hm; subst hm; exact hK3.ne_bw hB3 hx)) hrb (by decide) (by decide) (by omega)
        have P29 := hide p29
        obtain ⟨d0, d1, d2, d3⟩ := hB3.c
        have z2 := hB3.z 2
        have hw1 : IntKind.i64.wrap ((n : Int) + (q : Int)) = 4096 := by rw [IntKind.wrap_i64]; omega
        have hw2 : IntKind.i64.wrap ((k : Int) + (q : Int)) = (k : Int) + (q : Int) := by rw [IntKind.wrap_i64]; omega
        have hle : (n : Int) ≤ 4096 := by omega
        have hqm : (q : Int) ≤ (m : Int) := by omega
        have hnn : ¬ 4096 = n := by omega
        have hn0' : ((n : Int) == 0) = false := by simp; omega
        have H := hide (And.intro hF3 (And.intro hFw (And.intro hB (And.intro hR (And.intro hF hr')))))
        have HT := hide htot
        have HM := hide (And.intro hm (And.intro hq (And.intro hdl hql)))
        clear hF3 hB3 hR3 hK3 h3 hFw hB4 hB hR hK hF hr' hsk hqs hql htot hm ha hdl p29 hq
        go_wp2_with fail
        refine P35.out.mono ?_
        rintro e w1 ⟨rfl, rfl⟩
        go_wp2_with fail
        refine P36.out.mono ?_
        rintro e w1 ⟨rfl, rfl⟩
        go_wp2_with fail
        go_region
        go_wp2_with fail
        refine P29.out.mono ?_
        rintro e w4 ⟨rfl, g', hg, k1, k2, k3, k4⟩
        have K := hide (And.intro hg (And.intro k1 (And.intro k2 (And.intro k3 k4))))
        obtain ⟨e0, e1, e2, e3⟩ := k1.c
        clear hg k1 k2 k3 k4
        go_wp2_with fail
        go_roundw
        case rel =>
          obtain ⟨hg, k1, k2, k3, k4⟩ := K.out
          obtain ⟨hF3, hFw, hB, hR, hF, hr'⟩ := H.out
          obtain ⟨hm, hq, hdl, hql⟩ := HM.out
          have hFa : Fr [bs, bw] wr (w3.setCell ⟨bw, 2, none⟩ (.int .i64 4096)) := (hF3.weak (by simp)).trans hFw (by simp)
          have hgb : some g' ≠ some bs := by
            rcases hg with hg | hg
            · rw [← hg]; exact hrb
            · have := hR.lt
              have := hFa.size
              simp; omega
          have elay : (lay xs n ((ds.drop k).take q)).take 4096 = xs.take n ++ (ds.drop k).take q := by
            unfold lay
            exact List.take_left' (by rw [List.length_append, List.length_take, hql]; omega)
          refine ⟨k + q, if cp = q then some ⟨sb, so + k, none⟩ else some ⟨sb, so + k + q, none⟩, cp - q, by omega, ?_, ?_, by omega, by omega, by go_num, some g', hr'.go hg (Nat.le_trans hF.size hFa.size), ⟨0, _, _, by omega, ?_, k1, k3, k2, hgb, ?_⟩, ?_⟩
          · have e : ds.length - (k + q) = m - q := by omega
            rw [e]
          · intro h
            rw [if_neg (by omega), Nat.add_assoc]
          · rw [lay_len _ _ _ (by omega)]; exact hx
          · rw [elay, List.take_zero, List.append_nil, ← List.append_assoc, HT.out, List.append_assoc, ← List.take_add]
          · refine (hF.trans hFa (by simp [own])).trans k4 ?_
            intro x hx
            rcases List.mem_cons.1 hx with rfl | hx
            · exact .inl (by simp [own])
            · rcases List.mem_cons.1 hx with rfl | hx
              · exact .inl (by simp [own])
              · rcases hr'.mem x hx with h | h
                · exact .inl (by simp [own, h])
                · exact .inr h
        case measure => simp [intOf]; have := HM.out; omega
    · have ht : decide ((4096 : Int) - (n : Int) < (m : Int)) = false := by simp; omega
      by_cases hm0 : m = 0
      · subst hm0
        obtain ⟨i0, hi, hz0, hz1, hz2⟩ := info_parts info5
        have hcp : ∀ d, (Builtin.copy_ #[23, 23] 3 #[.slice d (4096 - n) (4096 - n), .slice a 0 cp]).run Tryf.prog wr.drew.drew = .ok (.int .i64 0) wr.drew.drew := fun d =>
          run_copy_none (P := Tryf.prog) wr.drew.drew 23 23 3 5 d a (4096 - n) (4096 - n) 0 cp Tryf.underlying23 (by rw [hi]; simp [hz1]) (Nat.zero_min _)
        obtain ⟨c0, c1, c2, c3⟩ := hB.c
        have z2 := hB.z 2
        have hle : (n : Int) ≤ 4096 := by omega
        have H := hide (And.intro hB (And.intro hR (And.intro hK (And.intro hF hr'))))
        have HT := hide htot
        have HM := hide hm
        clear hB hR hK hF hr' htot hm ha hi hz0 hz1 hz2
        go_wp2_with fail
        refine P35.out.mono ?_
        rintro e w1 ⟨rfl, rfl⟩
        go_wp2_with fail
        go_region
        all_goals (go_wp2_with fail)
        all_goals
          obtain ⟨hB, hR, hK, hF, hr'⟩ := H.out
          have hk2 : k = ds.length := by have := HM.out; omega
          have hFw : Fr [bw] wr (wr.setCell ⟨bw, 2, none⟩ (.int .i64 (n : Int))).drew.drew := ((Fr.refl [bw] wr).setCell (p := ⟨bw, 2, none⟩) (.inl (by simp)) _).drew.drew
          have G : Pipe (wr.setCell ⟨bw, 2, none⟩ (.int .i64 (n : Int))).drew.drew bw bs bb r' (tot ++ ds) := by
            refine ⟨n, xs, sink, by omega, hx, hB.setN n, hR.setOther (hB.ne_row hR) _, ?_, hrb, ?_⟩
            · exact hK.fr hFw (fun x hx hm => by simp at hm; subst hm; exact hK.ne_bw hB hx)
            · rw [HT.out, hk2, List.take_length]
          refine bodyPost_ret (v := .tuple #[.int .i64 ds.length, .nilIface]) ?_ rfl ⟨rfl, r', hr', G, hF.trans hFw (by simp [own])⟩
          rw [← hk2]
          simp [results, Tryf.results32, go_sem]
      · have ha' := ha (by omega)
        subst ha'
        have hsk : Src wr sb (so + k) (ds.drop k) := fun j hj => by
          have hj' : k + j < ds.length := by rw [List.length_drop] at hj; omega
          have := (HS.out.fr hF HN.out) (k + j) hj'
          rw [Nat.add_assoc, this]
          simp [List.getD, List.getElem?_drop]
        have hdl : (ds.drop k).length = m := by rw [List.length_drop, hm]
        have hcp := copy_eq wr.drew.drew bs n (4096 - n) (4096 - n) xs (ds.drop k) sb (so + k) m cp hR hsk hdl.symm (by omega) (by omega)
        rw [hdl] at hcp
        have hnb : bw ≠ bs := fun e => hB.ne_row hR e.symm
        obtain ⟨w3, h3⟩ : ∃ w3, w3 = wr.drew.drew.setRow bs (by8 (lay xs n (ds.drop k))).toArray := ⟨_, rfl⟩
        rw [← h3] at hcp
        have hF3 : Fr [bs] wr w3 := by rw [h3]; exact (Fr.refl [bs] wr).drew.drew.setRow (.inl (by simp)) _
        have hB3 : Bw w3 bw bs bb n := hF3.keeps hB (by simpa using hnb)
        have hR3 : Row w3 bs 5 (lay xs n (ds.drop k)) := by rw [h3]; exact Row.setRow (W := wr.drew.drew) hR _
        have hK3 : SkO w3 bb r' sink := hK.fr hF3 (fun x hx hm => by simp at hm; subst hm; exact hK.ne_row hR hrb hx)
        obtain ⟨c0, c1, c2, c3⟩ := hB.c
        obtain ⟨d0, d1, d2, d3⟩ := hB3.c
        have z2 := hB3.z 2
        have hw1 : IntKind.i64.wrap ((n : Int) + (m : Int)) = (n : Int) + (m : Int) := by rw [IntKind.wrap_i64]; omega
        have hw2 : IntKind.i64.wrap ((k : Int) + (m : Int)) = (k : Int) + (m : Int) := by rw [IntKind.wrap_i64]; omega
        have hle : (n : Int) ≤ 4096 := by omega
        have hnn : ¬ 4096 = n := by omega
        have H := hide (And.intro hF3 (And.intro hB3 (And.intro hR3 (And.intro hK3 (And.intro hF hr')))))
        have HT := hide htot
        have HM := hide hm
        clear hF3 hB3 hR3 hK3 h3 hB hR hK hF hr' hsk htot hm ha hdl
        go_wp2_with fail
        refine P35.out.mono ?_
        rintro e w1 ⟨rfl, rfl⟩
        go_wp2_with fail
        go_region
        go_wp2_with fail
        go_ret2
        obtain ⟨hF3, hB3, hR3, hK3, hF, hr'⟩ := H.out
        have hdl : (ds.drop k).length = m := by rw [List.length_drop, HM.out]
        have hsum : k + m = ds.length := by have := HM.out; omega
        have hFw : Fr [bw] w3 (w3.setCell ⟨bw, 2, none⟩ (.int .i64 ((n : Int) + (m : Int)))) := (Fr.refl _ _).setCell (p := ⟨bw, 2, none⟩) (.inl (by simp)) _
        refine ⟨?_, r', hr', ⟨n + m, lay xs n (ds.drop k), sink, by omega, ?_, ?_, ?_, ?_, hrb, ?_⟩, ?_⟩
        · rw [← hsum]; rfl
        · rw [lay_len _ _ _ (by omega)]; exact hx
        · have := hB3.setN (n + m)
          rw [Int.natCast_add] at this
          exact this
        · exact hR3.setOther (hB3.ne_row hR3) _
        · exact hK3.fr hFw (fun x hx hm => by simp at hm; subst hm; exact hK3.ne_bw hB3 hx)
        · have e : (lay xs n (ds.drop k)).take (n + m) = xs.take n ++ ds.drop k := by
            unfold lay
            exact List.take_left' (by rw [List.length_append, List.length_take, hdl]; omega)
          rw [e, ← List.append_assoc, HT.out, List.append_assoc, List.take_append_drop]
        · exact (hF.trans hF3 (by simp [own])).trans hFw (by simp [own])
end Go.Proofs.Qxb6616725aFmt
