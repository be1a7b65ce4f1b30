/-
  THE WALKS, 7: text.
-/
import Derived.Test.Qxb6616667aDoorW6
import Derived.Deep.DeepCutAuto
namespace Go.Proofs.Qxb6616667aDoor
open Go.RowKit
set_option linter.unusedVariables false

theorem run_law : ∀ (l : List Int) (s1 : Bool) (s2 : Int), ∃ t1 t2, Pl.sm false 0 s1 s2 l = (Pl.sm false 0 t1 t2 (l.drop (run l))).add (run l)
  | [], s1, s2 => ⟨s1, s2, by simp [run, Pl.SR.add]⟩
  | c :: cs, s1, s2 => by
    cases hs : stopB c
    · obtain ⟨t1, t2, e⟩ := run_law cs false 0
      refine ⟨t1, t2, ?_⟩
      simp [stopB] at hs
      have h1 : ¬ c = 34 := by omega
      have h2 : ¬ c = 92 := by omega
      have h3 : ¬ c < 32 := by omega
      rw [Pl.sm, if_neg (by decide), if_neg h1, if_neg h2, if_neg h3, e]
      have hr : run (c :: cs) = run cs + 1 := by rw [run, if_neg (by simp [stopB]; omega)]
      rw [hr]
      simp [Pl.SR.up, Pl.SR.add]
      omega
    · refine ⟨s1, s2, ?_⟩
      have hr : run (c :: cs) = 0 := by rw [run, if_pos hs]
      rw [hr]
      simp [Pl.SR.add]
theorem run_le : ∀ l, run l ≤ l.length
  | [] => by simp [run]
  | c :: cs => by have := run_le cs; simp only [run]; split <;> simp <;> omega
theorem run_stop : ∀ (l : List Int) (h : run l < l.length), stopB l[run l] = true
  | [], h => by simp at h
  | c :: cs, h => by
    cases hs : stopB c
    · have hr : run (c :: cs) = run cs + 1 := by rw [run, if_neg (by simp [hs])]
      have := run_stop cs (by rw [hr] at h; simpa using h)
      simp only [hr, List.getElem_cons_succ]
      exact this
    · have hr : run (c :: cs) = 0 := by rw [run, if_pos hs]
      simp only [hr, List.getElem_cons_zero]
      exact hs
theorem stopEnd_ge (zs : List Int) (k : Nat) : k ≤ stopEnd zs k := by unfold stopEnd; omega
theorem stopEnd_le (zs : List Int) (k : Nat) (hk : k ≤ zs.length) : stopEnd zs k ≤ zs.length := by
  have := run_le (zs.drop k)
  simp at this
  unfold stopEnd; omega
theorem stopEnd_stop (zs : List Int) (k : Nat) (hk : k ≤ zs.length) (h : stopEnd zs k < zs.length) : stopB (zs[stopEnd zs k]) = true := by
  have h1 : run (zs.drop k) < (zs.drop k).length := by unfold stopEnd at h; simp; omega
  have := run_stop (zs.drop k) h1
  rw [List.getElem_drop] at this
  exact this
theorem stopEnd_law (zs : List Int) (k : Nat) (s1 : Bool) (s2 : Int) : ∃ t1 t2, Pl.sm false 0 s1 s2 (zs.drop k) = (Pl.sm false 0 t1 t2 (zs.drop (stopEnd zs k))).add (stopEnd zs k - k) := by
  obtain ⟨t1, t2, e⟩ := run_law (zs.drop k) s1 s2
  refine ⟨t1, t2, ?_⟩
  rw [List.drop_drop] at e
  rw [e]
  unfold stopEnd
  congr 1
  omega

/-- WHERE text STANDS at its loop's head: at byte k, the fields (l', h'), 'ok'. -/
def TextAt (zs : List Int) (l : Bool) (h : Int) (k : Nat) (ok : Bool) (l' : Bool) (h' : Int) : Prop :=
  (ok = true ∧ (k < zs.length → l' = false ∧ h' = 0) ∧ Pl.okSt l' h' ∧ ∃ s1 s2, Pl.sm l h l h zs = (Pl.sm l' h' s1 s2 (zs.drop k)).add k) ∨
  (ok = false ∧ Pl.sm l h l h zs = ⟨k, false, false, l', h'⟩)

/-- Behind escape. -/
theorem TextAt.first {zs : List Int} {l : Bool} {h : Int} {j : Nat} {ok l' : Bool} {h' : Int} (hst : Pl.okSt l h)
    (p : (ok = true ∧ (j < zs.length → l' = false ∧ h' = 0) ∧ Pl.okSt l' h' ∧ Same zs l h 0 l' h' j) ∨ (ok = false ∧ l' = l ∧ h' = h ∧ ∀ sl sh, Pl.sm l h sl sh (zs.drop 0) = ⟨j - 0, false, false, sl, sh⟩)) : TextAt zs l h j ok l' h' := by
  rcases p with ⟨a, b, c, d⟩ | ⟨a, rfl, rfl, d⟩
  · exact Or.inl ⟨a, b, c, l, h, by have := d l h; simpa using this⟩
  · exact Or.inr ⟨a, by have := d l' h'; simpa using this⟩
theorem TextAt.zero {zs : List Int} : TextAt zs false 0 0 true false 0 :=
  Or.inl ⟨rfl, fun _ => ⟨rfl, rfl⟩, ⟨by decide, by decide, by simp⟩, false, 0, by simp [Pl.SR.add]⟩
/-- To the end of the bytes. -/
theorem TextAt.atEnd {zs : List Int} {l : Bool} {h : Int} {k : Nat} {l' : Bool} {h' : Int} (p : TextAt zs l h k true l' h') (hk : k ≤ zs.length) (he : ¬ stopEnd zs k < zs.length) : Pl.sm l h l h zs = ⟨zs.length, true, true, l', h'⟩ := by
  rcases p with ⟨_, b, _, s1, s2, e⟩ | ⟨a, _⟩
  · have hle := stopEnd_le zs k hk
    by_cases hlt : k < zs.length
    · obtain ⟨rfl, rfl⟩ := b hlt
      obtain ⟨t1, t2, e2⟩ := stopEnd_law zs k s1 s2
      rw [e, e2, List.drop_eq_nil_of_le (by omega), Pl.sm_nil]
      simp [Pl.SR.add]
      omega
    · rw [e, List.drop_eq_nil_of_le (by omega), Pl.sm_nil]
      simp [Pl.SR.add]
      omega
  · cases a
theorem TextAt.stop {zs : List Int} {l : Bool} {h : Int} {k : Nat} {l' : Bool} {h' : Int} (p : TextAt zs l h k true l' h') (hk : k ≤ zs.length) (he : stopEnd zs k < zs.length) :
    l' = false ∧ h' = 0 ∧ ∃ s1 s2, Pl.sm l h l h zs = (Pl.sm false 0 s1 s2 (zs.drop (stopEnd zs k))).add (stopEnd zs k) := by
  have hge := stopEnd_ge zs k
  rcases p with ⟨_, b, _, s1, s2, e⟩ | ⟨a, _⟩
  · obtain ⟨rfl, rfl⟩ := b (by omega)
    obtain ⟨t1, t2, e2⟩ := stopEnd_law zs k s1 s2
    refine ⟨rfl, rfl, t1, t2, ?_⟩
    rw [e, e2, Pl.SR.add_add]
    congr 1
    omega
  · cases a
theorem at_quote {zs : List Int} {l : Bool} {h : Int} {j : Nat} (hj : j < zs.length) {s1 : Bool} {s2 : Int} (e : Pl.sm l h l h zs = (Pl.sm false 0 s1 s2 (zs.drop j)).add j) (hc : zs[j] = 34) : Pl.sm l h l h zs = ⟨j + 1, true, false, false, 0⟩ := by
  rw [e, List.drop_eq_getElem_cons hj, Pl.sm, if_neg (by decide), if_pos hc]; simp [Pl.SR.add]
theorem at_ctl {zs : List Int} {l : Bool} {h : Int} {j : Nat} (hj : j < zs.length) {s1 : Bool} {s2 : Int} (e : Pl.sm l h l h zs = (Pl.sm false 0 s1 s2 (zs.drop j)).add j) (h1 : ¬ zs[j] = 34) (h2 : ¬ zs[j] = 92) (h3 : zs[j] < 32) : Pl.sm l h l h zs = ⟨j, false, false, false, 0⟩ := by
  rw [e, List.drop_eq_getElem_cons hj, Pl.sm, if_neg (by decide), if_neg h1, if_neg h2, if_pos h3]; simp [Pl.SR.add]
theorem at_back {zs : List Int} {l : Bool} {h : Int} {j : Nat} (hj : j < zs.length) {s1 : Bool} {s2 : Int} (e : Pl.sm l h l h zs = (Pl.sm false 0 s1 s2 (zs.drop j)).add j) (hc : zs[j] = 92)
    {m : Nat} {ok l' : Bool} {h' : Int} (hm : j + 1 ≤ m)
    (p : (ok = true ∧ (m < zs.length → l' = false ∧ h' = 0) ∧ Pl.okSt l' h' ∧ Same zs true 0 (j + 1) l' h' m) ∨ (ok = false ∧ l' = false ∧ h' = 0 ∧ ∀ sl sh, Pl.sm true 0 sl sh (zs.drop (j + 1)) = ⟨m - (j + 1), false, false, sl, sh⟩)) : TextAt zs l h m ok l' h' := by
  have e1 : Pl.sm l h l h zs = (Pl.sm true 0 false 0 (zs.drop (j + 1))).add (j + 1) := by
    rw [e, List.drop_eq_getElem_cons hj, Pl.sm, if_neg (by decide), if_neg (by omega), if_pos hc, Pl.SR.add_up]
  rcases p with ⟨a, b, c, d⟩ | ⟨a, rfl, rfl, d⟩
  · refine Or.inl ⟨a, b, c, false, 0, ?_⟩
    rw [e1, d false 0, Pl.SR.add_add]
    congr 1
    omega
  · refine Or.inr ⟨a, ?_⟩
    rw [e1, d false 0]
    simp [Pl.SR.add]
    omega

def boolOf : Value → Nat
  | .bool true => 1
  | _ => 0

def cS : ByteArray := ⟨#[97, 32, 115, 116, 114, 105, 110, 103]⟩

/-- WHAT text LEAVES. -/
def TextPost (zs : List Int) (g : Nat) (cut : ByteArray) (num : Int) (lit : ByteArray) (l : Bool) (h : Int) (w : World) (e : Ending) (w' : World) : Prop :=
  e = .returned (.tuple #[.int .i64 (Pl.sm l h l h zs).n, .bool (Pl.sm l h l h zs).ok]) ∧ Scan w' g (if (Pl.sm l h l h zs).cut = true then cS else cut) (Pl.sm l h l h zs).l (Pl.sm l h l h zs).h num lit ∧ Below g w w'
theorem TextPost.mk {zs : List Int} {g : Nat} {cut : ByteArray} {num : Int} {lit : ByteArray} {l : Bool} {h : Int} {w : World} {n : Nat} {ok ct l' : Bool} {h' : Int} {w' : World} (e : Pl.sm l h l h zs = ⟨n, ok, ct, l', h'⟩)
    (hs : Scan w' g (if ct = true then cS else cut) l' h' num lit) (hb : Below g w w') : TextPost zs g cut num lit l h w (.returned (.tuple #[.int .i64 n, .bool ok])) w' := by
  unfold TextPost
  rw [e]
  exact ⟨rfl, hs, hb⟩

set_option maxHeartbeats 1000000 in
theorem f20_letter (B g : Nat) (a : Option Addr) (c : Nat) (zs : List Int) (cut : ByteArray) (num : Int) (lit : ByteArray) (w : World) (hz : Byt zs) (hcap : zs.length ≤ c) (hlen : zs.length ≤ 1048576)
    (hB : 1 < B) (hBg : B ≤ g) (hgw : g < w.heap.size) (hb : BytesAt B w a zs) (hT : TabAt 1 Lib.deBruijn64tab w) (hs : Scan w g cut true 0 num lit) :
    Calls Tryd.prog 20 #[.pointer (some ⟨g, 0, none⟩), .slice a zs.length c, .int .i64 0] w (TextPost zs g cut num lit true 0 w) := by
  have g5 := hs.c5; have g6 := hs.c6; have g7 := hs.c7; have q5 := hs.f5; have q6 := hs.f6; have q7 := hs.f7
  have HT := hide hT
  clear hT
  have HST : Hid (Pl.okSt true 0) := ⟨by decide, by decide, fun _ => rfl⟩
  have HP0 := hide (f25_letter B g a c zs 0 cut true num lit w hlen (by omega) hb hs)
  go_enter Tryd.func20, Tryd.ntmps20
  go_wp2_with fail
  refine HP0.out.mono ?_
  clear HP0
  rintro e w0 ⟨k0, ok0, l0, h0, rfl, _, hk0, hs0, hb0, hor⟩
  have HX0 := hide (TextAt.first HST.out hor)
  clear hor HST g5 g6 g7 q5 q6 q7 hs
  go_wp2_with fail
  go_loopw [2, 8] (fun t u wc => ∃ (k : Nat) (ok : Bool) (l' : Bool) (h' : Int), t = .int .i64 k ∧ u = .bool ok ∧ k ≤ zs.length ∧ Scan wc g cut l' h' num lit ∧ Below g w wc ∧ TextAt zs true 0 k ok l' h') (fun t u _ => boolOf u * (zs.length - (intOf t).toNat + 1))
  case atStart => exact ⟨k0, ok0, l0, h0, rfl, rfl, hk0, hs0, hb0, HX0.out⟩
  case round =>
    obtain ⟨k, ok, l', h', rfl, rfl, hk, hs2, hb2, htx⟩ := hrel
    have HTX := hide htx
    clear htx
    cases ok
    · have HF : Hid (TextPost zs g cut num lit true 0 w (.returned (.tuple #[.int .i64 k, .bool false])) wr) := by
        rcases HTX.out with ⟨a, _⟩ | ⟨_, e⟩
        · cases a
        · exact TextPost.mk e hs2 hb2
      clear HTX
      go_wp2_with fail
      go_ret2
      exact HF.out
    · have hgr : g < wr.heap.size := Nat.lt_of_lt_of_le hgw hb2.size
      have hbr : BytesAt B wr a zs := hb.below (hb2.mono hBg)
      have hTr : TabAt 1 Lib.deBruijn64tab wr := fun j hj => by
        rw [hb2.cell (p := ⟨1, j, none⟩) (by show 1 < _; omega)]
        exact HT.out j hj
      have HP := hide (f23 B a c zs k wr hz hcap hlen hk hB (by omega) hbr hTr)
      clear hTr
      go_wp2_with fail
      refine HP.out.mono ?_
      clear HP
      rintro e w1 ⟨rfl, hb1⟩
      have hs3 : Scan w1 g cut l' h' num lit := hs2.below hb1 hgr
      have hb3 : Below g w w1 := hb2.trans (hb1.mono (by omega))
      have hg3 : g < w1.heap.size := Nat.lt_of_lt_of_le hgr hb1.size
      have hbr3 : BytesAt B w1 a zs := hb.below (hb3.mono hBg)
      have hge := stopEnd_ge zs k
      have hle := stopEnd_le zs k hk
      have HSS := hide (fun h => stopEnd_stop zs k hk h)
      have HE1 := hide (HTX.out.atEnd hk)
      have HE2 := hide (HTX.out.stop hk)
      clear HTX hs2 hb2 hbr hb1 hgr
      generalize stopEnd zs k = j at hge hle HSS HE1 HE2 ⊢
      have c5 := hs3.c5; have p5 := hs3.f5
      by_cases hj : j < zs.length
      · obtain ⟨rfl, rfl, s1, s2, hsm⟩ := HE2.out hj
        have HSM := hide hsm
        have hstop := HSS.out hj
        clear HE1 HE2 HSS hsm
        obtain ⟨b, o, rfl, hbB, hc⟩ := hbr3 j hj
        have hc3 : zs[j] = 34 ∨ zs[j] = 92 ∨ zs[j] < 32 := by simp [stopB] at hstop; omega
        clear hstop
        by_cases h1 : zs[j] = 34
        · have t1 : (zs[j] == 34) = true := by simp [h1]
          have HF : Hid (TextPost zs g cut num lit true 0 w (.returned (.tuple #[.int .i64 ((j + 1 : Nat) : Int), .bool true])) w1) := TextPost.mk (at_quote hj HSM.out h1) hs3 hb3
          clear h1 hc3
          go_wp2_with fail
          go_ret2
          exact HF.out
        · by_cases h2 : zs[j] = 92
          · have t1 : (zs[j] == 34) = false := by simp [h1]
            have t2 : (zs[j] == 92) = true := by simp [h2]
            have HBK := hide (fun m ok l' h' => at_back hj HSM.out h2 (m := m) (ok := ok) (l' := l') (h' := h'))
            have HP2 := hide (f25_letter B g (some ⟨b, o, none⟩) c zs (j + 1) cut false num lit w1 hlen (by omega) hbr3 hs3)
            clear h1 h2 hc3
            go_wp2_with fail
            rw [show ((j : Int) + 1) = ((j + 1 : Nat) : Int) from by omega]
            refine HP2.out.mono ?_
            rintro e w4 ⟨m, ok4, l4, h4, rfl, hm1, hm2, hs4, hb4, hor⟩
            have hb5 : Below g w w4 := hb3.trans hb4
            have HX := hide (HBK.out m ok4 l4 h4 hm1 hor)
            clear HBK HP2 hor c5 p5 hc hs3 hb3 hbr3
            go_wp2_with fail
            go_roundw
            case rel => exact ⟨m, ok4, l4, h4, rfl, rfl, hm2, hs4, hb5, HX.out⟩
            case measure => cases ok4 <;> simp [intOf, boolOf] <;> omega
          · have t1 : (zs[j] == 34) = false := by simp [h1]
            have t2 : (zs[j] == 92) = false := by simp [h2]
            have HX : Hid (TextAt zs true 0 j false false 0) := Or.inr ⟨rfl, at_ctl hj HSM.out h1 h2 (by omega)⟩
            clear h1 h2 hc3
            go_wp2_with fail
            go_roundw
            case rel => exact ⟨j, false, false, 0, rfl, rfl, by omega, hs3, hb3, HX.out⟩
            case measure => simp [intOf, boolOf]
      · have HF : Hid (TextPost zs g cut num lit true 0 w (.returned (.tuple #[.int .i64 zs.length, .bool true])) (w1.setCell ⟨g, 5, none⟩ (.string cS))) :=
          TextPost.mk (HE1.out hj) (hs3.set5 cS) (hb3.setCell (p := ⟨g, 5, none⟩) (Nat.le_refl g) _)
        clear HE1 HE2 HSS
        go_wp2_with fail
        go_ret2
        exact HF.out

set_option maxHeartbeats 1000000 in
theorem f20_hex (B g : Nat) (a : Option Addr) (c : Nat) (zs : List Int) (cut : ByteArray) (h : Int) (num : Int) (lit : ByteArray) (w : World) (hz : Byt zs) (hcap : zs.length ≤ c) (hlen : zs.length ≤ 1048576)
    (hB : 1 < B) (hBg : B ≤ g) (hgw : g < w.heap.size) (hb : BytesAt B w a zs) (hT : TabAt 1 Lib.deBruijn64tab w) (hs : Scan w g cut false h num lit) (h0 : 0 < h) (h4 : h ≤ 4) :
    Calls Tryd.prog 20 #[.pointer (some ⟨g, 0, none⟩), .slice a zs.length c, .int .i64 0] w (TextPost zs g cut num lit false h w) := by
  have g5 := hs.c5; have g6 := hs.c6; have g7 := hs.c7; have q5 := hs.f5; have q6 := hs.f6; have q7 := hs.f7
  have HT := hide hT
  clear hT
  have HST : Hid (Pl.okSt false h) := ⟨by omega, h4, by simp⟩
  have HP0 := hide (f25_hex B g a c zs 0 cut false h num lit w hlen (by omega) hb hs (by omega) h4)
  go_enter Tryd.func20, Tryd.ntmps20
  go_wp2_with fail
  refine HP0.out.mono ?_
  clear HP0
  rintro e w0 ⟨k0, ok0, l0, h0, rfl, _, hk0, hs0, hb0, hor⟩
  have HX0 := hide (TextAt.first HST.out hor)
  clear hor HST g5 g6 g7 q5 q6 q7 hs
  go_wp2_with fail
  go_loopw [2, 8] (fun t u wc => ∃ (k : Nat) (ok : Bool) (l' : Bool) (h' : Int), t = .int .i64 k ∧ u = .bool ok ∧ k ≤ zs.length ∧ Scan wc g cut l' h' num lit ∧ Below g w wc ∧ TextAt zs false h k ok l' h') (fun t u _ => boolOf u * (zs.length - (intOf t).toNat + 1))
  case atStart => exact ⟨k0, ok0, l0, h0, rfl, rfl, hk0, hs0, hb0, HX0.out⟩
  case round =>
    obtain ⟨k, ok, l', h', rfl, rfl, hk, hs2, hb2, htx⟩ := hrel
    have HTX := hide htx
    clear htx
    cases ok
    · have HF : Hid (TextPost zs g cut num lit false h w (.returned (.tuple #[.int .i64 k, .bool false])) wr) := by
        rcases HTX.out with ⟨a, _⟩ | ⟨_, e⟩
        · cases a
        · exact TextPost.mk e hs2 hb2
      clear HTX
      go_wp2_with fail
      go_ret2
      exact HF.out
    · have hgr : g < wr.heap.size := Nat.lt_of_lt_of_le hgw hb2.size
      have hbr : BytesAt B wr a zs := hb.below (hb2.mono hBg)
      have hTr : TabAt 1 Lib.deBruijn64tab wr := fun j hj => by
        rw [hb2.cell (p := ⟨1, j, none⟩) (by show 1 < _; omega)]
        exact HT.out j hj
      have HP := hide (f23 B a c zs k wr hz hcap hlen hk hB (by omega) hbr hTr)
      clear hTr
      go_wp2_with fail
      refine HP.out.mono ?_
      clear HP
      rintro e w1 ⟨rfl, hb1⟩
      have hs3 : Scan w1 g cut l' h' num lit := hs2.below hb1 hgr
      have hb3 : Below g w w1 := hb2.trans (hb1.mono (by omega))
      have hg3 : g < w1.heap.size := Nat.lt_of_lt_of_le hgr hb1.size
      have hbr3 : BytesAt B w1 a zs := hb.below (hb3.mono hBg)
      have hge := stopEnd_ge zs k
      have hle := stopEnd_le zs k hk
      have HSS := hide (fun h => stopEnd_stop zs k hk h)
      have HE1 := hide (HTX.out.atEnd hk)
      have HE2 := hide (HTX.out.stop hk)
      clear HTX hs2 hb2 hbr hb1 hgr
      generalize stopEnd zs k = j at hge hle HSS HE1 HE2 ⊢
      have c5 := hs3.c5; have p5 := hs3.f5
      by_cases hj : j < zs.length
      · obtain ⟨rfl, rfl, s1, s2, hsm⟩ := HE2.out hj
        have HSM := hide hsm
        have hstop := HSS.out hj
        clear HE1 HE2 HSS hsm
        obtain ⟨b, o, rfl, hbB, hc⟩ := hbr3 j hj
        have hc3 : zs[j] = 34 ∨ zs[j] = 92 ∨ zs[j] < 32 := by simp [stopB] at hstop; omega
        clear hstop
        by_cases h1 : zs[j] = 34
        · have t1 : (zs[j] == 34) = true := by simp [h1]
          have HF : Hid (TextPost zs g cut num lit false h w (.returned (.tuple #[.int .i64 ((j + 1 : Nat) : Int), .bool true])) w1) := TextPost.mk (at_quote hj HSM.out h1) hs3 hb3
          clear h1 hc3
          go_wp2_with fail
          go_ret2
          exact HF.out
        · by_cases h2 : zs[j] = 92
          · have t1 : (zs[j] == 34) = false := by simp [h1]
            have t2 : (zs[j] == 92) = true := by simp [h2]
            have HBK := hide (fun m ok l' h' => at_back hj HSM.out h2 (m := m) (ok := ok) (l' := l') (h' := h'))
            have HP2 := hide (f25_letter B g (some ⟨b, o, none⟩) c zs (j + 1) cut false num lit w1 hlen (by omega) hbr3 hs3)
            clear h1 h2 hc3
            go_wp2_with fail
            rw [show ((j : Int) + 1) = ((j + 1 : Nat) : Int) from by omega]
            refine HP2.out.mono ?_
            rintro e w4 ⟨m, ok4, l4, h4, rfl, hm1, hm2, hs4, hb4, hor⟩
            have hb5 : Below g w w4 := hb3.trans hb4
            have HX := hide (HBK.out m ok4 l4 h4 hm1 hor)
            clear HBK HP2 hor c5 p5 hc hs3 hb3 hbr3
            go_wp2_with fail
            go_roundw
            case rel => exact ⟨m, ok4, l4, h4, rfl, rfl, hm2, hs4, hb5, HX.out⟩
            case measure => cases ok4 <;> simp [intOf, boolOf] <;> omega
          · have t1 : (zs[j] == 34) = false := by simp [h1]
            have t2 : (zs[j] == 92) = false := by simp [h2]
            have HX : Hid (TextAt zs false h j false false 0) := Or.inr ⟨rfl, at_ctl hj HSM.out h1 h2 (by omega)⟩
            clear h1 h2 hc3
            go_wp2_with fail
            go_roundw
            case rel => exact ⟨j, false, false, 0, rfl, rfl, by omega, hs3, hb3, HX.out⟩
            case measure => simp [intOf, boolOf]
      · have HF : Hid (TextPost zs g cut num lit false h w (.returned (.tuple #[.int .i64 zs.length, .bool true])) (w1.setCell ⟨g, 5, none⟩ (.string cS))) :=
          TextPost.mk (HE1.out hj) (hs3.set5 cS) (hb3.setCell (p := ⟨g, 5, none⟩) (Nat.le_refl g) _)
        clear HE1 HE2 HSS
        go_wp2_with fail
        go_ret2
        exact HF.out

set_option maxHeartbeats 1000000 in
theorem f20_plain (B g : Nat) (a : Option Addr) (c : Nat) (zs : List Int) (cut : ByteArray) (num : Int) (lit : ByteArray) (w : World) (hz : Byt zs) (hcap : zs.length ≤ c) (hlen : zs.length ≤ 1048576)
    (hB : 1 < B) (hBg : B ≤ g) (hgw : g < w.heap.size) (hb : BytesAt B w a zs) (hT : TabAt 1 Lib.deBruijn64tab w) (hs : Scan w g cut false 0 num lit) :
    Calls Tryd.prog 20 #[.pointer (some ⟨g, 0, none⟩), .slice a zs.length c, .int .i64 0] w (TextPost zs g cut num lit false 0 w) := by
  have g5 := hs.c5; have g6 := hs.c6; have g7 := hs.c7; have q5 := hs.f5; have q6 := hs.f6; have q7 := hs.f7
  have HT := hide hT
  clear hT
  go_enter Tryd.func20, Tryd.ntmps20
  go_wp2_with fail
  go_loopw [2, 8] (fun t u wc => ∃ (k : Nat) (ok : Bool) (l' : Bool) (h' : Int), t = .int .i64 k ∧ u = .bool ok ∧ k ≤ zs.length ∧ Scan wc g cut l' h' num lit ∧ Below g w wc ∧ TextAt zs false 0 k ok l' h') (fun t u _ => boolOf u * (zs.length - (intOf t).toNat + 1))
  case atStart => exact ⟨0, true, false, 0, rfl, rfl, by omega, hs, Below.refl _ _, TextAt.zero⟩
  case round =>
    obtain ⟨k, ok, l', h', rfl, rfl, hk, hs2, hb2, htx⟩ := hrel
    have HTX := hide htx
    clear htx
    cases ok
    · have HF : Hid (TextPost zs g cut num lit false 0 w (.returned (.tuple #[.int .i64 k, .bool false])) wr) := by
        rcases HTX.out with ⟨a, _⟩ | ⟨_, e⟩
        · cases a
        · exact TextPost.mk e hs2 hb2
      clear HTX
      go_wp2_with fail
      go_ret2
      exact HF.out
    · have hgr : g < wr.heap.size := Nat.lt_of_lt_of_le hgw hb2.size
      have hbr : BytesAt B wr a zs := hb.below (hb2.mono hBg)
      have hTr : TabAt 1 Lib.deBruijn64tab wr := fun j hj => by
        rw [hb2.cell (p := ⟨1, j, none⟩) (by show 1 < _; omega)]
        exact HT.out j hj
      have HP := hide (f23 B a c zs k wr hz hcap hlen hk hB (by omega) hbr hTr)
      clear hTr
      go_wp2_with fail
      refine HP.out.mono ?_
      clear HP
      rintro e w1 ⟨rfl, hb1⟩
      have hs3 : Scan w1 g cut l' h' num lit := hs2.below hb1 hgr
      have hb3 : Below g w w1 := hb2.trans (hb1.mono (by omega))
      have hg3 : g < w1.heap.size := Nat.lt_of_lt_of_le hgr hb1.size
      have hbr3 : BytesAt B w1 a zs := hb.below (hb3.mono hBg)
      have hge := stopEnd_ge zs k
      have hle := stopEnd_le zs k hk
      have HSS := hide (fun h => stopEnd_stop zs k hk h)
      have HE1 := hide (HTX.out.atEnd hk)
      have HE2 := hide (HTX.out.stop hk)
      clear HTX hs2 hb2 hbr hb1 hgr
      generalize stopEnd zs k = j at hge hle HSS HE1 HE2 ⊢
      have c5 := hs3.c5; have p5 := hs3.f5
      by_cases hj : j < zs.length
      · obtain ⟨rfl, rfl, s1, s2, hsm⟩ := HE2.out hj
        have HSM := hide hsm
        have hstop := HSS.out hj
        clear HE1 HE2 HSS hsm
        obtain ⟨b, o, rfl, hbB, hc⟩ := hbr3 j hj
        have hc3 : zs[j] = 34 ∨ zs[j] = 92 ∨ zs[j] < 32 := by simp [stopB] at hstop; omega
        clear hstop
        by_cases h1 : zs[j] = 34
        · have t1 : (zs[j] == 34) = true := by simp [h1]
          have HF : Hid (TextPost zs g cut num lit false 0 w (.returned (.tuple #[.int .i64 ((j + 1 : Nat) : Int), .bool true])) w1) := TextPost.mk (at_quote hj HSM.out h1) hs3 hb3
          clear h1 hc3
          go_wp2_with fail
          go_ret2
          exact HF.out
        · by_cases h2 : zs[j] = 92
          · have t1 : (zs[j] == 34) = false := by simp [h1]
            have t2 : (zs[j] == 92) = true := by simp [h2]
            have HBK := hide (fun m ok l' h' => at_back hj HSM.out h2 (m := m) (ok := ok) (l' := l') (h' := h'))
            have HP2 := hide (f25_letter B g (some ⟨b, o, none⟩) c zs (j + 1) cut false num lit w1 hlen (by omega) hbr3 hs3)
            clear h1 h2 hc3
            go_wp2_with fail
            rw [show ((j : Int) + 1) = ((j + 1 : Nat) : Int) from by omega]
            refine HP2.out.mono ?_
            rintro e w4 ⟨m, ok4, l4, h4, rfl, hm1, hm2, hs4, hb4, hor⟩
            have hb5 : Below g w w4 := hb3.trans hb4
            have HX := hide (HBK.out m ok4 l4 h4 hm1 hor)
            clear HBK HP2 hor c5 p5 hc hs3 hb3 hbr3
            go_wp2_with fail
            go_roundw
            case rel => exact ⟨m, ok4, l4, h4, rfl, rfl, hm2, hs4, hb5, HX.out⟩
            case measure => cases ok4 <;> simp [intOf, boolOf] <;> omega
          · have t1 : (zs[j] == 34) = false := by simp [h1]
            have t2 : (zs[j] == 92) = false := by simp [h2]
            have HX : Hid (TextAt zs false 0 j false false 0) := Or.inr ⟨rfl, at_ctl hj HSM.out h1 h2 (by omega)⟩
            clear h1 h2 hc3
            go_wp2_with fail
            go_roundw
            case rel => exact ⟨j, false, false, 0, rfl, rfl, by omega, hs3, hb3, HX.out⟩
            case measure => simp [intOf, boolOf]
      · have HF : Hid (TextPost zs g cut num lit false 0 w (.returned (.tuple #[.int .i64 zs.length, .bool true])) (w1.setCell ⟨g, 5, none⟩ (.string cS))) :=
          TextPost.mk (HE1.out hj) (hs3.set5 cS) (hb3.setCell (p := ⟨g, 5, none⟩) (Nat.le_refl g) _)
        clear HE1 HE2 HSS
        go_wp2_with fail
        go_ret2
        exact HF.out

/-- text, from the state in which the piece before ended. -/
theorem f20 (B g : Nat) (a : Option Addr) (c : Nat) (zs : List Int) (cut : ByteArray) (l : Bool) (h num : Int) (lit : ByteArray) (w : World) (hz : Byt zs) (hcap : zs.length ≤ c) (hlen : zs.length ≤ 1048576)
    (hB : 1 < B) (hBg : B ≤ g) (hgw : g < w.heap.size) (hb : BytesAt B w a zs) (hT : TabAt 1 Lib.deBruijn64tab w) (hs : Scan w g cut l h num lit) (hst : Pl.okSt l h) :
    Calls Tryd.prog 20 #[.pointer (some ⟨g, 0, none⟩), .slice a zs.length c, .int .i64 0] w (TextPost zs g cut num lit l h w) := by
  cases l
  · by_cases h0 : 0 < h
    · exact f20_hex B g a c zs cut h num lit w hz hcap hlen hB hBg hgw hb hT hs h0 hst.2.1
    · obtain rfl : h = 0 := by have := hst.1; omega
      exact f20_plain B g a c zs cut num lit w hz hcap hlen hB hBg hgw hb hT hs
  · obtain rfl : h = 0 := hst.2.2 rfl
    exact f20_letter B g a c zs cut num lit w hz hcap hlen hB hBg hgw hb hT hs

end Go.Proofs.Qxb6616667aDoor
