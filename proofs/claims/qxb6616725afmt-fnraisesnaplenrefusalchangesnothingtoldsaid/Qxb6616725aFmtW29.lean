/-
  The fourth law's walk.
-/
import Derived.Test.Qxb6616725aFmtW28
namespace Go.Proofs.Qxb6616725aFmt
open Go.RowKit Go.Extern.Stop Go.Stop Go.Extern
set_option linter.unusedVariables false

/-- A Writer behind NewWriter: its blocks lie from lo on, below hi. -/
structure Mk (w : World) (pw bw bs bb : Nat) (ot : TypeId) (snap : Int) (xs : List Int) (lo hi : Nat) : Prop where
  p : Pw w pw bw (.iface ot (.agg #[])) snap
  b : Bw w bw bs bb 24
  r : Row w bs 5 xs
  l : xs.length = 4096
  k : Sk0 w bb
  ip : lo ≤ pw ∧ pw < hi
  ib : lo ≤ bw ∧ bw < hi
  is : lo ≤ bs ∧ bs < hi
  ik : lo ≤ bb ∧ bb < hi
theorem Mk.of {W w : World} {pw bw bs : Nat} {ot : TypeId} {snap : Int} {xs : List Int} (h : Made W w pw bw bs W.heap.size ot snap 24 xs) (hk : Sk0 w W.heap.size) : Mk w pw bw bs W.heap.size ot snap xs W.heap.size w.heap.size :=
  ⟨h.p, h.b, h.r, h.l, hk, ⟨h.h3, (Array.getElem?_eq_some_iff.1 h.p).1⟩, ⟨h.h2, h.b.lt⟩, ⟨h.h1, h.r.lt⟩, ⟨Nat.le_refl _, by obtain ⟨lr, hk⟩ := hk; exact (Array.getElem?_eq_some_iff.1 hk).1⟩⟩
theorem Mk.fr {S : List Nat} {w w' : World} {pw bw bs bb : Nat} {ot : TypeId} {snap : Int} {xs : List Int} {lo hi : Nat} (h : Mk w pw bw bs bb ot snap xs lo hi) (f : Fr S w w') (hS : ∀ z, z ∈ S → ¬ (lo ≤ z ∧ z < hi)) : Mk w' pw bw bs bb ot snap xs lo hi :=
  ⟨f.keeps h.p (fun m => hS _ m h.ip), f.keeps h.b (fun m => hS _ m h.ib), f.keeps h.r (fun m => hS _ m h.is), h.l, by
    obtain ⟨lr, hk⟩ := h.k
    exact ⟨lr, f.keeps hk (fun m => hS _ m h.ik)⟩, h.ip, h.ib, h.is, h.ik⟩
/-- A Writer behind Write. -/
structure Wr (w : World) (pw bw bs bb : Nat) (r : Option Nat) (ot : TypeId) (snap : Int) (st : List Int) (lo hi s s' : Nat) : Prop where
  p : Pw w pw bw (.iface ot (.agg #[])) snap
  i : Pipe w bw bs bb r st
  ip : lo ≤ pw ∧ pw < hi
  o : ∀ z, z ∈ own bw bs bb r → (lo ≤ z ∧ z < hi) ∨ (s ≤ z ∧ z < s')
theorem own_lt {w : World} {bw bs bb : Nat} {r : Option Nat} {tot : List Int} (h : Pipe w bw bs bb r tot) : ∀ z, z ∈ r.toList → z < w.heap.size := by
  obtain ⟨n, xs, sink, hn, hx, hB, hR, hK, hrb, ht⟩ := h
  intro z hz
  cases r with
  | none => simp at hz
  | some g =>
    simp at hz
    subst hz
    obtain ⟨_, lr, cap, cur, a, b, c⟩ := hK
    exact (Array.getElem?_eq_some_iff.1 b).1
theorem Wr.of {w w' : World} {pw bw bs bb : Nat} {r : Option Nat} {ot : TypeId} {snap : Int} {xs st : List Int} {lo hi : Nat} (h : Mk w pw bw bs bb ot snap xs lo hi) (hr : Fresh w.heap.size none r) (hp : Pipe w' bw bs bb r st) (f : Fr (own bw bs bb none) w w') : Wr w' pw bw bs bb r ot snap st lo hi w.heap.size w'.heap.size := by
  refine ⟨f.keeps h.p ?_, hp, h.ip, ?_⟩
  · intro m
    simp only [own, List.mem_cons] at m
    rcases m with m | m | m | m
    · exact pw_bw h.p h.b m
    · exact pw_row h.p h.r m
    · exact sk_pw h.k h.p m
    · simp at m
  · intro z m
    simp only [own, List.mem_cons] at m
    rcases m with rfl | rfl | rfl | m
    · exact .inl h.ib
    · exact .inl h.is
    · exact .inl h.ik
    · have := own_lt hp z m
      rcases hr.mem z m with h | h
      · simp at h
      · exact .inr ⟨h, this⟩
theorem Wr.fr {S : List Nat} {w w' : World} {pw bw bs bb : Nat} {r : Option Nat} {ot : TypeId} {snap : Int} {st : List Int} {lo hi s s' : Nat} (h : Wr w pw bw bs bb r ot snap st lo hi s s') (f : Fr S w w') (hS : ∀ z, z ∈ S → ¬ (lo ≤ z ∧ z < hi) ∧ ¬ (s ≤ z ∧ z < s')) : Wr w' pw bw bs bb r ot snap st lo hi s s' :=
  ⟨f.keeps h.p (fun m => (hS _ m).1 h.ip), h.i.fr f (fun z hz hm => by
    rcases h.o z hz with o | o
    · exact (hS z hm).1 o
    · exact (hS z hm).2 o), h.ip, h.o⟩
theorem skg_lt {w : World} {bb g : Nat} {st : List Int} (h : SkG w bb g st) : g < w.heap.size := by
  obtain ⟨lr, cap, cur, a, b, c⟩ := h
  exact (Array.getElem?_eq_some_iff.1 b).1
theorem own_bb {bw bs bb : Nat} {r : Option Nat} : bb ∈ own bw bs bb r := by simp [own]
theorem fresh_own {B bw bs bb g : Nat} {r : Option Nat} (h : Fresh B r (some g)) : g ∈ own bw bs bb r ∨ B ≤ g := by
  rcases h.mem g (by simp) with h | h
  · exact .inl (by simp [own, h])
  · exact .inr h

set_option maxRecDepth 100000 in
set_option maxHeartbeats 4000000 in
theorem f6 (F : Interp) (big nano : Bool) (snap link nn sec frac orig : Int) (a : Option Addr) (c : Nat) (ds : List Int) (w : World) (hF : F.answers w.tape) (hd : Dat w.heap.size w a ds) (hc : ds.length ≤ c) (hcm : c ≤ 9223372036854775807)
    (s0 : 0 ≤ snap) (s1 : snap < 4294967296) (l0 : 0 ≤ link) (l1 : link < 4294967296) (n0 : 0 ≤ nn) (n1 : nn < 4294967296) (t0 : 0 ≤ sec) (t1 : sec < 4294967296) (f0 : 0 ≤ frac) (f1 : frac < 4294967296) (o0 : 0 ≤ orig) (o1 : orig < 4294967296) :
    Calls Tryf.prog 6 #[.bool big, .bool nano, .int .u32 snap, .int .u32 link, .int .u32 nn, .int .u32 sec, .int .u32 frac, .int .u32 orig, .slice a ds.length c] w fun e w' => e = .returned (.bool true) ∧ Below w.heap.size w w' := by
  by_cases hl : ds.length ≤ 1048576
  case neg =>
    have p16 := f22 (.bool big) (.bool nano) (.int .u32 snap) (.int .u32 link) (.int .u32 nn) (.int .u32 sec) (.int .u32 frac) (.int .u32 orig) a ds.length c w
    rw [decide_eq_false hl] at p16
    have P16 := hide p16
    clear p16 hF hd
    go_enter Tryf.func6, Tryf.ntmps6
    go_wp2_with fail
    refine P16.out.mono ?_
    rintro e w1 ⟨rfl, rfl⟩
    go_wp2_with fail
    go_ret
    exact ⟨rfl, Below.refl _ _⟩
  case pos =>
  have p16 := f22 (.bool big) (.bool nano) (.int .u32 snap) (.int .u32 link) (.int .u32 nn) (.int .u32 sec) (.int .u32 frac) (.int .u32 orig) a ds.length c w
  rw [decide_eq_true hl] at p16
  have P16 := hide p16
  have ht : decide ((1048576 : Int) < (ds.length : Int)) = false := by simp; omega
  have P7 := hide (f7 big nano snap link w s0 s1 l0 l1)
  have p17 := f17 ds.length snap w s0 s1 hl
  obtain ⟨rf, hrf⟩ : ∃ rf, rf = refused ds.length snap := ⟨_, rfl⟩
  obtain ⟨st, hst⟩ : ∃ st, st = stream big nano snap link sec frac orig ds := ⟨_, rfl⟩
  have hpos : 0 < st.length := by rw [hst]; exact stream_pos _ _ _ _ _ _ _ _
  have hle : st.length ≤ 2000000 := by rw [hst]; exact stream_le _ _ _ _ _ _ _ _ hl
  have hst' : st = hdr big nano snap link ++ body rf big sec frac orig ds := by rw [hst, hrf]; rfl
  rw [← hrf] at p17
  have P17 := hide p17
  have HD := hide hd
  have HF := hide hF
  have HRF := hide hrf
  have HST := hide hst'
  clear p16 p17 hd hF hrf hst hst'
  go_enter Tryf.func6, Tryf.ntmps6
  go_wp2_with fail
  refine P16.out.mono ?_
  rintro e w0 ⟨rfl, rfl⟩
  go_wp2_with fail
  refine P17.out.mono ?_
  rintro e w0 ⟨rfl, rfl⟩
  go_wp2_with fail
  refine P7.out.mono ?_
  rintro e w2 ⟨sv, rfl, hown, hb⟩
  have HO := hide (And.intro hown hb)
  clear hown hb P16 P17 P7
  go_upto_if 50 with fail
  go_cut [20] (fun v wc => ∃ g cap, v = .slice (some ⟨g, 0, none⟩) st.length cap ∧ Want w0 wc g st)
  case first =>
    obtain ⟨hown, hb⟩ := HO.out
    cases rf
    · have P18 := hide (f18 w0.heap.size big sec frac orig sv 24 (hdr big nano snap link) ds a c w2 t0 t1 f0 f1 o0 o1 hown hb.size (by decide) (HD.out.below hb) hl)
      clear hown hb
      go_wp2_with fail
      refine P18.out.mono ?_
      rintro e w3 ⟨sv', rfl, hown', hb'⟩
      have H3 := hide (And.intro hown' hb')
      clear hown' hb'
      go_wp2_with fail
      go_meet
      case rel =>
        have hb := HO.out.2.trans H3.out.2
        have e : st = hdr big nano snap link ++ rcd big sec frac orig ds := HST.out
        rw [e]
        exact want_of H3.out.1 (by rw [List.length_append, hdr_len, rcd_len]; omega) (by rw [List.length_append, hdr_len]; omega) hb
    · clear hown hb
      go_wp2_with fail
      go_meet
      case rel =>
        have e : st = hdr big nano snap link := by
          have := HST.out
          simpa [body] using this
        rw [e]
        exact want_of HO.out.1 (by rw [hdr_len]) (by rw [hdr_len]; omega) HO.out.2
  case rest =>
  clear HO
  obtain ⟨g, cg, rfl, hW⟩ := hcut
  obtain ⟨W, rfl⟩ : ∃ W, W = wc := ⟨_, rfl⟩
  have P8 := hide (fun w => f8 big nano snap link w s0 s1 l0 l1)
  have HW := hide hW
  clear hW
  go_wp2_with fail
  have hR1 := heap_alloc_new W (.cells #[.int .u32 sec, .int .u32 frac, .int .u32 orig, .slice a ds.length c] 46)
  have hB1 : Below W.heap.size W (W.alloc (.cells #[.int .u32 sec, .int .u32 frac, .int .u32 orig, .slice a ds.length c] 46)) := (Below.refl _ W).alloc (Nat.le_refl _) _
  have hz1 : (W.alloc (.cells #[.int .u32 sec, .int .u32 frac, .int .u32 orig, .slice a ds.length c] 46)).heap.size = W.heap.size + 1 := by simp
  revert hR1 hB1 hz1
  generalize W.alloc (.cells #[.int .u32 sec, .int .u32 frac, .int .u32 orig, .slice a ds.length c] 46) = W1
  intro hR1 hB1 hz1
  refine (P8.out W1).mono ?_
  rintro e w3 ⟨px, bwx, bsx, rfl, hMx, hkx⟩
  have H3 := hide (And.intro hR1 (And.intro hB1 (And.intro hz1 (And.intro hMx.f (Mk.of hMx hkx)))))
  clear hR1 hB1 hz1 hMx hkx
  go_wp2_with fail
  refine (P8.out w3).mono ?_
  rintro e w4 ⟨py, bwy, bsy, rfl, hMy, hky⟩
  obtain ⟨hR1, hB1, hz1, hfx, hMx⟩ := H3.out
  obtain ⟨hsrc, hg, hb⟩ := HW.out
  have hgl := src_lt hsrc hpos
  have b1 : Below w0.heap.size w0 W1 := hb.trans (hB1.mono hb.size)
  have b3 : Below w0.heap.size w0 w3 := b1.trans (hfx.mono b1.size)
  have b4 : Below w0.heap.size w0 w4 := b3.trans (hMy.f.mono b3.size)
  have hMx4 := hMx.fr (Fr.of_below (S := []) hMy.f) (by simp)
  have hMy4 := Mk.of hMy hky
  have z3 := hfx.size
  have z4 := hMy.f.size
  have hrec4 : w4.heap[W.heap.size]? = some (.cells #[.int .u32 sec, .int .u32 frac, .int .u32 orig, .slice a ds.length c] 46 (0, 0)) := (hMy.f.block _ (by omega)).trans ((hfx.block _ (by omega)).trans hR1)
  have hs4 : Src w4 g 0 st := ((hsrc.frG (Fr.of_below (S := []) hB1) (by simp)).frG (Fr.of_below (S := []) hfx) (by simp)).frG (Fr.of_below (S := []) hMy.f) (by simp)
  have P23 := hide (f23 F px bwx _ snap nn w4 (by rw [b4.tape]; exact HF.out) hMx4.p)
  have H4 := hide (And.intro hMx4 (And.intro hMy4 (And.intro hrec4 (And.intro hs4 (And.intro b4 (And.intro b1.size (And.intro hgl (And.intro hz1 (And.intro z3 z4)))))))))
  clear hR1 hB1 hz1 hfx hMx hsrc hg hb hgl b1 b3 b4 hMx4 hMy4 z3 z4 hrec4 hs4 hMy hky H3 HW P8
  go_wp2_with fail
  refine P23.out.mono ?_
  rintro e w5 ⟨t, p, rfl, hb5⟩
  obtain ⟨hMx, hMy, hrec, hs, b4, y1, hgl, y2, y3, y4⟩ := H4.out
  have y5 := hb5.size
  have hf5 : Fr [] w4 w5 := Fr.of_below hb5
  have hMx := hMx.fr hf5 (by simp)
  have hMy := hMy.fr hf5 (by simp)
  have hs := hs.frG hf5 (by simp)
  have b5 : Below w0.heap.size w0 w5 := b4.trans (hb5.mono b4.size)
  have hrec : w5.heap[W.heap.size]? = some (.cells #[.int .u32 sec, .int .u32 frac, .int .u32 orig, .slice a ds.length c] 46 (0, 0)) := hf5.keeps hrec (by simp)
  have c0 : w5.cell? ⟨W.heap.size, 0, none⟩ = some (.int .u32 sec) := by rw [cell_of_row w5 _ _ _ _ _ hrec]; rfl
  have c1 : w5.cell? ⟨W.heap.size, 1, none⟩ = some (.int .u32 frac) := by rw [cell_of_row w5 _ _ _ _ _ hrec]; rfl
  have c2 : w5.cell? ⟨W.heap.size, 2, none⟩ = some (.int .u32 orig) := by rw [cell_of_row w5 _ _ _ _ _ hrec]; rfl
  have c3 : w5.cell? ⟨W.heap.size, 3, none⟩ = some (.slice a ds.length c) := by rw [cell_of_row w5 _ _ _ _ _ hrec]; rfl
  have ix := hMx.ib.1
  have ix2 := hMx.is.1
  have ix3 := hMx.ik.1
  have p19 := f19 F w0.heap.size big px bwx bsx W1.heap.size c snap sec frac orig (xs0 big nano snap link) ds a w5 (by rw [b5.tape]; exact HF.out) hMx.p hMx.b hMx.r hMx.l hMx.k (HD.out.below b5) (by omega) (by omega) (by omega) hc hcm hl t0 t1 f0 f1 o0 o1
  rw [xs0_take, ← HRF.out, ← HST.out] at p19
  have P19 := hide p19
  have H5 := hide (And.intro hMx (And.intro hMy (And.intro hrec (And.intro hs (And.intro b5 (And.intro y1 (And.intro hgl (And.intro y2 (And.intro y3 (And.intro y4 y5))))))))))
  clear p19 ix ix2 ix3 hMx hMy hrec hs b4 b5 y1 hgl y2 y3 y4 y5 hf5 hb5 H4 P23
  go_wp2_with fail
  refine P19.out.mono ?_
  rintro e w6 ⟨v, rfl, hv, rx, hrx, hpx, hf6⟩
  obtain ⟨hMx, hMy, hrec, hs, b5, y1, hgl, y2, y3, y4, y5⟩ := H5.out
  have y6 := hf6.size
  have hWx := Wr.of hMx hrx hpx hf6
  have ox : ∀ z, z ∈ own bwx bsx W1.heap.size none → W1.heap.size ≤ z ∧ z < w3.heap.size := fun z hz => by
    simp only [own, List.mem_cons] at hz
    rcases hz with rfl | rfl | rfl | hz
    · exact hMx.ib
    · exact hMx.is
    · exact hMx.ik
    · simp at hz
  have hMy := hMy.fr hf6 (fun z hz => by have := ox z hz; omega)
  have hs := hs.frG hf6 (fun hz => by have := ox _ hz; omega)
  have b6 : Below w0.heap.size w0 w6 := b5.trans (hf6.below b5.size (fun z hz => by have := ox z hz; omega))
  have hrec : w6.heap[W.heap.size]? = some (.cells #[.int .u32 sec, .int .u32 frac, .int .u32 orig, .slice a ds.length c] 46 (0, 0)) := hf6.keeps hrec (fun hz => by have := ox _ hz; omega)
  have e0 : w6.cell? ⟨W.heap.size, 0, none⟩ = some (.int .u32 sec) := by rw [cell_of_row w6 _ _ _ _ _ hrec]; rfl
  have e1 : w6.cell? ⟨W.heap.size, 1, none⟩ = some (.int .u32 frac) := by rw [cell_of_row w6 _ _ _ _ _ hrec]; rfl
  have e2 : w6.cell? ⟨W.heap.size, 2, none⟩ = some (.int .u32 orig) := by rw [cell_of_row w6 _ _ _ _ _ hrec]; rfl
  have e3 : w6.cell? ⟨W.heap.size, 3, none⟩ = some (.slice a ds.length c) := by rw [cell_of_row w6 _ _ _ _ _ hrec]; rfl
  have iy := hMy.ib.1
  have iy2 := hMy.is.1
  have iy3 := hMy.ik.1
  have p19 := f19 F w0.heap.size big py bwy bsy w3.heap.size c snap sec frac orig (xs0 big nano snap link) ds a w6 (by rw [b6.tape]; exact HF.out) hMy.p hMy.b hMy.r hMy.l hMy.k (HD.out.below b6) (by omega) (by omega) (by omega) hc hcm hl t0 t1 f0 f1 o0 o1
  rw [xs0_take, ← HRF.out, ← HST.out] at p19
  have P19y := hide p19
  have hv' : ∀ w : World, (binOp .neq 31 v .nilIface).run Tryf.prog w = .ok (.bool rf) w := hv
  have hgd := fun k w => guard_nil k v w
  have H6 := hide (And.intro hWx (And.intro hMy (And.intro hs (And.intro b6 (And.intro y1 (And.intro hgl (And.intro y2 (And.intro y3 (And.intro y4 (And.intro y5 y6))))))))))
  clear p19 iy iy2 iy3 hMx hMy hrec hs b5 b6 y1 hgl y2 y3 y4 y5 y6 hf6 hv hrx hpx ox hWx H5 P19 c0 c1 c2 c3
  go_wp2_with fail
  refine P19y.out.mono ?_
  rintro e w7 ⟨v2, rfl, hv2, ry, hry, hpy, hf7⟩
  obtain ⟨hWx, hMy, hs, b6, y1, hgl, y2, y3, y4, y5, y6⟩ := H6.out
  have y7 := hf7.size
  have hWy := Wr.of hMy hry hpy hf7
  have oy : ∀ z, z ∈ own bwy bsy w3.heap.size none → w3.heap.size ≤ z ∧ z < w4.heap.size := fun z hz => by
    simp only [own, List.mem_cons] at hz
    rcases hz with rfl | rfl | rfl | hz
    · exact hMy.ib
    · exact hMy.is
    · exact hMy.ik
    · simp at hz
  have hWx := hWx.fr hf7 (fun z hz => by have := oy z hz; omega)
  have hs := hs.frG hf7 (fun hz => by have := oy _ hz; omega)
  have b7 : Below w0.heap.size w0 w7 := b6.trans (hf7.below b6.size (fun z hz => by have := oy z hz; omega))
  have P10 := hide (f10 px bwx _ _ w7 _ hWx.p (f29p bwx bsx _ rx st w7 hWx.i hpos (by omega)))
  have hv2' : ∀ w : World, (binOp .neq 31 v2 .nilIface).run Tryf.prog w = .ok (.bool rf) w := hv2
  have hgd2 := fun k w => guard_nil k v2 w
  have H7 := hide (And.intro hWx (And.intro hWy (And.intro hs (And.intro b7 (And.intro y1 (And.intro hgl (And.intro y2 (And.intro y3 (And.intro y4 (And.intro y5 (And.intro y6 y7)))))))))))
  clear hWx hMy hs b6 y1 hgl y2 y3 y4 y5 y6 y7 hWy oy b7 hf7 hv2 hry hpy H6 P19y e0 e1 e2 e3 hv' hgd
  go_wp2_with fail
  refine P10.out.mono ?_
  rintro e w8 ⟨rfl, gx, hgx, hBx, hKx, hf8⟩
  obtain ⟨hWx, hWy, hs, b7, y1, hgl, y2, y3, y4, y5, y6, y7⟩ := H7.out
  have y8 := hf8.size
  have hWy := hWy.fr hf8 (fun z hz => by have := hWx.o z hz; omega)
  have hs := hs.frG hf8 (fun hz => by have := hWx.o _ hz; omega)
  have b8 : Below w0.heap.size w0 w8 := b7.trans (hf8.below b7.size (fun z hz => by have := hWx.o z hz; omega))
  have hgxo : (W1.heap.size ≤ gx ∧ gx < w3.heap.size) ∨ (w5.heap.size ≤ gx ∧ gx < w6.heap.size) ∨ w7.heap.size ≤ gx := by
    rcases fresh_own (bw := bwx) (bs := bsx) (bb := W1.heap.size) hgx with h | h
    · have := hWx.o _ h
      omega
    · exact .inr (.inr h)
  have hxl := hWx.ip
  have P10y := hide (f10 py bwy _ _ w8 _ hWy.p (f29p bwy bsy _ ry st w8 hWy.i hpos (by omega)))
  have H8 := hide (And.intro hKx (And.intro hgxo (And.intro hxl (And.intro hWy (And.intro hs (And.intro b8 (And.intro y1 (And.intro hgl (And.intro y2 (And.intro y3 (And.intro y4 (And.intro y5 (And.intro y6 (And.intro y7 y8))))))))))))))
  clear hWx hWy hs b7 y1 hgl y2 y3 y4 y5 y6 y7 y8 b8 hgxo hxl hf8 hgx hBx hKx H7 P10
  go_wp2_with fail
  refine P10y.out.mono ?_
  rintro e w9 ⟨rfl, gy, hgy, hBy, hKy, hf9⟩
  obtain ⟨hKx, hgxo, hxl, hWy, hs, b8, y1, hgl, y2, y3, y4, y5, y6, y7, y8⟩ := H8.out
  have hKx := hKx.fr hf9 (fun hz => by have := hWy.o _ hz; omega) (fun hz => by have := hWy.o _ hz; omega)
  have hs := hs.frG hf9 (fun hz => by have := hWy.o _ hz; omega)
  have b9 : Below w0.heap.size w0 w9 := b8.trans (hf9.below b8.size (fun z hz => by have := hWy.o z hz; omega))
  have P9 := hide (f9g _ gx st w9 hKx)
  have P11 := hide (fun c => f11 gx g c cg st w9.drew hKx.src hs (by omega))
  have H9 := hide (And.intro hKy (And.intro hs b9))
  clear hKx hgxo hxl hWy hs b8 y1 hgl y2 y3 y4 y5 y6 y7 y8 b9 hgy hBy hKy hf9 H8 P10y
  go_wp2_with fail
  refine P9.out.mono ?_
  rintro e w10 ⟨capx, rfl, rfl⟩
  go_wp2_with fail
  refine (P11.out capx).mono ?_
  rintro e w10 ⟨rfl, hf10⟩
  have hf10 := fr_drew' hf10
  obtain ⟨hKy, hs, b9⟩ := H9.out
  have hKy := hKy.fr hf10 (by simp) (by simp)
  have hs := hs.frG hf10 (by simp)
  have b10 : Below w0.heap.size w0 w10 := b9.trans (hf10.below b9.size (by simp))
  have P9y := hide (f9g _ gy st w10 hKy)
  have P11y := hide (fun c => f11 gy g c cg st w10.drew hKy.src hs (by omega))
  have H10 := hide b10
  clear hKy hs b9 b10 hf10 H9 P9 P11
  go_wp2_with fail
  refine P9y.out.mono ?_
  rintro e w11 ⟨capy, rfl, rfl⟩
  go_wp2_with fail
  refine (P11y.out capy).mono ?_
  rintro e w11 ⟨rfl, hf11⟩
  have H11 := hide (fr_drew' hf11)
  clear hf11
  go_wp2_with fail
  go_ret
  exact ⟨rfl, H10.out.trans (H11.out.below H10.out.size (by simp))⟩
end Go.Proofs.Qxb6616725aFmt
