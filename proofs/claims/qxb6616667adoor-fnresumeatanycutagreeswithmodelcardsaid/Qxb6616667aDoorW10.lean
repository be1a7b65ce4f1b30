/-
  THE WALKS, 10: resume, by its callees' contracts.
-/
import Derived.Test.Qxb6616667aDoorW8
import Derived.Test.Qxb6616667aDoorW9
namespace Go.Proofs.Qxb6616667aDoor
open Go.RowKit
set_option linter.unusedVariables false

/-- resume's answer and the fields behind it; the kind of the token that is cut by a number (0: none; 1: a string; 2: a number; 3: a literal). -/
structure R where
  n : Nat
  ok : Bool
  ct : Nat
  l : Bool
  h : Int
  num : Int
  lit : ByteArray

def cutOf (t : Nat) : ByteArray := if t = 1 then cS else if t = 2 then cN else if t = 3 then cL else ⟨#[]⟩

def model (t : Nat) (l : Bool) (h num : Int) (lit : ByteArray) (zs : List Int) : R :=
  if t = 1 then ⟨(Pl.sm l h l h zs).n, (Pl.sm l h l h zs).ok, if (Pl.sm l h l h zs).cut = true then 1 else 0, (Pl.sm l h l h zs).l, (Pl.sm l h l h zs).h, num, lit⟩
  else if t = 2 then (if (Pl.nm num zs).1 = zs.length then ⟨zs.length, true, 2, l, h, (Pl.nm num zs).2, lit⟩ else ⟨(Pl.nm num zs).1, Pl.wholeB (Pl.nm num zs).2, 0, l, h, num, lit⟩)
  else if t = 3 then (if Pl.lcp (ints lit) zs = lit.size then ⟨Pl.lcp (ints lit) zs, true, 0, l, h, num, lit⟩
    else if Pl.lcp (ints lit) zs = zs.length then ⟨Pl.lcp (ints lit) zs, true, 3, l, h, num, lit.extract (Pl.lcp (ints lit) zs) lit.size⟩
    else ⟨Pl.lcp (ints lit) zs, false, 0, l, h, num, lit⟩)
  else ⟨0, true, 0, l, h, num, lit⟩

/-- The fields as the package's own code leaves them. -/
structure Reach (t : Nat) (l : Bool) (h num : Int) (lit : ByteArray) : Prop where
  kind : t ≤ 3
  st : Pl.okSt l h
  num0 : 0 ≤ num
  num8 : num ≤ 8
  numC : t = 2 → 1 ≤ num
  litC : t = 3 → 0 < lit.size
  litL : lit.size ≤ 1048576

/-- WHAT resume LEAVES. -/
def ResPost (t : Nat) (l : Bool) (h num : Int) (lit : ByteArray) (zs : List Int) (g : Nat) (w : World) (e : Ending) (w' : World) : Prop :=
  e = .returned (.tuple #[.int .i64 (model t l h num lit zs).n, .bool (model t l h num lit zs).ok]) ∧
  Scan w' g (cutOf (model t l h num lit zs).ct) (model t l h num lit zs).l (model t l h num lit zs).h (model t l h num lit zs).num (model t l h num lit zs).lit ∧ Below g w w'
theorem ResPost.mk {t : Nat} {l : Bool} {h num : Int} {lit : ByteArray} {zs : List Int} {g : Nat} {w w' : World} {n : Nat} {ok : Bool} {ct : Nat} {l' : Bool} {h' num' : Int} {lit' : ByteArray} {e : Ending}
    (hm : model t l h num lit zs = ⟨n, ok, ct, l', h', num', lit'⟩) (he : e = .returned (.tuple #[.int .i64 n, .bool ok])) (hs : Scan w' g (cutOf ct) l' h' num' lit') (hb : Below g w w') : ResPost t l h num lit zs g w e w' := by
  unfold ResPost
  rw [hm]
  exact ⟨he, hs, hb⟩

set_option maxHeartbeats 400000 in
theorem f21 (B g : Nat) (a : Option Addr) (c : Nat) (zs : List Int) (l : Bool) (h num q : Int) (lit : ByteArray) (w : World) (hlen : zs.length ≤ 1048576) (hb : BytesAt B w a zs) (hs : Scan w g ⟨#[]⟩ l h num lit) (hq1 : 1 ≤ num) (hq8 : num ≤ 8) :
    Calls Tryd.prog 21 #[.pointer (some ⟨g, 0, none⟩), .slice a zs.length c, .int .i64 0, .int .i64 num] w (ResPost 2 l h num lit zs g w) := by
  have g5 := hs.c5; have g8 := hs.c8; have q5 := hs.f5; have q8 := hs.f8
  have HP := hide (f26 B a c zs num w hlen hb hq1 hq8)
  have HM : Hid (model 2 l h num lit zs = if (Pl.nm num zs).1 = zs.length then ⟨zs.length, true, 2, l, h, (Pl.nm num zs).2, lit⟩ else ⟨(Pl.nm num zs).1, Pl.wholeB (Pl.nm num zs).2, 0, l, h, num, lit⟩) := rfl
  go_enter Tryd.func21, Tryd.ntmps21
  go_wp2_with fail
  refine HP.out.mono ?_
  clear HP
  rintro e w1 ⟨k, p, rfl, ⟨h1, h2, h3⟩, rfl⟩
  have H1 := hide h1
  have H2 := hide h2
  have H3 := hide h3
  clear h1 h2 h3
  have hk : k ≤ zs.length := by rw [← H1.out]; exact Pl.nm_le zs num
  by_cases he : k = zs.length
  · have t1 : ((k : Int) == (zs.length : Int)) = true := beq_iff_eq.2 (by omega)
    have HX : Hid (model 2 l h num lit zs = ⟨k, true, 2, l, h, p, lit⟩) := by
      show _ = _
      rw [HM.out, if_pos (by rw [H1.out, he]), H3.out he, he]
    clear he
    go_wp2_with fail
    go_ret2
    exact ResPost.mk HX.out rfl ((hs.set5 cN).set8 p) (((Below.refl g w1).setCell (p := ⟨g, 5, none⟩) (Nat.le_refl g) _).setCell (p := ⟨g, 8, none⟩) (Nat.le_refl g) _)
  · have t1 : ((k : Int) == (zs.length : Int)) = false := beq_eq_false_iff_ne.2 (by omega)
    have HX : Hid (model 2 l h num lit zs = ⟨k, Pl.wholeB p, 0, l, h, num, lit⟩) := by
      show _ = _
      rw [HM.out, if_neg (by rw [H1.out]; exact he), H1.out, H2.out]
    clear he
    go_wp2_with (go_at_call 27; refine (f27 _ _).mono ?_; rintro e w' ⟨rfl, rfl⟩)
    go_ret2
    exact ResPost.mk HX.out rfl hs (Below.refl _ _)

set_option maxHeartbeats 400000 in
theorem f17 (B g : Nat) (a : Option Addr) (c : Nat) (zs : List Int) (t : Nat) (l : Bool) (h num : Int) (lit : ByteArray) (w : World) (hz : Byt zs) (hcap : zs.length ≤ c) (hlen : zs.length ≤ 1048576)
    (hB : 1 < B) (hBg : B ≤ g) (hgw : g < w.heap.size) (hb : BytesAt B w a zs) (hT : TabAt 1 Lib.deBruijn64tab w) (hs : Scan w g (cutOf t) l h num lit) (hr : Reach t l h num lit) :
    Calls Tryd.prog 17 #[.pointer (some ⟨g, 0, none⟩), .slice a zs.length c] w (ResPost t l h num lit zs g w) := by
  have hbs : Below g w (w.setCell ⟨g, 5, none⟩ (.string ⟨#[]⟩)) := (Below.refl g w).setCell (p := ⟨g, 5, none⟩) (Nat.le_refl g) _
  have hs1 := hs.set5 ⟨#[]⟩
  have hb1 : BytesAt B (w.setCell ⟨g, 5, none⟩ (.string ⟨#[]⟩)) a zs := hb.below (hbs.mono hBg)
  have hT1 : TabAt 1 Lib.deBruijn64tab (w.setCell ⟨g, 5, none⟩ (.string ⟨#[]⟩)) := fun j hj => by
    rw [hbs.cell (p := ⟨1, j, none⟩) (by show 1 < _; omega)]
    exact hT j hj
  have g5 := hs.c5; have q5 := hs.f5
  have g8 := hs1.c8; have g9 := hs1.c9
  have HR := hide hr
  have HS := hide hs1
  have HB := hide hbs
  rcases (show t = 0 ∨ t = 1 ∨ t = 2 ∨ t = 3 by have := hr.kind; omega) with rfl | rfl | rfl | rfl
  · have e : cutOf 0 = ⟨#[]⟩ := rfl
    rw [e] at g5
    go_enter Tryd.func17, Tryd.ntmps17
    go_wp2_with fail
    go_ret2
    exact ResPost.mk (t := 0) rfl rfl HS.out HB.out
  · have e : cutOf 1 = ⟨#[97, 32, 115, 116, 114, 105, 110, 103]⟩ := rfl
    rw [e] at g5
    have HP := hide (f20 B g a c zs ⟨#[]⟩ l h num lit (w.setCell ⟨g, 5, none⟩ (.string ⟨#[]⟩)) hz hcap hlen hB hBg (by simpa using hgw) hb1 hT1 hs1 hr.st)
    clear hT hT1 hb1 hb hr hs1 hs
    go_enter Tryd.func17, Tryd.ntmps17
    go_wp2_with fail
    refine HP.out.mono ?_
    clear HP
    rintro e w1 ⟨rfl, hs2, hb2⟩
    go_wp2_with fail
    go_ret2
    refine ResPost.mk (t := 1) rfl rfl ?_ (HB.out.trans hb2)
    split <;> simp_all [cutOf]
  · have e : cutOf 2 = ⟨#[97, 32, 110, 117, 109, 98, 101, 114]⟩ := rfl
    rw [e] at g5
    have HP := hide (f21 B g a c zs l h num num lit (w.setCell ⟨g, 5, none⟩ (.string ⟨#[]⟩)) hlen hb1 hs1 (hr.numC rfl) hr.num8)
    clear hT hT1 hb1 hb hr hs1 hs
    go_enter Tryd.func17, Tryd.ntmps17
    go_wp2_with fail
    refine HP.out.mono ?_
    clear HP
    rintro e w1 ⟨rfl, hs2, hb2⟩
    go_wp2_with fail
    go_ret2
    exact ⟨rfl, hs2, HB.out.trans hb2⟩
  · have e : cutOf 3 = ⟨#[97, 32, 108, 105, 116, 101, 114, 97, 108]⟩ := rfl
    rw [e] at g5
    have HP := hide (f22 B g a c zs ⟨#[]⟩ l h num lit lit (w.setCell ⟨g, 5, none⟩ (.string ⟨#[]⟩)) hlen hr.litL hb1 hs1)
    clear hT hT1 hb1 hb hr hs1 hs
    go_enter Tryd.func17, Tryd.ntmps17
    go_wp2_with fail
    refine HP.out.mono ?_
    clear HP
    rintro e w1 ⟨m, ok, cut', lit', rfl, hm, hs2, hb2, hor⟩
    have HO := hide hor
    have HMM := hide hm
    clear hor hm
    go_wp2_with fail
    go_ret2
    have hm := HMM.out
    rcases HO.out with ⟨h1, rfl, rfl, h4⟩ | ⟨h1, h2, rfl, rfl, rfl⟩ | ⟨h1, h2, rfl, rfl, h4⟩
    · refine ResPost.mk (t := 3) (n := m) (ok := true) (ct := 0) ?_ rfl (h4 ▸ hs2) (HB.out.trans hb2)
      show (if Pl.lcp (ints lit) zs = lit.size then _ else _) = _
      rw [← hm, if_pos h1]
    · refine ResPost.mk (t := 3) (n := m) (ok := true) (ct := 3) ?_ rfl hs2 (HB.out.trans hb2)
      show (if Pl.lcp (ints lit) zs = lit.size then _ else if Pl.lcp (ints lit) zs = zs.length then _ else _) = _
      rw [← hm, if_neg h1, if_pos h2]
    · refine ResPost.mk (t := 3) (n := m) (ok := false) (ct := 0) ?_ rfl (h4 ▸ hs2) (HB.out.trans hb2)
      show (if Pl.lcp (ints lit) zs = lit.size then _ else if Pl.lcp (ints lit) zs = zs.length then _ else _) = _
      rw [← hm, if_neg h1, if_neg h2]

set_option maxHeartbeats 400000 in
theorem f9 (B g : Nat) (a : Option Addr) (c : Nat) (zs : List Int) (t : Nat) (l : Bool) (h num : Int) (lit : ByteArray) (w : World) (hz : Byt zs) (hcap : zs.length ≤ c) (hlen : zs.length ≤ 1048576)
    (hB : 1 < B) (hBg : B ≤ g) (hgw : g < w.heap.size) (hb : BytesAt B w a zs) (hT : TabAt 1 Lib.deBruijn64tab w) (hs : Scan w g (cutOf t) l h num lit) (hr : Reach t l h num lit) :
    Calls Tryd.prog 9 #[.pointer (some ⟨g, 0, none⟩), .slice a zs.length c] w (ResPost t l h num lit zs g w) := by
  have HP := hide (f17 B g a c zs t l h num lit w hz hcap hlen hB hBg hgw hb hT hs hr)
  go_enter Tryd.func9, Tryd.ntmps9
  go_wp2_with fail
  refine HP.out.mono ?_
  rintro e w1 ⟨rfl, hs2, hb2⟩
  go_wp2_with fail
  go_ret2
  exact ⟨rfl, hs2, hb2⟩

set_option maxHeartbeats 400000 in
theorem f8 (cut : ByteArray) (l : Bool) (h num : Int) (lit : ByteArray) (w : World) :
    Calls Tryd.prog 8 #[.string cut, .bool l, .int .i64 h, .int .i64 num, .string lit] w fun e w' => e = .returned (.pointer (some ⟨w.heap.size, 0, none⟩)) ∧ Scan w' w.heap.size cut l h num lit ∧ Below w.heap.size w w' ∧ w.heap.size < w'.heap.size := by
  go_enter Tryd.func8, Tryd.ntmps8
  go_wp2_with fail
  go_ret
  exact ⟨rfl, by constructor <;> simp [go_sem], (Below.refl _ _).alloc (Nat.le_refl _) _, by simp⟩

set_option maxHeartbeats 400000 in
theorem f10 (g : Nat) (cut : ByteArray) (l : Bool) (h num : Int) (lit : ByteArray) (w : World) (hs : Scan w g cut l h num lit) :
    Calls Tryd.prog 10 #[.pointer (some ⟨g, 0, none⟩)] w fun e w' => e = .returned (.tuple #[.string cut, .bool l, .int .i64 h, .int .i64 num, .string lit]) ∧ ∃ n, w' = w.drewN n := by
  have g5 := hs.c5; have g6 := hs.c6; have g7 := hs.c7; have g8 := hs.c8; have g9 := hs.c9
  go_enter Tryd.func10, Tryd.ntmps10
  go_wp2_with fail
  go_quiet (fail)
  go_wp2_with fail
  exact bodyPost_ret (v := .tuple #[.string cut, .bool l, .int .i64 h, .int .i64 num, .string lit]) (by simp [results, Tryd.results10, go_sem]) rfl ⟨rfl, nq, rfl⟩

end Go.Proofs.Qxb6616667aDoor
