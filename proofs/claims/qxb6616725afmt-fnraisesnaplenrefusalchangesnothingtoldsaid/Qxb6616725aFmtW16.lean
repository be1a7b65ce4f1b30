/-
  zzModelRecord, zzRefused, zzBytes, zzIsPrefix.
-/
import Derived.Test.Qxb6616725aFmtW4
namespace Go.Proofs.Qxb6616725aFmt
open Go.RowKit
set_option linter.unusedVariables false

/-- The bytes of an argument: a slice in blocks below B. -/
def Dat (B : Nat) (w : World) (a : Option Addr) (ds : List Int) : Prop := 0 < ds.length → ∃ b o, a = some ⟨b, o, none⟩ ∧ b < B ∧ Src w b o ds
theorem Dat.below {B : Nat} {w w' : World} {a : Option Addr} {ds : List Int} (h : Dat B w a ds) (hb : Below B w w') : Dat B w' a ds := fun hl => by
  obtain ⟨b, o, e, hB, hs⟩ := h hl
  exact ⟨b, o, e, hB, fun j hj => by rw [hb.cell (p := ⟨b, o + j, none⟩) hB]; exact hs j hj⟩

/-- A record's bytes. -/
def rcd (big : Bool) (sec frac orig : Int) (ds : List Int) : List Int := (((put32 big sec ++ put32 big frac) ++ put32 big ds.length) ++ put32 big orig) ++ ds
theorem rcd_len (big : Bool) (sec frac orig : Int) (ds : List Int) : (rcd big sec frac orig ds).length = 16 + ds.length := by simp [rcd, put32_len]; omega

theorem Dat.one {B : Nat} {w : World} {a : Option Addr} {ds : List Int} (h : Dat B w a ds) (k : Nat) (hk : k < ds.length) : ∃ b o, a = some ⟨b, o, none⟩ ∧ w.cell? ⟨b, o + k, none⟩ = some (.int .u8 (ds.getD k 0)) := by
  obtain ⟨b, o, e, hB, hs⟩ := h (by omega)
  exact ⟨b, o, e, hs k hk⟩

set_option maxRecDepth 100000 in
set_option maxHeartbeats 2000000 in
theorem f18 (B : Nat) (big : Bool) (sec frac orig : Int) (sv : Value) (n : Nat) (xs ds : List Int) (a : Option Addr) (c : Nat) (w : World) (s0 : 0 ≤ sec) (s1 : sec < 4294967296) (f0 : 0 ≤ frac) (f1 : frac < 4294967296) (o0 : 0 ≤ orig) (o1 : orig < 4294967296)
    (hown : w.ownsRow B 5 1 sv n (by8 xs)) (hB : B ≤ w.heap.size) (hn : n ≤ 1000) (hd : Dat B w a ds) (hl : ds.length ≤ 1048576) :
    Calls Tryf.prog 18 #[sv, .bool big, .int .u32 sec, .int .u32 frac, .int .u32 orig, .slice a ds.length c] w fun e w' => ∃ sv', e = .returned sv' ∧ w'.ownsRow B 5 1 sv' (n + 16 + ds.length) (by8 (xs ++ rcd big sec frac orig ds)) ∧ Below B w w' := by
  obtain ⟨i0, hi, hz0, hz1, hz2⟩ := info_parts info5
  have P24 := hide (fun v sv n xs w' h0 h1 => f24 B big v sv n xs w' h0 h1)
  have HD := hide hd
  have H0 := hide hown
  have hw : IntKind.u32.wrap (ds.length : Int) = (ds.length : Int) := by rw [IntKind.wrap_u32]; omega
  have hm : (ds.length : Int) % 4294967296 = (ds.length : Int) := by omega
  clear hd hown
  go_enter Tryf.func18, Tryf.ntmps18
  go_wp2_with fail
  refine (P24.out sec _ n xs w s0 s1 H0.out hB (by omega)).mono ?_
  rintro e w2 ⟨v2, rfl, o2, b2⟩
  have H2 := hide o2
  have hb := b2
  clear o2 b2
  go_wp2_with fail
  refine (P24.out frac _ _ _ w2 f0 f1 H2.out (Nat.le_trans hB hb.size) (by omega)).mono ?_
  rintro e w3 ⟨v3, rfl, o3, b3⟩
  replace hb := hb.trans b3
  have H3 := hide o3
  clear o3 b3
  go_wp2_with fail
  refine (P24.out ds.length _ _ _ w3 (by omega) (by omega) H3.out (Nat.le_trans hB hb.size) (by omega)).mono ?_
  rintro e w4 ⟨v4, rfl, o4, b4⟩
  replace hb := hb.trans b4
  have H4 := hide o4
  clear o4 b4
  go_wp2_with fail
  refine (P24.out orig _ _ _ w4 o0 o1 H4.out (Nat.le_trans hB hb.size) (by omega)).mono ?_
  rintro e w5 ⟨v5, rfl, o5, b5⟩
  replace hb := hb.trans b5
  have H5 := hide o5
  have HB5 := hide hb
  clear o5 b5 hb H0 H2 H3 H4
  go_wp2_with fail
  go_loopw [0, 13] (fun u i wr => ∃ k : Nat, k ≤ ds.length ∧ i = .int .i64 k ∧ wr.ownsRow B 5 1 u (n + 16 + k) (by8 (xs ++ ((((put32 big sec ++ put32 big frac) ++ put32 big ds.length) ++ put32 big orig) ++ ds.take k))) ∧ Below B w wr) (fun _ i _ => ds.length - (intOf i).toNat)
  case atStart =>
    refine ⟨0, Nat.zero_le _, rfl, ?_, HB5.out⟩
    have := H5.out
    simpa [List.append_assoc] using this
  case round =>
    obtain ⟨k, hk, rfl, hown, hb⟩ := hrel
    by_cases hlt : k < ds.length
    · have ht : decide ((k : Int) < (ds.length : Int)) = true := by simp; omega
      obtain ⟨b, o, rfl, c1⟩ := (HD.out.below hb).one k hlt
      go_wp2_with (first
        | (at_builtin; refine wpList_append_own _ rfl _ _ 23 rfl B 5 i0 (.int .u8 0) 1 1 Tryf.underlying23 hi hz0 hz1 hz2 rfl (by decide) _ _ _ rfl (hown.alloc _) ⟨wr.heap.size, 0, none⟩ 1 1 (by8 [ds.getD k 0]) rfl rfl ?c1 (by8_one _) ?c3 ?c4 ?c5 ?_)
        | fail)
      case c1 =>
        intro j u hj
        obtain ⟨hk, rfl⟩ := by8_get _ _ _ hj
        match j, hk with
        | 0, _ => simp [Addr.add, List.getD, List.getElem?_eq_getElem hlt]
      case c3 => unfold maxLen; omega
      case c4 => omega
      case c5 => have := hb.size; simp; omega
      intro sv' w1 hown' hgrow _
      rw [by8_app] at hown'
      have hb' := hb.trans (grown_below _ (Nat.le_trans hB hb.size) hown hgrow)
      have H := hide (And.intro hown' hb')
      clear hown' hb' hgrow hown hb
      go_wp2_with fail
      go_roundw
      case rel =>
        refine ⟨k + 1, by omega, by go_num, ?_, H.out.2⟩
        have e : ds.take (k + 1) = ds.take k ++ [ds[k]] := by
          rw [List.take_add_one, List.getElem?_eq_getElem hlt]
          rfl
        have := H.out.1
        rw [e]
        simp only [List.append_assoc] at this ⊢
        exact this
      case measure => simp [intOf]; omega
    · have ht : decide ((k : Int) < (ds.length : Int)) = false := by simp; omega
      have hke : k = ds.length := by omega
      rw [hke, List.take_length] at hown
      have H := hide (And.intro hown hb)
      clear hown hb hke
      go_wp2_with fail
      go_ret
      exact ⟨_, rfl, H.out.1, H.out.2⟩

/-- Whether a record of n bytes is refused. -/
def refused (n : Nat) (snap : Int) : Bool := decide (262144 < n) || decide (snap < (n : Int))
set_option maxHeartbeats 1000000 in
theorem f17 (n : Nat) (snap : Int) (w : World) (s0 : 0 ≤ snap) (s1 : snap < 4294967296) (hn : n ≤ 1048576) :
    Calls Tryf.prog 17 #[.int .i64 n, .int .u32 snap] w fun e w' => e = .returned (.bool (refused n snap)) ∧ w' = w := by
  by_cases h1 : 262144 < n
  · have ht : decide ((262144 : Int) < (n : Int)) = true := by simp; omega
    go_enter Tryf.func17, Tryf.ntmps17
    go_wp2
    go_ret
    exact ⟨by simp [refused, h1], rfl⟩
  · have ht : decide ((262144 : Int) < (n : Int)) = false := by simp; omega
    by_cases h2 : snap < (n : Int)
    · have hs : decide (snap < (n : Int)) = true := by simp [h2]
      go_enter Tryf.func17, Tryf.ntmps17
      go_wp2
      go_ret
      exact ⟨by simp [refused, h1, h2], rfl⟩
    · have hs : decide (snap < (n : Int)) = false := by simp [h2]
      go_enter Tryf.func17, Tryf.ntmps17
      go_wp2
      go_ret
      exact ⟨by simp [refused, h1, h2], rfl⟩

set_option maxHeartbeats 1000000 in
theorem f16 (big nano : Value) (v2 v3 v4 v5 v6 : Value) (a : Option Addr) (n c : Nat) (w : World) :
    Calls Tryf.prog 16 #[big, nano, v2, v3, v4, v5, v6, .slice a n c] w fun e w' => e = .returned (.bool (decide (n ≤ 1048576))) ∧ w' = w := by
  by_cases h1 : n ≤ 1048576
  · have ht : decide ((1048576 : Int) < (n : Int)) = false := by simp; omega
    go_enter Tryf.func16, Tryf.ntmps16
    go_wp2
    go_ret
    exact ⟨by simp [h1], rfl⟩
  · have ht : decide ((1048576 : Int) < (n : Int)) = true := by simp; omega
    go_enter Tryf.func16, Tryf.ntmps16
    go_wp2
    go_ret
    exact ⟨by simp [h1], rfl⟩
set_option maxHeartbeats 1000000 in
theorem f22 (big nano : Value) (v2 v3 v4 v5 v6 v7 : Value) (a : Option Addr) (n c : Nat) (w : World) :
    Calls Tryf.prog 22 #[big, nano, v2, v3, v4, v5, v6, v7, .slice a n c] w fun e w' => e = .returned (.bool (decide (n ≤ 1048576))) ∧ w' = w := by
  by_cases h1 : n ≤ 1048576
  · have ht : decide ((1048576 : Int) < (n : Int)) = false := by simp; omega
    go_enter Tryf.func22, Tryf.ntmps22
    go_wp2
    go_ret
    exact ⟨by simp [h1], rfl⟩
  · have ht : decide ((1048576 : Int) < (n : Int)) = true := by simp; omega
    go_enter Tryf.func22, Tryf.ntmps22
    go_wp2
    go_ret
    exact ⟨by simp [h1], rfl⟩

theorem Src.frG {S : List Nat} {w w' : World} {sb so : Nat} {cs : List Int} (h : Src w sb so cs) (hf : Fr S w w') (hs : ¬ sb ∈ S) : Src w' sb so cs := fun j hj => by
  have hc := h j hj
  rw [World.cell?_of_block (w := w) (a := ⟨sb, so + j, none⟩) (hf.block sb (World.block_lt_of_cell? w _ hc) hs)]
  exact hc

set_option maxRecDepth 100000 in
set_option maxHeartbeats 1000000 in
theorem f21 (ra rb ca cb : Nat) (ps xs : List Int) (w : World) (ha : Src w ra 0 ps) (hb : Src w rb 0 xs) (hp : ∀ k, k < ps.length → ps.getD k 0 = xs.getD k 0) (hle : ps.length ≤ xs.length) (hl : xs.length ≤ 4000000) :
    Calls Tryf.prog 21 #[.slice (some ⟨ra, 0, none⟩) ps.length ca, .slice (some ⟨rb, 0, none⟩) xs.length cb] w fun e w' => e = .returned (.bool true) ∧ Fr [] w w' := by
  have HA := hide ha
  have HB := hide hb
  have HP := hide hp
  have ht0 : decide ((xs.length : Int) < (ps.length : Int)) = false := by simp; omega
  clear ha hb hp
  go_enter Tryf.func21, Tryf.ntmps21
  go_wp2_with fail
  go_loopw [5] (fun i wr => ∃ k : Nat, k ≤ ps.length ∧ i = .int .i64 k ∧ Fr [] w wr) (fun i _ => ps.length - (intOf i).toNat)
  case atStart => exact ⟨0, Nat.zero_le _, rfl, Fr.refl _ _⟩
  case round =>
    obtain ⟨k, hk, rfl, hf⟩ := hrel
    by_cases hlt : k < ps.length
    · have ht : decide ((k : Int) < (ps.length : Int)) = true := by simp; omega
      have hlx : (k : Int) < (xs.length : Int) := by omega
      obtain ⟨x, hx⟩ : ∃ x, x = ps.getD k 0 := ⟨_, rfl⟩
      have c1 := (HA.out.frG hf (by simp)) k hlt
      have c2 := (HB.out.frG hf (by simp)) k (by omega)
      rw [← HP.out k hlt, ← hx] at c2
      rw [← hx] at c1
      rw [Nat.zero_add] at c1 c2
      have HF := hide hf
      clear hf hx
      go_wp2_with fail
      go_region
      go_wp2_with fail
      go_roundw
      case rel => exact ⟨k + 1, by omega, by go_num, HF.out.drew⟩
      case measure => simp [intOf]; omega
    · have ht : decide ((k : Int) < (ps.length : Int)) = false := by simp; omega
      have HF := hide hf
      clear hf
      go_wp2_with fail
      go_ret
      exact ⟨rfl, HF.out⟩
end Go.Proofs.Qxb6616725aFmt
