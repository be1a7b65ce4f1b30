/-
  THE WALKS OF THE MODEL's HEADER: zzPut32, zzPut16, zzModelHeader.
-/
import Derived.Test.Qxb6616725aFmtRows
import Derived.WalkKit
import Derived.WalkSpells
import Derived.WalkLawsBesides
import Derived.BigCall
import Derived.BigGuard
namespace Go.Proofs.Qxb6616725aFmt
open Go.RowKit
set_option linter.unusedVariables false

theorem hide {p : Prop} (h : p) : Hid p := h
theorem info5 : (Tryf.prog.info? 5).map (fun i => (i.zero, i.size, i.bytes)) = some (some (.int .u8 0), 1, 1) := by kernel_rfl

/-- Bytes as cells. -/
def by8 (xs : List Int) : List Value := xs.map (Value.int .u8)

theorem by8_app (xs ys : List Int) : by8 xs ++ by8 ys = by8 (xs ++ ys) := (List.map_append ..).symm
theorem by8_len (xs : List Int) : (by8 xs).length = xs.length := by simp [by8]
theorem by8_one (xs : List Int) : ∀ u ∈ by8 xs, u.oneCell' = true := by
  intro u hu
  simp only [by8, List.mem_map] at hu
  obtain ⟨x, _, rfl⟩ := hu
  rfl
theorem by8_get (xs : List Int) (j : Nat) (u : Value) (h : (by8 xs)[j]? = some u) : j < xs.length ∧ u = .int .u8 (xs.getD j 0) := by
  have hj : j < (by8 xs).length := by
    by_cases hj : j < (by8 xs).length
    · exact hj
    · rw [List.getElem?_eq_none (by omega)] at h; cases h
  rw [by8_len] at hj
  refine ⟨hj, ?_⟩
  simp only [by8, List.getElem?_map, List.getElem?_eq_getElem hj, Option.map_some, Option.some.injEq] at h
  rw [← h]
  simp [List.getD, List.getElem?_eq_getElem hj]

/-- The four bytes of a number, in the order asked for. -/
def put32 (big : Bool) (v : Int) : List Int := if big = true then [v / 16777216, v / 65536 % 256, v / 256 % 256, v % 256] else [v % 256, v / 256 % 256, v / 65536 % 256, v / 16777216]
def put16 (big : Bool) (v : Int) : List Int := if big = true then [v / 256, v % 256] else [v % 256, v / 256]
theorem put32_len (big : Bool) (v : Int) : (put32 big v).length = 4 := by cases big <;> rfl
theorem put16_len (big : Bool) (v : Int) : (put16 big v).length = 2 := by cases big <;> rfl

/-- Behind an append: what lies below B stands; old rows of others stand. -/
theorem grown_below {B : Nat} {w w1 : World} {sv : Value} {n : Nat} {xs : List Value} (o : Obj) (hB : B ≤ w.heap.size) (hown : w.ownsRow B 5 1 sv n xs) (hg : (w.alloc o).grownBy w1 sv.ownBlock) : Below B w w1 :=
  ((Below.refl B w).alloc hB o).grown hg (by simp; omega) (fun k hk => (hown.lt k hk).1)

set_option maxRecDepth 100000 in
set_option maxHeartbeats 1000000 in
theorem f24 (B : Nat) (big : Bool) (v : Int) (sv : Value) (n : Nat) (xs : List Int) (w : World) (h0 : 0 ≤ v) (h1 : v < 4294967296) (hown : w.ownsRow B 5 1 sv n (by8 xs)) (hB : B ≤ w.heap.size) (hn : n ≤ 2000000) :
    Calls Tryf.prog 24 #[sv, .bool big, .int .u32 v] w fun e w' => ∃ sv', e = .returned sv' ∧ w'.ownsRow B 5 1 sv' (n + 4) (by8 (xs ++ put32 big v)) ∧ Below B w w' := by
  obtain ⟨i0, hi, hz0, hz1, hz2⟩ := info_parts info5
  cases big
  · go_enter Tryf.func24, Tryf.ntmps24
    go_wp2_with (at_builtin; refine wpList_append_own _ rfl _ _ 23 rfl B 5 i0 (.int .u8 0) 1 1 Tryf.underlying23 hi hz0 hz1 hz2 rfl (by decide) _ _ _ rfl (hown.alloc _) ⟨w.heap.size, 0, none⟩ 4 4 (by8 (put32 false v)) rfl rfl ?c1 (by8_one _) ?c3 ?c4 ?c5 ?_)
    case c1 =>
      intro j u hj
      obtain ⟨hk, rfl⟩ := by8_get _ _ _ hj
      clear hj
      rw [put32_len] at hk
      match j, hk with
      | 0, _ => simp [Addr.add, put32]
      | 1, _ => simp [Addr.add, put32]
      | 2, _ => simp [Addr.add, put32]
      | 3, _ => simp [Addr.add, put32]
    case c3 => unfold maxLen; omega
    case c4 => omega
    case c5 => simp; omega
    intro sv' w1 hown' hgrow _
    rw [by8_app] at hown'
    have hb := grown_below _ hB hown hgrow
    clear hgrow hown
    have H := hide hown'
    clear hown'
    go_wp2
    go_ret
    exact ⟨sv', rfl, H.out, hb⟩
  · go_enter Tryf.func24, Tryf.ntmps24
    go_wp2_with (at_builtin; refine wpList_append_own _ rfl _ _ 23 rfl B 5 i0 (.int .u8 0) 1 1 Tryf.underlying23 hi hz0 hz1 hz2 rfl (by decide) _ _ _ rfl (hown.alloc _) ⟨w.heap.size, 0, none⟩ 4 4 (by8 (put32 true v)) rfl rfl ?c1 (by8_one _) ?c3 ?c4 ?c5 ?_)
    case c1 =>
      intro j u hj
      obtain ⟨hk, rfl⟩ := by8_get _ _ _ hj
      clear hj
      rw [put32_len] at hk
      match j, hk with
      | 0, _ => simp [Addr.add, put32]
      | 1, _ => simp [Addr.add, put32]
      | 2, _ => simp [Addr.add, put32]
      | 3, _ => simp [Addr.add, put32]
    case c3 => unfold maxLen; omega
    case c4 => omega
    case c5 => simp; omega
    intro sv' w1 hown' hgrow _
    rw [by8_app] at hown'
    have hb := grown_below _ hB hown hgrow
    clear hgrow hown
    have H := hide hown'
    clear hown'
    go_wp2
    go_ret
    exact ⟨sv', rfl, H.out, hb⟩

set_option maxRecDepth 100000 in
set_option maxHeartbeats 1000000 in
theorem f25 (B : Nat) (big : Bool) (v : Int) (sv : Value) (n : Nat) (xs : List Int) (w : World) (h0 : 0 ≤ v) (h1 : v < 65536) (hown : w.ownsRow B 5 1 sv n (by8 xs)) (hB : B ≤ w.heap.size) (hn : n ≤ 2000000) :
    Calls Tryf.prog 25 #[sv, .bool big, .int .u16 v] w fun e w' => ∃ sv', e = .returned sv' ∧ w'.ownsRow B 5 1 sv' (n + 2) (by8 (xs ++ put16 big v)) ∧ Below B w w' := by
  obtain ⟨i0, hi, hz0, hz1, hz2⟩ := info_parts info5
  cases big
  · go_enter Tryf.func25, Tryf.ntmps25
    go_wp2_with (at_builtin; refine wpList_append_own _ rfl _ _ 23 rfl B 5 i0 (.int .u8 0) 1 1 Tryf.underlying23 hi hz0 hz1 hz2 rfl (by decide) _ _ _ rfl (hown.alloc _) ⟨w.heap.size, 0, none⟩ 2 2 (by8 (put16 false v)) rfl rfl ?c1 (by8_one _) ?c3 ?c4 ?c5 ?_)
    case c1 =>
      intro j u hj
      obtain ⟨hk, rfl⟩ := by8_get _ _ _ hj
      clear hj
      rw [put16_len] at hk
      match j, hk with
      | 0, _ => simp [Addr.add, put16]
      | 1, _ => simp [Addr.add, put16]
    case c3 => unfold maxLen; omega
    case c4 => omega
    case c5 => simp; omega
    intro sv' w1 hown' hgrow _
    rw [by8_app] at hown'
    have hb := grown_below _ hB hown hgrow
    clear hgrow hown
    have H := hide hown'
    clear hown'
    go_wp2
    go_ret
    exact ⟨sv', rfl, H.out, hb⟩
  · go_enter Tryf.func25, Tryf.ntmps25
    go_wp2_with (at_builtin; refine wpList_append_own _ rfl _ _ 23 rfl B 5 i0 (.int .u8 0) 1 1 Tryf.underlying23 hi hz0 hz1 hz2 rfl (by decide) _ _ _ rfl (hown.alloc _) ⟨w.heap.size, 0, none⟩ 2 2 (by8 (put16 true v)) rfl rfl ?c1 (by8_one _) ?c3 ?c4 ?c5 ?_)
    case c1 =>
      intro j u hj
      obtain ⟨hk, rfl⟩ := by8_get _ _ _ hj
      clear hj
      rw [put16_len] at hk
      match j, hk with
      | 0, _ => simp [Addr.add, put16]
      | 1, _ => simp [Addr.add, put16]
    case c3 => unfold maxLen; omega
    case c4 => omega
    case c5 => simp; omega
    intro sv' w1 hown' hgrow _
    rw [by8_app] at hown'
    have hb := grown_below _ hB hown hgrow
    clear hgrow hown
    have H := hide hown'
    clear hown'
    go_wp2
    go_ret
    exact ⟨sv', rfl, H.out, hb⟩

/-- The header's bytes. -/
def mag (nano : Bool) : Int := if nano = true then 2712812621 else 2712847316
def hdr (big nano : Bool) (snap link : Int) : List Int := ((((((put32 big (mag nano)) ++ put16 big 2) ++ put16 big 4) ++ put32 big 0) ++ put32 big 0) ++ put32 big snap) ++ put32 big link
theorem hdr_len (big nano : Bool) (snap link : Int) : (hdr big nano snap link).length = 24 := by simp [hdr, put32_len, put16_len]
theorem mag_lo (nano : Bool) : 0 ≤ mag nano := by cases nano <;> decide
theorem mag_hi (nano : Bool) : mag nano < 4294967296 := by cases nano <;> decide

set_option maxRecDepth 100000 in
set_option maxHeartbeats 1000000 in
/-- zzModelHeader. -/
theorem f7 (big nano : Bool) (snap link : Int) (w : World) (s0 : 0 ≤ snap) (s1 : snap < 4294967296) (l0 : 0 ≤ link) (l1 : link < 4294967296) :
    Calls Tryf.prog 7 #[.bool big, .bool nano, .int .u32 snap, .int .u32 link] w fun e w' => ∃ sv, e = .returned sv ∧ w'.ownsRow w.heap.size 5 1 sv 24 (by8 (hdr big nano snap link)) ∧ Below w.heap.size w w' := by
  have P24 := hide (fun v sv n xs w' h0 h1 => f24 w.heap.size big v sv n xs w' h0 h1)
  have P25 := hide (fun v sv n xs w' h0 h1 => f25 w.heap.size big v sv n xs w' h0 h1)
  obtain ⟨i0, hi, hz0, hz1, hz2⟩ := info_parts info5
  obtain ⟨w1, hmk, hown, hg⟩ := run_make_own (P := Tryf.prog) w w.heap.size 23 5 i0 (.int .u8 0) 1 Tryf.underlying23 hi hz0 hz1 .i64 .i64 24 (by omega) (by decide) (Nat.le_refl _)
  have hb : Below w.heap.size w w1 := (Below.refl _ w).grown hg (Nat.le_refl _) (fun k hk => by cases hk)
  replace hmk : (Instr.makeSlice 23 (.int .i64 0) (.int .i64 24)).run Tryf.prog w = .ok (.slice (some ⟨w.heap.size, 0, none⟩) 0 24) w1 := hmk
  have H0 := hide hown
  have hsz := hb.size
  clear hown hg hi hz0 hz1 hz2
  cases nano
  · go_enter Tryf.func7, Tryf.ntmps7
    go_wp2_with fail
    refine (P24.out (mag false) _ 0 [] w1 (mag_lo _) (mag_hi _) H0.out (by omega) (by omega)).mono ?_
    rintro e w2 ⟨v2, rfl, o2, b2⟩
    replace hb := hb.trans b2
    have H2 := hide o2
    clear o2 b2
    go_wp2_with fail
    refine (P25.out 2 _ _ _ w2 (by decide) (by decide) H2.out hb.size (by omega)).mono ?_
    rintro e w3 ⟨v3, rfl, o3, b3⟩
    replace hb := hb.trans b3
    have H3 := hide o3
    clear o3 b3
    go_wp2_with fail
    refine (P25.out 4 _ _ _ w3 (by decide) (by decide) H3.out hb.size (by omega)).mono ?_
    rintro e w4 ⟨v4, rfl, o4, b4⟩
    replace hb := hb.trans b4
    have H4 := hide o4
    clear o4 b4
    go_wp2_with fail
    refine (P24.out 0 _ _ _ w4 (by decide) (by decide) H4.out hb.size (by omega)).mono ?_
    rintro e w5 ⟨v5, rfl, o5, b5⟩
    replace hb := hb.trans b5
    have H5 := hide o5
    clear o5 b5
    go_wp2_with fail
    refine (P24.out 0 _ _ _ w5 (by decide) (by decide) H5.out hb.size (by omega)).mono ?_
    rintro e w6 ⟨v6, rfl, o6, b6⟩
    replace hb := hb.trans b6
    have H6 := hide o6
    clear o6 b6
    go_wp2_with fail
    refine (P24.out snap _ _ _ w6 s0 s1 H6.out hb.size (by omega)).mono ?_
    rintro e w7 ⟨v7, rfl, o7, b7⟩
    replace hb := hb.trans b7
    have H7 := hide o7
    clear o7 b7
    go_wp2_with fail
    refine (P24.out link _ _ _ w7 l0 l1 H7.out hb.size (by omega)).mono ?_
    rintro e w8 ⟨v8, rfl, o8, b8⟩
    replace hb := hb.trans b8
    have H8 := hide o8
    clear o8 b8
    go_wp2_with fail
    go_ret
    exact ⟨v8, rfl, H8.out, hb⟩
  · go_enter Tryf.func7, Tryf.ntmps7
    go_wp2_with fail
    refine (P24.out (mag true) _ 0 [] w1 (mag_lo _) (mag_hi _) H0.out (by omega) (by omega)).mono ?_
    rintro e w2 ⟨v2, rfl, o2, b2⟩
    replace hb := hb.trans b2
    have H2 := hide o2
    clear o2 b2
    go_wp2_with fail
    refine (P25.out 2 _ _ _ w2 (by decide) (by decide) H2.out hb.size (by omega)).mono ?_
    rintro e w3 ⟨v3, rfl, o3, b3⟩
    replace hb := hb.trans b3
    have H3 := hide o3
    clear o3 b3
    go_wp2_with fail
    refine (P25.out 4 _ _ _ w3 (by decide) (by decide) H3.out hb.size (by omega)).mono ?_
    rintro e w4 ⟨v4, rfl, o4, b4⟩
    replace hb := hb.trans b4
    have H4 := hide o4
    clear o4 b4
    go_wp2_with fail
    refine (P24.out 0 _ _ _ w4 (by decide) (by decide) H4.out hb.size (by omega)).mono ?_
    rintro e w5 ⟨v5, rfl, o5, b5⟩
    replace hb := hb.trans b5
    have H5 := hide o5
    clear o5 b5
    go_wp2_with fail
    refine (P24.out 0 _ _ _ w5 (by decide) (by decide) H5.out hb.size (by omega)).mono ?_
    rintro e w6 ⟨v6, rfl, o6, b6⟩
    replace hb := hb.trans b6
    have H6 := hide o6
    clear o6 b6
    go_wp2_with fail
    refine (P24.out snap _ _ _ w6 s0 s1 H6.out hb.size (by omega)).mono ?_
    rintro e w7 ⟨v7, rfl, o7, b7⟩
    replace hb := hb.trans b7
    have H7 := hide o7
    clear o7 b7
    go_wp2_with fail
    refine (P24.out link _ _ _ w7 l0 l1 H7.out hb.size (by omega)).mono ?_
    rintro e w8 ⟨v8, rfl, o8, b8⟩
    replace hb := hb.trans b8
    have H8 := hide o8
    clear o8 b8
    go_wp2_with fail
    go_ret
    exact ⟨v8, rfl, H8.out, hb⟩
end Go.Proofs.Qxb6616725aFmt
