/-
  THE WALKS, 4: the message told; the law.
-/
import Derived.Test.Qxb6616690aFmtW2
import Derived.Test.Qxb6616690aFmtW3
import Derived.Stop.JoinedTold
import Derived.Stop.FmtTextKit
import Derived.Stop.FmtTextVerbs
import Derived.Stop.Told
namespace Go.Proofs.Qxb6616690aFmt
open Go.RowKit Go.Kit Go.Extern.Stop Go.Stop Go.Extern
set_option linter.unusedVariables false

theorem f9 (F : Interp) (g : Nat) (path txt : ByteArray) (line : Int) (hasErr : Bool) (w : World) (hF : F.answers w.tape) (hg : g < w.heap.size) (h : FE w g path line hasErr txt) :
    Calls Tryf.prog 9 #[.pointer (some ⟨g, 0, none⟩)] w fun e w' => e = .returned (.string (FmtStop.textOf (F "fmt.Sprintf" (reading path.data.toList line hasErr txt.data.toList) 0))) ∧ Below w.heap.size w w' := by
  by_cases hl : line = 0
  · subst hl
    cases hasErr
    · exact f9_00 F g path txt w hF hg h
    · exact f9_01 F g path txt w hF hg h
  · cases hasErr
    · exact f9_10 F g path txt line hl w hF hg h
    · exact f9_11 F g path txt line hl w hF hg h

set_option maxHeartbeats 400000 in
theorem f8 (txt : ByteArray) (w : World) : Calls Tryf.prog 8 #[.string txt] w fun e w' => e = .returned (.iface 32 (.pointer (some ⟨w.heap.size, 0, none⟩))) ∧ w' = w.alloc (.cells #[.string txt] 34) := by
  go_enter Tryf.func8, Tryf.ntmps8
  go_wp2_with fail
  go_ret
  exact ⟨rfl, rfl⟩

set_option maxHeartbeats 400000 in
theorem f5_nil (F : Interp) (path txt : ByteArray) (line : Int) (w : World) (hF : F.answers w.tape) :
    Calls Tryf.prog 5 #[.string path, .int .i64 line, .bool false, .string txt] w fun e w' => e = .returned (.string (FmtStop.textOf (F "fmt.Sprintf" (reading path.data.toList line false txt.data.toList) 0))) ∧ Below w.heap.size w w' := by
  have hfe : FE (w.alloc (.cells #[.string path, .int .i64 line, .nilIface] 29)) w.heap.size path line false txt := ⟨by simp [go_sem], by simp [go_sem], (fun _ => by simp [go_sem]), (fun h => by cases h)⟩
  have HP := hide (f9 F w.heap.size path txt line false (w.alloc (.cells #[.string path, .int .i64 line, .nilIface] 29)) hF (by simp) hfe)
  go_enter Tryf.func5, Tryf.ntmps5
  go_wp2_with fail
  refine HP.out.mono ?_
  rintro e w1 ⟨rfl, hb1⟩
  have hb : Below w.heap.size w w1 := ((Below.refl _ w).alloc (Nat.le_refl _) _).trans (hb1.mono (by simp))
  clear HP hb1
  go_wp2_with fail
  go_ret
  exact ⟨rfl, hb⟩

set_option maxHeartbeats 400000 in
theorem f5_err (F : Interp) (path txt : ByteArray) (line : Int) (w : World) (hF : F.answers w.tape) :
    Calls Tryf.prog 5 #[.string path, .int .i64 line, .bool true, .string txt] w fun e w' => e = .returned (.string (FmtStop.textOf (F "fmt.Sprintf" (reading path.data.toList line true txt.data.toList) 0))) ∧ Below w.heap.size w w' := by
  have hfe : FE ((w.alloc (.cells #[.string path, .int .i64 line, .iface 32 (.pointer (some ⟨w.heap.size + 1, 0, none⟩))] 29)).alloc (.cells #[.string txt] 34)) w.heap.size path line true txt :=
    ⟨by simp [go_sem], by simp [go_sem], (fun h => by cases h), fun _ => ⟨w.heap.size + 1, by simp, by simp [go_sem], by simp [go_sem]⟩⟩
  have HP := hide (f9 F w.heap.size path txt line true ((w.alloc (.cells #[.string path, .int .i64 line, .iface 32 (.pointer (some ⟨w.heap.size + 1, 0, none⟩))] 29)).alloc (.cells #[.string txt] 34)) hF (by simp; omega) hfe)
  go_enter Tryf.func5, Tryf.ntmps5
  go_wp2_with fail
  refine (f8 txt _).mono ?_
  rintro e w1 ⟨rfl, rfl⟩
  go_wp2_with fail
  refine HP.out.mono ?_
  rintro e w1 ⟨rfl, hb1⟩
  have hb : Below w.heap.size w w1 := (((Below.refl _ w).alloc (Nat.le_refl _) _).alloc (by simp) _).trans (hb1.mono (by simp; omega))
  clear HP hb1
  go_wp2_with fail
  go_ret
  exact ⟨rfl, hb⟩

/-- The cause's text. -/
def cause (hasErr : Bool) (txt : List UInt8) : List UInt8 := if hasErr = true then txt else [60, 110, 105, 108, 62]

theorem parse0 : (FmtText.parse [37, 115, 58, 32, 37, 118]).map FmtText.glue = some [.verb {} 115, .lit [58, 32], .verb {} 118] := by rfl
theorem parse1 : (FmtText.parse [37, 115, 58, 37, 100, 58, 32, 37, 118]).map FmtText.glue = some [.verb {} 115, .lit [58], .verb {} 100, .lit [58, 32], .verb {} 118] := by rfl

/-- WHAT fmt WRITES. -/
theorem t_text (path txt : List UInt8) (line : Int) (hasErr : Bool) (hp : path.length < 2 ^ 64) (hw : (Lit.int .i64 line).wf = true) :
    FmtText.text "fmt.Sprintf" (reading path line hasErr txt) = some (Pl.msg path line (cause hasErr txt)) := by
  have hn := FmtText.operand_str_at (sh := shape9) rfl rfl path hp
  have hi := FmtText.operand_int_at (sh := shape3) (k := .i64) rfl rfl line hw
  have he := FmtText.operand_plain_at (sh := plain32) rfl (FmtText.unpack_pack _ (by decide)) txt
  have e64 : (2 : Int) ^ 64 = 18446744073709551616 := by decide
  by_cases hl : line = 0
  · subst hl
    cases hasErr
    · rw [reading_00, FmtText.text_sprintf_glued parse0 (FmtText.operands_cons hn (FmtText.operands_cons FmtText.operand_nil FmtText.operands_nil))]
      simp [FmtText.render, FmtText.printArg_s_str, FmtText.printArg_v_nil, Pl.msg, cause]
    · rw [reading_01, FmtText.text_sprintf_glued parse0 (FmtText.operands_cons hn (FmtText.operands_cons he FmtText.operands_nil))]
      simp [FmtText.render, FmtText.printArg_s_str, FmtText.printArg_v_said, Pl.msg, cause]
  · cases hasErr
    · rw [reading_10 _ _ hl, e64, FmtText.text_sprintf_glued parse1 (FmtText.operands_cons hn (FmtText.operands_cons hi (FmtText.operands_cons FmtText.operand_nil FmtText.operands_nil)))]
      simp [FmtText.render, FmtText.printArg_s_str, FmtText.printArg_d _ _ hw, FmtText.printArg_v_nil, Pl.msg, cause, hl]
    · rw [reading_11 _ _ hl, e64, FmtText.text_sprintf_glued parse1 (FmtText.operands_cons hn (FmtText.operands_cons hi (FmtText.operands_cons he FmtText.operands_nil)))]
      simp [FmtText.render, FmtText.printArg_s_str, FmtText.printArg_d _ _ hw, FmtText.printArg_v_said, Pl.msg, cause, hl]

theorem msg_len (path txt : List UInt8) (line : Int) (hasErr : Bool) (hw : (Lit.int .i64 line).wf = true) : (Pl.msg path line (cause hasErr txt)).length ≤ path.length + txt.length + 29 := by
  have h1 := FmtText.itoa_length_le hw
  have h2 : (cause hasErr txt).length ≤ txt.length + 5 := by unfold cause; split <;> simp
  unfold Pl.msg
  split <;> simp <;> omega

/-- ZZfileErrorText, fmt's text told. -/
theorem f5 (F : Interp) (path txt : ByteArray) (line : Int) (hasErr : Bool) (w : World) (hF : F.told.answers w.tape) (hp : path.size ≤ 1048576) (ht : txt.size ≤ 1048576) (hw : (Lit.int .i64 line).wf = true) :
    Calls Tryf.prog 5 #[.string path, .int .i64 line, .bool hasErr, .string txt] w fun e w' => ∃ m : ByteArray, e = .returned (.string m) ∧ m.data.toList = Pl.msg path.data.toList line (cause hasErr txt.data.toList) ∧ Below w.heap.size w w' := by
  have lp : path.data.toList.length = path.size := by simp
  have lt : txt.data.toList.length = txt.size := by simp
  have hl := msg_len path.data.toList txt.data.toList line hasErr hw
  have htold := told_string F (t_text path.data.toList txt.data.toList line hasErr (by omega) hw) (by omega)
  have key : Calls Tryf.prog 5 #[.string path, .int .i64 line, .bool hasErr, .string txt] w fun e w' => e = .returned (.string (FmtStop.textOf (F.told "fmt.Sprintf" (reading path.data.toList line hasErr txt.data.toList) 0))) ∧ Below w.heap.size w w' := by
    cases hasErr
    · exact f5_nil F.told path txt line w hF
    · exact f5_err F.told path txt line w hF
  refine key.mono ?_
  rintro e w' ⟨rfl, hb⟩
  exact ⟨_, rfl, by rw [textOf_list, htold], hb⟩

theorem get_list (s : ByteArray) (k : Nat) (h : k < s.size) (h' : k < s.data.toList.length) : s[k] = s.data.toList[k] := by simp; rfl
theorem pre_get {m p : ByteArray} {r : List UInt8} (h : m.data.toList = p.data.toList ++ r) : p.size ≤ m.size ∧ ∀ (k : Nat) (hk : k < p.size) (hm : k < m.size), m[k] = p[k] := by
  have hl := congrArg List.length h
  simp at hl
  refine ⟨by omega, fun k hk hm => ?_⟩
  rw [get_list m k hm (by simpa using hm), get_list p k hk (by simpa using hk)]
  simp only [h]
  rw [List.getElem_append_left]
theorem suf_get {m p : ByteArray} {r : List UInt8} (h : m.data.toList = r ++ p.data.toList) : p.size + r.length = m.size ∧ ∀ (k : Nat) (hk : k < p.size) (hm : r.length + k < m.size), m[r.length + k] = p[k] := by
  have hl := congrArg List.length h
  simp at hl
  refine ⟨by omega, fun k hk hm => ?_⟩
  rw [get_list m _ hm (by simpa using hm), get_list p k hk (by simpa using hk)]
  simp only [h]
  rw [List.getElem_append_right (by omega)]
  simp

/-- ": " and the cause. -/
theorem tail_list (c : ByteArray) : ((⟨#[58, 32]⟩ : ByteArray) ++ c).data.toList = [58, 32] ++ c.data.toList := by simp
/-- A message ends so. -/
theorem suffix_of (m c : ByteArray) (path cs : List UInt8) (line : Int) (h : m.data.toList = Pl.msg path line cs) (hc : c.data.toList = cs) :
    ∃ k, ((⟨#[58, 32]⟩ : ByteArray) ++ c).size + k = m.size ∧ ∀ (j : Nat) (hj : j < ((⟨#[58, 32]⟩ : ByteArray) ++ c).size) (hm : k + j < m.size), m[k + j] = ((⟨#[58, 32]⟩ : ByteArray) ++ c)[j] := by
  obtain ⟨r, er⟩ := Pl.msg_suffix path line cs
  have : m.data.toList = r ++ ((⟨#[58, 32]⟩ : ByteArray) ++ c).data.toList := by rw [h, er, tail_list, hc]
  obtain ⟨g1, g2⟩ := suf_get this
  exact ⟨r.length, g1, g2⟩
theorem msg_size (m path txt : ByteArray) (line : Int) (hasErr : Bool) (hw : (Lit.int .i64 line).wf = true) (h : m.data.toList = Pl.msg path.data.toList line (cause hasErr txt.data.toList)) (hs : path.size + txt.size ≤ 1048576) : m.size ≤ 1048676 := by
  have h1 := congrArg List.length h
  have h2 := msg_len path.data.toList txt.data.toList line hasErr hw
  simp at h1 h2
  omega
theorem apart (a b : ByteArray) (path c : List UInt8) (l1 l2 : Int) (h1 : a.data.toList = Pl.msg path l1 c) (h2 : b.data.toList = Pl.msg path l2 c) : ((l1 == l2) == (a.toList == b.toList)) = true := by
  rw [ByteArray.toList_eq, ByteArray.toList_eq, h1, h2]
  by_cases h : l1 = l2
  · subst h
    simp
  · have h' : ¬ Pl.msg path l1 c = Pl.msg path l2 c := fun e => h (Pl.msg_apart _ _ _ _ e)
    rw [beq_eq_false_iff_ne.2 h, beq_eq_false_iff_ne.2 h']
    rfl

theorem below_drewN' (B : Nat) (w : World) (n : Nat) : Below B w (w.drewN n) := ⟨rfl, rfl, rfl, Nat.le_refl _, fun _ _ => rfl⟩

set_option maxHeartbeats 1000000 in
theorem law_nil (F : Interp) (path txt : ByteArray) (l1 l2 : Int) (w : World) (hF : F.told.answers w.tape) (m1 : path.size ≤ maxLen) (m2 : txt.size ≤ maxLen) (w1 : (Lit.int .i64 l1).wf = true) (w2 : (Lit.int .i64 l2).wf = true) :
    Calls Tryf.prog 3 #[.string path, .int .i64 l1, .int .i64 l2, .bool false, .string txt] w fun e w' => e = .returned (.bool true) ∧ Below w.heap.size w w' := by
  have HF4 := hide (f4 path txt l1 l2 false w m1 m2)
  unfold maxLen at m1 m2
  by_cases hsum : path.size + txt.size ≤ 1048576
  · have s1 : decide (path.size + txt.size ≤ 1048576) = true := decide_eq_true hsum
    rw [s1] at HF4
    clear s1
    by_cases hbig : 524288 < path.size
    · go_enter Tryf.func3, Tryf.ntmps3
      go_wp2_with fail
      refine HF4.out.mono ?_
      rintro e wx ⟨rfl, rfl⟩
      go_wp2_with fail
      go_ret
      exact ⟨rfl, Below.refl _ _⟩
    by_cases hbig2 : 524288 < txt.size
    · go_enter Tryf.func3, Tryf.ntmps3
      go_wp2_with fail
      refine HF4.out.mono ?_
      rintro e wx ⟨rfl, rfl⟩
      go_wp2_with fail
      go_ret
      exact ⟨rfl, Below.refl _ _⟩
    have d1 : decide ((524288 : Int) < (path.size : Int)) = false := decide_eq_false (by omega)
    have d2 : decide ((524288 : Int) < (txt.size : Int)) = false := decide_eq_false (by omega)
    have HA := hide (f5 F path txt l1 false w hF (by omega) (by omega) w1)
    go_enter Tryf.func3, Tryf.ntmps3
    go_wp2_with fail
    refine HF4.out.mono ?_
    rintro e wx ⟨rfl, rfl⟩
    go_wp2_with fail
    refine HA.out.mono ?_
    clear HA HF4
    rintro e w3 ⟨a, rfl, ha, hb3⟩
    have HB := hide (f5 F path txt l2 false w3 (by rw [hb3.tape]; exact hF) (by omega) (by omega) w2)
    have HAA := hide ha
    clear ha
    go_wp2_with fail
    refine HB.out.mono ?_
    clear HB
    rintro e w4 ⟨b, rfl, hb', hb4⟩
    have HBB := hide hb'
    clear hb'
    obtain ⟨r1, er1⟩ := Pl.msg_prefix path.data.toList l1 (cause false txt.data.toList)
    obtain ⟨r2, er2⟩ := Pl.msg_prefix path.data.toList l2 (cause false txt.data.toList)
    obtain ⟨pa, ga⟩ := pre_get (HAA.out.trans er1)
    obtain ⟨pb, gb⟩ := pre_get (HBB.out.trans er2)
    have hsa := msg_size a path txt l1 false w1 HAA.out hsum
    have hsb := msg_size b path txt l2 false w2 HBB.out hsum
    obtain ⟨k1, sa1, sa2⟩ := suffix_of a ⟨#[60, 110, 105, 108, 62]⟩ _ _ l1 HAA.out rfl
    obtain ⟨k2, sb1, sb2⟩ := suffix_of b ⟨#[60, 110, 105, 108, 62]⟩ _ _ l2 HBB.out rfl
    have H6 := hide (f6 a path w4 hsa pa (fun k h => ga k h _))
    have H7 := hide (fun w => f7_at a (⟨#[58, 32]⟩ ++ ⟨#[60, 110, 105, 108, 62]⟩) k1 w hsa sa1 sa2)
    have H6' := hide (fun w => f6 b path w hsb pb (fun k h => gb k h _))
    have H7' := hide (fun w => f7_at b (⟨#[58, 32]⟩ ++ ⟨#[60, 110, 105, 108, 62]⟩) k2 w hsb sb1 sb2)
    have hfin := apart a b _ _ l1 l2 HAA.out HBB.out
    clear ga gb sa1 sa2 sb1 sb2 er1 er2 pa pb
    have hb45 : Below wx.heap.size wx w4 := hb3.trans (hb4.mono hb3.size)
    go_wp2_with fail
    refine H6.out.mono ?_
    rintro e w5 ⟨rfl, n5, rfl⟩
    go_wp2_with fail
    refine (H7.out _).mono ?_
    rintro e w5 ⟨rfl, n6, rfl⟩
    go_wp2_with fail
    refine (H6'.out _).mono ?_
    rintro e w5 ⟨rfl, n7, rfl⟩
    go_wp2_with fail
    refine (H7'.out _).mono ?_
    rintro e w5 ⟨rfl, n8, rfl⟩
    clear H6 H7 H6' H7'
    go_wp2_with fail
    go_ret
    exact ⟨rfl, hb45.trans (below_drewN' _ _ _)⟩
  · have s1 : decide (path.size + txt.size ≤ 1048576) = false := decide_eq_false hsum
    rw [s1] at HF4
    clear s1
    go_enter Tryf.func3, Tryf.ntmps3
    go_wp2_with fail
    refine HF4.out.mono ?_
    rintro e wx ⟨rfl, rfl⟩
    go_wp2_with fail
    go_ret
    exact ⟨rfl, Below.refl _ _⟩

set_option maxHeartbeats 1000000 in
theorem law_err (F : Interp) (path txt : ByteArray) (l1 l2 : Int) (w : World) (hF : F.told.answers w.tape) (m1 : path.size ≤ maxLen) (m2 : txt.size ≤ maxLen) (w1 : (Lit.int .i64 l1).wf = true) (w2 : (Lit.int .i64 l2).wf = true) :
    Calls Tryf.prog 3 #[.string path, .int .i64 l1, .int .i64 l2, .bool true, .string txt] w fun e w' => e = .returned (.bool true) ∧ Below w.heap.size w w' := by
  have HF4 := hide (f4 path txt l1 l2 true w m1 m2)
  unfold maxLen at m1 m2
  by_cases hsum : path.size + txt.size ≤ 1048576
  · have s1 : decide (path.size + txt.size ≤ 1048576) = true := decide_eq_true hsum
    rw [s1] at HF4
    clear s1
    by_cases hbig : 524288 < path.size
    · go_enter Tryf.func3, Tryf.ntmps3
      go_wp2_with fail
      refine HF4.out.mono ?_
      rintro e wx ⟨rfl, rfl⟩
      go_wp2_with fail
      go_ret
      exact ⟨rfl, Below.refl _ _⟩
    by_cases hbig2 : 524288 < txt.size
    · go_enter Tryf.func3, Tryf.ntmps3
      go_wp2_with fail
      refine HF4.out.mono ?_
      rintro e wx ⟨rfl, rfl⟩
      go_wp2_with fail
      go_ret
      exact ⟨rfl, Below.refl _ _⟩
    have d1 : decide ((524288 : Int) < (path.size : Int)) = false := decide_eq_false (by omega)
    have d2 : decide ((524288 : Int) < (txt.size : Int)) = false := decide_eq_false (by omega)
    have HA := hide (f5 F path txt l1 true w hF (by omega) (by omega) w1)
    go_enter Tryf.func3, Tryf.ntmps3
    go_wp2_with fail
    refine HF4.out.mono ?_
    rintro e wx ⟨rfl, rfl⟩
    go_wp2_with fail
    refine HA.out.mono ?_
    clear HA HF4
    rintro e w3 ⟨a, rfl, ha, hb3⟩
    have HB := hide (f5 F path txt l2 true w3 (by rw [hb3.tape]; exact hF) (by omega) (by omega) w2)
    have HAA := hide ha
    clear ha
    go_wp2_with fail
    refine HB.out.mono ?_
    clear HB
    rintro e w4 ⟨b, rfl, hb', hb4⟩
    have HBB := hide hb'
    clear hb'
    obtain ⟨r1, er1⟩ := Pl.msg_prefix path.data.toList l1 (cause true txt.data.toList)
    obtain ⟨r2, er2⟩ := Pl.msg_prefix path.data.toList l2 (cause true txt.data.toList)
    obtain ⟨pa, ga⟩ := pre_get (HAA.out.trans er1)
    obtain ⟨pb, gb⟩ := pre_get (HBB.out.trans er2)
    have hsa := msg_size a path txt l1 true w1 HAA.out hsum
    have hsb := msg_size b path txt l2 true w2 HBB.out hsum
    obtain ⟨k1, sa1, sa2⟩ := suffix_of a txt _ _ l1 HAA.out rfl
    obtain ⟨k2, sb1, sb2⟩ := suffix_of b txt _ _ l2 HBB.out rfl
    have H6 := hide (f6 a path w4 hsa pa (fun k h => ga k h _))
    have H7 := hide (fun w => f7_at a (⟨#[58, 32]⟩ ++ txt) k1 w hsa sa1 sa2)
    have H6' := hide (fun w => f6 b path w hsb pb (fun k h => gb k h _))
    have H7' := hide (fun w => f7_at b (⟨#[58, 32]⟩ ++ txt) k2 w hsb sb1 sb2)
    have hfin := apart a b _ _ l1 l2 HAA.out HBB.out
    clear ga gb sa1 sa2 sb1 sb2 er1 er2 pa pb
    have hb45 : Below wx.heap.size wx w4 := hb3.trans (hb4.mono hb3.size)
    go_wp2_with fail
    refine H6.out.mono ?_
    rintro e w5 ⟨rfl, n5, rfl⟩
    go_wp2_with fail
    refine (H7.out _).mono ?_
    rintro e w5 ⟨rfl, n6, rfl⟩
    go_wp2_with fail
    refine (H6'.out _).mono ?_
    rintro e w5 ⟨rfl, n7, rfl⟩
    go_wp2_with fail
    refine (H7'.out _).mono ?_
    rintro e w5 ⟨rfl, n8, rfl⟩
    clear H6 H7 H6' H7'
    go_wp2_with fail
    go_ret
    exact ⟨rfl, hb45.trans (below_drewN' _ _ _)⟩
  · have s1 : decide (path.size + txt.size ≤ 1048576) = false := decide_eq_false hsum
    rw [s1] at HF4
    clear s1
    go_enter Tryf.func3, Tryf.ntmps3
    go_wp2_with fail
    refine HF4.out.mono ?_
    rintro e wx ⟨rfl, rfl⟩
    go_wp2_with fail
    go_ret
    exact ⟨rfl, Below.refl _ _⟩

end Go.Proofs.Qxb6616690aFmt
