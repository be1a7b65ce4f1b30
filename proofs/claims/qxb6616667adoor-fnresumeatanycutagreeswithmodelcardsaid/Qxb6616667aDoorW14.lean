/-
  THE WALKS, 14: the law itself.
-/
import Derived.Test.Qxb6616667aDoorW13
import Derived.Laws.CopyOwn
import Derived.WideMake
namespace Go.Proofs.Qxb6616667aDoor
open Go.RowKit
set_option linter.unusedVariables false

theorem info5 : (Tryd.prog.info? 5).map (fun i => (i.zero, i.size, i.bytes)) = some (some (.int .u8 0), 1, 1) := by kernel_rfl
theorem size5 : (Tryd.prog.info? 5).map (·.size) = some 1 := by kernel_rfl
/-- n zero bytes. -/
def zeros (n : Nat) : List Value := (madeCells #[.int .u8 0] n).toList
theorem zeros_len (n : Nat) : (zeros n).length = n := by simp [zeros, size_madeCells]
theorem mk_bytes (n : Nat) (hn : n ≤ 1048576) (w : World) : (Instr.makeSlice 22 (.int .i64 n) (.int .i64 n)).run Tryd.prog w = .ok (.slice (some ⟨w.heap.size, 0, none⟩) n n) (w.alloc (.cells (zeros n).toArray 5)) := by
  have h := info5
  cases hi : Tryd.prog.info? 5 with
  | none => rw [hi] at h; cases h
  | some i =>
    rw [hi] at h
    simp at h
    obtain ⟨h1, h2, h3⟩ := h
    have := run_make (P := Tryd.prog) w 22 5 i (.int .u8 0) Tryd.underlying22 hi h1 .i64 .i64 n n (by omega) (by omega) (by rw [h3]; omega) (by omega)
    rw [this, h2]
    simp [zeros, Value.cells]

theorem copy_src (w : World) (Z : List Value) (ad : Addr) (zs : List Int) (hb : BytesAt w.heap.size w (some ad) zs) (cs : List Value) (hcs : cs = zs.map (fun z => Value.int .u8 z)) (j : Nat) (v : Value) (hj : cs[j]? = some v) :
    (w.alloc (.cells Z.toArray 5)).cell? (ad.add j) = some v := by
  rw [hcs] at hj
  simp at hj
  obtain ⟨z, hj, rfl⟩ := hj
  have hjl : j < zs.length := (List.getElem?_eq_some_iff.1 hj).1
  obtain ⟨b, o, e, hbB, hcell⟩ := hb j hjl
  cases e
  have e2 : (Addr.add ⟨b, o, none⟩ j) = ⟨b, o + j, none⟩ := by simp [Addr.add]
  have hbl := (Below.refl w.heap.size w).alloc (Nat.le_refl _) (.cells Z.toArray 5)
  rw [e2, hbl.cell (p := ⟨b, o + j, none⟩) hbB, hcell]
  simp [hj]
theorem copy_done (w w3 : World) (g : Nat) (Z : List Value) (zs : List Int) (n : Nat) (hn : zs.length = n) (hz : Z.length = n) (cs : List Value) (hcs : cs = zs.map (fun z => Value.int .u8 z)) (hg : w3.heap[g]? = some (.cells (splice Z 0 cs).toArray 5 (0, 0))) : BytesAt w3.heap.size w3 (some ⟨g, 0, none⟩) zs := by
  have e : splice Z 0 cs = cs := by
    have : cs.length = Z.length := by rw [hcs, List.length_map, hn, hz]
    simp [splice, this]
  rw [e] at hg
  have hgl : g < w3.heap.size := by
    have := Array.getElem?_eq_some_iff.1 hg
    exact this.1
  intro j hj
  refine ⟨g, 0, rfl, hgl, ?_⟩
  rw [Nat.zero_add, cell_of_row w3 g j _ _ _ hg, hcs]
  simp [hj]

theorem heap_alloc_new (w : World) (o : Obj) : (w.alloc o).heap[w.heap.size]? = some o := by
  show (w.heap.push o)[w.heap.size]? = _
  rw [Array.getElem?_push, if_pos rfl]
/-- 'zzc := make([]byte, len(chunk)); copy(zzc, chunk)': the run of the copy. -/
theorem copy_run (w : World) (ad : Addr) (c n : Nat) (zs : List Int) (hn : zs.length = n) (hcap : n ≤ c) (hb : BytesAt w.heap.size w (some ad) zs) :
    ∃ w3, (Builtin.copy_ #[22, 22] 3 #[.slice (some ⟨w.heap.size, 0, none⟩) n n, .slice (some ad) n c]).run Tryd.prog (w.alloc (.cells (zeros n).toArray 5)) = .ok (.int .i64 n) w3 ∧
      BytesAt w3.heap.size w3 (some ⟨w.heap.size, 0, none⟩) zs ∧ Below w.heap.size w w3 := by
  have hba : Below w.heap.size w (w.alloc (.cells (zeros n).toArray 5)) := (Below.refl _ _).alloc (Nat.le_refl _) _
  have hg := heap_alloc_new w (.cells (zeros n).toArray 5)
  have hz := zeros_len n
  have hcl : (zs.map (fun z => Value.int .u8 z)).length = n := by rw [List.length_map, hn]
  have h1 : ∀ v ∈ zs.map (fun z => Value.int .u8 z), v.oneCell' = true := by
    intro v hv
    obtain ⟨z, _, rfl⟩ := List.mem_map.1 hv
    rfl
  have hrun := run_copy_row (P := Tryd.prog) (w.alloc (.cells (zeros n).toArray 5)) 22 22 3 5 w.heap.size 0 n n ad n c (zeros n).toArray 5 (zs.map (fun z => Value.int .u8 z)) Tryd.underlying22 size5 hg
    (by rw [hcl]; simp) (copy_src w (zeros n) ad zs hb _ rfl) (by rw [hcl]; simp [hz]) h1
  rw [hcl] at hrun
  refine ⟨_, hrun, ?_, below_setRow hba (Nat.le_refl _) _⟩
  refine copy_done w _ w.heap.size (zeros n) zs n hn hz _ rfl ?_
  have := setRow_heap (w.alloc (.cells (zeros n).toArray 5)) w.heap.size (zeros n).toArray ((zeros n).toArray.toList.take 0 ++ zs.map (fun z => Value.int .u8 z) ++ (zeros n).toArray.toList.drop (0 + n)).toArray 5 _ hg
  rw [this]
  simp [splice, hcl]

theorem f7x (B : Nat) (a : Option Addr) (c : Nat) (zs : List Int) (t : Nat) (l : Bool) (h num : Int) (lit : ByteArray) (r : R) (w : World) (hlen : zs.length ≤ 1048576) (hb : BytesAt B w a zs) (hr : Reach t l h num lit) (hm : model t l h num lit zs = r) :
    Calls Tryd.prog 7 #[.string (cutOf t), .bool l, .int .i64 h, .int .i64 num, .string lit, .slice a zs.length c] w fun e w' =>
      e = .returned (.tuple #[.int .i64 r.n, .bool r.ok, .string (cutOf r.ct), .bool r.l, .int .i64 r.h, .int .i64 r.num, .string r.lit]) ∧ ∃ n, w' = w.drewN n := by
  subst hm
  exact f7 B a c zs t l h num lit w hlen hb hr
theorem f9x (B g : Nat) (a : Option Addr) (c n : Nat) (zs : List Int) (t : Nat) (l : Bool) (h num : Int) (lit : ByteArray) (r : R) (w : World) (hn : zs.length = n) (hz : Byt zs) (hcap : n ≤ c) (hlen : n ≤ 1048576)
    (hB : 1 < B) (hBg : B ≤ g) (hgw : g < w.heap.size) (hb : BytesAt B w a zs) (hT : TabAt 1 Lib.deBruijn64tab w) (hs : Scan w g (cutOf t) l h num lit) (hr : Reach t l h num lit) (hm : model t l h num lit zs = r) :
    Calls Tryd.prog 9 #[.pointer (some ⟨g, 0, none⟩), .slice a n c] w fun e w' =>
      e = .returned (.tuple #[.int .i64 r.n, .bool r.ok]) ∧ Scan w' g (cutOf r.ct) r.l r.h r.num r.lit ∧ Below g w w' := by
  subst hm; subst hn
  exact f9 B g a c zs t l h num lit w hz hcap hlen hB hBg hgw hb hT hs hr

theorem tab_below {B : Nat} {w w' : World} (h : TabAt 1 Lib.deBruijn64tab w) (hb : Below B w w') (hB : 1 < B) : TabAt 1 Lib.deBruijn64tab w' := fun j hj => by
  rw [hb.cell (p := ⟨1, j, none⟩) hB]
  exact h j hj

theorem BytesAt.take {B : Nat} {w : World} {a : Option Addr} {zs : List Int} (h : BytesAt B w a zs) (q : Nat) : BytesAt B w a (zs.take q) := fun j hj => by
  have hj' : j < zs.length := by simp at hj; omega
  obtain ⟨b, o, e, hB, hc⟩ := h j hj'
  refine ⟨b, o, e, hB, ?_⟩
  rw [hc]
  have hjq : j < q := by simp at hj; omega
  simp [hjq]
theorem Byt.take {zs : List Int} (h : Byt zs) (q : Nat) : Byt (zs.take q) := fun z hz => h z (List.mem_of_mem_take hz)
theorem Byt.drop {zs : List Int} (h : Byt zs) (q : Nat) : Byt (zs.drop q) := fun z hz => h z (List.mem_of_mem_drop hz)
theorem cutOf_empty {t : Nat} (h : t ≤ 3) (h0 : t ≠ 0) : (cutOf t).toList.isEmpty = false := by
  rw [ByteArray.toList_eq]
  rcases (show t = 1 ∨ t = 2 ∨ t = 3 by omega) with rfl | rfl | rfl <;> rfl
theorem cutOf_num {t : Nat} (h : t = 2) : ((cutOf t).toList == [97, 32, 110, 117, 109, 98, 101, 114]) = true ∧ ((cutOf t).toList == [97, 32, 108, 105, 116, 101, 114, 97, 108]) = false := by
  subst h
  rw [ByteArray.toList_eq]
  exact ⟨rfl, rfl⟩
theorem cutOf_lit {t : Nat} (h : t = 3) : ((cutOf t).toList == [97, 32, 110, 117, 109, 98, 101, 114]) = false ∧ ((cutOf t).toList == [97, 32, 108, 105, 116, 101, 114, 97, 108]) = true := by
  subst h
  rw [ByteArray.toList_eq]
  exact ⟨rfl, rfl⟩
theorem cutOf_rest {t : Nat} (h : t ≤ 3) (h2 : t ≠ 2) (h3 : t ≠ 3) : ((cutOf t).toList == [97, 32, 110, 117, 109, 98, 101, 114]) = false ∧ ((cutOf t).toList == [97, 32, 108, 105, 116, 101, 114, 97, 108]) = false := by
  rcases (show t = 0 ∨ t = 1 by omega) with rfl | rfl <;> (rw [ByteArray.toList_eq]; exact ⟨rfl, rfl⟩)
theorem model_le (t : Nat) (l : Bool) (h num : Int) (lit : ByteArray) (zs : List Int) : (model t l h num lit zs).n ≤ zs.length := by
  have h1 := Pl.sm_le zs l h l h
  have h2 := Pl.nm_le zs num
  have h3 := Pl.lcp_le2 (ints lit) zs
  unfold model
  split
  · exact h1
  · split
    · split
      · exact Nat.le_refl _
      · exact h2
    · split
      · split
        · exact h3
        · split
          · exact h3
          · exact h3
      · exact Nat.zero_le _
theorem BytesAt.drop {B : Nat} {w : World} {a : Option Addr} {zs : List Int} (h : BytesAt B w a zs) (q : Nat) : BytesAt B w (Option.map (fun x => x.add q) a) (zs.drop q) := fun j hj => by
  have hj' : q + j < zs.length := by simp at hj; omega
  obtain ⟨b, o, e, hB, hc⟩ := h (q + j) hj'
  refine ⟨b, o + q, by rw [e]; simp [Addr.add], hB, ?_⟩
  rw [Nat.add_assoc, hc]
  simp
theorem BytesAt.none {B : Nat} {w : World} {a : Option Addr} {zs : List Int} (h : zs.length = 0) : BytesAt B w a zs := fun j hj => by omega
theorem cutOf_zero {t : Nat} (h0 : t = 0) : (cutOf t).toList.isEmpty = true := by
  subst h0
  rw [ByteArray.toList_eq]
  rfl

set_option maxRecDepth 100000 in
set_option maxHeartbeats 8000000 in
theorem law_walk (cut lit : ByteArray) (l : Bool) (h num : Int) (a : Option Addr) (c : Nat) (p : Int) (zs : List Int) (w : World) (hz : Byt zs) (hcap : zs.length ≤ c) (m1 : cut.size ≤ maxLen) (m2 : lit.size ≤ maxLen) (m3 : zs.length ≤ maxLen)
    (hB : 1 < w.heap.size) (hb : BytesAt w.heap.size w a zs) (hT : TabAt 1 Lib.deBruijn64tab w) (hp : p ≤ 9223372036854775807) :
    Calls Tryd.prog 3 #[.string cut, .bool l, .int .i64 h, .int .i64 num, .string lit, .slice a zs.length c, .int .i64 p] w fun e w' => e = .returned (.bool true) ∧ Below w.heap.size w w' := by
  have HF5 := hide (f5 cut lit l h num p a zs.length c w m1 m2 m3)
  unfold maxLen at m1 m2 m3
  by_cases hsum : cut.size + lit.size + zs.length ≤ 1048576
  · have HF6 := hide (f6 cut lit l h num w (by omega))
    have s1 : decide (cut.size + lit.size + zs.length ≤ 1048576) = true := decide_eq_true hsum
    rw [s1] at HF5
    clear s1
    by_cases hpp : 0 ≤ p ∧ p ≤ zs.length
    · obtain ⟨hp0, hpn⟩ := hpp
      obtain ⟨q, rfl⟩ := Int.eq_ofNat_of_zero_le hp0
      have hq : q ≤ zs.length := by omega
      have HB := hide hb
      have HT := hide hT
      clear hb hT
      go_enter Tryd.func3, Tryd.ntmps3
      go_wp2_with fail
      refine HF5.out.mono ?_
      rintro e w1 ⟨rfl, rfl⟩
      clear HF5
      go_wp2_with fail
      refine HF6.out.mono ?_
      rintro e w2 ⟨b, rfl, hreach, rfl⟩
      clear HF6
      cases b
      · go_wp2_with fail
        go_ret
        exact ⟨rfl, Below.refl _ _⟩
      · obtain ⟨t, rfl, hr⟩ := hreach rfl
        have HR := hide hr
        clear hr hreach
        have hsn := fun (w : World) => run_neq_slice_nil_any (P := Tryd.prog) w 22 5 a zs.length c 0 0 Tryd.underlying22
        go_upto_if 90 with fail
        clear hsn
        go_cut [5] (fun s wc => ∃ (a' : Option Addr) (c' : Nat), s = .slice a' zs.length c' ∧ zs.length ≤ c' ∧ BytesAt wc.heap.size wc a' zs ∧ Below w2.heap.size w2 wc)
        case first =>
          as_aux_lemma =>
            cases a with
            | none =>
              go_wp2_with fail
              go_meet
              case rel => exact ⟨none, c, rfl, hcap, HB.out, Below.refl _ _⟩
            | some ad =>
              have hmk := mk_bytes zs.length (by omega)
              obtain ⟨w3, hcp, hby, hB3⟩ := copy_run w2 ad c zs.length zs rfl hcap HB.out
              have HBY := hide hby
              clear hby
              generalize zeros zs.length = Z at hmk hcp
              go_wp2_with fail
              go_meet
              case rel => exact ⟨some ⟨w2.heap.size, 0, none⟩, zs.length, rfl, Nat.le_refl _, HBY.out, hB3⟩
        case rest =>
          as_aux_lemma =>
            obtain ⟨a', c', rfl, hc', hby, hbl⟩ := hcut
            have hB' : 1 < wc.heap.size := Nat.lt_of_lt_of_le hB hbl.size
            have HTC := hide (tab_below HT.out hbl hB)
            have HBY := hide hby
            clear HT HB hcap hby
            -- the model
            generalize hm : model t l h num lit zs = r
            have HM := hide hm
            clear hm
            have HP7 := hide (f7x wc.heap.size a' c' zs t l h num lit r wc (by omega) HBY.out HR.out HM.out)
            go_wp2_with fail
            refine HP7.out.mono ?_
            clear HP7
            rintro e w3 ⟨rfl, hw3⟩
            have hb3 : Below wc.heap.size wc w3 := by
              obtain ⟨k, rfl⟩ := hw3
              exact below_drewN' _ _ _
            clear hw3
            have hg1 : wc.heap.size ≤ w3.heap.size := hb3.size
            -- resume on the whole chunk
            have HP8 := hide (f8 (cutOf t) l h num lit w3)
            go_wp2_with fail
            refine HP8.out.mono ?_
            clear HP8
            rintro e w4 ⟨rfl, hs4, hb4, hg4⟩
            have hb34 : Below wc.heap.size wc w4 := hb3.trans (hb4.mono hg1)
            clear hb3 hb4
            generalize w3.heap.size = g1 at hs4 hg4 hg1 ⊢
            have HP9 := hide (f9x wc.heap.size g1 a' c' zs.length zs t l h num lit r w4 rfl hz hc' (by omega) hB' hg1 hg4 (HBY.out.below hb34) (tab_below HTC.out hb34 hB') hs4 HR.out HM.out)
            clear hs4
            go_wp2_with fail
            refine HP9.out.mono ?_
            clear HP9
            rintro e w5 ⟨rfl, hs5, hb5⟩
            have hb35 : Below wc.heap.size wc w5 := hb34.trans (hb5.mono hg1)
            have HP10 := hide (f10 g1 _ _ _ _ _ w5 hs5)
            clear hs5 hb5 hb34 hg4
            go_wp2_with fail
            refine HP10.out.mono ?_
            clear HP10
            rintro e w6 ⟨rfl, hw6⟩
            have hb36 : Below wc.heap.size wc w6 := by
              obtain ⟨k, rfl⟩ := hw6
              exact hb35.trans (below_drewN' _ _ _)
            clear hw6 hb35 hg1
            have hg6 : wc.heap.size ≤ w6.heap.size := hb36.size
            -- resume on chunk[:p]
            generalize hm1 : model t l h num lit (zs.take q) = r1
            have HM1 := hide hm1
            clear hm1
            have HP8 := hide (f8 (cutOf t) l h num lit w6)
            go_wp2_with fail
            refine HP8.out.mono ?_
            clear HP8
            rintro e w7 ⟨rfl, hs7, hb7, hg7⟩
            have hb37 : Below wc.heap.size wc w7 := hb36.trans (hb7.mono hg6)
            clear hb36 hb7
            generalize w6.heap.size = g2 at hs7 hg7 hg6 ⊢
            have HP9 := hide (f9x wc.heap.size g2 a' c' q (zs.take q) t l h num lit r1 w7 (by simp; omega) (hz.take q) (by omega) (by omega) hB' hg6 hg7 ((HBY.out.below hb37).take q) (tab_below HTC.out hb37 hB') hs7 HR.out HM1.out)
            clear hs7
            go_wp2_with fail
            refine HP9.out.mono ?_
            clear HP9
            rintro e w8 ⟨rfl, hs8, hb8⟩
            have hb38 : Below wc.heap.size wc w8 := hb37.trans (hb8.mono hg6)
            have HP10 := hide (f10 g2 _ _ _ _ _ w8 hs8)
            clear hs8 hb8 hb37 hg7
            go_wp2_with fail
            refine HP10.out.mono ?_
            clear HP10
            rintro e w9 ⟨rfl, hw9⟩
            have hb39 : Below wc.heap.size wc w9 := by
              obtain ⟨k, rfl⟩ := hw9
              exact hb38.trans (below_drewN' _ _ _)
            clear hw9 hb38 hg6
            have hlaw := cut_law t l h num lit zs q hq HR.out
            rw [HM.out, HM1.out] at hlaw
            obtain ⟨k1, k0, lstop, lcut, lgo, lok⟩ := hlaw
            have L1 := hide lstop
            have L2 := hide lcut
            have L3 := hide lgo
            have L4 := hide lok
            clear lstop lcut lgo lok
            by_cases hct : r1.ct = 0
            · have t1 := cutOf_zero hct
              obtain ⟨e1, e2, e3, e4, e5, e6⟩ := L1.out hct
              clear hct L1 L2 L3 L4
              go_wp2_with fail
              go_ret
              exact ⟨rfl, hbl.trans (hb39.mono hbl.size)⟩
            · have t1 := cutOf_empty k1 hct
              obtain ⟨e1, e2, hr1⟩ := L2.out hct
              have HR1 := hide hr1
              have L3 := hide (L3.out hct)
              have L4 := hide (L4.out hct)
              clear hct hr1 L1 L2
              have hg9 : wc.heap.size ≤ w9.heap.size := hb39.size
              -- resume on chunk[p:], where the token is cut
              generalize hm2 : model r1.ct r1.l r1.h r1.num r1.lit (zs.drop q) = r2 at L3 L4
              have HM2 := hide hm2
              clear hm2
              have HP8 := hide (f8 (cutOf r1.ct) r1.l r1.h r1.num r1.lit w9)
              go_wp2_with fail
              refine HP8.out.mono ?_
              clear HP8
              rintro e w10 ⟨rfl, hs10, hb10, hg10⟩
              have hb310 : Below wc.heap.size wc w10 := hb39.trans (hb10.mono hg9)
              clear hb39 hb10
              generalize w9.heap.size = g3 at hs10 hg10 hg9 ⊢
              have hr2n : r2.n ≤ 1048576 := by
                have := model_le r1.ct r1.l r1.h r1.num r1.lit (zs.drop q)
                rw [HM2.out] at this
                simp at this
                omega
              by_cases hcq : c' = q
              · have HP9 := hide (f9x wc.heap.size g3 a' 0 (zs.length - q) (zs.drop q) r1.ct r1.l r1.h r1.num r1.lit r2 w10 (by simp) (hz.drop q) (by omega) (by omega) hB' hg9 hg10 (BytesAt.none (by simp; omega)) (tab_below HTC.out hb310 hB') hs10 HR1.out HM2.out)
                clear hs10
                go_wp2_with fail
                refine HP9.out.mono ?_
                clear HP9
                rintro e w11 ⟨rfl, hs11, hb11⟩
                have hb311 : Below wc.heap.size wc w11 := hb310.trans (hb11.mono hg9)
                have HP10 := hide (f10 g3 _ _ _ _ _ w11 hs11)
                clear hs11 hb11 hb310 hg10
                go_wp2_with fail
                refine HP10.out.mono ?_
                clear HP10
                rintro e w12 ⟨rfl, hw12⟩
                have hb312 : Below wc.heap.size wc w12 := by
                  obtain ⟨k, rfl⟩ := hw12
                  exact hb311.trans (below_drewN' _ _ _)
                clear hw12 hb311 hg9
                obtain ⟨e3, e4, e5⟩ := L3.out
                cases hok : r2.ok
                · clear L3 L4
                  go_wp2_with fail
                  go_ret
                  exact ⟨rfl, hbl.trans (hb312.mono hbl.size)⟩
                · obtain ⟨e6, e7, e8, e9⟩ := L4.out hok
                  have E8 := hide e8
                  have E9 := hide e9
                  clear L3 L4 e8 e9
                  by_cases h2 : r.ct = 2
                  · have e8 := E8.out h2
                    obtain ⟨t2, t3⟩ := cutOf_num (e5.symm.trans h2)
                    clear h2 E8 E9
                    go_wp2_with fail
                    go_ret
                    exact ⟨rfl, hbl.trans (hb312.mono hbl.size)⟩
                  · by_cases h3 : r.ct = 3
                    · have e9 := E9.out h3
                      obtain ⟨t2, t3⟩ := cutOf_lit (e5.symm.trans h3)
                      clear h2 h3 E8 E9
                      go_wp2_with fail
                      go_ret
                      exact ⟨rfl, hbl.trans (hb312.mono hbl.size)⟩
                    · obtain ⟨t2, t3⟩ := cutOf_rest (t := r2.ct) (by omega) (by omega) (by omega)
                      clear h2 h3 E8 E9
                      go_wp2_with fail
                      go_ret
                      exact ⟨rfl, hbl.trans (hb312.mono hbl.size)⟩
              · have HP9 := hide (f9x wc.heap.size g3 (Option.map (fun x => x.add q) a') (c' - q) (zs.length - q) (zs.drop q) r1.ct r1.l r1.h r1.num r1.lit r2 w10 (by simp) (hz.drop q) (by omega) (by omega) hB' hg9 hg10 ((HBY.out.below hb310).drop q) (tab_below HTC.out hb310 hB') hs10 HR1.out HM2.out)
                clear hs10
                go_wp2_with fail
                refine HP9.out.mono ?_
                clear HP9
                rintro e w11 ⟨rfl, hs11, hb11⟩
                have hb311 : Below wc.heap.size wc w11 := hb310.trans (hb11.mono hg9)
                have HP10 := hide (f10 g3 _ _ _ _ _ w11 hs11)
                clear hs11 hb11 hb310 hg10
                go_wp2_with fail
                refine HP10.out.mono ?_
                clear HP10
                rintro e w12 ⟨rfl, hw12⟩
                have hb312 : Below wc.heap.size wc w12 := by
                  obtain ⟨k, rfl⟩ := hw12
                  exact hb311.trans (below_drewN' _ _ _)
                clear hw12 hb311 hg9
                obtain ⟨e3, e4, e5⟩ := L3.out
                cases hok : r2.ok
                · clear L3 L4
                  go_wp2_with fail
                  go_ret
                  exact ⟨rfl, hbl.trans (hb312.mono hbl.size)⟩
                · obtain ⟨e6, e7, e8, e9⟩ := L4.out hok
                  have E8 := hide e8
                  have E9 := hide e9
                  clear L3 L4 e8 e9
                  by_cases h2 : r.ct = 2
                  · have e8 := E8.out h2
                    obtain ⟨t2, t3⟩ := cutOf_num (e5.symm.trans h2)
                    clear h2 E8 E9
                    go_wp2_with fail
                    go_ret
                    exact ⟨rfl, hbl.trans (hb312.mono hbl.size)⟩
                  · by_cases h3 : r.ct = 3
                    · have e9 := E9.out h3
                      obtain ⟨t2, t3⟩ := cutOf_lit (e5.symm.trans h3)
                      clear h2 h3 E8 E9
                      go_wp2_with fail
                      go_ret
                      exact ⟨rfl, hbl.trans (hb312.mono hbl.size)⟩
                    · obtain ⟨t2, t3⟩ := cutOf_rest (t := r2.ct) (by omega) (by omega) (by omega)
                      clear h2 h3 E8 E9
                      go_wp2_with fail
                      go_ret
                      exact ⟨rfl, hbl.trans (hb312.mono hbl.size)⟩
    · have hdec : (decide (p < 0) || decide ((zs.length : Int) < p)) = true := by simp; omega
      go_enter Tryd.func3, Tryd.ntmps3
      go_wp2_with fail
      refine HF5.out.mono ?_
      rintro e w1 ⟨rfl, rfl⟩
      clear HF5
      by_cases hp0 : p < 0
      · go_wp2_with fail
        go_ret
        exact ⟨rfl, Below.refl _ _⟩
      · have hpn : (zs.length : Int) < p := by omega
        go_wp2_with fail
        go_ret
        exact ⟨rfl, Below.refl _ _⟩
  · have s1 : decide (cut.size + lit.size + zs.length ≤ 1048576) = false := decide_eq_false hsum
    rw [s1] at HF5
    clear s1
    go_enter Tryd.func3, Tryd.ntmps3
    go_wp2_with fail
    refine HF5.out.mono ?_
    rintro e w1 ⟨rfl, rfl⟩
    go_wp2_with fail
    go_ret
    exact ⟨rfl, Below.refl _ _⟩

end Go.Proofs.Qxb6616667aDoor
