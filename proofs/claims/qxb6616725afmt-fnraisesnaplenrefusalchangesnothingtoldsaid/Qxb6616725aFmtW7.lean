/-
  NewWriter, the big order.
-/
import Derived.Test.Qxb6616725aFmtW6
namespace Go.Proofs.Qxb6616725aFmt
open Go.RowKit
set_option linter.unusedVariables false

set_option maxRecDepth 100000 in
set_option maxHeartbeats 4000000 in
theorem f26_86 (bb : Nat) (nano : Bool) (snap link : Int) (w : World) (s0 : 0 ≤ snap) (s1 : snap < 4294967296) (l0 : 0 ≤ link) (l1 : link < 4294967296) :
    Calls Tryf.prog 26 #[.iface 26 (.pointer (some ⟨bb, 0, none⟩)), .agg #[.iface 86 (.agg #[]), .bool nano, .int .u32 snap, .int .u32 link]] w fun e w' =>
      ∃ pw bw bs, e = .returned (.pointer (some ⟨pw, 0, none⟩)) ∧ Made w w' pw bw bs bb 86 snap 24 (lay (List.replicate 4096 0) 0 (hdr true nano snap link)) := by
  go_enter Tryf.func26, Tryf.ntmps26
  go_upto_if 13 with fail
  go_cut [5] (fun c wc => c = .int .u32 (mag nano) ∧ wc = w.alloc (.cells #[.iface 86 (.agg #[]), .bool nano, .int .u32 snap, .int .u32 link] 61))
  case first =>
    cases nano
    · go_wp2_with fail
      go_meet
      case rel => exact ⟨rfl, rfl⟩
    · go_wp2_with fail
      go_meet
      case rel => exact ⟨rfl, rfl⟩
  case rest =>
    obtain ⟨rfl, rfl⟩ := hcut
    go_upto_region 5 with fail
    have hS := st0 w 86 nano snap link
    rw [z24] at hS
    revert hS
    generalize World.alloc (w.alloc (.cells #[.iface 86 (.agg #[]), .bool nano, .int .u32 snap, .int .u32 link] 61)) (.cells #[Value.int .u8 0, Value.int .u8 0, Value.int .u8 0, Value.int .u8 0, Value.int .u8 0, Value.int .u8 0, Value.int .u8 0, Value.int .u8 0, Value.int .u8 0, Value.int .u8 0, Value.int .u8 0, Value.int .u8 0, Value.int .u8 0, Value.int .u8 0, Value.int .u8 0, Value.int .u8 0, Value.int .u8 0, Value.int .u8 0, Value.int .u8 0, Value.int .u8 0, Value.int .u8 0, Value.int .u8 0, Value.int .u8 0, Value.int .u8 0] 78) = W
    intro hS
    go_cut [5] (fun c wc => c = .int .u32 (mag nano) ∧ St w wc 86 nano snap link (lay (List.replicate 24 0) 0 (put32 true (mag nano))))
    case first =>
      as_aux_lemma =>
      have HP := hide (f65 (w.heap.size + 1) 0 24 24 78 _ (mag nano) W.drew hS.g (by decide) (by decide) (mag_lo _) (mag_hi _))
      have c0 := hS.c0
      have hm := m86_32
      have HS := hide hS
      clear hS
      go_region_with (go_at_call 65; refine HP.out.mono ?_; rintro e w1 ⟨rfl, h1, h2⟩; have H1 := hide h1; have H2 := hide h2; clear h1 h2)
      all_goals
        go_wp2_with fail
        go_meet
        case rel => exact ⟨rfl, HS.out.put H1.out H2.out⟩
    case rest =>
    clear hS W
    obtain ⟨rfl, hS⟩ := hcut
    obtain ⟨W, rfl⟩ : ∃ W, W = wc := ⟨_, rfl⟩

    go_upto_region 6 with fail
    go_cut [5] (fun c wc => c = .int .u32 (mag nano) ∧ St w wc 86 nano snap link (lay (lay (List.replicate 24 0) 0 (put32 true (mag nano))) 4 (put16 true 2)))
    case first =>
      as_aux_lemma =>
      have HP := hide (f64 (w.heap.size + 1) 4 20 20 78 _ 2 W.drew hS.g (by simp [lay, put32_len]) (by decide) (by decide) (by decide))
      have c0 := hS.c0
      have hm := m86_16
      have HS := hide hS
      clear hS
      go_region_with (go_at_call 64; refine HP.out.mono ?_; rintro e w1 ⟨rfl, h1, h2⟩; have H1 := hide h1; have H2 := hide h2; clear h1 h2)
      all_goals
        go_wp2_with fail
        go_meet
        case rel => exact ⟨rfl, HS.out.put H1.out H2.out⟩
    case rest =>
    clear hS W
    obtain ⟨rfl, hS⟩ := hcut
    obtain ⟨W, rfl⟩ : ∃ W, W = wc := ⟨_, rfl⟩

    go_upto_region 7 with fail
    go_cut [5] (fun c wc => c = .int .u32 (mag nano) ∧ St w wc 86 nano snap link (lay (lay (lay (List.replicate 24 0) 0 (put32 true (mag nano))) 4 (put16 true 2)) 6 (put16 true 4)))
    case first =>
      as_aux_lemma =>
      have HP := hide (f64 (w.heap.size + 1) 6 18 18 78 _ 4 W.drew hS.g (by simp [lay, put32_len, put16_len]) (by decide) (by decide) (by decide))
      have c0 := hS.c0
      have hm := m86_16
      have HS := hide hS
      clear hS
      go_region_with (go_at_call 64; refine HP.out.mono ?_; rintro e w1 ⟨rfl, h1, h2⟩; have H1 := hide h1; have H2 := hide h2; clear h1 h2)
      all_goals
        go_wp2_with fail
        go_meet
        case rel => exact ⟨rfl, HS.out.put H1.out H2.out⟩
    case rest =>
    clear hS W
    obtain ⟨rfl, hS⟩ := hcut
    obtain ⟨W, rfl⟩ : ∃ W, W = wc := ⟨_, rfl⟩

    go_upto_region 8 with fail
    go_cut [5] (fun c wc => c = .int .u32 (mag nano) ∧ St w wc 86 nano snap link (lay (lay (lay (lay (List.replicate 24 0) 0 (put32 true (mag nano))) 4 (put16 true 2)) 6 (put16 true 4)) 16 (put32 true snap)))
    case first =>
      as_aux_lemma =>
      have HP := hide (f65 (w.heap.size + 1) 16 8 8 78 _ snap W.drew hS.g (by simp [lay, put32_len, put16_len]) (by decide) s0 s1)
      have c0 := hS.c0
      have c2 := hS.c2
      have hm := m86_32
      have HS := hide hS
      clear hS
      go_region_with (go_at_call 65; refine HP.out.mono ?_; rintro e w1 ⟨rfl, h1, h2⟩; have H1 := hide h1; have H2 := hide h2; clear h1 h2)
      all_goals
        go_wp2_with fail
        go_meet
        case rel => exact ⟨rfl, HS.out.put H1.out H2.out⟩
    case rest =>
    clear hS W
    obtain ⟨rfl, hS⟩ := hcut
    obtain ⟨W, rfl⟩ : ∃ W, W = wc := ⟨_, rfl⟩

    go_upto_region 9 with fail
    go_cut [5] (fun c wc => c = .int .u32 (mag nano) ∧ St w wc 86 nano snap link (lay (lay (lay (lay (lay (List.replicate 24 0) 0 (put32 true (mag nano))) 4 (put16 true 2)) 6 (put16 true 4)) 16 (put32 true snap)) 20 (put32 true link)))
    case first =>
      as_aux_lemma =>
      have HP := hide (f65 (w.heap.size + 1) 20 4 4 78 _ link W.drew hS.g (by simp [lay, put32_len, put16_len]) (by decide) l0 l1)
      have c0 := hS.c0
      have c3 := hS.c3
      have hm := m86_32
      have HS := hide hS
      clear hS
      go_region_with (go_at_call 65; refine HP.out.mono ?_; rintro e w1 ⟨rfl, h1, h2⟩; have H1 := hide h1; have H2 := hide h2; clear h1 h2)
      all_goals
        go_wp2_with fail
        go_meet
        case rel => exact ⟨rfl, HS.out.put H1.out H2.out⟩
    case rest =>
    clear hS W
    obtain ⟨rfl, hS⟩ := hcut
    obtain ⟨W, rfl⟩ : ∃ W, W = wc := ⟨_, rfl⟩

    replace hS : St w W 86 nano snap link (laid5 true nano snap link) := hS
    rw [laid5_eq] at hS
    go_upto_region 10 with fail
    have hlt : w.heap.size < W.heap.size := Nat.lt_of_lt_of_le (Nat.lt_succ_self _) (Nat.le_of_lt hS.g.lt)
    have hgt := hS.g.lt
    go_cut [7] (fun s wc => ∃ pw bw bs, s = .pointer (some ⟨pw, 0, none⟩) ∧ Made w wc pw bw bs bb 86 snap 0 (List.replicate 4096 0) ∧ Row wc (w.heap.size + 1) 78 (hdr true nano snap link) ∧ bw ≠ bs ∧ pw ≠ bw ∧ pw ≠ bs)
    case first =>
      as_aux_lemma =>
      have HP := hide (f33 bb W.drew)
      have c0 := hS.c0
      have c2 := hS.c2
      have HS := hide hS
      clear hS
      go_region_with (go_at_call 33; refine HP.out.mono ?_; rintro e w1 ⟨rfl, h1, h2, h3, h4⟩; have e0 := (h3.cell (p := ⟨w.heap.size, 0, none⟩) hlt).trans c0; have e2 := (h3.cell (p := ⟨w.heap.size, 2, none⟩) hlt).trans c2; have H1 := hide h1; have H2 := hide h2; have H3 := hide h3; have H4 := hide h4; clear h1 h2 h3 h4)
      all_goals
        go_wp2_with fail
        go_meet
        case rel =>
          have hS := HS.out
          have h3 := H3.out
          have h4 : w1.heap.size = W.heap.size + 2 := H4.out
          have hw := hS.b.size
          refine ⟨w1.heap.size, W.heap.size + 1, W.heap.size, rfl, ⟨heap_alloc_new w1 _, ?_, ?_, List.length_replicate, ?_, hw, by omega, by omega⟩, ?_, by omega, by omega, by omega⟩
          · exact (Below.heap_alloc w1 _ _ (by show W.heap.size + 1 < _; omega)).trans H2.out
          · exact (Below.heap_alloc w1 _ _ (by show W.heap.size < _; omega)).trans H1.out
          · exact (hS.b.drew.trans (h3.mono hw)).alloc (by omega) _
          · exact (Below.heap_alloc w1 _ _ (by omega)).trans ((h3.block _ hgt).trans hS.g)
    case rest =>
    clear hS hlt hgt W
    obtain ⟨pw, bw, bs, rfl, hM, hg, n1, n2, n3⟩ := hcut
    obtain ⟨W, rfl⟩ : ∃ W, W = wc := ⟨_, rfl⟩
    have h81 := ta81
    go_upto_region 16 with fail
    have c0 := hM.p.c0
    have hsrc : Src W.drew (w.heap.size + 1) 0 (hdr true nano snap link) := fun j hj => by rw [Nat.zero_add]; exact hg.cell j hj
    have p32 := f32s bw bs bb (w.heap.size + 1) 0 24 0 (List.replicate 4096 0) (hdr true nano snap link) W.drew hM.b hM.r List.length_replicate hsrc (by rw [hdr_len]; decide) (by decide) n1
    rw [hdr_len] at p32
    have HP := hide p32
    have HM := hide hM
    clear hM hg hsrc p32 h81
    go_region_with (go_at_call 32; refine HP.out.mono ?_; rintro e w1 ⟨rfl, h1, h2, h3⟩; have H1 := hide h1; have H2 := hide h2; have H3 := hide h3; clear h1 h2 h3)
    all_goals
      go_wp2_with fail
      go_ret
      have hM := HM.out
      have h3 := H3.out
      refine ⟨pw, bw, bs, rfl, ⟨h3.keeps hM.p (by simp; omega), H1.out, H2.out, ?_, ?_, hM.h1, hM.h2, hM.h3⟩⟩
      · rw [lay_len _ _ _ (by rw [hdr_len]; simp)]; simp
      · exact hM.f.drew.trans (h3.below hM.f.size (by simp; exact ⟨hM.h2, hM.h1⟩))
end Go.Proofs.Qxb6616725aFmt
