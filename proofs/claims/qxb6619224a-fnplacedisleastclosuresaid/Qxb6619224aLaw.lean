/- The law's walk: the copies. -/
import Derived.Test.Qxb6619224aTailA
namespace Go.Proofs.Qxb6619224a
open Go.RowKit Pl

set_option maxHeartbeats 4000000 in
set_option maxRecDepth 100000 in
theorem law_main (a0 a1 a2 a3 a4 a5 a6 : Option Addr) (n0 n1 n2 n3 n4 n5 n6 c0 c1 c2 c3 c4 c5 c6 : Nat) (Z0 Z1 Z5 K V Wr : Nat → Int) (P : Nat → Bool) (w : World) (h0 : n0 ≤ 16384) (h1 : n1 ≤ 16384) (h2 : n2 ≤ 16384) (h3 : n3 ≤ 16384) (h4 : n4 ≤ 16384) (h5 : n5 ≤ 16384) (h6 : n6 ≤ 16384)
    (s0 : Hid (Src w a0 n0 (fun j => .int .i64 (Z0 j)))) (s1 : Hid (Src w a1 n1 (fun j => .int .i64 (Z1 j)))) (s2 : Hid (Src w a2 n2 (fun j => .bool (P j)))) (s3 : Hid (Src w a3 n3 (fun j => .int .u8 (K j)))) (s4 : Hid (Src w a4 n4 (fun j => .int .i64 (V j)))) (s5 : Hid (Src w a5 n5 (fun j => .int .i64 (Z5 j)))) (s6 : Hid (Src w a6 n6 (fun j => .int .i64 (Wr j)))) :
    Calls Try.prog 3 #[.slice a0 n0 c0, .slice a1 n1 c1, .slice a2 n2 c2, .slice a3 n3 c3, .slice a4 n4 c4, .slice a5 n5 c5, .slice a6 n6 c6] w fun e w' => e = .returned (.bool true) ∧ Below w.heap.size w w' := by
  have hb := bytes_yes a0 a1 a2 a3 a4 a5 a6 n0 n1 n2 n3 n4 n5 n6 c0 c1 c2 c3 c4 c5 c6 w h0 h1 h2 h3 h4 h5 h6
  have HB : Hid _ := hb
  clear hb
  go_enter Try.func3, Try.ntmps3
  go_wp2_with fail
  refine Calls.mono HB.out ?_
  rintro e w' ⟨rfl, rfl⟩
  clear HB
  have B0 : Hid (Below w'.heap.size w' w') := Below.refl _ _
  have neq0 := fun w => run_neq_slice_nil_any (P := Try.prog) w 22 2 a0 n0 c0 0 0 Try.underlying22
  go_upto_if 67 with fail
  clear neq0
  go_cut [0] from 66 to 74 (fun v wd => ∃ b d g, v = .slice b n0 d ∧ Hid (Dst wd b g n0 (fun j => .int .i64 (Z0 j))) ∧ Hid (Below w'.heap.size w' wd))
  case first =>
    cases a0 with
    | none =>
      have hz : n0 = 0 := by
        rcases Nat.eq_zero_or_pos n0 with h | h
        · exact h
        · obtain ⟨x, hx, _⟩ := s0.out 0 h; cases hx
      go_wp2_with fail
      go_meet
      case rel => exact ⟨none, c0, 0, rfl, { at_ := fun h => by omega, cells := fun j h => by omega }, Below.refl _ _⟩
    | some x =>
      have hmk := mk22 n0 h0
      have HS : Hid _ := s0.out.later B0.out
      go_wp2_with (refine wpList_copy_row (by rfl) (.tmp 71) (.tmp 72) 22 2 (by rfl) Try.underlying22 sz2 x n0 c0 w' (madeCells #[.int .i64 0] n0) ?_ ?_ (size_madeCells _ _) (fun j => .int .i64 (Z0 j)) HS.out (fun _ => rfl) ?_)
      intro wx hbx hdx
      have HBX : Hid _ := hbx
      have HDX : Hid _ := hdx
      clear hbx hdx
      go_wp2_with fail
      go_meet
      case rel => exact ⟨_, n0, _, rfl, HDX, HBX⟩
  case rest =>
  obtain ⟨b0, d0, g0, rfl, D0, hBn⟩ := hcut
  have B1 : Hid (Below w'.heap.size w' wc) := B0.out.trans (hBn.out.mono B0.out.size)
  clear B0 hBn
  have neq1 := fun w => run_neq_slice_nil_any (P := Try.prog) w 22 2 a1 n1 c1 0 0 Try.underlying22
  go_upto_if 76 with fail
  clear neq1
  go_cut [1] from 75 to 83 (fun v wd => ∃ b d g, v = .slice b n1 d ∧ Hid (Dst wd b g n1 (fun j => .int .i64 (Z1 j))) ∧ Hid (Below wc.heap.size wc wd))
  case first =>
    cases a1 with
    | none =>
      have hz : n1 = 0 := by
        rcases Nat.eq_zero_or_pos n1 with h | h
        · exact h
        · obtain ⟨x, hx, _⟩ := s1.out 0 h; cases hx
      go_wp2_with fail
      go_meet
      case rel => exact ⟨none, c1, 0, rfl, { at_ := fun h => by omega, cells := fun j h => by omega }, Below.refl _ _⟩
    | some x =>
      have hmk := mk22 n1 h1
      have HS : Hid _ := s1.out.later B1.out
      go_wp2_with (refine wpList_copy_row (by rfl) (.tmp 80) (.tmp 81) 22 2 (by rfl) Try.underlying22 sz2 x n1 c1 wc (madeCells #[.int .i64 0] n1) ?_ ?_ (size_madeCells _ _) (fun j => .int .i64 (Z1 j)) HS.out (fun _ => rfl) ?_)
      intro wx hbx hdx
      have HBX : Hid _ := hbx
      have HDX : Hid _ := hdx
      clear hbx hdx
      go_wp2_with fail
      go_meet
      case rel => exact ⟨_, n1, _, rfl, HDX, HBX⟩
  case rest =>
  obtain ⟨b1, d1, g1, rfl, D1, hBn⟩ := hcut
  replace D0 : Hid (Dst wc b0 g0 n0 (fun j => .int .i64 (Z0 j))) := D0.out.later hBn.out
  have B2 : Hid (Below w'.heap.size w' wc) := B1.out.trans (hBn.out.mono B1.out.size)
  clear B1 hBn
  have neq2 := fun w => run_neq_slice_nil_any (P := Try.prog) w 23 4 a2 n2 c2 0 0 Try.underlying23
  go_upto_if 85 with fail
  clear neq2
  go_cut [2] from 84 to 92 (fun v wd => ∃ b d g, v = .slice b n2 d ∧ Hid (Dst wd b g n2 (fun j => .bool (P j))) ∧ Hid (Below wc.heap.size wc wd))
  case first =>
    cases a2 with
    | none =>
      have hz : n2 = 0 := by
        rcases Nat.eq_zero_or_pos n2 with h | h
        · exact h
        · obtain ⟨x, hx, _⟩ := s2.out 0 h; cases hx
      go_wp2_with fail
      go_meet
      case rel => exact ⟨none, c2, 0, rfl, { at_ := fun h => by omega, cells := fun j h => by omega }, Below.refl _ _⟩
    | some x =>
      have hmk := mk23 n2 h2
      have HS : Hid _ := s2.out.later B2.out
      go_wp2_with (refine wpList_copy_row (by rfl) (.tmp 89) (.tmp 90) 23 4 (by rfl) Try.underlying23 sz4 x n2 c2 wc (madeCells #[.bool false] n2) ?_ ?_ (size_madeCells _ _) (fun j => .bool (P j)) HS.out (fun _ => rfl) ?_)
      intro wx hbx hdx
      have HBX : Hid _ := hbx
      have HDX : Hid _ := hdx
      clear hbx hdx
      go_wp2_with fail
      go_meet
      case rel => exact ⟨_, n2, _, rfl, HDX, HBX⟩
  case rest =>
  obtain ⟨b2, d2, g2, rfl, D2, hBn⟩ := hcut
  replace D0 : Hid (Dst wc b0 g0 n0 (fun j => .int .i64 (Z0 j))) := D0.out.later hBn.out
  replace D1 : Hid (Dst wc b1 g1 n1 (fun j => .int .i64 (Z1 j))) := D1.out.later hBn.out
  have B3 : Hid (Below w'.heap.size w' wc) := B2.out.trans (hBn.out.mono B2.out.size)
  clear B2 hBn
  have neq3 := fun w => run_neq_slice_nil_any (P := Try.prog) w 24 5 a3 n3 c3 0 0 Try.underlying24
  go_upto_if 94 with fail
  clear neq3
  go_cut [3] from 93 to 101 (fun v wd => ∃ b d g, v = .slice b n3 d ∧ Hid (Dst wd b g n3 (fun j => .int .u8 (K j))) ∧ Hid (Below wc.heap.size wc wd))
  case first =>
    cases a3 with
    | none =>
      have hz : n3 = 0 := by
        rcases Nat.eq_zero_or_pos n3 with h | h
        · exact h
        · obtain ⟨x, hx, _⟩ := s3.out 0 h; cases hx
      go_wp2_with fail
      go_meet
      case rel => exact ⟨none, c3, 0, rfl, { at_ := fun h => by omega, cells := fun j h => by omega }, Below.refl _ _⟩
    | some x =>
      have hmk := mk24 n3 h3
      have HS : Hid _ := s3.out.later B3.out
      go_wp2_with (refine wpList_copy_row (by rfl) (.tmp 98) (.tmp 99) 24 5 (by rfl) Try.underlying24 sz5 x n3 c3 wc (madeCells #[.int .u8 0] n3) ?_ ?_ (size_madeCells _ _) (fun j => .int .u8 (K j)) HS.out (fun _ => rfl) ?_)
      intro wx hbx hdx
      have HBX : Hid _ := hbx
      have HDX : Hid _ := hdx
      clear hbx hdx
      go_wp2_with fail
      go_meet
      case rel => exact ⟨_, n3, _, rfl, HDX, HBX⟩
  case rest =>
  obtain ⟨b3, d3, g3, rfl, D3, hBn⟩ := hcut
  replace D0 : Hid (Dst wc b0 g0 n0 (fun j => .int .i64 (Z0 j))) := D0.out.later hBn.out
  replace D1 : Hid (Dst wc b1 g1 n1 (fun j => .int .i64 (Z1 j))) := D1.out.later hBn.out
  replace D2 : Hid (Dst wc b2 g2 n2 (fun j => .bool (P j))) := D2.out.later hBn.out
  have B4 : Hid (Below w'.heap.size w' wc) := B3.out.trans (hBn.out.mono B3.out.size)
  clear B3 hBn
  have neq4 := fun w => run_neq_slice_nil_any (P := Try.prog) w 25 3 a4 n4 c4 0 0 Try.underlying25
  go_upto_if 103 with fail
  clear neq4
  go_cut [4] from 102 to 110 (fun v wd => ∃ b d g, v = .slice b n4 d ∧ Hid (Dst wd b g n4 (fun j => .int .i64 (V j))) ∧ Hid (Below wc.heap.size wc wd))
  case first =>
    cases a4 with
    | none =>
      have hz : n4 = 0 := by
        rcases Nat.eq_zero_or_pos n4 with h | h
        · exact h
        · obtain ⟨x, hx, _⟩ := s4.out 0 h; cases hx
      go_wp2_with fail
      go_meet
      case rel => exact ⟨none, c4, 0, rfl, { at_ := fun h => by omega, cells := fun j h => by omega }, Below.refl _ _⟩
    | some x =>
      have hmk := mk25 n4 h4
      have HS : Hid _ := s4.out.later B4.out
      go_wp2_with (refine wpList_copy_row (by rfl) (.tmp 107) (.tmp 108) 25 3 (by rfl) Try.underlying25 sz3 x n4 c4 wc (madeCells #[.int .i64 0] n4) ?_ ?_ (size_madeCells _ _) (fun j => .int .i64 (V j)) HS.out (fun _ => rfl) ?_)
      intro wx hbx hdx
      have HBX : Hid _ := hbx
      have HDX : Hid _ := hdx
      clear hbx hdx
      go_wp2_with fail
      go_meet
      case rel => exact ⟨_, n4, _, rfl, HDX, HBX⟩
  case rest =>
  obtain ⟨b4, d4, g4, rfl, D4, hBn⟩ := hcut
  replace D0 : Hid (Dst wc b0 g0 n0 (fun j => .int .i64 (Z0 j))) := D0.out.later hBn.out
  replace D1 : Hid (Dst wc b1 g1 n1 (fun j => .int .i64 (Z1 j))) := D1.out.later hBn.out
  replace D2 : Hid (Dst wc b2 g2 n2 (fun j => .bool (P j))) := D2.out.later hBn.out
  replace D3 : Hid (Dst wc b3 g3 n3 (fun j => .int .u8 (K j))) := D3.out.later hBn.out
  have B5 : Hid (Below w'.heap.size w' wc) := B4.out.trans (hBn.out.mono B4.out.size)
  clear B4 hBn
  have neq5 := fun w => run_neq_slice_nil_any (P := Try.prog) w 25 3 a5 n5 c5 0 0 Try.underlying25
  go_upto_if 112 with fail
  clear neq5
  go_cut [5] from 111 to 119 (fun v wd => ∃ b d g, v = .slice b n5 d ∧ Hid (Dst wd b g n5 (fun j => .int .i64 (Z5 j))) ∧ Hid (Below wc.heap.size wc wd))
  case first =>
    cases a5 with
    | none =>
      have hz : n5 = 0 := by
        rcases Nat.eq_zero_or_pos n5 with h | h
        · exact h
        · obtain ⟨x, hx, _⟩ := s5.out 0 h; cases hx
      go_wp2_with fail
      go_meet
      case rel => exact ⟨none, c5, 0, rfl, { at_ := fun h => by omega, cells := fun j h => by omega }, Below.refl _ _⟩
    | some x =>
      have hmk := mk25 n5 h5
      have HS : Hid _ := s5.out.later B5.out
      go_wp2_with (refine wpList_copy_row (by rfl) (.tmp 116) (.tmp 117) 25 3 (by rfl) Try.underlying25 sz3 x n5 c5 wc (madeCells #[.int .i64 0] n5) ?_ ?_ (size_madeCells _ _) (fun j => .int .i64 (Z5 j)) HS.out (fun _ => rfl) ?_)
      intro wx hbx hdx
      have HBX : Hid _ := hbx
      have HDX : Hid _ := hdx
      clear hbx hdx
      go_wp2_with fail
      go_meet
      case rel => exact ⟨_, n5, _, rfl, HDX, HBX⟩
  case rest =>
  obtain ⟨b5, d5, g5, rfl, D5, hBn⟩ := hcut
  replace D0 : Hid (Dst wc b0 g0 n0 (fun j => .int .i64 (Z0 j))) := D0.out.later hBn.out
  replace D1 : Hid (Dst wc b1 g1 n1 (fun j => .int .i64 (Z1 j))) := D1.out.later hBn.out
  replace D2 : Hid (Dst wc b2 g2 n2 (fun j => .bool (P j))) := D2.out.later hBn.out
  replace D3 : Hid (Dst wc b3 g3 n3 (fun j => .int .u8 (K j))) := D3.out.later hBn.out
  replace D4 : Hid (Dst wc b4 g4 n4 (fun j => .int .i64 (V j))) := D4.out.later hBn.out
  have B6 : Hid (Below w'.heap.size w' wc) := B5.out.trans (hBn.out.mono B5.out.size)
  clear B5 hBn
  have neq6 := fun w => run_neq_slice_nil_any (P := Try.prog) w 25 3 a6 n6 c6 0 0 Try.underlying25
  go_upto_if 121 with fail
  clear neq6
  go_cut [6] from 120 to 128 (fun v wd => ∃ b d g, v = .slice b n6 d ∧ Hid (Dst wd b g n6 (fun j => .int .i64 (Wr j))) ∧ Hid (Below wc.heap.size wc wd))
  case first =>
    cases a6 with
    | none =>
      have hz : n6 = 0 := by
        rcases Nat.eq_zero_or_pos n6 with h | h
        · exact h
        · obtain ⟨x, hx, _⟩ := s6.out 0 h; cases hx
      go_wp2_with fail
      go_meet
      case rel => exact ⟨none, c6, 0, rfl, { at_ := fun h => by omega, cells := fun j h => by omega }, Below.refl _ _⟩
    | some x =>
      have hmk := mk25 n6 h6
      have HS : Hid _ := s6.out.later B6.out
      go_wp2_with (refine wpList_copy_row (by rfl) (.tmp 125) (.tmp 126) 25 3 (by rfl) Try.underlying25 sz3 x n6 c6 wc (madeCells #[.int .i64 0] n6) ?_ ?_ (size_madeCells _ _) (fun j => .int .i64 (Wr j)) HS.out (fun _ => rfl) ?_)
      intro wx hbx hdx
      have HBX : Hid _ := hbx
      have HDX : Hid _ := hdx
      clear hbx hdx
      go_wp2_with fail
      go_meet
      case rel => exact ⟨_, n6, _, rfl, HDX, HBX⟩
  case rest =>
  obtain ⟨b6, d6, g6, rfl, D6, hBn⟩ := hcut
  replace D0 : Hid (Dst wc b0 g0 n0 (fun j => .int .i64 (Z0 j))) := D0.out.later hBn.out
  replace D1 : Hid (Dst wc b1 g1 n1 (fun j => .int .i64 (Z1 j))) := D1.out.later hBn.out
  replace D2 : Hid (Dst wc b2 g2 n2 (fun j => .bool (P j))) := D2.out.later hBn.out
  replace D3 : Hid (Dst wc b3 g3 n3 (fun j => .int .u8 (K j))) := D3.out.later hBn.out
  replace D4 : Hid (Dst wc b4 g4 n4 (fun j => .int .i64 (V j))) := D4.out.later hBn.out
  replace D5 : Hid (Dst wc b5 g5 n5 (fun j => .int .i64 (Z5 j))) := D5.out.later hBn.out
  have B7 : Hid (Below w'.heap.size w' wc) := B6.out.trans (hBn.out.mono B6.out.size)
  clear B6 hBn
  rename_i hk
  exact hk _ _ (tailA n0 n1 n2 n3 n4 n5 n6 P K V Wr Z0 Z1 Z5 b0 b1 b2 b3 b4 b5 b6 d0 d1 d2 d3 d4 d5 d6 g0 g1 g2 g3 g4 g5 g6 w' wc h3 h6 D0 D1 D2 D3 D4 D5 D6 B7 _ _ _ _ _ _ _ _ _ _ _ _ _ _ _ _ _ _ _ _ _ _ _ _ _ _ _ _ _ _ _ _ _ _ _ _ _ _ _ _ _ _ _ _ _ _ _ _ _ _ _ _ _ _ _ _ _ _ _ _ _ _ _ _ _ _ _ _ _ _ _ _ _ _ _ _ _ _ _ _ _ _ _ _ _ _ _ _ _ _ _ _ _ _ _ _ _ _ _ _ _ _ _ _ _ _ _ _ _ _ _ _ _ _ _ _ _ _ _ _ _ _ _ _ _ _ _ _ _ _ _ _ _ _ _ _ _ _ _ _ _ _ _ _ _ _ _ _ _ _ _ _ _ _ _ _ _ _ _ _ _ _ _ _ _ _ _ _ _ _ _ _ _ _ _ _ _ _ _ _ _ _ _ _ _ _ _ _ _ _ _ _ _ _ _ _ _ _ _ _ _ _ _ _ _ _ _ _ _ _ _ _ _ _ _ _ _ _ _ _ _ _ _ _ _ _ _ _ _ _ _ _ _ _ _ _ _ _ _ _ _ _ _ _ _ _ _ _ _ _ _ _ _ _ _ _ _ _ _ _ _ _ _ _ _ _ _ _ _ _ _ _ _ _ _ _ _ _ _ _ _ _ _ _ _ _ _ _ _ _ _ _ _ _ _ _ _ _ _ _ _ _ _ _ _ _ _ _ _ _ _ _ _ _ _ _ _ _ _ _ _ _ _ _ _ _ _ _ _ _ _ _ _ _ _ _ _ _ _ _ _ _ _ _ _)
end Go.Proofs.Qxb6619224a
