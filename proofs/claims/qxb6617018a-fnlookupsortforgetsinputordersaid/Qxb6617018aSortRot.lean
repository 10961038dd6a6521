/- The walk of rotate_func. -/
import Derived.Test.Qxb6617018aSortBase
namespace Go.Proofs.Qxb6617018a
open Go.RowKit So

set_option maxHeartbeats 1000000 in
set_option maxRecDepth 100000 in
theorem rotate_any (G : Gd) (ok : Hid G.Ok) (d : Nat → Nat) (a m b : Nat) (w : World) (hat : Hid (G.At d w)) (h1 : a < m) (h2 : m < b) (h3 : b ≤ G.n) :
    Calls Try.prog 49 #[.agg G.data, .int .i64 a, .int .i64 m, .int .i64 b] w fun e w' => e = .returned (.tuple #[]) ∧ G.At (rot d m (m - a) (b - m)) w' ∧ w.grownBy w' (some G.blk) := by
  have hn := ok.out.n
  have hb0 : w.heap.size ≠ G.blk := by have := hat.out.size ok.out; omega
  have hA : Hid (G.At d (w.alloc (.cells G.data 89))) := hat.out.alloc ok.out _
  have hX : Hid (G.Bx w.heap.size (w.alloc (.cells G.data 89))) := Gd.Bx.start G w 89
  have hG : Hid (w.grownBy (w.alloc (.cells G.data 89)) (some G.blk)) := World.grownBy_alloc w _ _
  have z1 : (m : Int) - (a : Int) = ((m - a : Nat) : Int) := by omega
  have z2 : (b : Int) - (m : Int) = ((b - m : Nat) : Int) := by omega
  go_enter Try.func49, Try.ntmps49
  go_wp2_with fail
  go_loopw [8, 9] (fun vi vj wr => ∃ (i j : Nat) (dd : Nat → Nat), vi = .int .i64 i ∧ vj = .int .i64 j ∧ 0 < i ∧ 0 < j ∧ i ≤ m ∧ m + j ≤ G.n ∧ rot dd m i j = rot d m (m - a) (b - m) ∧ G.At dd wr ∧ G.Bx w.heap.size wr ∧ w.grownBy wr (some G.blk)) (fun vi vj _ => (intOf vi).toNat + (intOf vj).toNat)
  case atStart => exact ⟨m - a, b - m, d, rfl, rfl, by omega, by omega, by omega, by omega, rfl, hA.out, hX.out, hG.out⟩
  case round =>
    obtain ⟨i, j, dd, rfl, rfl, hi, hj, him, hjm, hR, hA1, hX1, hG1⟩ := hrel
    clear hA hX hG z1 z2
    have c0 := hX1.c0
    have c1 := hX1.c1
    have HA : Hid _ := hA1
    have HX : Hid _ := hX1
    have HG : Hid _ := hG1
    have HR : Hid _ := hR
    clear hA1 hX1 hG1 hR
    by_cases heq : i = j
    · subst heq
      have hs := swapRange_any G ok dd (m - i) m i wr HA (by omega) (by omega)
      rw [show ((m - i : Nat) : Int) = (m : Int) - i by omega] at hs
      go_wp2_with fail
      refine hs.mono ?_
      rintro e w1 ⟨rfl, hA2, hG2⟩
      rw [rot_eq dd m i him, HR.out] at hA2
      have HA2 : Hid _ := hA2
      have HG2 : Hid _ := hG2
      clear hA2 hG2 hs
      go_wp2_with fail
      go_end0
      exact ⟨rfl, HA2.out, grownB_trans HG.out HG2.out⟩
    · by_cases hgt : j < i
      · have hs := swapRange_any G ok dd (m - i) m j wr HA (by omega) (by omega)
        rw [show ((m - i : Nat) : Int) = (m : Int) - i by omega] at hs
        go_wp2_with fail
        refine hs.mono ?_
        rintro e w1 ⟨rfl, hA2, hG2⟩
        have HA2 : Hid _ := hA2
        have HG2 : Hid _ := hG2
        clear hA2 hG2 hs
        have z : (i : Int) - (j : Int) = ((i - j : Nat) : Int) := by omega
        go_wp2_with fail
        go_roundw
        case rel => exact ⟨i - j, j, _, rfl, rfl, by omega, hj, by omega, hjm, by rw [rot_gt dd m i j him hj hgt]; exact HR.out, HA2.out, HX.out.grow HG2.out hb0, grownB_trans HG.out HG2.out⟩
        case measure => simp [intOf]; omega
      · have hs := swapRange_any G ok dd (m - i) (m + j - i) i wr HA (by omega) (by omega)
        rw [show ((m - i : Nat) : Int) = (m : Int) - i by omega, show ((m + j - i : Nat) : Int) = (m : Int) + j - i by omega] at hs
        go_wp2_with fail
        refine hs.mono ?_
        rintro e w1 ⟨rfl, hA2, hG2⟩
        have HA2 : Hid _ := hA2
        have HG2 : Hid _ := hG2
        clear hA2 hG2 hs
        have z : (j : Int) - (i : Int) = ((j - i : Nat) : Int) := by omega
        go_wp2_with fail
        go_roundw
        case rel => exact ⟨i, j - i, _, rfl, rfl, hi, by omega, him, by omega, by rw [rot_lt dd m i j him hi (by omega)]; exact HR.out, HA2.out, HX.out.grow HG2.out hb0, grownB_trans HG.out HG2.out⟩
        case measure => simp [intOf]; omega
end Go.Proofs.Qxb6617018a
