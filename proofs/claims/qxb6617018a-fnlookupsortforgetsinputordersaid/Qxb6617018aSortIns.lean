/- The walk of insertionSort_func. -/
import Derived.Test.Qxb6617018aSortRot
namespace Go.Proofs.Qxb6617018a
open Go.RowKit So

set_option maxHeartbeats 1000000 in
set_option maxRecDepth 100000 in
theorem insertion_any (G : Gd) (ok : Hid G.Ok) (d : Nat → Nat) (a b : Nat) (w : World) (hat : Hid (G.At d w)) (h1 : a ≤ b) (h2 : b ≤ G.n) (hidx : Hid (∀ p q, a ≤ p → p < q → q < b → d p < d q)) :
    Calls Try.prog 46 #[.agg G.data, .int .i64 a, .int .i64 b] w fun e w' => e = .returned (.tuple #[]) ∧ (∃ d', G.At d' w' ∧ Mv a b d d' ∧ Srt G.key d' a b) ∧ w.grownBy w' (some G.blk) := by
  have hn := ok.out.n
  have hb0 : w.heap.size ≠ G.blk := by have := hat.out.size ok.out; omega
  have hA : Hid (G.At d (w.alloc (.cells G.data 89))) := hat.out.alloc ok.out _
  have hX : Hid (G.Bx w.heap.size (w.alloc (.cells G.data 89))) := Gd.Bx.start G w 89
  have hG : Hid (w.grownBy (w.alloc (.cells G.data 89)) (some G.blk)) := World.grownBy_alloc w _ _
  go_enter Try.func46, Try.ntmps46
  go_wp2_with fail
  go_loopw [6] (fun vi wr => ∃ (i : Nat) (di : Nat → Nat), vi = .int .i64 i ∧ a < i ∧ (i ≤ b ∨ i = a + 1) ∧ OutInv G.key di a b i ∧ Mv a b d di ∧ G.At di wr ∧ G.Bx w.heap.size wr ∧ w.grownBy wr (some G.blk)) (fun vi _ => b + 1 - (intOf vi).toNat)
  case atStart => exact ⟨a + 1, d, by simp, by omega, Or.inr rfl, OutInv.start hidx.out, Mv.refl _ _ _, hA.out, hX.out, hG.out⟩
  case round =>
    obtain ⟨i, di, rfl, hai, hib, hO, hM, hA1, hX1, hG1⟩ := hrel
    clear hA hX hG
    have HA : Hid _ := hA1
    have HX : Hid _ := hX1
    have HG : Hid _ := hG1
    have HO : Hid _ := hO
    have HM : Hid _ := hM
    clear hA1 hX1 hG1 hO hM
    by_cases hlt : i < b
    · have b1 : decide ((i : Int) < (b : Int)) = true := by simp; omega
      go_wp2_with fail
      go_loopw [7] (fun vj wr2 => ∃ (j : Nat) (dj : Nat → Nat), vj = .int .i64 j ∧ InInv G.key dj a i j ∧ Mv a (i + 1) di dj ∧ G.At dj wr2 ∧ G.Bx w.heap.size wr2 ∧ w.grownBy wr2 (some G.blk)) (fun vj _ => (intOf vj).toNat)
      case atStart => exact ⟨i, di, rfl, HO.out.into hai hlt, Mv.refl _ _ _, HA.out, HX.out, HG.out⟩
      case round =>
        obtain ⟨j, dj, rfl, hI, hMj, hA1, hX1, hG1⟩ := hrel
        clear HA HX HG
        have c0 := hX1.c0
        have c1 := hX1.c1
        have haj := hI.lo
        have hji := hI.hi
        have HA : Hid _ := hA1
        have HX : Hid _ := hX1
        have HG : Hid _ := hG1
        have HI : Hid _ := hI
        have HMj : Hid _ := hMj
        clear hA1 hX1 hG1 hI hMj
        have OUT : Hid ((j = a ∨ ¬ G.key (dj j) < G.key (dj (j - 1))) → ∀ w2, wr.grownBy w2 none → ∃ (i_1 : Nat) (di : Nat → Nat), Value.int .i64 ((i : Int) + 1) = .int .i64 (i_1 : Nat) ∧ a < i_1 ∧ (i_1 ≤ b ∨ i_1 = a + 1) ∧ OutInv G.key di a b i_1 ∧ Mv a b d di ∧ G.At di w2 ∧ G.Bx w.heap.size w2 ∧ w.grownBy w2 (some G.blk)) :=
          fun hs w2 hg => ⟨i + 1, dj, by simp, by omega, Or.inl (by omega), HO.out.next (HI.out.fin hs) HMj.out, HM.out.trans (HMj.out.mono (Nat.le_refl _) (by omega)), HA.out.grow ok.out hg, HX.out.grow (grownB_but hg _) hb0, grownB_trans HG.out (grownB_but hg _)⟩
        by_cases hja : a < j
        · have b2 : decide ((j : Int) > (a : Int)) = true := by simp; omega
          have hl := ok.out.less dj _ j (j - 1) HA.out (by omega) (by omega)
          rw [show (((j - 1 : Nat) : Int)) = (j : Int) - 1 by omega] at hl
          have eg := ok.out.enter
          cases hlv : decide (G.key (dj j) < G.key (dj (j - 1))) with
          | true =>
            rw [hlv] at hl
            go_wp2_with fail
            refine hl.mono ?_
            rintro e w1 ⟨rfl, hg1⟩
            have HA1 : Hid _ := HA.out.grow ok.out hg1
            have HX1 : Hid _ := HX.out.grow (grownB_but hg1 _) hb0
            have HG1 : Hid _ := grownB_trans HG.out (grownB_but hg1 _)
            have c1 := HX1.out.c1
            obtain ⟨w2, hs, hA2, hG2⟩ := ok.out.swap dj _ j (j - 1) HA1.out (by omega) (by omega)
            rw [show (((j - 1 : Nat) : Int)) = (j : Int) - 1 by omega] at hs
            have HA2 : Hid _ := hA2
            have HG2 : Hid _ := hG2
            have hL : G.key (dj j) < G.key (dj (j - 1)) := of_decide_eq_true hlv
            have HL : Hid _ := hL
            have z : (j : Int) - 1 = ((j - 1 : Nat) : Int) := by omega
            clear hA2 hG2 hl hg1 c0 OUT hlv hL
            rw [z] at hs
            go_wp2_with fail
            go_roundw
            case rel => exact ⟨j - 1, _, rfl, HI.out.step hja HL.out, HMj.out.trans (Mv.swap _ (by omega) (by omega) (by omega) (by omega)), HA2.out, HX1.out.grow HG2.out hb0, grownB_trans HG1.out HG2.out⟩
            case measure => simp [intOf]; omega
          | false =>
            rw [hlv] at hl
            go_wp2_with fail
            refine hl.mono ?_
            rintro e w1 ⟨rfl, hg1⟩
            have HO1 : Hid _ := OUT.out (Or.inr (of_decide_eq_false hlv)) w1 hg1
            clear hl OUT hg1 hlv
            go_wp2_with fail
            go_roundw
            case rel => exact HO1.out
            case measure => simp [intOf]; omega
        · have b2 : decide ((j : Int) > (a : Int)) = false := by simp; omega
          go_wp2_with fail
          go_roundw
          case rel => exact OUT.out (Or.inl (by omega)) _ (grownB_refl _ _)
          case measure => simp [intOf]; omega
    · have b1 : decide ((i : Int) < (b : Int)) = false := by simp; omega
      go_wp2_with fail
      go_end0
      refine ⟨rfl, ⟨di, HA.out, HM.out, ?_⟩, HG.out⟩
      intro p q hp hpq hq
      exact HO.out.srt p q hp hpq (by omega)
end Go.Proofs.Qxb6617018a
