/- The walk of symMerge_func, where its first part is one element. -/
import Derived.Test.Qxb6617018aSortIns
namespace Go.Proofs.Qxb6617018a
open Go.RowKit So

set_option maxHeartbeats 1000000 in
set_option maxRecDepth 100000 in
theorem symMerge_one (G : Gd) (ok : Hid G.Ok) (d : Nat → Nat) (a m b : Nat) (w : World) (hat : Hid (G.At d w)) (_h1 : a < m) (hm : Hid (m = a + 1)) (h2 : m < b) (h3 : b ≤ G.n) (hs : Hid (Srt G.key d m b)) (hf : Hid (Fst d a m b)) :
    Calls Try.prog 47 #[.agg G.data, .int .i64 a, .int .i64 m, .int .i64 b] w fun e w' => e = .returned (.tuple #[]) ∧ (∃ d', G.At d' w' ∧ Mv a b d d' ∧ Srt G.key d' a b) ∧ w.grownBy w' (some G.blk) := by
  have hn := ok.out.n
  have hb0 : w.heap.size ≠ G.blk := by have := hat.out.size ok.out; omega
  have hA : Hid (G.At d (w.alloc (.cells G.data 89))) := hat.out.alloc ok.out _
  have hX : Hid (G.Bx w.heap.size (w.alloc (.cells G.data 89))) := Gd.Bx.start G w 89
  have hG : Hid (w.grownBy (w.alloc (.cells G.data 89)) (some G.blk)) := World.grownBy_alloc w _ _
  have eg := ok.out.enter
  have z1 : (m : Int) - (a : Int) = 1 := by have := hm.out; omega
  go_enter Try.func47, Try.ntmps47
  go_wp2_with fail
  go_loopw [8, 9] (fun vi vj wr => ∃ (i j : Nat), vi = .int .i64 i ∧ vj = .int .i64 j ∧ S1 G.key d a m b i j ∧ G.At d wr ∧ G.Bx w.heap.size wr ∧ w.grownBy wr (some G.blk)) (fun vi vj _ => (intOf vj).toNat - (intOf vi).toNat)
  case atStart => exact ⟨m, b, rfl, rfl, S1.start (by omega), hA.out, hX.out, hG.out⟩
  case round =>
    obtain ⟨i, j, rfl, rfl, hS, hA1, hX1, hG1⟩ := hrel
    clear hA hX hG
    have k1 := hS.lo
    have k2 := hS.le
    have k3 := hS.hi
    have c0 := hX1.c0
    have HA : Hid _ := hA1
    have HX : Hid _ := hX1
    have HG : Hid _ := hG1
    have HS : Hid _ := hS
    clear hA1 hX1 hG1 hS
    by_cases hlt : i < j
    · have b1 : decide ((i : Int) < (j : Int)) = true := by simp; omega
      obtain ⟨h, eh⟩ : ∃ h : Nat, h = (i + j) / 2 := ⟨_, rfl⟩
      have hl := ok.out.less d _ h a HA.out (by omega) (by omega)
      have zh : ((i : Int) + (j : Int)) / 2 = (h : Int) := by omega
      have HZ : Hid _ := zh
      rw [← zh] at hl
      clear zh
      cases hlv : decide (G.key (d h) < G.key (d a)) with
      | true =>
        have hL : G.key (d h) < G.key (d a) := of_decide_eq_true hlv
        have HL : Hid _ := hL
        rw [hlv] at hl
        clear hlv hL
        go_wp2_with fail
        refine hl.mono ?_
        rintro e w1 ⟨rfl, hg1⟩
        have HA1 : Hid _ := HA.out.grow ok.out hg1
        have HX1 : Hid _ := HX.out.grow (grownB_but hg1 _) hb0
        have HG1 : Hid _ := grownB_trans HG.out (grownB_but hg1 _)
        clear hl hg1 c0
        go_wp2_with fail
        go_roundw
        case rel => exact ⟨h + 1, j, by rw [HZ.out]; simp, rfl, HS.out.up hs.out (by omega) (by omega) HL.out, HA1.out, HX1.out, HG1.out⟩
        case measure => simp [intOf]; omega
      | false =>
        have hL : ¬ G.key (d h) < G.key (d a) := of_decide_eq_false hlv
        have HL : Hid _ := hL
        rw [hlv] at hl
        clear hlv hL
        go_wp2_with fail
        refine hl.mono ?_
        rintro e w1 ⟨rfl, hg1⟩
        have HA1 : Hid _ := HA.out.grow ok.out hg1
        have HX1 : Hid _ := HX.out.grow (grownB_but hg1 _) hb0
        have HG1 : Hid _ := grownB_trans HG.out (grownB_but hg1 _)
        clear hl hg1 c0
        go_wp2_with fail
        go_roundw
        case rel => exact ⟨i, h, rfl, by rw [HZ.out], HS.out.down hs.out (by omega) (by omega) HL.out, HA1.out, HX1.out, HG1.out⟩
        case measure => simp [intOf]; omega
    · have b1 : decide ((i : Int) < (j : Int)) = false := by simp; omega
      obtain rfl : i = j := by omega
      clear c0
      go_wp2_with fail
      go_loopw [11] (fun vk wr2 => ∃ (k : Nat), vk = .int .i64 k ∧ a ≤ k ∧ k ≤ i - 1 ∧ G.At (shu d a k) wr2 ∧ G.Bx w.heap.size wr2 ∧ w.grownBy wr2 (some G.blk)) (fun vk _ => i - 1 - (intOf vk).toNat)
      case atStart => exact ⟨a, rfl, Nat.le_refl _, by omega, by rw [shu_start]; exact HA.out, HX.out, HG.out⟩
      case round =>
        obtain ⟨k, rfl, hk1, hk2, hA1, hX1, hG1⟩ := hrel
        clear HA HX HG
        have c1 := hX1.c1
        have HA : Hid _ := hA1
        have HX : Hid _ := hX1
        have HG : Hid _ := hG1
        clear hA1 hX1 hG1
        by_cases hkt : k < i - 1
        · have b2 : decide ((k : Int) < (i : Int) - 1) = true := by simp; omega
          obtain ⟨w2, hsw, hA2, hG2⟩ := ok.out.swap _ _ k (k + 1) HA.out (by omega) (by omega)
          rw [shu_succ d a k hk1] at hA2
          simp only [Int.natCast_add, Int.cast_ofNat_Int] at hsw
          have HA2 : Hid _ := hA2
          have HG2 : Hid _ := hG2
          clear hA2 hG2
          go_wp2_with fail
          go_roundw
          case rel => exact ⟨k + 1, by simp, by omega, by omega, HA2.out, HX.out.grow HG2.out hb0, grownB_trans HG.out HG2.out⟩
          case measure => simp [intOf]; omega
        · have b2 : decide ((k : Int) < (i : Int) - 1) = false := by simp; omega
          obtain rfl : k = i - 1 := by omega
          go_wp2_with fail
          refine bodyPost_ret (results_none rfl _ _ _) rfl ?_
          exact ⟨rfl, ⟨_, HA.out, Mv.shu d a (Nat.le_refl _) _ hk1 (by omega), HS.out.fin hm.out hs.out hf.out⟩, HG.out⟩
end Go.Proofs.Qxb6617018a
