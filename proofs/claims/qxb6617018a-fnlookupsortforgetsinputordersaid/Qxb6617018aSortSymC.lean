/- The walk of symMerge_func: the search, the rotation, the two halves. -/
import Derived.Test.Qxb6617018aSortSymB
import Derived.Deep.Cut
import Derived.Deep.CutRange
import Derived.Deep.CutBlock
namespace Go.Proofs.Qxb6617018a
open Go.RowKit So

theorem rot_none_left (d : Nat → Nat) (m j : Nat) : rot d m 0 j = d := by
  funext p; unfold rot
  by_cases c : m - 0 ≤ p ∧ p < m - 0 + j
  · rw [if_pos c]; rfl
  · rw [if_neg c, if_neg (by omega)]
theorem rot_none_right (d : Nat → Nat) (m i : Nat) : rot d m i 0 = d := by
  funext p; unfold rot
  rw [if_neg (by omega)]; split <;> rfl

/-- What symMerge_func does to the row. -/
def Sym (G : Gd) (a m b : Nat) : Prop := ∀ d w, G.At d w → Srt G.key d a m → Srt G.key d m b → Fst d a m b →
  Calls Try.prog 47 #[.agg G.data, .int .i64 a, .int .i64 m, .int .i64 b] w fun e w' => e = .returned (.tuple #[]) ∧ (∃ d', G.At d' w' ∧ Mv a b d d' ∧ Srt G.key d' a b) ∧ w.grownBy w' (some G.blk)

set_option maxHeartbeats 2000000 in
set_option maxRecDepth 100000 in
theorem symMerge_gt (G : Gd) (ok : Hid G.Ok) (d : Nat → Nat) (a m b : Nat) (w : World) (hat : Hid (G.At d w)) (h1 : a + 1 < m) (h2 : m + 1 < b) (h3 : b ≤ G.n) (hs1 : Hid (Srt G.key d a m)) (hs2 : Hid (Srt G.key d m b)) (hf : Hid (Fst d a m b))
    (IH : Hid (∀ a' m' b', b' - a' < b - a → a' < m' → m' < b' → b' ≤ G.n → Sym G a' m' b')) (mid nn pp s0 r0 : Nat) (hR : Hid (Rng a m b nn s0 r0)) (emid : Hid (mid = (a + b) / 2)) (hmm : mid < m) (er : Hid (r0 = mid)) (epp : Hid (pp + 1 = nn)) :
    Calls Try.prog 47 #[.agg G.data, .int .i64 a, .int .i64 m, .int .i64 b] w fun e w' => e = .returned (.tuple #[]) ∧ (∃ d', G.At d' w' ∧ Mv a b d d' ∧ Srt G.key d' a b) ∧ w.grownBy w' (some G.blk) := by
  have hn := ok.out.n
  have hb0 : w.heap.size ≠ G.blk := by have := hat.out.size ok.out; omega
  have hA : Hid (G.At d (w.alloc (.cells G.data 89))) := hat.out.alloc ok.out _
  have hX : Hid (G.Bx w.heap.size (w.alloc (.cells G.data 89))) := Gd.Bx.start G w 89
  have hG : Hid (w.grownBy (w.alloc (.cells G.data 89)) (some G.blk)) := World.grownBy_alloc w _ _
  have eg := ok.out.enter
  have z0 : ((m : Int) - (a : Int) == 1) = false := by rw [beq_eq_false_iff_ne]; omega
  have z1 : ((b : Int) - (m : Int) == 1) = false := by rw [beq_eq_false_iff_ne]; omega
  have z2 : ((a : Int) + (b : Int)) / 2 = (mid : Int) := by have := emid.out; omega
  have z3 : (mid : Int) + (m : Int) = (nn : Int) := by have := emid.out; have := hR.out.n1; omega
  have z4 : (nn : Int) - (b : Int) = (s0 : Int) := by have := emid.out; have := hR.out.n1; have := hR.out.c; omega
  have z5 : (nn : Int) - 1 = (pp : Int) := by have := epp.out; omega
  have nb : nn < 4398046511104 := by have := emid.out; have := hR.out.n1; omega
  have b0 : decide ((m : Int) > (mid : Int)) = true := by simp; omega
  go_enter Try.func47, Try.ntmps47
  go_wp2_with fail
  go_loopw [18, 19] (fun vi vj wr => ∃ (i j : Nat), vi = .int .i64 i ∧ vj = .int .i64 j ∧ S3 G.key d nn s0 r0 i j ∧ G.At d wr ∧ G.Bx w.heap.size wr ∧ w.grownBy wr (some G.blk)) (fun vi vj _ => (intOf vj).toNat - (intOf vi).toNat)
  case atStart => exact ⟨s0, r0, rfl, by rw [er.out], S3.start (by have := emid.out; have := hR.out.n1; have := hR.out.c; omega), hA.out, hX.out, hG.out⟩
  case round =>
    obtain ⟨i, j, rfl, rfl, hS, hA1, hX1, hG1⟩ := hrel
    clear hA hX hG z0 z1 z2 z3 z4 z5
    have k1 := hS.lo
    have k2 := hS.le
    have k3 := hS.hi
    have k4 : nn = mid + m := by have := emid.out; have := hR.out.n1; omega
    have k5 : r0 ≤ m ∧ a ≤ s0 ∧ r0 ≤ mid ∧ nn - s0 ≤ b := by have := emid.out; have := hR.out.c; omega
    have HK : Hid _ := k4
    have c0 := hX1.c0
    have HA : Hid _ := hA1
    have HX : Hid _ := hX1
    have HG : Hid _ := hG1
    have HS : Hid _ := hS
    clear hA1 hX1 hG1 hS
    by_cases hlt : i < j
    · have b1 : decide ((i : Int) < (j : Int)) = true := by simp; omega
      have ep := epp.out
      obtain ⟨c, ec⟩ : ∃ c : Nat, c = (i + j) / 2 := ⟨_, rfl⟩
      obtain ⟨q, eq⟩ : ∃ q : Nat, q = pp - c := ⟨_, rfl⟩
      have k6 : c ≤ pp := by omega
      have k7 : q < G.n := by omega
      have zc : ((i : Int) + (j : Int)) / 2 = (c : Int) := by omega
      have zq : (pp : Int) - (c : Int) = (q : Int) := by omega
      have HQ : Hid (q = nn - 1 - c) := by show q = nn - 1 - c; omega
      have k8 : i ≤ c ∧ c < j := by omega
      have hl := ok.out.less d _ q c HA.out k7 (by omega)
      clear k4 ep ec eq
      cases hlv : decide (G.key (d q) < G.key (d c)) with
      | true =>
        have hL : G.key (d q) < G.key (d c) := of_decide_eq_true hlv
        have HL : Hid _ := hL
        rw [hlv] at hl
        clear hlv hL
        go_wp2_with fail
        refine hl.mono ?_
        rintro e w1 ⟨rfl, hg1⟩
        have HA1 : Hid _ := HA.out.grow ok.out hg1
        have HX1 : Hid _ := HX.out.grow (grownB_but hg1 _) hb0
        have HG1 : Hid _ := grownB_trans HG.out (grownB_but hg1 _)
        clear hl hg1 c0
        go_wp2_with fail
        go_roundw
        case rel => exact ⟨i, c, rfl, rfl, HS.out.down hR.out hs1.out hs2.out k8.1 k8.2 (by rw [← HQ.out]; exact HL.out), HA1.out, HX1.out, HG1.out⟩
        case measure => simp [intOf]; omega
      | false =>
        have hL : ¬ G.key (d q) < G.key (d c) := of_decide_eq_false hlv
        have HL : Hid _ := hL
        rw [hlv] at hl
        clear hlv hL
        go_wp2_with fail
        refine hl.mono ?_
        rintro e w1 ⟨rfl, hg1⟩
        have HA1 : Hid _ := HA.out.grow ok.out hg1
        have HX1 : Hid _ := HX.out.grow (grownB_but hg1 _) hb0
        have HG1 : Hid _ := grownB_trans HG.out (grownB_but hg1 _)
        clear hl hg1 c0
        go_wp2_with fail
        go_roundw
        case rel => exact ⟨c + 1, j, by simp, rfl, HS.out.up hR.out hs1.out hs2.out k8.1 k8.2 (by rw [← HQ.out]; exact HL.out), HA1.out, HX1.out, HG1.out⟩
        case measure => simp [intOf]; omega
    · have b1 : decide ((i : Int) < (j : Int)) = false := by simp; omega
      obtain rfl : i = j := by omega
      obtain ⟨v1, v2, v3, v4, v5, hH⟩ := S3.halves hR.out hs1.out hs2.out hf.out HS.out
      obtain ⟨e, ee⟩ : ∃ e : Nat, e = nn - i := ⟨_, rfl⟩
      have ze : (nn : Int) - (i : Int) = (e : Int) := by omega
      rw [← emid.out] at v5 hH
      rw [← ee] at v3 v4 v5 hH
      have HH : Hid _ := hH
      have u1 : i ≤ mid := by omega
      have u2 : mid ≤ e := by have := hR.out.c; have := emid.out; omega
      have u3 : mid < b := by have := emid.out; omega
      have u4 : a < mid := by have := emid.out; omega
      have HE : Hid _ := v5
      have HN : Hid _ := ee
      have ne : e < G.n + 1 := by omega
      clear c0 k4 hH v5 k5 k1 k3 k2 HK ee
      go_upto_region 40 with fail
      clear ze
      go_cut [145] from 138 to 144 (fun v wd => v = .bool (decide (i < m ∧ m < e)) ∧ wd = wr)
      case first =>
        by_cases y1 : i < m
        · have q1 : decide ((i : Int) < (m : Int)) = true := by simp; omega
          by_cases y2 : m < e
          · have q2 : decide ((m : Int) < (e : Int)) = true := by simp; omega
            go_wp2_with fail
            go_meet
            case rel => exact ⟨by simp [y1, y2], rfl⟩
          · have q2 : decide ((m : Int) < (e : Int)) = false := by simp; omega
            go_wp2_with fail
            go_meet
            case rel => exact ⟨by simp [y1, y2], rfl⟩
        · have q1 : decide ((i : Int) < (m : Int)) = false := by simp; omega
          go_wp2_with fail
          go_meet
          case rel => exact ⟨by simp [y1], rfl⟩
      case rest =>
      obtain ⟨rfl, rfl⟩ := hcut
      have HA0 : Hid (G.At d wc) := HA
      have HX0 : Hid (G.Bx w.heap.size wc) := HX
      have HG0 : Hid (w.grownBy wc (some G.blk)) := HG
      clear HA HX HG
      obtain ⟨d1, ed1⟩ : ∃ d1, d1 = rot d m (m - i) (e - m) := ⟨_, rfl⟩
      have HD : Hid _ := ed1
      rw [← ed1] at HH
      clear ed1
      go_upto_if 145 with fail
      go_cut [4] from 145 to 150 (fun v wd => v = .pointer (some ⟨w.heap.size, 0, none⟩) ∧ Hid (G.At d1 wd) ∧ Hid (G.Bx w.heap.size wd) ∧ Hid (w.grownBy wd (some G.blk)))
      case first =>
        by_cases y : i < m ∧ m < e
        · have q1 : decide (i < m ∧ m < e) = true := by simp [y]
          have c0 := HX0.out.c0
          have c1 := HX0.out.c1
          have hro := rotate_any G ok d i m e wc HA0 y.1 y.2 (by omega)
          rw [← HD.out] at hro
          go_wp2_with fail
          refine hro.mono ?_
          rintro ex w1 ⟨rfl, hA2, hG2⟩
          have HA2 : Hid _ := hA2
          have HG2 : Hid _ := hG2
          clear hA2 hG2 hro c0 c1
          go_wp2_with fail
          go_meet
          case rel => exact ⟨rfl, HA2, HX0.out.grow HG2.out hb0, grownB_trans HG0.out HG2.out⟩
        · have q1 : decide (i < m ∧ m < e) = false := by simp only [decide_eq_false_iff_not]; exact y
          have hd : d1 = d := by
            rw [HD.out]
            rcases Nat.lt_or_ge i m with y1 | y1
            · rw [show e - m = 0 by omega]; exact rot_none_right d m _
            · rw [show m - i = 0 by omega]; exact rot_none_left d m _
          have HA1 : Hid (G.At d1 wc) := by rw [hd]; exact HA0
          clear hd
          go_wp2_with fail
          go_meet
          case rel => exact ⟨rfl, HA1, HX0, HG0⟩
      case rest =>
      obtain ⟨rfl, HA1, HX1, HG1⟩ := hcut
      clear HA0 HX0 HG0
      go_upto_region 42 with fail
      go_cut [158] from 151 to 157 (fun v wd => v = .bool (decide (a < i ∧ i < mid)) ∧ wd = wc)
      case first =>
        by_cases y1 : a < i
        · have q1 : decide ((a : Int) < (i : Int)) = true := by simp; omega
          by_cases y2 : i < mid
          · have q2 : decide ((i : Int) < (mid : Int)) = true := by simp; omega
            go_wp2_with fail
            go_meet
            case rel => exact ⟨by simp [y1, y2], rfl⟩
          · have q2 : decide ((i : Int) < (mid : Int)) = false := by simp; omega
            go_wp2_with fail
            go_meet
            case rel => exact ⟨by simp [y1, y2], rfl⟩
        · have q1 : decide ((a : Int) < (i : Int)) = false := by simp; omega
          go_wp2_with fail
          go_meet
          case rel => exact ⟨by simp [y1], rfl⟩
      case rest =>
      obtain ⟨rfl, rfl⟩ := hcut
      go_upto_if 158 with fail
      go_cut [4] from 158 to 163 (fun v wd => v = .pointer (some ⟨w.heap.size, 0, none⟩) ∧ ∃ d2, Hid (G.At d2 wd ∧ Mv a mid d1 d2 ∧ Srt G.key d2 a mid) ∧ Hid (G.Bx w.heap.size wd) ∧ Hid (w.grownBy wd (some G.blk)))
      case first =>
        by_cases y : a < i ∧ i < mid
        · have q1 : decide (a < i ∧ i < mid) = true := by simp [y]
          have c0 := HX1.out.c0
          have c1 := HX1.out.c1
          have hro := IH.out a i mid (by omega) y.1 y.2 (by omega) d1 _ HA1.out HH.out.s1 HH.out.s2 HH.out.f1
          go_wp2_with fail
          refine hro.mono ?_
          rintro ex w1 ⟨rfl, ⟨d2, hd2⟩, hG2⟩
          have HA2 : Hid _ := hd2
          have HG2 : Hid _ := hG2
          clear hd2 hG2 hro c0 c1
          go_wp2_with fail
          go_meet
          case rel => exact ⟨rfl, d2, HA2, HX1.out.grow HG2.out hb0, grownB_trans HG1.out HG2.out⟩
        · have q1 : decide (a < i ∧ i < mid) = false := by simp only [decide_eq_false_iff_not]; exact y
          have HA2 : Hid (G.At d1 wc ∧ Mv a mid d1 d1 ∧ Srt G.key d1 a mid) := ⟨HA1.out, Mv.refl _ _ _, HH.out.s1.join_left HH.out.s2 (by omega)⟩
          go_wp2_with fail
          go_meet
          case rel => exact ⟨rfl, d1, HA2, HX1, HG1⟩
      case rest =>
      obtain ⟨rfl, d2, HA2, HX2, HG2⟩ := hcut
      clear HA1 HX1 HG1
      go_upto_region 44 with fail
      go_cut [171] from 164 to 170 (fun v wd => v = .bool (decide (mid < e ∧ e < b)) ∧ wd = wc)
      case first =>
        by_cases y1 : mid < e
        · have q1 : decide ((mid : Int) < (e : Int)) = true := by simp; omega
          by_cases y2 : e < b
          · have q2 : decide ((e : Int) < (b : Int)) = true := by simp; omega
            go_wp2_with fail
            go_meet
            case rel => exact ⟨by simp [y1, y2], rfl⟩
          · have q2 : decide ((e : Int) < (b : Int)) = false := by simp; omega
            go_wp2_with fail
            go_meet
            case rel => exact ⟨by simp [y1, y2], rfl⟩
        · have q1 : decide ((mid : Int) < (e : Int)) = false := by simp; omega
          go_wp2_with fail
          go_meet
          case rel => exact ⟨by simp [y1], rfl⟩
      case rest =>
      obtain ⟨rfl, rfl⟩ := hcut
      have hS3 : Srt G.key d2 mid e := fun p q y1 y2 y3 => by rw [HA2.out.2.1.out p (by omega), HA2.out.2.1.out q (by omega)]; exact HH.out.s3 p q y1 y2 y3
      have hS4 : Srt G.key d2 e b := fun p q y1 y2 y3 => by rw [HA2.out.2.1.out p (by omega), HA2.out.2.1.out q (by omega)]; exact HH.out.s4 p q y1 y2 y3
      have hF2 : Fst d2 mid e b := fun p q y1 y2 y3 y4 => by rw [HA2.out.2.1.out p (by omega), HA2.out.2.1.out q (by omega)]; exact HH.out.f2 p q y1 y2 y3 y4
      have hM1 : Mv a b d d1 := by rw [HD.out]; exact Mv.rot d m _ (m - i) (e - m) (Nat.le_refl _) (by omega) (by omega) (by omega)
      have HT : Hid (Srt G.key d2 mid e ∧ Srt G.key d2 e b ∧ Fst d2 mid e b ∧ Mv a b d d1) := ⟨hS3, hS4, hF2, hM1⟩
      clear hS3 hS4 hF2 hM1
      by_cases y : mid < e ∧ e < b
      · have q1 : decide (mid < e ∧ e < b) = true := by simp [y]
        have c0 := HX2.out.c0
        have c1 := HX2.out.c1
        have hro := IH.out mid e b (by omega) y.1 y.2 (by omega) d2 _ HA2.out.1 HT.out.1 HT.out.2.1 HT.out.2.2.1
        go_wp2_with fail
        refine hro.mono ?_
        rintro ex w1 ⟨rfl, ⟨d3, hA3, hM3, hS3⟩, hG3⟩
        have HA3 : Hid _ := hA3
        have HM3 : Hid _ := hM3
        have HS3 : Hid _ := hS3
        have HG3 : Hid _ := hG3
        clear hA3 hM3 hS3 hG3 hro c0 c1
        go_wp2_with fail
        go_end0
        exact ⟨rfl, ⟨d3, HA3.out, (HT.out.2.2.2.trans (HA2.out.2.1.mono (Nat.le_refl _) (by omega))).trans (HM3.out.mono (by omega) (Nat.le_refl _)), HH.out.join HA2.out.2.1 HA2.out.2.2 HM3.out HS3.out⟩, grownB_trans HG2.out HG3.out⟩
      · have q1 : decide (mid < e ∧ e < b) = false := by simp only [decide_eq_false_iff_not]; exact y
        go_wp2_with fail
        go_end0
        exact ⟨rfl, ⟨d2, HA2.out.1, HT.out.2.2.2.trans (HA2.out.2.1.mono (Nat.le_refl _) (by omega)), HH.out.join HA2.out.2.1 HA2.out.2.2 (Mv.refl _ _ _) (HT.out.1.join_left HT.out.2.1 (by omega))⟩, HG2.out⟩
end Go.Proofs.Qxb6617018a
