/- The walk of stable_func. -/
import Derived.Test.Qxb6617018aSortSymD
import Derived.Test.Qxb6617018aSortPlain3
namespace Go.Proofs.Qxb6617018a
open Go.RowKit So

set_option maxHeartbeats 2000000 in
set_option maxRecDepth 100000 in
theorem stable_any (G : Gd) (ok : Hid G.Ok) (n : Nat) (en : Hid (n = G.n)) (d : Nat → Nat) (w : World) (hat : Hid (G.At d w)) (hidx : Hid (∀ p q, p < q → q < G.n → d p < d q)) :
    Calls Try.prog 34 #[.agg G.data, .int .i64 n] w fun e w' => e = .returned (.tuple #[]) ∧ (∃ d', G.At d' w' ∧ Srt G.key d' 0 G.n) ∧ w.grownBy w' (some G.blk) := by
  have hn : n < 1099511627776 := by rw [en.out]; exact ok.out.n
  have hb0 : w.heap.size ≠ G.blk := by have := hat.out.size ok.out; omega
  have hA : Hid (G.At d (w.alloc (.cells G.data 89))) := hat.out.alloc ok.out _
  have hX : Hid (G.Bx w.heap.size (w.alloc (.cells G.data 89))) := Gd.Bx.start G w 89
  have hG : Hid (w.grownBy (w.alloc (.cells G.data 89)) (some G.blk)) := World.grownBy_alloc w _ _
  go_enter Try.func34, Try.ntmps34
  go_wp2_with fail
  go_loopw [5, 6] (fun va vb wr => ∃ (a b : Nat) (d1 : Nat → Nat), va = .int .i64 a ∧ vb = .int .i64 b ∧ b = a + 20 ∧ a ≤ n ∧ Hid (P1 G.key d1 n 20 a) ∧ Hid (G.At d1 wr) ∧ Hid (G.Bx w.heap.size wr) ∧ Hid (w.grownBy wr (some G.blk))) (fun va _ _ => n + 20 - (intOf va).toNat)
  case atStart => exact ⟨0, 20, d, rfl, rfl, rfl, by omega, P1.start (by rw [en.out]; exact hidx.out), hA, hX, hG⟩
  case round =>
    obtain ⟨a, b, d1, rfl, rfl, hab, han, HP, HA, HX, HG⟩ := hrel
    have HB : Hid _ := hab
    clear hA hX hG
    have c0 := HX.out.c0
    have c1 := HX.out.c1
    by_cases hlt : b ≤ n
    · have b1 : decide ((b : Int) ≤ (n : Int)) = true := by simp; omega
      have hi := insertion_any G ok d1 a b wr HA (by omega) (by rw [← en.out]; exact hlt) (fun p q h1 h2 h3 => HP.out.rest p q h1 h2 (by omega))
      have kb : b < 2199023255552 := by omega
      have ka : a + 20 ≤ n := by omega
      clear hab
      go_wp2_with fail
      refine hi.mono ?_
      rintro e w1 ⟨rfl, ⟨d2, hA2, hM2, hS2⟩, hG2⟩
      rw [HB.out] at hM2 hS2
      have HA2 : Hid _ := hA2
      have HP2 : Hid _ := HP.out.next (by omega) hM2 hS2
      have HG2 : Hid _ := hG2
      clear hA2 hM2 hS2 hG2 hi c0 c1
      go_wp2_with fail
      go_roundw
      case rel => exact ⟨b, b + 20, d2, rfl, by simp, rfl, by omega, by rw [HB.out]; exact HP2, HA2, HX.out.grow HG2.out hb0, grownB_trans HG.out HG2.out⟩
      case measure => have := HB.out; simp [intOf]; omega
    · have b1 : decide ((b : Int) ≤ (n : Int)) = false := by simp; omega
      have hi := insertion_any G ok d1 a n wr HA han (by rw [← en.out]; exact Nat.le_refl _) (fun p q h1 h2 h3 => HP.out.rest p q h1 h2 h3)
      have kb : b < 2199023255552 := by omega
      have ka : n < a + 20 := by omega
      clear hab
      go_wp2_with fail
      refine hi.mono ?_
      rintro e w1 ⟨rfl, ⟨d2, hA2, hM2, hS2⟩, hG2⟩
      have HA2 : Hid _ := hA2
      have HP2 : Hid _ := HP.out.fin ka hM2 hS2
      have HX2 : Hid _ := HX.out.grow hG2 hb0
      have HG2 : Hid _ := grownB_trans HG.out hG2
      clear hA2 hM2 hS2 hG2 hi c0 c1 HA HX HG HP
      go_wp2_with fail
      go_loopw [4, 5, 6, 7] (fun vs va vb vm wr => ∃ (s : Nat) (d3 : Nat → Nat), vs = .int .i64 s ∧ 0 < s ∧ s < 4398046511104 ∧ Hid (Full G.key d3 n s) ∧ Hid (G.At d3 wr) ∧ Hid (G.Bx w.heap.size wr) ∧ Hid (w.grownBy wr (some G.blk))) (fun vs _ _ _ _ => n - (intOf vs).toNat)
      case atStart => exact ⟨20, d2, rfl, by omega, by omega, HP2, HA2, HX2, HG2⟩
      case round =>
        obtain ⟨s, d3, rfl, hs0, hs1, HF, HA3, HX3, HG3⟩ := hrel
        clear HA2 HP2 HX2 HG2
        by_cases hsn : s < n
        · have b2 : decide ((s : Int) < (n : Int)) = true := by simp; omega
          obtain ⟨t, et⟩ : ∃ t : Nat, t = 2 * s := ⟨_, rfl⟩
          have z1 : 2 * (s : Int) = (t : Int) := by omega
          have z2 : (s : Int) * 2 = (t : Int) := by omega
          have ht : t < 8796093022208 := by omega
          have HT : Hid _ := et
          clear et
          go_wp2_with fail
          go_loopw [5, 6] (fun va vb wr => ∃ (x y : Nat) (d4 : Nat → Nat), va = .int .i64 x ∧ vb = .int .i64 y ∧ Hid (y = x + t) ∧ x ≤ n ∧ Hid (Ps G.key d4 n s x) ∧ Hid (G.At d4 wr) ∧ Hid (G.Bx w.heap.size wr) ∧ Hid (w.grownBy wr (some G.blk))) (fun va _ _ => n + t - (intOf va).toNat)
          case atStart => exact ⟨0, t, d3, rfl, rfl, (show t = 0 + t by omega), by omega, Ps.start HF.out, HA3, HX3, HG3⟩
          case round =>
            obtain ⟨x, y, d4, rfl, rfl, hxy, hxn, HP, HA, HX, HG⟩ := hrel
            clear HA3 HX3 HG3 HF
            have c0 := HX.out.c0
            have c1 := HX.out.c1
            have ky : y < 17592186044416 := by have := hxy.out; omega
            by_cases hyn : y ≤ n
            · have b3 : decide ((y : Int) ≤ (n : Int)) = true := by simp; omega
              have e1 := hxy.out
              have e2 := HT.out
              have hpre := HP.out.pre (b := y) (by omega) hyn (by omega)
              have hi := symMerge_any G ok.out _ x (x + s) y (Nat.lt_succ_self _) (by omega) (by omega) (by rw [← en.out]; exact hyn) d4 wr HA.out hpre.1 hpre.2.1 hpre.2.2
              simp only [Int.natCast_add] at hi
              clear e1 e2 hpre
              go_wp2_with fail
              refine hi.mono ?_
              rintro e w1 ⟨rfl, ⟨d5, hA5, hM5, hS5⟩, hG5⟩
              rw [show y = x + 2 * s by rw [hxy.out, HT.out]] at hM5 hS5
              have HA5 : Hid _ := hA5
              have HP5 : Hid (Ps G.key d5 n s y) := by
                have := HP.out.next (by have := hxy.out; have := HT.out; omega) hM5 hS5
                rw [show y = x + 2 * s by rw [hxy.out, HT.out]]; exact this
              have HX5 : Hid _ := HX.out.grow hG5 hb0
              have HG5 : Hid _ := grownB_trans HG.out hG5
              clear hA5 hM5 hS5 hG5 hi c0 c1 HP HA HX HG
              go_wp2_with fail
              go_roundw
              case rel => exact ⟨y, y + t, d5, rfl, by simp, (show y + t = y + t from rfl), hyn, HP5, HA5, HX5, HG5⟩
              case measure => have := hxy.out; have := HT.out; simp [intOf]; omega
            · have b3 : decide ((y : Int) ≤ (n : Int)) = false := by simp; omega
              have fin : ∀ d5 w5, Full G.key d5 n t → G.At d5 w5 → wr.grownBy w5 (some G.blk) → ∃ (s : Nat) (d3 : Nat → Nat), Value.int .i64 (t : Nat) = .int .i64 (s : Nat) ∧ 0 < s ∧ s < 4398046511104 ∧ Hid (Full G.key d3 n s) ∧ Hid (G.At d3 w5) ∧ Hid (G.Bx w.heap.size w5) ∧ Hid (w.grownBy w5 (some G.blk)) :=
                fun d5 w5 k1 k2 k3 => ⟨t, d5, rfl, by have := HT.out; omega, by have := HT.out; omega, k1, k2, HX.out.grow k3 hb0, grownB_trans HG.out k3⟩
              have FIN : Hid _ := fin
              have ks : x + s < 17592186044416 := by omega
              clear fin
              by_cases hm : x + s < n
              · have b4 : decide ((x : Int) + (s : Int) < (n : Int)) = true := by simp; omega
                have e1 := hxy.out
                have e2 := HT.out
                have hpre := HP.out.pre (b := n) hm (Nat.le_refl _) (by omega)
                have hi := symMerge_any G ok.out _ x (x + s) n (Nat.lt_succ_self _) (by omega) hm (by rw [← en.out]; exact Nat.le_refl _) d4 wr HA.out hpre.1 hpre.2.1 hpre.2.2
                simp only [Int.natCast_add] at hi
                clear e1 e2 hpre
                go_wp2_with fail
                refine hi.mono ?_
                rintro e w1 ⟨rfl, ⟨d5, hA5, hM5, hS5⟩, hG5⟩
                have hF5 := HP.out.fin (by have := hxy.out; have := HT.out; omega) hM5 hS5
                rw [← HT.out] at hF5
                have HR : Hid _ := FIN.out d5 w1 hF5 hA5 hG5
                clear hA5 hM5 hS5 hG5 hi c0 c1 HP HA HX HG FIN hF5
                go_wp2_with fail
                go_roundw
                case rel => exact HR.out
                case measure => have := HT.out; simp [intOf]; omega
              · have b4 : decide ((x : Int) + (s : Int) < (n : Int)) = false := by simp; omega
                have hF5 := HP.out.fin_short (by have := hxy.out; have := HT.out; omega) (by omega)
                rw [← HT.out] at hF5
                have HR : Hid _ := FIN.out d4 wr hF5 HA.out (grownB_refl _ _)
                clear c0 c1 HP HA HX HG FIN hF5
                go_wp2_with fail
                go_roundw
                case rel => exact HR.out
                case measure => have := HT.out; simp [intOf]; omega
        · have b2 : decide ((s : Int) < (n : Int)) = false := by simp; omega
          go_wp2_with fail
          go_end0
          exact ⟨rfl, ⟨d3, HA3.out, by rw [← en.out]; exact HF.out.all (by omega)⟩, HG3.out⟩
end Go.Proofs.Qxb6617018a
