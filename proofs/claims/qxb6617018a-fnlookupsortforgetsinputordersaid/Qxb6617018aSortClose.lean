/- The walks of zzCloser and zzCandLess. -/
import Derived.Test.Qxb6617018aSortAdd
namespace Go.Proofs.Qxb6617018a
open Go.RowKit

theorem three_below (w : World) (A B C : Obj) : Below w.heap.size w (((w.alloc A).alloc B).alloc C) := (two_below w A B).alloc (by simp; omega) _

theorem xorl_get (a t : List UInt8) (n : Nat) (ha : n < a.length) (ht : n < t.length) (h : n < (xorl a t).length) : (xorl a t)[n]'h = a[n] ^^^ t[n] := by simp [xorl]

theorem ret_bool {a b : Bool} (h : a = b) : Ending.returned (.bool a) = .returned (.bool b) := by rw [h]

set_option maxHeartbeats 1000000 in
theorem closer_any (a b t : List UInt8) (ha : a.length = 20) (hb : b.length = 20) (ht : t.length = 20) (w : World) :
    Calls Try.prog 25 #[.agg (arrv a), .agg (arrv b), .agg (arrv t)] w fun e w' => e = .returned (.bool (decide (cmpl (xorl a t) (xorl b t) = -1))) ∧ Below w.heap.size w w' := by
  have la := xorl_length a t ha ht
  have lb := xorl_length b t hb ht
  have LA : Hid _ := la
  have LB : Hid _ := lb
  clear la lb
  go_enter Try.func25, Try.ntmps25
  go_wp2_with fail
  go_loopw [7, 8, 9] (fun vj _ _ wr => ∃ n : Nat, n ≤ 20 ∧ vj = .int .i64 n ∧ Hid (cmpl (xorl a t) (xorl b t) = cmpl ((xorl a t).drop n) ((xorl b t).drop n)) ∧ ∃ q, wr = (((w.alloc (.cells (arrv a) 22)).alloc (.cells (arrv b) 22)).alloc (.cells (arrv t) 22)).drewN q) (fun vj _ _ _ => 20 - (RowKit.intOf vj).toNat)
  case atStart => exact ⟨0, Nat.zero_le _, rfl, rfl, 0, rfl⟩
  case round =>
    obtain ⟨n, hn, rfl, hc, q, rfl⟩ := hrel
    by_cases hlt : n < 20
    · have hlt1 : (n : Int) < 20 := by omega
      obtain ⟨x, hx, ex⟩ : ∃ x : UInt8, (arrv a)[n]? = some (.int .u8 (x.toNat : Int)) ∧ Hid (x = a[n]'(by omega)) := ⟨_, arrv_get a n (by omega), rfl⟩
      obtain ⟨y, hy, ey⟩ : ∃ x : UInt8, (arrv b)[n]? = some (.int .u8 (x.toNat : Int)) ∧ Hid (x = b[n]'(by omega)) := ⟨_, arrv_get b n (by omega), rfl⟩
      obtain ⟨z, hz, ez⟩ : ∃ x : UInt8, (arrv t)[n]? = some (.int .u8 (x.toNat : Int)) ∧ Hid (x = t[n]'(by omega)) := ⟨_, arrv_get t n (by omega), rfl⟩
      obtain ⟨X, hX, eX⟩ : ∃ X : Nat, bits .xor .u8 (x.toNat : Int) (z.toNat : Int) = (X : Int) ∧ Hid (X = ((xorl a t)[n]'(by rw [LA.out]; exact hlt)).toNat) :=
        ⟨_, bits_xor_u8 x z, by show _ = _; rw [xorl_get a t n (by omega) (by omega), ex.out, ez.out]⟩
      obtain ⟨Y, hY, eY⟩ : ∃ X : Nat, bits .xor .u8 (y.toNat : Int) (z.toNat : Int) = (X : Int) ∧ Hid (X = ((xorl b t)[n]'(by rw [LB.out]; exact hlt)).toNat) :=
        ⟨_, bits_xor_u8 y z, by show _ = _; rw [xorl_get b t n (by omega) (by omega), ey.out, ez.out]⟩
      rcases Nat.lt_trichotomy X Y with h | h | h
      · have hne : ((X : Int) != (Y : Int)) = true := by rw [bne_iff_ne]; omega
        have hlt2 : (X : Int) < (Y : Int) := by omega
        have HF : Hid (cmpl (xorl a t) (xorl b t) = -1) := by show _ = _; rw [hc.out, cmpl_lt _ _ n (by rw [LA.out]; exact hlt) (by rw [LB.out]; exact hlt) (by rw [← eX.out, ← eY.out]; exact h)]
        clear h
        go_wp2_with fail
        go_quiet (fail)
        go_wp2_with fail
        go_quiet (fail)
        go_wp2_with fail
        go_ret
        exact ⟨ret_bool (by rw [HF.out]; simp), bdrew (three_below w _ _ _) _⟩
      · have hne : ((X : Int) != (Y : Int)) = false := by rw [h]; simp
        have HF : Hid (cmpl (xorl a t) (xorl b t) = cmpl ((xorl a t).drop (n + 1)) ((xorl b t).drop (n + 1))) := by show _ = _; rw [hc.out, cmpl_eq _ _ n (by rw [LA.out]; exact hlt) (by rw [LB.out]; exact hlt) (by rw [← eX.out, ← eY.out]; exact h)]
        clear h
        go_wp2_with fail
        go_quiet (fail)
        go_wp2_with fail
        go_quiet (fail)
        go_wp2_with fail
        go_roundw
        case rel => exact ⟨n + 1, by omega, by go_num, HF, _, rfl⟩
        case measure => simp [RowKit.intOf]; omega
      · have hne : ((X : Int) != (Y : Int)) = true := by rw [bne_iff_ne]; omega
        have hlt2 : ¬ (X : Int) < (Y : Int) := by omega
        have HL : Hid _ := h
        have HF : Hid (cmpl (xorl a t) (xorl b t) = 1) := by show _ = _; rw [hc.out, cmpl_gt _ _ n (by rw [LA.out]; exact hlt) (by rw [LB.out]; exact hlt) (by rw [← eX.out, ← eY.out]; exact h)]
        clear h
        go_wp2_with fail
        go_quiet (fail)
        go_wp2_with fail
        go_quiet (fail)
        go_wp2_with fail
        go_ret
        exact ⟨ret_bool (by rw [HF.out]; have := HL.out; simp; omega), bdrew (three_below w _ _ _) _⟩
    · obtain rfl : n = 20 := by omega
      have HF : Hid (cmpl (xorl a t) (xorl b t) = 0) := by show _ = _; rw [hc.out, List.drop_of_length_le (by rw [LA.out]; omega), List.drop_of_length_le (by rw [LB.out]; omega), cmpl]; simp
      go_wp2
      go_ret
      exact ⟨ret_bool (by rw [HF.out]; simp), bdrew (three_below w _ _ _) _⟩

/-- The cells of a Cand. -/
def candv (l : List UInt8) (k : Bool) : Array Value := arrv l ++ #[.bool k]

theorem candv_last (l : List UInt8) (k : Bool) (h : l.length = 20) : (candv l k)[20]? = some (.bool k) := by
  have : (arrv l).size = 20 := by rw [arrv_size, h]
  rw [candv, Array.getElem?_append_right (by omega), this]; rfl

theorem candv_range {w : World} {b : Nat} {t : TypeId} {fr : Nat × Nat} (l : List UInt8) (k : Bool) (h : w.heap[b]? = some (.cells (candv l k) t fr)) : w.rangeAt b 0 (arrv l).toList :=
  range_of_drop h (r := [.bool k]) (by simp [candv])

set_option maxHeartbeats 1000000 in
set_option maxRecDepth 100000 in
theorem candLess_any (a b t : List UInt8) (k1 k2 : Bool) (ha : a.length = 20) (hb : b.length = 20) (ht : t.length = 20) (w : World) :
    Calls Try.prog 17 #[.agg (candv a k1), .agg (candv b k2), .agg (arrv t)] w fun e w' => e = .returned (.bool (decide (ckey k1 a t < ckey k2 b t))) ∧ Below w.heap.size w w' := by
  have hA : (((w.alloc (.cells (candv a k1) 37)).alloc (.cells (candv b k2) 37)).alloc (.cells (arrv t) 22)).heap[w.heap.size]? = some (.cells (candv a k1) 37 (0, 0)) := by
    rw [Go.heap_alloc_old _ _ (by simp; omega), Go.heap_alloc_old _ _ (by simp)]; exact Go.heap_alloc_new _ _
  have hB : (((w.alloc (.cells (candv a k1) 37)).alloc (.cells (candv b k2) 37)).alloc (.cells (arrv t) 22)).heap[w.heap.size + 1]? = some (.cells (candv b k2) 37 (0, 0)) := by
    rw [Go.heap_alloc_old _ _ (by simp)]
    have := Go.heap_alloc_new (w.alloc (.cells (candv a k1) 37)) (.cells (candv b k2) 37)
    simpa using this
  have hT : (((w.alloc (.cells (candv a k1) 37)).alloc (.cells (candv b k2) 37)).alloc (.cells (arrv t) 22)).heap[w.heap.size + 1 + 1]? = some (.cells (arrv t) 22 (0, 0)) := by
    have := Go.heap_alloc_new ((w.alloc (.cells (candv a k1) 37)).alloc (.cells (candv b k2) 37)) (.cells (arrv t) 22)
    simpa using this
  have rA : Hid _ := candv_range a k1 hA
  have rB : Hid _ := candv_range b k2 hB
  have hlA := candv_last a k1 ha
  have hlB := candv_last b k2 hb
  have iA : (Try.prog.info? 22).map (·.size) = some (arrv a).toList.length := by rw [Array.length_toList]; exact info22 a ha
  have iB : (Try.prog.info? 22).map (·.size) = some (arrv b).toList.length := by rw [Array.length_toList]; exact info22 b hb
  have iT := info22 t ht
  have HT : Hid _ := hT
  have hbel : Hid _ := three_below w (.cells (candv a k1) 37) (.cells (candv b k2) 37) (.cells (arrv t) 22)
  clear hA hB hT
  obtain ⟨A, eA⟩ : ∃ A, A = candv a k1 := ⟨_, rfl⟩
  obtain ⟨B, eB⟩ : ∃ B, B = candv b k2 := ⟨_, rfl⟩
  rw [← eA, ← eB] at rA rB HT hbel
  rw [← eA] at hlA ⊢
  rw [← eB] at hlB ⊢
  rw [ckey_lt k1 k2 a b t ha hb ht]
  clear eA eB
  by_cases hk : k1 = k2
  · subst hk
    rw [if_pos rfl]
    have q1 : (k1 == k1) = true := by simp
    go_enter Try.func17, Try.ntmps17
    go_wp2_with (first | refine wpList_load_mid rfl 22 _ rfl _ _ rfl _ _ rA.out Try.underlying22 rfl iA ?_ | refine wpList_load_mid rfl 22 _ rfl _ _ rfl _ _ rB.out Try.underlying22 rfl iB ?_ | refine wpList_load_row rfl 22 _ rfl _ rfl 22 _ (0, 0) _ HT.out Try.underlying22 rfl iT ?_)
    refine (closer_any a b t ha hb ht _).mono ?_
    rintro e w' ⟨rfl, hw'⟩
    go_wp2_with fail
    go_ret
    exact ⟨rfl, hbel.out.trans (hw'.mono (by simp; omega))⟩
  · have q1 : (k1 == k2) = false := by simp [hk]
    rw [if_neg hk]
    clear hk
    go_enter Try.func17, Try.ntmps17
    go_wp2_with fail
    go_ret
    exact ⟨rfl, hbel.out⟩
end Go.Proofs.Qxb6617018a
