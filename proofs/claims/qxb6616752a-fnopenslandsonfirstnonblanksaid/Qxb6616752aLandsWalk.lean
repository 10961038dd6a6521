/- The walk of FnOpensLandsOnFirstNonBlank. -/
import Derived.Test.Qxb6616752aReader
namespace Go.Proofs.Qxb6616752a
open Go.RowKit

set_option maxHeartbeats 400000 in
theorem opBlank_yes (c : Int) (w : World) (h : c = 32 ∨ c = 9) : Calls Try.prog 11 #[.int .u8 c] w fun e w' => e = .returned (.bool true) ∧ w' = w := by
  rcases h with rfl | rfl
  · go_enter Try.func11, Try.ntmps11
    go_wp2
    go_ret
    exact ⟨rfl, rfl⟩
  · go_enter Try.func11, Try.ntmps11
    go_wp2
    go_ret
    exact ⟨rfl, rfl⟩

set_option maxHeartbeats 400000 in
theorem opBlank_no (c : Int) (w : World) (h1 : (c == 32) = false) (h2 : (c == 9) = false) : Calls Try.prog 11 #[.int .u8 c] w fun e w' => e = .returned (.bool false) ∧ w' = w := by
  go_enter Try.func11, Try.ntmps11
  go_wp2
  go_ret
  exact ⟨rfl, rfl⟩

theorem skp_idem (l : List UInt8) : skp (l.drop (skp l)) = 0 := by
  induction l with
  | nil => rfl
  | cons c t ih =>
    by_cases h : c.toNat = 32 ∨ c.toNat = 9
    · rw [show skp (c :: t) = skp t + 1 by rw [skp, if_pos h], List.drop_succ_cons]; exact ih
    · rw [show skp (c :: t) = 0 by rw [skp, if_neg h], List.drop_zero, skp, if_neg h]

theorem ans_idem (l : List UInt8) : ans (l.drop (skp l)) = ans l := by
  unfold ans; rw [skp_idem, List.drop_zero]

theorem skp_in (l : List UInt8) (m : Nat) (h : m < skp l) : pkl (l.drop m) = 32 ∨ pkl (l.drop m) = 9 := by
  induction l generalizing m with
  | nil => simp [skp] at h
  | cons c t ih =>
    by_cases hc : c.toNat = 32 ∨ c.toNat = 9
    · rw [skp, if_pos hc] at h
      cases m with
      | zero => simp only [List.drop_zero, pkl]; omega
      | succ m => rw [List.drop_succ_cons]; exact ih m (by omega)
    · rw [skp, if_neg hc] at h; omega

theorem skp_not (l : List UInt8) : pkl (l.drop (skp l)) ≠ 32 ∧ pkl (l.drop (skp l)) ≠ 9 := by
  induction l with
  | nil => simp [skp, pkl]
  | cons c t ih =>
    by_cases hc : c.toNat = 32 ∨ c.toNat = 9
    · rw [show skp (c :: t) = skp t + 1 by rw [skp, if_pos hc], List.drop_succ_cons]; exact ih
    · rw [show skp (c :: t) = 0 by rw [skp, if_neg hc], List.drop_zero]
      simp only [pkl]
      omega

set_option maxHeartbeats 400000 in
theorem lands_long (s : ByteArray) (i : Int) (w : World) (hs : s.size ≤ maxLen) (h : 65536 < s.size) :
    Calls Try.prog 4 #[.string s, .int .i64 i] w fun e w' => e = .returned (.bool true) ∧ w' = w := by
  unfold maxLen at hs
  by_cases h2 : 1048576 < s.size
  · go_enter Try.func4, Try.ntmps4
    go_wp2
    go_ret
    exact ⟨rfl, rfl⟩
  · go_enter Try.func4, Try.ntmps4
    go_wp2
    go_ret
    exact ⟨rfl, rfl⟩

set_option maxHeartbeats 400000 in
theorem lands_out (s : ByteArray) (i : Int) (w : World) (h : s.size ≤ 65536) (hi : i < 0 ∨ (s.size : Int) < i) :
    Calls Try.prog 4 #[.string s, .int .i64 i] w fun e w' => e = .returned (.bool true) ∧ w' = w := by
  rcases hi with hi | hi
  · go_enter Try.func4, Try.ntmps4
    go_wp2
    go_ret
    exact ⟨rfl, rfl⟩
  · have h0 : ¬ i < 0 := by omega
    go_enter Try.func4, Try.ntmps4
    go_wp2
    go_ret
    exact ⟨rfl, rfl⟩

set_option maxHeartbeats 1000000 in
theorem lands_core (s : ByteArray) (k j : Nat) (r : Bool) (w : World) (h : s.size ≤ 65536) (hk : k ≤ j) (hj : j ≤ s.size)
    (c1 : Hid (∀ w, Calls Try.prog 10 #[.string s, .int .i64 (k : Int)] w fun e w' => e = .returned (.tuple #[.bool r, .int .i64 (j : Int)]) ∧ Below w.heap.size w w'))
    (c2 : Hid (∀ w, Calls Try.prog 10 #[.string s, .int .i64 (j : Int)] w fun e w' => e = .returned (.tuple #[.bool r, .int .i64 (j : Int)]) ∧ Below w.heap.size w w'))
    (hbl : Hid (∀ m (hm : m < s.size), k ≤ m → m < j → ((s[m].toNat : Int) = 32 ∨ (s[m].toNat : Int) = 9)))
    (hend : Hid ((∃ hm : j < s.size, ((s[j].toNat : Int) == 32) = false ∧ ((s[j].toNat : Int) == 9) = false ∧ ((s[j].toNat : Int) == 40) = r) ∨ (¬ j < s.size ∧ r = false))) :
    Calls Try.prog 4 #[.string s, .int .i64 (k : Int)] w fun e w' => e = .returned (.bool true) ∧ Below w.heap.size w w' := by
  have hd0 : decide ((k : Int) < 0) = false := by simp
  have hd1 : decide ((s.size : Int) < (k : Int)) = false := by simp; omega
  have hd2 : decide ((j : Int) < (k : Int)) = false := by simp; omega
  have hd3 : decide ((s.size : Int) < (j : Int)) = false := by simp; omega
  have hd4 : decide (65536 < (s.size : Int)) = false := by simp; omega
  have hd5 : decide (j < k) = false := by simp; omega
  have hd6 : decide (s.size < j) = false := by simp; omega
  go_enter Try.func4, Try.ntmps4
  go_wp2_with (go_at_call 9; go_in)
  refine (c1.out _).mono ?_
  rintro e w1 ⟨rfl, hb1⟩
  go_wp2_with fail
  go_loopg [7] (j - k) (fun g v wr => ∃ m : Nat, k ≤ m ∧ m ≤ j ∧ v = .int .i64 m ∧ Hid (g = j - m) ∧ wr = w1)
  case atStart => exact ⟨k, Nat.le_refl _, hk, rfl, rfl, rfl⟩
  case round =>
    obtain ⟨m, hm1, hm2, rfl, hg, rfl⟩ := hrel
    by_cases hlt : m < j
    · have hms : m < s.size := by omega
      have hb := hbl.out m hms hm1 hlt
      have HB : Hid _ := hb
      clear hb
      go_wp2_with fail
      refine (opBlank_yes _ _ HB.out).mono ?_
      rintro e w' ⟨rfl, rfl⟩
      go_wp2_with fail
      go_roundg (j - (m + 1))
      case rel => exact ⟨m + 1, by omega, by omega, by go_num, rfl, rfl⟩
      case measure => rw [hg.out]; omega
    · obtain rfl : m = j := by omega
      rcases hend.out with ⟨hmj, h1, h2, h3⟩ | ⟨hmj, hr⟩
      · clear hd3
        go_wp2_with fail
        refine (opBlank_no _ _ h1 h2).mono ?_
        rintro e w' ⟨rfl, rfl⟩
        go_wp2_with fail
        refine (c2.out _).mono ?_
        rintro e w2 ⟨rfl, hb2⟩
        go_wp2_with fail
        go_ret
        exact ⟨by simp, hb1.trans (hb2.mono hb1.size)⟩
      · have hdj : decide ((m : Int) < (s.size : Int)) = false := by simp; omega
        go_wp2_with fail
        refine (c2.out _).mono ?_
        rintro e w2 ⟨rfl, hb2⟩
        go_wp2_with fail
        go_ret
        exact ⟨by simp, hb1.trans (hb2.mono hb1.size)⟩
end Go.Proofs.Qxb6616752a
