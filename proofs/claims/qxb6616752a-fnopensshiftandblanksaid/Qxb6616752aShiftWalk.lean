/- The walk of FnOpensShiftAndBlank. -/
import Derived.Test.Qxb6616752aReader
import Derived.Test.Qxb6616752aQuiet
import Derived.Lib.Strings
namespace Go.Proofs.Qxb6616752a
open Go.RowKit

/-- ZZopens, at what lies behind k. -/
theorem zz_at (t : ByteArray) (k n : Nat) (l : List UInt8) (b : Bool) (j : Int) (h : t.data.toList.drop k = l) (hk : k ≤ t.size) (hs : t.size ≤ 100000) (hn : skp l = n) (hb : ans l = b) (hj : j = (k : Int) + n) (w : World) :
    Calls Try.prog 10 #[.string t, .int .i64 (k : Int)] w fun e w' => e = .returned (.tuple #[.bool b, .int .i64 j]) ∧ Below w.heap.size w w' := by
  have := zzopens_any t k w hk hs
  rw [h, hn, hb, Int.natCast_add, ← hj] at this
  exact this

theorem skp_cons (c : UInt8) (l : List UInt8) (h : c.toNat = 32 ∨ c.toNat = 9) : skp (c :: l) = skp l + 1 := by rw [skp, if_pos h]
theorem ans_cons (c : UInt8) (l : List UInt8) (h : c.toNat = 32 ∨ c.toNat = 9) : ans (c :: l) = ans l := by
  unfold ans; rw [skp_cons c l h, List.drop_succ_cons]

set_option maxHeartbeats 400000 in
theorem shift_long (s : ByteArray) (i : Int) (b : Bool) (w : World) (hs : s.size ≤ maxLen) (h : 65536 < s.size) :
    Calls Try.prog 5 #[.string s, .int .i64 i, .bool b] w fun e w' => e = .returned (.bool true) ∧ w' = w := by
  unfold maxLen at hs
  by_cases h2 : 1048576 < s.size
  · go_enter Try.func5, Try.ntmps5
    go_wp2
    go_ret
    exact ⟨rfl, rfl⟩
  · go_enter Try.func5, Try.ntmps5
    go_wp2
    go_ret
    exact ⟨rfl, rfl⟩

set_option maxHeartbeats 400000 in
theorem shift_out (s : ByteArray) (i : Int) (b : Bool) (w : World) (h : s.size ≤ 65536) (hi : i < 0 ∨ (s.size : Int) < i) :
    Calls Try.prog 5 #[.string s, .int .i64 i, .bool b] w fun e w' => e = .returned (.bool true) ∧ w' = w := by
  rcases hi with hi | hi
  · go_enter Try.func5, Try.ntmps5
    go_wp2
    go_ret
    exact ⟨rfl, rfl⟩
  · have h0 : ¬ i < 0 := by omega
    go_enter Try.func5, Try.ntmps5
    go_wp2
    go_ret
    exact ⟨rfl, rfl⟩

theorem ext_tail (s : ByteArray) (k : Nat) : (s.extract k s.size).data.toList.drop 0 = s.data.toList.drop k := by
  rw [Lib.extract_data, List.drop_zero, List.take_of_length_le]
  simp

theorem ext_mid (s : ByteArray) (k : Nat) (hk : k ≤ s.size) (c : UInt8) : (s.extract 0 k ++ ⟨#[c]⟩ ++ s.extract k s.size).data.toList.drop k = c :: s.data.toList.drop k := by
  have e := ext_tail s k
  rw [List.drop_zero] at e
  rw [ByteArray.data_append, ByteArray.data_append, Array.toList_append, Array.toList_append, e, Lib.extract_data, List.drop_zero, Nat.sub_zero, List.append_assoc, List.drop_append_of_le_length (by simp; omega)]
  rw [List.drop_eq_nil_of_le (by simp; omega)]
  rfl

theorem ext_mid_size (s : ByteArray) (k : Nat) (hk : k ≤ s.size) (c : UInt8) : (s.extract 0 k ++ ⟨#[c]⟩ ++ s.extract k s.size).size = s.size + 1 := by
  simp only [ByteArray.size_append, ByteArray.size_extract]
  show min k s.size - 0 + 1 + (min s.size s.size - k) = s.size + 1
  omega

set_option maxHeartbeats 1000000 in
set_option maxRecDepth 100000 in
theorem shift_par_false (s : ByteArray) (k n : Nat) (r : Bool) (w : World) (h : s.size ≤ 65536) (hk : k ≤ s.size) (hkn : k + n ≤ s.size)
    (c1 : Hid (∀ w, Calls Try.prog 10 #[.string s, .int .i64 (k : Int)] w fun e w' => e = .returned (.tuple #[.bool r, .int .i64 ((k : Int) + n)]) ∧ Below w.heap.size w w'))
    (c2 : Hid (∀ w, Calls Try.prog 10 #[.string (s.extract k s.size), .int .i64 0] w fun e w' => e = .returned (.tuple #[.bool r, .int .i64 (n : Int)]) ∧ Below w.heap.size w w'))
    (c3 : Hid (∀ w, Calls Try.prog 10 #[.string (s.extract 0 k ++ ⟨#[32]⟩ ++ s.extract k s.size), .int .i64 (k : Int)] w fun e w' => e = .returned (.tuple #[.bool r, .int .i64 ((k : Int) + n + 1)]) ∧ Below w.heap.size w w'))
    (hlt : k < s.size) (hc : ((s[k].toNat : Int) == 40) = true) (hn0 : Hid (n = 0)) (hr : Hid (r = true)) :
    Calls Try.prog 5 #[.string s, .int .i64 (k : Int), .bool false] w fun e w' => e = .returned (.bool true) ∧ Below w.heap.size w w' := by
  go_enter Try.func5, Try.ntmps5
  go_wp2_with (go_at_call 12; go_in)
  refine (c1.out _).mono ?_
  rintro e w1 ⟨rfl, hb1⟩
  go_wp2_with fail
  refine (c2.out _).mono ?_
  rintro e w2 ⟨rfl, hb2⟩
  have hb : Below w.heap.size w w2 := hb1.trans (hb2.mono hb1.size)
  clear hb1 hb2
  go_wp2_with fail
  refine wp_region_quiet (C := fun w' => Below w.heap.size w w') (by kernel_rfl) (by kernel_rfl) (hb.trans ⟨rfl, rfl, rfl, Nat.le_refl _, fun _ _ => rfl⟩) ?_
  simp only
  refine q_value (.string s) rfl (fun _ _ => by first | rfl | go_simp) ?_
  simp only [Act.put, List.setIfInBounds_toArray, List.set_cons_zero, List.set_cons_succ]
  refine q_value (.int .i64 (k : Int)) rfl (fun _ _ => by first | rfl | go_simp) ?_
  simp only [Act.put, List.setIfInBounds_toArray, List.set_cons_zero, List.set_cons_succ]
  refine q_value (.string (s.extract 0 k)) rfl (fun _ _ => by first | rfl | go_simp) ?_
  simp only [Act.put, List.setIfInBounds_toArray, List.set_cons_zero, List.set_cons_succ]
  refine q_value (.string ⟨#[32]⟩) rfl (fun _ _ => by first | rfl | go_simp) ?_
  simp only [Act.put, List.setIfInBounds_toArray, List.set_cons_zero, List.set_cons_succ]
  refine q_value (.string (s.extract 0 k ++ ⟨#[32]⟩)) rfl (fun _ _ => by go_simp; omega) ?_
  simp only [Act.put, List.setIfInBounds_toArray, List.set_cons_zero, List.set_cons_succ]
  refine q_value (.string s) rfl (fun _ _ => by first | rfl | go_simp) ?_
  simp only [Act.put, List.setIfInBounds_toArray, List.set_cons_zero, List.set_cons_succ]
  refine q_value (.int .i64 (k : Int)) rfl (fun _ _ => by first | rfl | go_simp) ?_
  simp only [Act.put, List.setIfInBounds_toArray, List.set_cons_zero, List.set_cons_succ]
  refine q_value (.string (s.extract k s.size)) rfl (fun _ _ => by first | rfl | go_simp) ?_
  simp only [Act.put, List.setIfInBounds_toArray, List.set_cons_zero, List.set_cons_succ]
  refine q_value (.string (s.extract 0 k ++ ⟨#[32]⟩ ++ s.extract k s.size)) rfl (fun _ _ => by go_simp; omega) ?_
  simp only [Act.put, List.setIfInBounds_toArray, List.set_cons_zero, List.set_cons_succ]
  refine q_value (.int .i64 (k : Int)) rfl (fun _ _ => by first | rfl | go_simp) ?_
  simp only [Act.put, List.setIfInBounds_toArray, List.set_cons_zero, List.set_cons_succ]
  refine q_call (.tuple #[.bool r, .int .i64 ((k : Int) + n + 1)]) 10 #[.string (s.extract 0 k ++ ⟨#[32]⟩ ++ s.extract k s.size), .int .i64 (k : Int)] rfl (fun _ _ => by go_simp) ?_ ?_
  · intro w' hw'
    refine (c3.out w').mono ?_
    rintro e w'' ⟨rfl, hb3⟩
    exact ⟨rfl, hw'.trans (hb3.mono hw'.size)⟩
  simp only [Act.put, List.setIfInBounds_toArray, List.set_cons_zero, List.set_cons_succ]
  refine q_value (.tuple #[.bool r, .int .i64 ((k : Int) + n + 1)]) rfl (fun _ _ => by first | rfl | go_simp) ?_
  simp only [Act.put, List.setIfInBounds_toArray, List.set_cons_zero, List.set_cons_succ]
  refine q_value (.bool r) rfl (fun _ _ => by first | rfl | go_simp) ?_
  simp only [Act.put, List.setIfInBounds_toArray, List.set_cons_zero, List.set_cons_succ]
  refine q_value (.int .i64 ((k : Int) + n + 1)) rfl (fun _ _ => by first | rfl | go_simp) ?_
  simp only [Act.put, List.setIfInBounds_toArray, List.set_cons_zero, List.set_cons_succ]
  refine q_value (.bool r) rfl (fun _ _ => by first | rfl | go_simp) ?_
  simp only [Act.put, List.setIfInBounds_toArray, List.set_cons_zero, List.set_cons_succ]
  refine q_value (.int .i64 ((k : Int) + n + 1)) rfl (fun _ _ => by first | rfl | go_simp) ?_
  simp only [Act.put, List.setIfInBounds_toArray, List.set_cons_zero, List.set_cons_succ]
  refine wpQuiet_nil ?_
  intro w3 hb3
  have hn1 := hn0.out
  have hr1 := hr.out
  go_wp2_with fail
  go_ret
  exact ⟨rfl, hb3⟩

set_option maxHeartbeats 1000000 in
set_option maxRecDepth 100000 in
theorem shift_oth_false (s : ByteArray) (k n : Nat) (r : Bool) (w : World) (h : s.size ≤ 65536) (hk : k ≤ s.size) (hkn : k + n ≤ s.size)
    (c1 : Hid (∀ w, Calls Try.prog 10 #[.string s, .int .i64 (k : Int)] w fun e w' => e = .returned (.tuple #[.bool r, .int .i64 ((k : Int) + n)]) ∧ Below w.heap.size w w'))
    (c2 : Hid (∀ w, Calls Try.prog 10 #[.string (s.extract k s.size), .int .i64 0] w fun e w' => e = .returned (.tuple #[.bool r, .int .i64 (n : Int)]) ∧ Below w.heap.size w w'))
    (c3 : Hid (∀ w, Calls Try.prog 10 #[.string (s.extract 0 k ++ ⟨#[32]⟩ ++ s.extract k s.size), .int .i64 (k : Int)] w fun e w' => e = .returned (.tuple #[.bool r, .int .i64 ((k : Int) + n + 1)]) ∧ Below w.heap.size w w'))
    (hlt : k < s.size) (hc : ((s[k].toNat : Int) == 40) = false) :
    Calls Try.prog 5 #[.string s, .int .i64 (k : Int), .bool false] w fun e w' => e = .returned (.bool true) ∧ Below w.heap.size w w' := by
  go_enter Try.func5, Try.ntmps5
  go_wp2_with (go_at_call 12; go_in)
  refine (c1.out _).mono ?_
  rintro e w1 ⟨rfl, hb1⟩
  go_wp2_with fail
  refine (c2.out _).mono ?_
  rintro e w2 ⟨rfl, hb2⟩
  have hb : Below w.heap.size w w2 := hb1.trans (hb2.mono hb1.size)
  clear hb1 hb2
  go_wp2_with fail
  refine wp_region_quiet (C := fun w' => Below w.heap.size w w') (by kernel_rfl) (by kernel_rfl) (hb.trans ⟨rfl, rfl, rfl, Nat.le_refl _, fun _ _ => rfl⟩) ?_
  simp only
  refine q_value (.string s) rfl (fun _ _ => by first | rfl | go_simp) ?_
  simp only [Act.put, List.setIfInBounds_toArray, List.set_cons_zero, List.set_cons_succ]
  refine q_value (.int .i64 (k : Int)) rfl (fun _ _ => by first | rfl | go_simp) ?_
  simp only [Act.put, List.setIfInBounds_toArray, List.set_cons_zero, List.set_cons_succ]
  refine q_value (.string (s.extract 0 k)) rfl (fun _ _ => by first | rfl | go_simp) ?_
  simp only [Act.put, List.setIfInBounds_toArray, List.set_cons_zero, List.set_cons_succ]
  refine q_value (.string ⟨#[32]⟩) rfl (fun _ _ => by first | rfl | go_simp) ?_
  simp only [Act.put, List.setIfInBounds_toArray, List.set_cons_zero, List.set_cons_succ]
  refine q_value (.string (s.extract 0 k ++ ⟨#[32]⟩)) rfl (fun _ _ => by go_simp; omega) ?_
  simp only [Act.put, List.setIfInBounds_toArray, List.set_cons_zero, List.set_cons_succ]
  refine q_value (.string s) rfl (fun _ _ => by first | rfl | go_simp) ?_
  simp only [Act.put, List.setIfInBounds_toArray, List.set_cons_zero, List.set_cons_succ]
  refine q_value (.int .i64 (k : Int)) rfl (fun _ _ => by first | rfl | go_simp) ?_
  simp only [Act.put, List.setIfInBounds_toArray, List.set_cons_zero, List.set_cons_succ]
  refine q_value (.string (s.extract k s.size)) rfl (fun _ _ => by first | rfl | go_simp) ?_
  simp only [Act.put, List.setIfInBounds_toArray, List.set_cons_zero, List.set_cons_succ]
  refine q_value (.string (s.extract 0 k ++ ⟨#[32]⟩ ++ s.extract k s.size)) rfl (fun _ _ => by go_simp; omega) ?_
  simp only [Act.put, List.setIfInBounds_toArray, List.set_cons_zero, List.set_cons_succ]
  refine q_value (.int .i64 (k : Int)) rfl (fun _ _ => by first | rfl | go_simp) ?_
  simp only [Act.put, List.setIfInBounds_toArray, List.set_cons_zero, List.set_cons_succ]
  refine q_call (.tuple #[.bool r, .int .i64 ((k : Int) + n + 1)]) 10 #[.string (s.extract 0 k ++ ⟨#[32]⟩ ++ s.extract k s.size), .int .i64 (k : Int)] rfl (fun _ _ => by go_simp) ?_ ?_
  · intro w' hw'
    refine (c3.out w').mono ?_
    rintro e w'' ⟨rfl, hb3⟩
    exact ⟨rfl, hw'.trans (hb3.mono hw'.size)⟩
  simp only [Act.put, List.setIfInBounds_toArray, List.set_cons_zero, List.set_cons_succ]
  refine q_value (.tuple #[.bool r, .int .i64 ((k : Int) + n + 1)]) rfl (fun _ _ => by first | rfl | go_simp) ?_
  simp only [Act.put, List.setIfInBounds_toArray, List.set_cons_zero, List.set_cons_succ]
  refine q_value (.bool r) rfl (fun _ _ => by first | rfl | go_simp) ?_
  simp only [Act.put, List.setIfInBounds_toArray, List.set_cons_zero, List.set_cons_succ]
  refine q_value (.int .i64 ((k : Int) + n + 1)) rfl (fun _ _ => by first | rfl | go_simp) ?_
  simp only [Act.put, List.setIfInBounds_toArray, List.set_cons_zero, List.set_cons_succ]
  refine q_value (.bool r) rfl (fun _ _ => by first | rfl | go_simp) ?_
  simp only [Act.put, List.setIfInBounds_toArray, List.set_cons_zero, List.set_cons_succ]
  refine q_value (.int .i64 ((k : Int) + n + 1)) rfl (fun _ _ => by first | rfl | go_simp) ?_
  simp only [Act.put, List.setIfInBounds_toArray, List.set_cons_zero, List.set_cons_succ]
  refine wpQuiet_nil ?_
  intro w3 hb3
  go_wp2_with fail
  go_ret
  exact ⟨rfl, hb3⟩

set_option maxHeartbeats 1000000 in
set_option maxRecDepth 100000 in
theorem shift_end_false (s : ByteArray) (k n : Nat) (r : Bool) (w : World) (h : s.size ≤ 65536) (hk : k ≤ s.size) (hkn : k + n ≤ s.size)
    (c1 : Hid (∀ w, Calls Try.prog 10 #[.string s, .int .i64 (k : Int)] w fun e w' => e = .returned (.tuple #[.bool r, .int .i64 ((k : Int) + n)]) ∧ Below w.heap.size w w'))
    (c2 : Hid (∀ w, Calls Try.prog 10 #[.string (s.extract k s.size), .int .i64 0] w fun e w' => e = .returned (.tuple #[.bool r, .int .i64 (n : Int)]) ∧ Below w.heap.size w w'))
    (c3 : Hid (∀ w, Calls Try.prog 10 #[.string (s.extract 0 k ++ ⟨#[32]⟩ ++ s.extract k s.size), .int .i64 (k : Int)] w fun e w' => e = .returned (.tuple #[.bool r, .int .i64 ((k : Int) + n + 1)]) ∧ Below w.heap.size w w'))
    (hlt : ¬ k < s.size) :
    Calls Try.prog 5 #[.string s, .int .i64 (k : Int), .bool false] w fun e w' => e = .returned (.bool true) ∧ Below w.heap.size w w' := by
  go_enter Try.func5, Try.ntmps5
  go_wp2_with (go_at_call 12; go_in)
  refine (c1.out _).mono ?_
  rintro e w1 ⟨rfl, hb1⟩
  go_wp2_with fail
  refine (c2.out _).mono ?_
  rintro e w2 ⟨rfl, hb2⟩
  have hb : Below w.heap.size w w2 := hb1.trans (hb2.mono hb1.size)
  clear hb1 hb2
  go_wp2_with fail
  refine wp_region_quiet (C := fun w' => Below w.heap.size w w') (by kernel_rfl) (by kernel_rfl) (hb.trans ⟨rfl, rfl, rfl, Nat.le_refl _, fun _ _ => rfl⟩) ?_
  simp only
  refine q_value (.string s) rfl (fun _ _ => by first | rfl | go_simp) ?_
  simp only [Act.put, List.setIfInBounds_toArray, List.set_cons_zero, List.set_cons_succ]
  refine q_value (.int .i64 (k : Int)) rfl (fun _ _ => by first | rfl | go_simp) ?_
  simp only [Act.put, List.setIfInBounds_toArray, List.set_cons_zero, List.set_cons_succ]
  refine q_value (.string (s.extract 0 k)) rfl (fun _ _ => by first | rfl | go_simp) ?_
  simp only [Act.put, List.setIfInBounds_toArray, List.set_cons_zero, List.set_cons_succ]
  refine q_value (.string ⟨#[32]⟩) rfl (fun _ _ => by first | rfl | go_simp) ?_
  simp only [Act.put, List.setIfInBounds_toArray, List.set_cons_zero, List.set_cons_succ]
  refine q_value (.string (s.extract 0 k ++ ⟨#[32]⟩)) rfl (fun _ _ => by go_simp; omega) ?_
  simp only [Act.put, List.setIfInBounds_toArray, List.set_cons_zero, List.set_cons_succ]
  refine q_value (.string s) rfl (fun _ _ => by first | rfl | go_simp) ?_
  simp only [Act.put, List.setIfInBounds_toArray, List.set_cons_zero, List.set_cons_succ]
  refine q_value (.int .i64 (k : Int)) rfl (fun _ _ => by first | rfl | go_simp) ?_
  simp only [Act.put, List.setIfInBounds_toArray, List.set_cons_zero, List.set_cons_succ]
  refine q_value (.string (s.extract k s.size)) rfl (fun _ _ => by first | rfl | go_simp) ?_
  simp only [Act.put, List.setIfInBounds_toArray, List.set_cons_zero, List.set_cons_succ]
  refine q_value (.string (s.extract 0 k ++ ⟨#[32]⟩ ++ s.extract k s.size)) rfl (fun _ _ => by go_simp; omega) ?_
  simp only [Act.put, List.setIfInBounds_toArray, List.set_cons_zero, List.set_cons_succ]
  refine q_value (.int .i64 (k : Int)) rfl (fun _ _ => by first | rfl | go_simp) ?_
  simp only [Act.put, List.setIfInBounds_toArray, List.set_cons_zero, List.set_cons_succ]
  refine q_call (.tuple #[.bool r, .int .i64 ((k : Int) + n + 1)]) 10 #[.string (s.extract 0 k ++ ⟨#[32]⟩ ++ s.extract k s.size), .int .i64 (k : Int)] rfl (fun _ _ => by go_simp) ?_ ?_
  · intro w' hw'
    refine (c3.out w').mono ?_
    rintro e w'' ⟨rfl, hb3⟩
    exact ⟨rfl, hw'.trans (hb3.mono hw'.size)⟩
  simp only [Act.put, List.setIfInBounds_toArray, List.set_cons_zero, List.set_cons_succ]
  refine q_value (.tuple #[.bool r, .int .i64 ((k : Int) + n + 1)]) rfl (fun _ _ => by first | rfl | go_simp) ?_
  simp only [Act.put, List.setIfInBounds_toArray, List.set_cons_zero, List.set_cons_succ]
  refine q_value (.bool r) rfl (fun _ _ => by first | rfl | go_simp) ?_
  simp only [Act.put, List.setIfInBounds_toArray, List.set_cons_zero, List.set_cons_succ]
  refine q_value (.int .i64 ((k : Int) + n + 1)) rfl (fun _ _ => by first | rfl | go_simp) ?_
  simp only [Act.put, List.setIfInBounds_toArray, List.set_cons_zero, List.set_cons_succ]
  refine q_value (.bool r) rfl (fun _ _ => by first | rfl | go_simp) ?_
  simp only [Act.put, List.setIfInBounds_toArray, List.set_cons_zero, List.set_cons_succ]
  refine q_value (.int .i64 ((k : Int) + n + 1)) rfl (fun _ _ => by first | rfl | go_simp) ?_
  simp only [Act.put, List.setIfInBounds_toArray, List.set_cons_zero, List.set_cons_succ]
  refine wpQuiet_nil ?_
  intro w3 hb3
  go_wp2_with fail
  go_ret
  exact ⟨rfl, hb3⟩

set_option maxHeartbeats 1000000 in
set_option maxRecDepth 100000 in
theorem shift_par_true (s : ByteArray) (k n : Nat) (r : Bool) (w : World) (h : s.size ≤ 65536) (hk : k ≤ s.size) (hkn : k + n ≤ s.size)
    (c1 : Hid (∀ w, Calls Try.prog 10 #[.string s, .int .i64 (k : Int)] w fun e w' => e = .returned (.tuple #[.bool r, .int .i64 ((k : Int) + n)]) ∧ Below w.heap.size w w'))
    (c2 : Hid (∀ w, Calls Try.prog 10 #[.string (s.extract k s.size), .int .i64 0] w fun e w' => e = .returned (.tuple #[.bool r, .int .i64 (n : Int)]) ∧ Below w.heap.size w w'))
    (c3 : Hid (∀ w, Calls Try.prog 10 #[.string (s.extract 0 k ++ ⟨#[9]⟩ ++ s.extract k s.size), .int .i64 (k : Int)] w fun e w' => e = .returned (.tuple #[.bool r, .int .i64 ((k : Int) + n + 1)]) ∧ Below w.heap.size w w'))
    (hlt : k < s.size) (hc : ((s[k].toNat : Int) == 40) = true) (hn0 : Hid (n = 0)) (hr : Hid (r = true)) :
    Calls Try.prog 5 #[.string s, .int .i64 (k : Int), .bool true] w fun e w' => e = .returned (.bool true) ∧ Below w.heap.size w w' := by
  go_enter Try.func5, Try.ntmps5
  go_wp2_with (go_at_call 12; go_in)
  refine (c1.out _).mono ?_
  rintro e w1 ⟨rfl, hb1⟩
  go_wp2_with fail
  refine (c2.out _).mono ?_
  rintro e w2 ⟨rfl, hb2⟩
  have hb : Below w.heap.size w w2 := hb1.trans (hb2.mono hb1.size)
  clear hb1 hb2
  go_wp2_with fail
  refine wp_region_quiet (C := fun w' => Below w.heap.size w w') (by kernel_rfl) (by kernel_rfl) (hb.trans ⟨rfl, rfl, rfl, Nat.le_refl _, fun _ _ => rfl⟩) ?_
  simp only
  refine q_value (.string s) rfl (fun _ _ => by first | rfl | go_simp) ?_
  simp only [Act.put, List.setIfInBounds_toArray, List.set_cons_zero, List.set_cons_succ]
  refine q_value (.int .i64 (k : Int)) rfl (fun _ _ => by first | rfl | go_simp) ?_
  simp only [Act.put, List.setIfInBounds_toArray, List.set_cons_zero, List.set_cons_succ]
  refine q_value (.string (s.extract 0 k)) rfl (fun _ _ => by first | rfl | go_simp) ?_
  simp only [Act.put, List.setIfInBounds_toArray, List.set_cons_zero, List.set_cons_succ]
  refine q_value (.string ⟨#[9]⟩) rfl (fun _ _ => by first | rfl | go_simp) ?_
  simp only [Act.put, List.setIfInBounds_toArray, List.set_cons_zero, List.set_cons_succ]
  refine q_value (.string (s.extract 0 k ++ ⟨#[9]⟩)) rfl (fun _ _ => by go_simp; omega) ?_
  simp only [Act.put, List.setIfInBounds_toArray, List.set_cons_zero, List.set_cons_succ]
  refine q_value (.string s) rfl (fun _ _ => by first | rfl | go_simp) ?_
  simp only [Act.put, List.setIfInBounds_toArray, List.set_cons_zero, List.set_cons_succ]
  refine q_value (.int .i64 (k : Int)) rfl (fun _ _ => by first | rfl | go_simp) ?_
  simp only [Act.put, List.setIfInBounds_toArray, List.set_cons_zero, List.set_cons_succ]
  refine q_value (.string (s.extract k s.size)) rfl (fun _ _ => by first | rfl | go_simp) ?_
  simp only [Act.put, List.setIfInBounds_toArray, List.set_cons_zero, List.set_cons_succ]
  refine q_value (.string (s.extract 0 k ++ ⟨#[9]⟩ ++ s.extract k s.size)) rfl (fun _ _ => by go_simp; omega) ?_
  simp only [Act.put, List.setIfInBounds_toArray, List.set_cons_zero, List.set_cons_succ]
  refine q_value (.int .i64 (k : Int)) rfl (fun _ _ => by first | rfl | go_simp) ?_
  simp only [Act.put, List.setIfInBounds_toArray, List.set_cons_zero, List.set_cons_succ]
  refine q_call (.tuple #[.bool r, .int .i64 ((k : Int) + n + 1)]) 10 #[.string (s.extract 0 k ++ ⟨#[9]⟩ ++ s.extract k s.size), .int .i64 (k : Int)] rfl (fun _ _ => by go_simp) ?_ ?_
  · intro w' hw'
    refine (c3.out w').mono ?_
    rintro e w'' ⟨rfl, hb3⟩
    exact ⟨rfl, hw'.trans (hb3.mono hw'.size)⟩
  simp only [Act.put, List.setIfInBounds_toArray, List.set_cons_zero, List.set_cons_succ]
  refine q_value (.tuple #[.bool r, .int .i64 ((k : Int) + n + 1)]) rfl (fun _ _ => by first | rfl | go_simp) ?_
  simp only [Act.put, List.setIfInBounds_toArray, List.set_cons_zero, List.set_cons_succ]
  refine q_value (.bool r) rfl (fun _ _ => by first | rfl | go_simp) ?_
  simp only [Act.put, List.setIfInBounds_toArray, List.set_cons_zero, List.set_cons_succ]
  refine q_value (.int .i64 ((k : Int) + n + 1)) rfl (fun _ _ => by first | rfl | go_simp) ?_
  simp only [Act.put, List.setIfInBounds_toArray, List.set_cons_zero, List.set_cons_succ]
  refine q_value (.bool r) rfl (fun _ _ => by first | rfl | go_simp) ?_
  simp only [Act.put, List.setIfInBounds_toArray, List.set_cons_zero, List.set_cons_succ]
  refine q_value (.int .i64 ((k : Int) + n + 1)) rfl (fun _ _ => by first | rfl | go_simp) ?_
  simp only [Act.put, List.setIfInBounds_toArray, List.set_cons_zero, List.set_cons_succ]
  refine wpQuiet_nil ?_
  intro w3 hb3
  have hn1 := hn0.out
  have hr1 := hr.out
  go_wp2_with fail
  go_ret
  exact ⟨rfl, hb3⟩

set_option maxHeartbeats 1000000 in
set_option maxRecDepth 100000 in
theorem shift_oth_true (s : ByteArray) (k n : Nat) (r : Bool) (w : World) (h : s.size ≤ 65536) (hk : k ≤ s.size) (hkn : k + n ≤ s.size)
    (c1 : Hid (∀ w, Calls Try.prog 10 #[.string s, .int .i64 (k : Int)] w fun e w' => e = .returned (.tuple #[.bool r, .int .i64 ((k : Int) + n)]) ∧ Below w.heap.size w w'))
    (c2 : Hid (∀ w, Calls Try.prog 10 #[.string (s.extract k s.size), .int .i64 0] w fun e w' => e = .returned (.tuple #[.bool r, .int .i64 (n : Int)]) ∧ Below w.heap.size w w'))
    (c3 : Hid (∀ w, Calls Try.prog 10 #[.string (s.extract 0 k ++ ⟨#[9]⟩ ++ s.extract k s.size), .int .i64 (k : Int)] w fun e w' => e = .returned (.tuple #[.bool r, .int .i64 ((k : Int) + n + 1)]) ∧ Below w.heap.size w w'))
    (hlt : k < s.size) (hc : ((s[k].toNat : Int) == 40) = false) :
    Calls Try.prog 5 #[.string s, .int .i64 (k : Int), .bool true] w fun e w' => e = .returned (.bool true) ∧ Below w.heap.size w w' := by
  go_enter Try.func5, Try.ntmps5
  go_wp2_with (go_at_call 12; go_in)
  refine (c1.out _).mono ?_
  rintro e w1 ⟨rfl, hb1⟩
  go_wp2_with fail
  refine (c2.out _).mono ?_
  rintro e w2 ⟨rfl, hb2⟩
  have hb : Below w.heap.size w w2 := hb1.trans (hb2.mono hb1.size)
  clear hb1 hb2
  go_wp2_with fail
  refine wp_region_quiet (C := fun w' => Below w.heap.size w w') (by kernel_rfl) (by kernel_rfl) (hb.trans ⟨rfl, rfl, rfl, Nat.le_refl _, fun _ _ => rfl⟩) ?_
  simp only
  refine q_value (.string s) rfl (fun _ _ => by first | rfl | go_simp) ?_
  simp only [Act.put, List.setIfInBounds_toArray, List.set_cons_zero, List.set_cons_succ]
  refine q_value (.int .i64 (k : Int)) rfl (fun _ _ => by first | rfl | go_simp) ?_
  simp only [Act.put, List.setIfInBounds_toArray, List.set_cons_zero, List.set_cons_succ]
  refine q_value (.string (s.extract 0 k)) rfl (fun _ _ => by first | rfl | go_simp) ?_
  simp only [Act.put, List.setIfInBounds_toArray, List.set_cons_zero, List.set_cons_succ]
  refine q_value (.string ⟨#[9]⟩) rfl (fun _ _ => by first | rfl | go_simp) ?_
  simp only [Act.put, List.setIfInBounds_toArray, List.set_cons_zero, List.set_cons_succ]
  refine q_value (.string (s.extract 0 k ++ ⟨#[9]⟩)) rfl (fun _ _ => by go_simp; omega) ?_
  simp only [Act.put, List.setIfInBounds_toArray, List.set_cons_zero, List.set_cons_succ]
  refine q_value (.string s) rfl (fun _ _ => by first | rfl | go_simp) ?_
  simp only [Act.put, List.setIfInBounds_toArray, List.set_cons_zero, List.set_cons_succ]
  refine q_value (.int .i64 (k : Int)) rfl (fun _ _ => by first | rfl | go_simp) ?_
  simp only [Act.put, List.setIfInBounds_toArray, List.set_cons_zero, List.set_cons_succ]
  refine q_value (.string (s.extract k s.size)) rfl (fun _ _ => by first | rfl | go_simp) ?_
  simp only [Act.put, List.setIfInBounds_toArray, List.set_cons_zero, List.set_cons_succ]
  refine q_value (.string (s.extract 0 k ++ ⟨#[9]⟩ ++ s.extract k s.size)) rfl (fun _ _ => by go_simp; omega) ?_
  simp only [Act.put, List.setIfInBounds_toArray, List.set_cons_zero, List.set_cons_succ]
  refine q_value (.int .i64 (k : Int)) rfl (fun _ _ => by first | rfl | go_simp) ?_
  simp only [Act.put, List.setIfInBounds_toArray, List.set_cons_zero, List.set_cons_succ]
  refine q_call (.tuple #[.bool r, .int .i64 ((k : Int) + n + 1)]) 10 #[.string (s.extract 0 k ++ ⟨#[9]⟩ ++ s.extract k s.size), .int .i64 (k : Int)] rfl (fun _ _ => by go_simp) ?_ ?_
  · intro w' hw'
    refine (c3.out w').mono ?_
    rintro e w'' ⟨rfl, hb3⟩
    exact ⟨rfl, hw'.trans (hb3.mono hw'.size)⟩
  simp only [Act.put, List.setIfInBounds_toArray, List.set_cons_zero, List.set_cons_succ]
  refine q_value (.tuple #[.bool r, .int .i64 ((k : Int) + n + 1)]) rfl (fun _ _ => by first | rfl | go_simp) ?_
  simp only [Act.put, List.setIfInBounds_toArray, List.set_cons_zero, List.set_cons_succ]
  refine q_value (.bool r) rfl (fun _ _ => by first | rfl | go_simp) ?_
  simp only [Act.put, List.setIfInBounds_toArray, List.set_cons_zero, List.set_cons_succ]
  refine q_value (.int .i64 ((k : Int) + n + 1)) rfl (fun _ _ => by first | rfl | go_simp) ?_
  simp only [Act.put, List.setIfInBounds_toArray, List.set_cons_zero, List.set_cons_succ]
  refine q_value (.bool r) rfl (fun _ _ => by first | rfl | go_simp) ?_
  simp only [Act.put, List.setIfInBounds_toArray, List.set_cons_zero, List.set_cons_succ]
  refine q_value (.int .i64 ((k : Int) + n + 1)) rfl (fun _ _ => by first | rfl | go_simp) ?_
  simp only [Act.put, List.setIfInBounds_toArray, List.set_cons_zero, List.set_cons_succ]
  refine wpQuiet_nil ?_
  intro w3 hb3
  go_wp2_with fail
  go_ret
  exact ⟨rfl, hb3⟩

set_option maxHeartbeats 1000000 in
set_option maxRecDepth 100000 in
theorem shift_end_true (s : ByteArray) (k n : Nat) (r : Bool) (w : World) (h : s.size ≤ 65536) (hk : k ≤ s.size) (hkn : k + n ≤ s.size)
    (c1 : Hid (∀ w, Calls Try.prog 10 #[.string s, .int .i64 (k : Int)] w fun e w' => e = .returned (.tuple #[.bool r, .int .i64 ((k : Int) + n)]) ∧ Below w.heap.size w w'))
    (c2 : Hid (∀ w, Calls Try.prog 10 #[.string (s.extract k s.size), .int .i64 0] w fun e w' => e = .returned (.tuple #[.bool r, .int .i64 (n : Int)]) ∧ Below w.heap.size w w'))
    (c3 : Hid (∀ w, Calls Try.prog 10 #[.string (s.extract 0 k ++ ⟨#[9]⟩ ++ s.extract k s.size), .int .i64 (k : Int)] w fun e w' => e = .returned (.tuple #[.bool r, .int .i64 ((k : Int) + n + 1)]) ∧ Below w.heap.size w w'))
    (hlt : ¬ k < s.size) :
    Calls Try.prog 5 #[.string s, .int .i64 (k : Int), .bool true] w fun e w' => e = .returned (.bool true) ∧ Below w.heap.size w w' := by
  go_enter Try.func5, Try.ntmps5
  go_wp2_with (go_at_call 12; go_in)
  refine (c1.out _).mono ?_
  rintro e w1 ⟨rfl, hb1⟩
  go_wp2_with fail
  refine (c2.out _).mono ?_
  rintro e w2 ⟨rfl, hb2⟩
  have hb : Below w.heap.size w w2 := hb1.trans (hb2.mono hb1.size)
  clear hb1 hb2
  go_wp2_with fail
  refine wp_region_quiet (C := fun w' => Below w.heap.size w w') (by kernel_rfl) (by kernel_rfl) (hb.trans ⟨rfl, rfl, rfl, Nat.le_refl _, fun _ _ => rfl⟩) ?_
  simp only
  refine q_value (.string s) rfl (fun _ _ => by first | rfl | go_simp) ?_
  simp only [Act.put, List.setIfInBounds_toArray, List.set_cons_zero, List.set_cons_succ]
  refine q_value (.int .i64 (k : Int)) rfl (fun _ _ => by first | rfl | go_simp) ?_
  simp only [Act.put, List.setIfInBounds_toArray, List.set_cons_zero, List.set_cons_succ]
  refine q_value (.string (s.extract 0 k)) rfl (fun _ _ => by first | rfl | go_simp) ?_
  simp only [Act.put, List.setIfInBounds_toArray, List.set_cons_zero, List.set_cons_succ]
  refine q_value (.string ⟨#[9]⟩) rfl (fun _ _ => by first | rfl | go_simp) ?_
  simp only [Act.put, List.setIfInBounds_toArray, List.set_cons_zero, List.set_cons_succ]
  refine q_value (.string (s.extract 0 k ++ ⟨#[9]⟩)) rfl (fun _ _ => by go_simp; omega) ?_
  simp only [Act.put, List.setIfInBounds_toArray, List.set_cons_zero, List.set_cons_succ]
  refine q_value (.string s) rfl (fun _ _ => by first | rfl | go_simp) ?_
  simp only [Act.put, List.setIfInBounds_toArray, List.set_cons_zero, List.set_cons_succ]
  refine q_value (.int .i64 (k : Int)) rfl (fun _ _ => by first | rfl | go_simp) ?_
  simp only [Act.put, List.setIfInBounds_toArray, List.set_cons_zero, List.set_cons_succ]
  refine q_value (.string (s.extract k s.size)) rfl (fun _ _ => by first | rfl | go_simp) ?_
  simp only [Act.put, List.setIfInBounds_toArray, List.set_cons_zero, List.set_cons_succ]
  refine q_value (.string (s.extract 0 k ++ ⟨#[9]⟩ ++ s.extract k s.size)) rfl (fun _ _ => by go_simp; omega) ?_
  simp only [Act.put, List.setIfInBounds_toArray, List.set_cons_zero, List.set_cons_succ]
  refine q_value (.int .i64 (k : Int)) rfl (fun _ _ => by first | rfl | go_simp) ?_
  simp only [Act.put, List.setIfInBounds_toArray, List.set_cons_zero, List.set_cons_succ]
  refine q_call (.tuple #[.bool r, .int .i64 ((k : Int) + n + 1)]) 10 #[.string (s.extract 0 k ++ ⟨#[9]⟩ ++ s.extract k s.size), .int .i64 (k : Int)] rfl (fun _ _ => by go_simp) ?_ ?_
  · intro w' hw'
    refine (c3.out w').mono ?_
    rintro e w'' ⟨rfl, hb3⟩
    exact ⟨rfl, hw'.trans (hb3.mono hw'.size)⟩
  simp only [Act.put, List.setIfInBounds_toArray, List.set_cons_zero, List.set_cons_succ]
  refine q_value (.tuple #[.bool r, .int .i64 ((k : Int) + n + 1)]) rfl (fun _ _ => by first | rfl | go_simp) ?_
  simp only [Act.put, List.setIfInBounds_toArray, List.set_cons_zero, List.set_cons_succ]
  refine q_value (.bool r) rfl (fun _ _ => by first | rfl | go_simp) ?_
  simp only [Act.put, List.setIfInBounds_toArray, List.set_cons_zero, List.set_cons_succ]
  refine q_value (.int .i64 ((k : Int) + n + 1)) rfl (fun _ _ => by first | rfl | go_simp) ?_
  simp only [Act.put, List.setIfInBounds_toArray, List.set_cons_zero, List.set_cons_succ]
  refine q_value (.bool r) rfl (fun _ _ => by first | rfl | go_simp) ?_
  simp only [Act.put, List.setIfInBounds_toArray, List.set_cons_zero, List.set_cons_succ]
  refine q_value (.int .i64 ((k : Int) + n + 1)) rfl (fun _ _ => by first | rfl | go_simp) ?_
  simp only [Act.put, List.setIfInBounds_toArray, List.set_cons_zero, List.set_cons_succ]
  refine wpQuiet_nil ?_
  intro w3 hb3
  go_wp2_with fail
  go_ret
  exact ⟨rfl, hb3⟩

end Go.Proofs.Qxb6616752a
