/- The walks of the two zzBytes. -/
import Derived.Test.Qxb6617018aSortClose
namespace Go.Proofs.Qxb6617018a
open Go.RowKit

set_option maxHeartbeats 1000000 in
theorem bytes12_any (tg : List UInt8) (p : Option Addr) (n c : Nat) (hn : n < 9223372036854775808) (w : World) :
    Calls Try.prog 12 #[.agg (arrv tg), .slice p n c] w fun e w' => (∃ r, e = .returned (.bool r)) ∧ Below w.heap.size w w' := by
  have hbel : Hid _ := (Below.refl w.heap.size w).alloc (Nat.le_refl _) (.cells (arrv tg) 22)
  by_cases h1 : n ≤ 1048576
  · have b1 : decide ((1048576 : Int) < (n : Int)) = false := by simp; omega
    go_enter Try.func12, Try.ntmps12
    go_wp2_with fail
    go_loopw [5, 6] (fun vs vi wr => ∃ s i : Nat, s ≤ 1048576 ∧ i ≤ n ∧ vs = .int .i64 s ∧ vi = .int .i64 i ∧ wr = w.alloc (.cells (arrv tg) 22)) (fun _ vi _ => n - (RowKit.intOf vi).toNat)
    case atStart => exact ⟨n, 0, h1, Nat.zero_le _, by simp, rfl, rfl⟩
    case round =>
      obtain ⟨s, i, hs, hi, rfl, rfl, rfl⟩ := hrel
      by_cases hlt : i < n
      · have b2 : decide ((i : Int) < (n : Int)) = true := by simp; omega
        have hs1 : (s : Int) ≤ 1048576 := by omega
        have hs0 : (0 : Int) ≤ (s : Int) := by omega
        by_cases h3 : s + 20 ≤ 1048576
        · have b3 : decide ((1048576 : Int) < (s : Int) + 20) = false := by simp; omega
          go_wp2_with fail
          go_roundw
          case rel => exact ⟨s + 20, i + 1, h3, by omega, by go_num, by go_num, trivial⟩
          case measure => simp [RowKit.intOf]; omega
        · have b3 : decide ((1048576 : Int) < (s : Int) + 20) = true := by simp; omega
          go_wp2_with fail
          go_ret
          exact ⟨⟨_, rfl⟩, hbel.out⟩
      · have b2 : decide ((i : Int) < (n : Int)) = false := by simp; omega
        go_wp2_with fail
        go_ret
        exact ⟨⟨_, rfl⟩, hbel.out⟩
  · have b1 : decide ((1048576 : Int) < (n : Int)) = true := by simp; omega
    go_enter Try.func12, Try.ntmps12
    go_wp2_with fail
    go_ret
    exact ⟨⟨_, rfl⟩, hbel.out⟩

set_option maxHeartbeats 1000000 in
theorem bytes21_any (tg : List UInt8) (p : Option Addr) (n c : Nat) (hn : n < 9223372036854775808) (w : World) :
    Calls Try.prog 21 #[.agg (arrv tg), .slice p n c] w fun e w' => (∃ r, e = .returned (.bool r)) ∧ Below w.heap.size w w' := by
  have hbel : Hid _ := (Below.refl w.heap.size w).alloc (Nat.le_refl _) (.cells (arrv tg) 22)
  by_cases h1 : n ≤ 1048576
  · have b1 : decide ((1048576 : Int) < (n : Int)) = false := by simp; omega
    go_enter Try.func21, Try.ntmps21
    go_wp2_with fail
    go_loopw [5, 6] (fun vs vi wr => ∃ s i : Nat, s ≤ 1048576 ∧ i ≤ n ∧ vs = .int .i64 s ∧ vi = .int .i64 i ∧ wr = w.alloc (.cells (arrv tg) 22)) (fun _ vi _ => n - (RowKit.intOf vi).toNat)
    case atStart => exact ⟨n, 0, h1, Nat.zero_le _, by simp, rfl, rfl⟩
    case round =>
      obtain ⟨s, i, hs, hi, rfl, rfl, rfl⟩ := hrel
      by_cases hlt : i < n
      · have b2 : decide ((i : Int) < (n : Int)) = true := by simp; omega
        have hs1 : (s : Int) ≤ 1048576 := by omega
        have hs0 : (0 : Int) ≤ (s : Int) := by omega
        by_cases h3 : s + 20 ≤ 1048576
        · have b3 : decide ((1048576 : Int) < (s : Int) + 20) = false := by simp; omega
          go_wp2_with fail
          go_roundw
          case rel => exact ⟨s + 20, i + 1, h3, by omega, by go_num, by go_num, trivial⟩
          case measure => simp [RowKit.intOf]; omega
        · have b3 : decide ((1048576 : Int) < (s : Int) + 20) = true := by simp; omega
          go_wp2_with fail
          go_ret
          exact ⟨⟨_, rfl⟩, hbel.out⟩
      · have b2 : decide ((i : Int) < (n : Int)) = false := by simp; omega
        go_wp2_with fail
        go_ret
        exact ⟨⟨_, rfl⟩, hbel.out⟩
  · have b1 : decide ((1048576 : Int) < (n : Int)) = true := by simp; omega
    go_enter Try.func21, Try.ntmps21
    go_wp2_with fail
    go_ret
    exact ⟨⟨_, rfl⟩, hbel.out⟩
end Go.Proofs.Qxb6617018a
