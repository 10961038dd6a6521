/- The law's early ways out: a slice that is too long. -/
import Derived.Test.Qxb6619224aZz
namespace Go.Proofs.Qxb6619224a
open Go.RowKit Pl

set_option maxHeartbeats 1000000 in
theorem bytes_yes (a0 a1 a2 a3 a4 a5 a6 : Option Addr) (n0 n1 n2 n3 n4 n5 n6 c0 c1 c2 c3 c4 c5 c6 : Nat) (w : World) (h0 : n0 ≤ 16384) (h1 : n1 ≤ 16384) (h2 : n2 ≤ 16384) (h3 : n3 ≤ 16384) (h4 : n4 ≤ 16384) (h5 : n5 ≤ 16384) (h6 : n6 ≤ 16384) :
    Calls Try.prog 4 #[.slice a0 n0 c0, .slice a1 n1 c1, .slice a2 n2 c2, .slice a3 n3 c3, .slice a4 n4 c4, .slice a5 n5 c5, .slice a6 n6 c6] w fun e w' => e = .returned (.bool true) ∧ w' = w := by
  go_enter Try.func4, Try.ntmps4
  go_wp2
  go_ret
  exact ⟨rfl, rfl⟩

set_option maxHeartbeats 1000000 in
theorem bytes_any (a0 a1 a2 a3 a4 a5 a6 : Option Addr) (n0 n1 n2 n3 n4 n5 n6 c0 c1 c2 c3 c4 c5 c6 : Nat) (w : World) (h0 : n0 ≤ maxLen) (h1 : n1 ≤ maxLen) (h2 : n2 ≤ maxLen) (h3 : n3 ≤ maxLen) (h4 : n4 ≤ maxLen) (h5 : n5 ≤ maxLen) (h6 : n6 ≤ maxLen) :
    Calls Try.prog 4 #[.slice a0 n0 c0, .slice a1 n1 c1, .slice a2 n2 c2, .slice a3 n3 c3, .slice a4 n4 c4, .slice a5 n5 c5, .slice a6 n6 c6] w fun e w' => (∃ b, e = .returned (.bool b)) ∧ w' = w := by
  unfold maxLen at *
  go_enter Try.func4, Try.ntmps4
  go_wp2
  all_goals go_ret
  all_goals exact ⟨⟨_, rfl⟩, rfl⟩

set_option maxHeartbeats 1000000 in
set_option maxRecDepth 100000 in
theorem law_long (a0 a1 a2 a3 a4 a5 a6 : Option Addr) (n0 n1 n2 n3 n4 n5 n6 c0 c1 c2 c3 c4 c5 c6 : Nat) (w : World) (h0 : n0 ≤ maxLen) (h1 : n1 ≤ maxLen) (h2 : n2 ≤ maxLen) (h3 : n3 ≤ maxLen) (h4 : n4 ≤ maxLen) (h5 : n5 ≤ maxLen) (h6 : n6 ≤ maxLen)
    (hl : 16384 < n0 ∨ 16384 < n1 ∨ 16384 < n2 ∨ 16384 < n3 ∨ 16384 < n4 ∨ 16384 < n5 ∨ 16384 < n6) :
    Calls Try.prog 3 #[.slice a0 n0 c0, .slice a1 n1 c1, .slice a2 n2 c2, .slice a3 n3 c3, .slice a4 n4 c4, .slice a5 n5 c5, .slice a6 n6 c6] w fun e w' => e = .returned (.bool true) ∧ w' = w := by
  have hb := bytes_any a0 a1 a2 a3 a4 a5 a6 n0 n1 n2 n3 n4 n5 n6 c0 c1 c2 c3 c4 c5 c6 w h0 h1 h2 h3 h4 h5 h6
  have HB : Hid _ := hb
  clear hb
  unfold maxLen at *
  go_enter Try.func3, Try.ntmps3
  go_wp2_with fail
  refine Calls.mono HB.out ?_
  rintro e w' ⟨⟨b, rfl⟩, rfl⟩
  cases b with
  | false =>
    go_wp2_with fail
    go_ret
    exact ⟨rfl, rfl⟩
  | true =>
    go_upto_if 47 with fail
    go_wp2_with fail
    all_goals go_ret
    all_goals exact ⟨rfl, rfl⟩
end Go.Proofs.Qxb6619224a
