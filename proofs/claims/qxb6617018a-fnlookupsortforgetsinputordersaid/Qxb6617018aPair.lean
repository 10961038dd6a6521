/- The walks of zzHexVal and zzPairReads at a text's two hex digits. -/
import Derived.Test.Qxb6617018aHex
namespace Go.Proofs.Qxb6617018a
open Go.RowKit Go.Lib

theorem digit_cases (d : Nat) (h : d < 16) : (d < 10 ∧ ((Hx.digit d).toNat : Int) = 48 + d) ∨ (10 ≤ d ∧ ((Hx.digit d).toNat : Int) = 87 + d) := by
  have : ∀ d : Fin 16, (d.val < 10 ∧ ((Hx.digit d.val).toNat : Int) = 48 + d.val) ∨ (10 ≤ d.val ∧ ((Hx.digit d.val).toNat : Int) = 87 + d.val) := by decide
  exact this ⟨d, h⟩

set_option maxHeartbeats 400000 in
theorem hexVal_num (c : Int) (w : World) (h0 : 48 ≤ c) (h1 : c ≤ 57) :
    Calls Try.prog 23 #[.int .u8 c] w fun e w' => e = .returned (.int .i64 (c - 48)) ∧ w' = w := by
  go_enter Try.func23, Try.ntmps23
  go_wp2
  go_ret
  exact ⟨rfl, rfl⟩

set_option maxHeartbeats 400000 in
theorem hexVal_let (c : Int) (w : World) (h0 : 97 ≤ c) (h1 : c ≤ 102) :
    Calls Try.prog 23 #[.int .u8 c] w fun e w' => e = .returned (.int .i64 (c - 87)) ∧ w' = w := by
  go_enter Try.func23, Try.ntmps23
  go_wp2
  go_ret
  refine ⟨?_, rfl⟩
  show Ending.returned (Value.int .i64 (c - 97 + 10)) = _
  rw [show c - 97 + 10 = c - 87 by omega]

theorem hexVal_any (c : Int) (d : Nat) (hd : d < 16) (hc : c = ((Hx.digit d).toNat : Int)) (w : World) :
    Calls Try.prog 23 #[.int .u8 c] w fun e w' => e = .returned (.int .i64 (d : Int)) ∧ w' = w := by
  rcases digit_cases d hd with ⟨h1, h2⟩ | ⟨h1, h2⟩
  · refine (hexVal_num c w (by omega) (by omega)).mono ?_
    rintro e w' ⟨rfl, rfl⟩
    exact ⟨by rw [show c - 48 = (d : Int) by omega], rfl⟩
  · refine (hexVal_let c w (by omega) (by omega)).mono ?_
    rintro e w' ⟨rfl, rfl⟩
    exact ⟨by rw [show c - 87 = (d : Int) by omega], rfl⟩

set_option maxHeartbeats 400000 in
theorem pair_core (s : ByteArray) (j : Nat) (v : Int) (hi lo : Nat) (w : World) (hj : 2 * j + 1 < s.size) (hs : s.size ≤ 40) (h1 : hi < 16) (h2 : lo < 16)
    (e1 : Hid ((s[2 * j].toNat : Int) = ((Hx.digit hi).toNat : Int))) (e2 : Hid ((s[2 * j + 1].toNat : Int) = ((Hx.digit lo).toNat : Int))) (hv0 : 0 ≤ v) (hv1 : v < 256) (hv : Hid (v = hi * 16 + lo)) :
    Calls Try.prog 11 #[.string s, .int .i64 j, .int .u8 v] w fun e w' => e = .returned (.bool true) ∧ w' = w := by
  go_enter Try.func11, Try.ntmps11
  go_wp2_with fail
  refine (hexVal_any _ hi h1 e1.out _).mono ?_
  rintro e w' ⟨rfl, rfl⟩
  go_wp2_with fail
  refine (hexVal_any _ lo h2 e2.out _).mono ?_
  rintro e w' ⟨rfl, rfl⟩
  go_wp2
  go_ret
  refine ⟨?_, rfl⟩
  show Ending.returned (Value.bool ((hi : Int) * 16 + lo == v)) = _
  rw [hv.out]
  simp

/-- zzPairReads at a text that is the hex of l: the pair at j reads as l's byte j. -/
theorem pair_any (l : List UInt8) (hl : l.length = 20) (j : Nat) (hj : j < 20) (v : Int) (hv : v = ((l[j]'(by omega)).toNat : Int)) (w : World) :
    Calls Try.prog 11 #[.string ⟨(Hx.encode l).toArray⟩, .int .i64 j, .int .u8 v] w fun e w' => e = .returned (.bool true) ∧ w' = w := by
  have hb := (l[j]'(by omega)).toNat_lt
  have hn := Hx.encode_length l
  have hs : (⟨(Hx.encode l).toArray⟩ : ByteArray).size = 40 := by show (Hx.encode l).toArray.size = 40; simp; omega
  obtain ⟨a1, a2⟩ := Hx.encode_at l j (l[j]'(by omega)) (List.getElem?_eq_getElem (by omega))
  obtain ⟨k1, b1⟩ := List.getElem?_eq_some_iff.1 a1
  obtain ⟨k2, b2⟩ := List.getElem?_eq_some_iff.1 a2
  refine pair_core _ j v ((l[j]'(by omega)).toNat / 16) ((l[j]'(by omega)).toNat % 16) w (by omega) (by omega) (by omega) (by omega) ?_ ?_ (by omega) (by omega) ?_
  · show ((((Hx.encode l)[2 * j]'k1).toNat : Int)) = _
    rw [b1]
  · show ((((Hx.encode l)[2 * j + 1]'k2).toNat : Int)) = _
    rw [b2]
  · show v = _
    omega
end Go.Proofs.Qxb6617018a
