/- Plain: the distance as a number, and the key of a candidate. -/
import Derived.Lib.Bytealg
import Derived.Test.Qxb6617018aCmp
namespace Go.Proofs.Qxb6617018a

/-- The bytes as an unsigned big-endian number. -/
def num : List UInt8 → Nat
  | [] => 0
  | b :: t => b.toNat * 256 ^ t.length + num t

theorem num_lt : ∀ l : List UInt8, num l < 256 ^ l.length
  | [] => by simp [num]
  | b :: t => by
    have h := num_lt t
    have hb := b.toNat_lt
    rw [num, List.length_cons, Nat.pow_succ]
    have : b.toNat * 256 ^ t.length ≤ 255 * 256 ^ t.length := Nat.mul_le_mul_right _ (by omega)
    omega

theorem num_cons_lt {a b : UInt8} {s t : List UInt8} (hl : s.length = t.length) (h : a.toNat < b.toNat) : num (a :: s) < num (b :: t) := by
  have h1 := num_lt s
  have : (a.toNat + 1) * 256 ^ t.length ≤ b.toNat * 256 ^ t.length := Nat.mul_le_mul_right _ h
  rw [Nat.add_mul, Nat.one_mul] at this
  rw [num, num, hl]
  rw [hl] at h1
  omega

theorem cmpl_num : ∀ (a b : List UInt8), a.length = b.length → (cmpl a b = -1 ↔ num a < num b) ∧ (cmpl a b = 0 ↔ a = b) ∧ (num a = num b → a = b)
  | [], [], _ => by simp [cmpl, num]
  | [], _ :: _, h => by simp at h
  | _ :: _, [], h => by simp at h
  | x :: s, y :: t, h => by
    have hl : s.length = t.length := by simpa using h
    obtain ⟨i1, i2, i3⟩ := cmpl_num s t hl
    have inj : x.toNat = y.toNat → x = y := fun e => UInt8.toNat_inj.mp e
    rcases Nat.lt_trichotomy x.toNat y.toNat with k | k | k
    · have hn := num_cons_lt hl k
      have hne : ¬ x = y := fun e => by rw [e] at k; omega
      refine ⟨⟨fun _ => hn, fun _ => ?_⟩, ⟨fun e => ?_, fun e => ?_⟩, fun e => by omega⟩
      · rw [cmpl, if_neg (by omega), if_pos k]
      · rw [cmpl, if_neg (by omega), if_pos k] at e; cases e
      · exact absurd (List.cons.inj e).1 hne
    · have hxy := inj k
      subst hxy
      rw [cmpl, if_pos rfl, num, num, hl]
      refine ⟨by rw [i1]; omega, by rw [i2]; simp, fun e => by rw [i3 (by omega)]⟩
    · have hn := num_cons_lt hl.symm k
      have hne : ¬ x = y := fun e => by rw [e] at k; omega
      refine ⟨⟨fun e => ?_, fun e => by omega⟩, ⟨fun e => ?_, fun e => ?_⟩, fun e => by omega⟩
      · rw [cmpl, if_neg (by omega), if_neg (by omega)] at e; cases e
      · rw [cmpl, if_neg (by omega), if_neg (by omega)] at e; cases e
      · exact absurd (List.cons.inj e).1 hne

theorem compareBytes_cmpl : ∀ (a b : List UInt8), a.length = b.length → Lib.compareBytes a b = cmpl a b
  | [], [], _ => by simp [cmpl, Lib.compareBytes]
  | [], _ :: _, h => by simp at h
  | _ :: _, [], h => by simp at h
  | x :: s, y :: t, h => by
    have hl : s.length = t.length := by simpa using h
    rw [Lib.compareBytes, cmpl, compareBytes_cmpl s t hl]
    simp only [UInt8.lt_iff_toNat_lt]
    rcases Nat.lt_trichotomy x.toNat y.toNat with k | k | k
    · rw [if_pos k, if_neg (by omega), if_pos k]
    · rw [if_neg (by omega), if_neg (by omega), if_pos k]
    · rw [if_neg (by omega), if_pos k, if_neg (by omega), if_neg (by omega)]

def xorl (a b : List UInt8) : List UInt8 := List.zipWith (· ^^^ ·) a b
theorem xorl_length (a b : List UInt8) (ha : a.length = 20) (hb : b.length = 20) : (xorl a b).length = 20 := by simp [xorl, ha, hb]

theorem xorl_inj (t : List UInt8) : ∀ (a b : List UInt8), a.length = t.length → b.length = t.length → xorl a t = xorl b t → a = b := by
  induction t with
  | nil => intro a b ha hb _; rw [List.length_eq_zero_iff.mp ha, List.length_eq_zero_iff.mp hb]
  | cons z t ih =>
    intro a b ha hb h
    match a, b, ha, hb, h with
    | x :: s, y :: u, ha, hb, h =>
      have h1 : (x ^^^ z) :: xorl s t = (y ^^^ z) :: xorl u t := h
      have e1 := (List.cons.inj h1).1
      have e2 := ih s u (by simpa using ha) (by simpa using hb) (List.cons.inj h1).2
      have e3 : x = y := by
        have : x ^^^ z ^^^ z = y ^^^ z ^^^ z := by rw [e1]
        simpa [UInt8.xor_assoc] using this
      rw [e3, e2]

/-- The key of a candidate: without a known ID first, then by distance. -/
def ckey (k : Bool) (id tg : List UInt8) : Nat := (if k then 256 ^ 20 else 0) + num (xorl id tg)

theorem ckey_lt (k1 k2 : Bool) (a b tg : List UInt8) (ha : a.length = 20) (hb : b.length = 20) (ht : tg.length = 20) :
    decide (ckey k1 a tg < ckey k2 b tg) = (if k1 = k2 then decide (cmpl (xorl a tg) (xorl b tg) = -1) else !k1) := by
  have n1 := num_lt (xorl a tg)
  have n2 := num_lt (xorl b tg)
  have l1 := xorl_length a tg ha ht
  have l2 := xorl_length b tg hb ht
  rw [l1] at n1
  rw [l2] at n2
  have c := (cmpl_num (xorl a tg) (xorl b tg) (by rw [l1, l2])).1
  unfold ckey
  cases k1 <;> cases k2 <;> simp only [if_true, if_false, Bool.false_eq_true, Bool.true_eq_false, Bool.not_true, Bool.not_false]
  · rw [decide_eq_decide, c]; omega
  · rw [decide_eq_true_iff]; omega
  · rw [decide_eq_false_iff_not]; omega
  · rw [decide_eq_decide, c]; omega

theorem ckey_inj (k1 k2 : Bool) (a b tg : List UInt8) (ha : a.length = 20) (hb : b.length = 20) (ht : tg.length = 20) (h : ckey k1 a tg = ckey k2 b tg) : k1 = k2 ∧ a = b := by
  have n1 := num_lt (xorl a tg)
  have n2 := num_lt (xorl b tg)
  have l1 := xorl_length a tg ha ht
  have l2 := xorl_length b tg hb ht
  rw [l1] at n1
  rw [l2] at n2
  have c := (cmpl_num (xorl a tg) (xorl b tg) (by rw [l1, l2])).2.2
  have fin : num (xorl a tg) = num (xorl b tg) → a = b := fun e => xorl_inj tg a b (by omega) (by omega) (c e)
  unfold ckey at h
  cases k1 <;> cases k2 <;> simp only [if_true, if_false, Bool.false_eq_true] at h
  · exact ⟨rfl, fin (by omega)⟩
  · omega
  · omega
  · exact ⟨rfl, fin (by omega)⟩
end Go.Proofs.Qxb6617018a
