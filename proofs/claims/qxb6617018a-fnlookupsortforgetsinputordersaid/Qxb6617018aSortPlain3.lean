/- The plain theory of the passes of the stable sort. -/
import Derived.Test.Qxb6617018aSortPlain2
namespace Go.Proofs.Qxb6617018a.So

theorem gap {s a c : Nat} (ha : s ∣ a) (hc : s ∣ c) (h : a < c) : a + s ≤ c := by
  obtain ⟨x, rfl⟩ := ha
  obtain ⟨y, rfl⟩ := hc
  have hs : 0 < s := by
    rcases Nat.eq_zero_or_pos s with e | e
    · subst e; simp at h
    · exact e
  have : x < y := Nat.lt_of_mul_lt_mul_left h
  have := Nat.mul_le_mul_left s (show x + 1 ≤ y by omega)
  rw [Nat.mul_add, Nat.mul_one] at this
  exact this

/-- Blocks of s: each sorted, all of an earlier block ahead of all of a later. -/
structure Full (key d : Nat → Nat) (n s : Nat) : Prop where
  srt : ∀ c, s ∣ c → Srt key d c (min (c + s) n)
  idx : ∀ c, s ∣ c → ∀ p q, p < c → c ≤ q → q < n → d p < d q

/-- The state of the first pass: the blocks below a are sorted, nothing from a on has moved. -/
structure P1 (key d : Nat → Nat) (n s a : Nat) : Prop where
  at_ : s ∣ a
  srt : ∀ c, s ∣ c → c < a → Srt key d c (min (c + s) n)
  idx : ∀ c, s ∣ c → ∀ p q, p < c → c ≤ q → q < n → d p < d q
  rest : ∀ p q, a ≤ p → p < q → q < n → d p < d q

theorem P1.start {key d : Nat → Nat} {n s : Nat} (h : ∀ p q, p < q → q < n → d p < d q) : P1 key d n s 0 :=
  ⟨Nat.dvd_zero s, fun c _ h => by omega, fun c _ p q h1 h2 h3 => h p q (by omega) h3, fun p q _ h1 h2 => h p q h1 h2⟩

theorem idx_mv {d d' : Nat → Nat} {n s a b : Nat} (hsa : s ∣ a) (hb : b ≤ a + s) (hx : ∀ c, s ∣ c → ∀ p q, p < c → c ≤ q → q < n → d p < d q) (hm : Mv a b d d') (hbn : b ≤ n) :
    ∀ c, s ∣ c → ∀ p q, p < c → c ≤ q → q < n → d' p < d' q := by
  intro c hc p q hp hq hqn
  rcases Nat.lt_or_ge a c with h | h
  · have := gap hsa hc h
    rw [hm.out q (by omega)]
    by_cases hpi : a ≤ p ∧ p < b
    · obtain ⟨r, r1, r2, r3⟩ := hm.sub p hpi.1 hpi.2
      rw [r3]; exact hx c hc r q (by omega) hq hqn
    · rw [hm.out p (by omega)]; exact hx c hc p q hp hq hqn
  · rw [hm.out p (by omega)]
    by_cases hqi : a ≤ q ∧ q < b
    · obtain ⟨r, r1, r2, r3⟩ := hm.sub q hqi.1 hqi.2
      rw [r3]; exact hx c hc p r hp (by omega) (by omega)
    · rw [hm.out q (by omega)]; exact hx c hc p q hp hq hqn

theorem P1.next {key d d' : Nat → Nat} {n s a : Nat} (h : P1 key d n s a) (hb : a + s ≤ n) (hm : Mv a (a + s) d d') (hs : Srt key d' a (a + s)) : P1 key d' n s (a + s) := by
  refine ⟨Nat.dvd_add h.at_ (Nat.dvd_refl s), fun c hc hca => ?_, idx_mv h.at_ (Nat.le_refl _) h.idx hm hb, fun p q h1 h2 h3 => ?_⟩
  · rcases Nat.lt_or_ge c a with h1 | h1
    · have := gap hc h.at_ h1
      intro p q hp hpq hq
      rw [hm.out p (by omega), hm.out q (by omega)]
      exact h.srt c hc h1 p q hp hpq hq
    · have : c = a := by
        rcases Nat.eq_or_lt_of_le h1 with e | e
        · exact e.symm
        · have := gap h.at_ hc e; omega
      subst this
      rw [Nat.min_eq_left hb]; exact hs
  · rw [hm.out p (by omega), hm.out q (by omega)]; exact h.rest p q (by omega) h2 h3

theorem P1.fin {key d d' : Nat → Nat} {n s a : Nat} (h : P1 key d n s a) (hb : n < a + s) (hm : Mv a n d d') (hs : Srt key d' a n) : Full key d' n s := by
  refine ⟨fun c hc => ?_, idx_mv h.at_ (by omega) h.idx hm (Nat.le_refl _)⟩
  rcases Nat.lt_or_ge c a with h1 | h1
  · have := gap hc h.at_ h1
    intro p q hp hpq hq
    rw [hm.out p (by omega), hm.out q (by omega)]
    exact h.srt c hc h1 p q hp hpq hq
  · intro p q hp hpq hq
    exact hs p q (by omega) hpq (by omega)

/-- The state of a pass that merges blocks of s by pairs: the pairs below a are done. -/
structure Ps (key d : Nat → Nat) (n s a : Nat) : Prop where
  at_ : 2 * s ∣ a
  done : ∀ c, 2 * s ∣ c → c < a → Srt key d c (min (c + 2 * s) n)
  todo : ∀ c, s ∣ c → a ≤ c → Srt key d c (min (c + s) n)
  idx : ∀ c, 2 * s ∣ c → ∀ p q, p < c → c ≤ q → q < n → d p < d q
  rest : ∀ c, s ∣ c → a ≤ c → ∀ p q, a ≤ p → p < c → c ≤ q → q < n → d p < d q

theorem dvd_two {s c : Nat} (h : 2 * s ∣ c) : s ∣ c := Nat.dvd_trans (Nat.dvd_mul_left s 2) h

theorem Ps.start {key d : Nat → Nat} {n s : Nat} (h : Full key d n s) : Ps key d n s 0 :=
  ⟨Nat.dvd_zero _, fun c _ h => by omega, fun c hc _ => h.srt c hc, fun c hc => h.idx c (dvd_two hc), fun c hc _ p q _ h1 h2 h3 => h.idx c hc p q h1 h2 h3⟩

/-- What the merge of the pair at a asks. -/
theorem Ps.pre {key d : Nat → Nat} {n s a b : Nat} (h : Ps key d n s a) (h1 : a + s < b) (hb : b ≤ n) (hb2 : b ≤ a + 2 * s) : Srt key d a (a + s) ∧ Srt key d (a + s) b ∧ Fst d a (a + s) b := by
  have ha := dvd_two h.at_
  have hs : s ∣ a + s := Nat.dvd_add ha (Nat.dvd_refl s)
  refine ⟨?_, ?_, ?_⟩
  · have := h.todo a ha (Nat.le_refl _)
    rwa [Nat.min_eq_left (by omega)] at this
  · have := h.todo (a + s) hs (by omega)
    intro p q hp hpq hq
    exact this p q hp hpq (by omega)
  · intro p q h1 h2 h3 h4
    exact h.rest (a + s) hs (by omega) p q h1 h2 h3 (by omega)

theorem Ps.next {key d d' : Nat → Nat} {n s a : Nat} (h : Ps key d n s a) (hb : a + 2 * s ≤ n) (hm : Mv a (a + 2 * s) d d') (hs : Srt key d' a (a + 2 * s)) : Ps key d' n s (a + 2 * s) := by
  refine ⟨Nat.dvd_add h.at_ (Nat.dvd_refl _), fun c hc hca => ?_, fun c hc hca => ?_, idx_mv h.at_ (Nat.le_refl _) h.idx hm hb, fun c hc hca p q h1 h2 h3 h4 => ?_⟩
  · rcases Nat.lt_or_ge c a with h1 | h1
    · have := gap hc h.at_ h1
      intro p q hp hpq hq
      rw [hm.out p (by omega), hm.out q (by omega)]
      exact h.done c hc h1 p q hp hpq hq
    · have : c = a := by
        rcases Nat.eq_or_lt_of_le h1 with e | e
        · exact e.symm
        · have := gap h.at_ hc e; omega
      subst this
      rw [Nat.min_eq_left hb]; exact hs
  · intro p q hp hpq hq
    rw [hm.out p (by omega), hm.out q (by omega)]
    exact h.todo c hc (by omega) p q hp hpq hq
  · rw [hm.out p (by omega), hm.out q (by omega)]; exact h.rest c hc (by omega) p q (by omega) h2 h3 h4

theorem Ps.fin {key d d' : Nat → Nat} {n s a : Nat} (h : Ps key d n s a) (hb : n < a + 2 * s) (hm : Mv a n d d') (hs : Srt key d' a n) : Full key d' n (2 * s) := by
  refine ⟨fun c hc => ?_, idx_mv h.at_ (by omega) h.idx hm (Nat.le_refl _)⟩
  rcases Nat.lt_or_ge c a with h1 | h1
  · have := gap hc h.at_ h1
    intro p q hp hpq hq
    rw [hm.out p (by omega), hm.out q (by omega)]
    exact h.done c hc h1 p q hp hpq hq
  · intro p q hp hpq hq
    exact hs p q (by omega) hpq (by omega)

/-- The last pair is no pair. -/
theorem Ps.fin_short {key d : Nat → Nat} {n s a : Nat} (h : Ps key d n s a) (hb : n < a + 2 * s) (hm : n ≤ a + s) : Full key d n (2 * s) := by
  refine h.fin hb (Mv.refl _ _ _) ?_
  have := h.todo a (dvd_two h.at_) (Nat.le_refl _)
  rwa [Nat.min_eq_right hm] at this

theorem Full.all {key d : Nat → Nat} {n s : Nat} (h : Full key d n s) (hn : n ≤ s) : Srt key d 0 n := by
  have := h.srt 0 (Nat.dvd_zero s)
  rwa [Nat.zero_add, Nat.min_eq_right hn] at this
end Go.Proofs.Qxb6617018a.So
