/- The plain theory of the symmetric merge, and of the passes of the stable sort. -/
import Derived.Test.Qxb6617018aSortPlain
namespace Go.Proofs.Qxb6617018a.So

theorem R_of_idx {key : Nat → Nat} {x y : Nat} (h : x < y) (hk : ¬ key y < key x) : R key x y := by unfold R; omega
theorem R_key {key : Nat → Nat} {x y : Nat} (h : R key x y) : key x ≤ key y := by unfold R at h; omega

/-! ### one element into the second part -/
/-- The state of the search for the first place in [m, b) that is not below d[a]. -/
structure S1 (key d : Nat → Nat) (a m b i j : Nat) : Prop where
  lo : m ≤ i
  le : i ≤ j
  hi : j ≤ b
  below : ∀ h, m ≤ h → h < i → key (d h) < key (d a)
  above : ∀ h, j ≤ h → h < b → ¬ key (d h) < key (d a)
theorem S1.start {key d : Nat → Nat} {a m b : Nat} (h : m ≤ b) : S1 key d a m b m b := ⟨Nat.le_refl _, h, Nat.le_refl _, fun _ _ _ => by omega, fun _ _ _ => by omega⟩
theorem S1.up {key d : Nat → Nat} {a m b i j h : Nat} (hs : Srt key d m b) (s : S1 key d a m b i j) (h1 : i ≤ h) (h2 : h < j) (hl : key (d h) < key (d a)) : S1 key d a m b (h + 1) j := by
  have := s.hi; have := s.lo
  refine ⟨by omega, by omega, s.hi, fun x hx hx2 => ?_, s.above⟩
  by_cases e : x = h
  · rw [e]; exact hl
  · have := R_key (hs x h hx (by omega) (by omega)); omega
theorem S1.down {key d : Nat → Nat} {a m b i j h : Nat} (hs : Srt key d m b) (s : S1 key d a m b i j) (h1 : i ≤ h) (h2 : h < j) (hl : ¬ key (d h) < key (d a)) : S1 key d a m b i h := by
  have := s.hi; have := s.lo
  refine ⟨s.lo, h1, by omega, s.below, fun x hx hx2 => ?_⟩
  by_cases e : x = h
  · rw [e]; exact hl
  · have := R_key (hs h x (by omega) (by omega) hx2); omega
theorem S1.fin {key d : Nat → Nat} {a m b i : Nat} (ham : m = a + 1) (hs : Srt key d m b) (hf : Fst d a m b) (s : S1 key d a m b i i) : Srt key (shu d a (i - 1)) a b := by
  have := s.lo; have := s.hi
  intro p q hp hpq hq
  have big : ∀ x, i ≤ x → x < b → R key (d a) (d x) := fun x h1 h2 => R_of_idx (hf a x (Nat.le_refl _) (by omega) (by omega) h2) (s.above x h1 h2)
  have small : ∀ x, m ≤ x → x < i → R key (d x) (d a) := fun x h1 h2 => .inl (s.below x h1 h2)
  unfold shu
  by_cases c1 : p < i - 1
  · rw [if_pos (show a ≤ p ∧ p < i - 1 by omega)]
    by_cases c2 : q < i - 1
    · rw [if_pos (show a ≤ q ∧ q < i - 1 by omega)]; exact hs _ _ (by omega) (by omega) (by omega)
    · rw [if_neg (show ¬ (a ≤ q ∧ q < i - 1) by omega)]
      by_cases c3 : q = i - 1
      · rw [if_pos c3]; exact small _ (by omega) (by omega)
      · rw [if_neg c3]; exact hs _ _ (by omega) (by omega) hq
  · rw [if_neg (show ¬ (a ≤ p ∧ p < i - 1) by omega), if_neg (show ¬ (a ≤ q ∧ q < i - 1) by omega), if_neg (show ¬ q = i - 1 by omega)]
    by_cases c3 : p = i - 1
    · rw [if_pos c3]; exact big q (by omega) hq
    · rw [if_neg c3]; exact hs _ _ (by omega) hpq hq

/-! ### one element into the first part -/
structure S2 (key d : Nat → Nat) (a m i j : Nat) : Prop where
  lo : a ≤ i
  le : i ≤ j
  hi : j ≤ m
  below : ∀ h, a ≤ h → h < i → ¬ key (d m) < key (d h)
  above : ∀ h, j ≤ h → h < m → key (d m) < key (d h)
theorem S2.start {key d : Nat → Nat} {a m : Nat} (h : a ≤ m) : S2 key d a m a m := ⟨Nat.le_refl _, h, Nat.le_refl _, fun _ _ _ => by omega, fun _ _ _ => by omega⟩
theorem S2.up {key d : Nat → Nat} {a m i j h : Nat} (hs : Srt key d a m) (s : S2 key d a m i j) (h1 : i ≤ h) (h2 : h < j) (hl : ¬ key (d m) < key (d h)) : S2 key d a m (h + 1) j := by
  have := s.hi; have := s.lo
  refine ⟨by omega, by omega, s.hi, fun x hx hx2 => ?_, s.above⟩
  by_cases e : x = h
  · rw [e]; exact hl
  · have := R_key (hs x h hx (by omega) (by omega)); omega
theorem S2.down {key d : Nat → Nat} {a m i j h : Nat} (hs : Srt key d a m) (s : S2 key d a m i j) (h1 : i ≤ h) (h2 : h < j) (hl : key (d m) < key (d h)) : S2 key d a m i h := by
  have := s.hi; have := s.lo
  refine ⟨s.lo, h1, by omega, s.below, fun x hx hx2 => ?_⟩
  by_cases e : x = h
  · rw [e]; exact hl
  · have := R_key (hs h x (by omega) (by omega) hx2); omega
theorem S2.fin {key d : Nat → Nat} {a m b i : Nat} (hbm : b = m + 1) (hs : Srt key d a m) (hf : Fst d a m b) (s : S2 key d a m i i) : Srt key (shd d m i) a b := by
  have := s.lo; have := s.hi
  intro p q hp hpq hq
  have small : ∀ x, a ≤ x → x < i → R key (d x) (d m) := fun x h1 h2 => R_of_idx (hf x m h1 (by omega) (Nat.le_refl _) (by omega)) (s.below x h1 h2)
  have big : ∀ x, i ≤ x → x < m → R key (d m) (d x) := fun x h1 h2 => .inl (s.above x h1 h2)
  unfold shd
  by_cases c1 : p = i
  · rw [if_pos c1, if_neg (show ¬ q = i by omega), if_pos (show i < q ∧ q ≤ m by omega)]; exact big _ (by omega) (by omega)
  · rw [if_neg c1]
    by_cases c2 : i < p ∧ p ≤ m
    · rw [if_pos c2, if_neg (show ¬ q = i by omega), if_pos (show i < q ∧ q ≤ m by omega)]; exact hs _ _ (by omega) (by omega) (by omega)
    · rw [if_neg c2]
      by_cases c3 : q = i
      · rw [if_pos c3]; exact small p hp (by omega)
      · rw [if_neg c3]
        by_cases c4 : i < q ∧ q ≤ m
        · rw [if_pos c4]; exact hs _ _ hp (by omega) (by omega)
        · rw [if_neg c4]; exact hs _ _ hp hpq (by omega)
theorem Mv.shd {lo hi : Nat} (d : Nat → Nat) (m : Nat) (h1 : m < hi) : ∀ t k, k + t = m → lo ≤ k → Mv lo hi d (So.shd d m k)
  | 0, k, h, _ => by obtain rfl : k = m := by omega
                     rw [shd_start]; exact Mv.refl _ _ _
  | t + 1, k, h, hk => by
    have e := shd_succ d m (k + 1) (by omega) (by omega)
    rw [Nat.add_sub_cancel] at e
    rw [← e]
    exact (Mv.shd d m h1 t (k + 1) (by omega) (by omega)).trans (Mv.swap _ (by omega) (by omega) (by omega) (by omega))

/-! ### the symmetric search and the two halves -/
structure S3 (key d : Nat → Nat) (nn s0 r0 i j : Nat) : Prop where
  lo : s0 ≤ i
  le : i ≤ j
  hi : j ≤ r0
  below : ∀ c, s0 ≤ c → c < i → ¬ key (d (nn - 1 - c)) < key (d c)
  above : ∀ c, j ≤ c → c < r0 → key (d (nn - 1 - c)) < key (d c)
theorem S3.start {key d : Nat → Nat} {nn s0 r0 : Nat} (h : s0 ≤ r0) : S3 key d nn s0 r0 s0 r0 := ⟨Nat.le_refl _, h, Nat.le_refl _, fun _ _ _ => by omega, fun _ _ _ => by omega⟩

/-- Where the search runs. -/
structure Rng (a m b nn s0 r0 : Nat) : Prop where
  a1 : a + 1 < m
  b1 : m + 1 < b
  n1 : nn = (a + b) / 2 + m
  c : (m > (a + b) / 2 ∧ s0 = nn - b ∧ r0 = (a + b) / 2) ∨ (m ≤ (a + b) / 2 ∧ s0 = a ∧ r0 = m)

theorem S3.up {key d : Nat → Nat} {a m b nn s0 r0 i j c : Nat} (g : Rng a m b nn s0 r0) (h1 : Srt key d a m) (h2 : Srt key d m b) (s : S3 key d nn s0 r0 i j) (hc : i ≤ c) (hc2 : c < j) (hl : ¬ key (d (nn - 1 - c)) < key (d c)) : S3 key d nn s0 r0 (c + 1) j := by
  have := s.hi; have := s.lo; have := g.a1; have := g.b1; have := g.n1; have := g.c
  refine ⟨by omega, by omega, s.hi, fun x hx hx2 => ?_, s.above⟩
  by_cases e : x = c
  · rw [e]; exact hl
  · have := R_key (h1 x c (by omega) (by omega) (by omega))
    have := R_key (h2 (nn - 1 - c) (nn - 1 - x) (by omega) (by omega) (by omega))
    omega
theorem S3.down {key d : Nat → Nat} {a m b nn s0 r0 i j c : Nat} (g : Rng a m b nn s0 r0) (h1 : Srt key d a m) (h2 : Srt key d m b) (s : S3 key d nn s0 r0 i j) (hc : i ≤ c) (hc2 : c < j) (hl : key (d (nn - 1 - c)) < key (d c)) : S3 key d nn s0 r0 i c := by
  have := s.hi; have := s.lo; have := g.a1; have := g.b1; have := g.n1; have := g.c
  refine ⟨s.lo, hc, by omega, s.below, fun x hx hx2 => ?_⟩
  by_cases e : x = c
  · rw [e]; exact hl
  · have := R_key (h1 c x (by omega) (by omega) (by omega))
    have := R_key (h2 (nn - 1 - x) (nn - 1 - c) (by omega) (by omega) (by omega))
    omega

/-- What the rotation leaves: two halves, each of two sorted parts, the first below the second. -/
structure Halves (key d1 : Nat → Nat) (a mid b start fin : Nat) : Prop where
  s1 : Srt key d1 a start
  s2 : Srt key d1 start mid
  f1 : Fst d1 a start mid
  s3 : Srt key d1 mid fin
  s4 : Srt key d1 fin b
  f2 : Fst d1 mid fin b
  cross : ∀ p q, a ≤ p → p < mid → mid ≤ q → q < b → R key (d1 p) (d1 q)

theorem rot_parts (d : Nat → Nat) (m start fin : Nat) (h1 : start ≤ m) (h2 : m ≤ fin) :
    (∀ p, p < start → rot d m (m - start) (fin - m) p = d p) ∧ (∀ p, start ≤ p → p < start + (fin - m) → rot d m (m - start) (fin - m) p = d (p + (m - start))) ∧
    (∀ p, start + (fin - m) ≤ p → p < fin → rot d m (m - start) (fin - m) p = d (p - (fin - m))) ∧ (∀ p, fin ≤ p → rot d m (m - start) (fin - m) p = d p) := by
  refine ⟨fun p hp => ?_, fun p hp hp2 => ?_, fun p hp hp2 => ?_, fun p hp => ?_⟩ <;> unfold rot
  · rw [if_neg (by omega), if_neg (by omega)]
  · rw [if_pos (by omega)]
  · rw [if_neg (by omega), if_pos (by omega)]
  · rw [if_neg (by omega), if_neg (by omega)]

theorem S3.halves {key d : Nat → Nat} {a m b nn s0 r0 i : Nat} (g : Rng a m b nn s0 r0) (h1 : Srt key d a m) (h2 : Srt key d m b) (hf : Fst d a m b) (s : S3 key d nn s0 r0 i i) :
    a ≤ i ∧ i ≤ m ∧ m ≤ nn - i ∧ nn - i ≤ b ∧ i + (nn - i - m) = (a + b) / 2 ∧ Halves key (rot d m (m - i) (nn - i - m)) a ((a + b) / 2) b i (nn - i) := by
  have := s.hi; have := s.lo; have := g.a1; have := g.b1; have := g.n1; have := g.c
  have e1 : a ≤ i := by omega
  have e2 : i ≤ m := by omega
  have e3 : m ≤ nn - i := by omega
  have e4 : nn - i ≤ b := by omega
  have e5 : i + (nn - i - m) = (a + b) / 2 := by omega
  obtain ⟨p1, p2, p3, p4⟩ := rot_parts d m i (nn - i) e2 e3
  rw [e5] at p2 p3
  -- first[x < i] below second[y ≥ nn - i]
  have x1 : ∀ x y, a ≤ x → x < i → nn - i ≤ y → y < b → R key (d x) (d y) := by
    intro x y hx hx2 hy hy2
    have hb := s.below (i - 1) (by omega) (by omega)
    rw [show nn - 1 - (i - 1) = nn - i by omega] at hb
    have r : R key (d (i - 1)) (d (nn - i)) := R_of_idx (hf (i - 1) (nn - i) (by omega) (by omega) (by omega) (by omega)) hb
    have r1 : R key (d x) (d (nn - i)) := by
      by_cases e : x = i - 1
      · rw [e]; exact r
      · exact (h1 x (i - 1) hx (by omega) (by omega)).trans r
    by_cases e : y = nn - i
    · rw [e]; exact r1
    · exact r1.trans (h2 (nn - i) y (by omega) (by omega) hy2)
  -- second[y < nn - i] below first[x ≥ i]
  have x2 : ∀ x y, i ≤ x → x < m → m ≤ y → y < nn - i → R key (d y) (d x) := by
    intro x y hx hx2 hy hy2
    have hb := s.above i (Nat.le_refl _) (by omega)
    rw [show nn - 1 - i = nn - i - 1 by omega] at hb
    have r : R key (d (nn - i - 1)) (d i) := .inl hb
    have r1 : R key (d y) (d i) := by
      by_cases e : y = nn - i - 1
      · rw [e]; exact r
      · exact (h2 y (nn - i - 1) hy (by omega) (by omega)).trans r
    by_cases e : x = i
    · rw [e]; exact r1
    · exact r1.trans (h1 i x (by omega) (by omega) hx2)
  refine ⟨e1, e2, e3, e4, e5, ?_⟩
  refine { s1 := ?_, s2 := ?_, f1 := ?_, s3 := ?_, s4 := ?_, f2 := ?_, cross := ?_ }
  · intro p q hp hpq hq
    rw [p1 p (by omega), p1 q hq]; exact h1 p q hp hpq (by omega)
  · intro p q hp hpq hq
    rw [p2 p hp (by omega), p2 q (by omega) hq]; exact h2 _ _ (by omega) (by omega) (by omega)
  · intro p q hp hp2 hq hq2
    rw [p1 p hp2, p2 q hq hq2]; exact hf _ _ hp (by omega) (by omega) (by omega)
  · intro p q hp hpq hq
    rw [p3 p hp (by omega), p3 q (by omega) hq]; exact h1 _ _ (by omega) (by omega) (by omega)
  · intro p q hp hpq hq
    rw [p4 p hp, p4 q (by omega)]; exact h2 p q (by omega) hpq hq
  · intro p q hp hp2 hq hq2
    rw [p3 p hp hp2, p4 q hq]; exact hf _ _ (by omega) (by omega) (by omega) hq2
  · intro p q hp hp2 hq hq2
    by_cases c1 : p < i
    · rw [p1 p c1]
      by_cases c2 : q < nn - i
      · rw [p3 q hq c2]; exact h1 _ _ hp (by omega) (by omega)
      · rw [p4 q (by omega)]; exact x1 p q hp c1 (by omega) hq2
    · rw [p2 p (by omega) hp2]
      by_cases c2 : q < nn - i
      · rw [p3 q hq c2]; exact x2 _ _ (by omega) (by omega) (by omega) (by omega)
      · rw [p4 q (by omega)]; exact h2 _ _ (by omega) (by omega) hq2

theorem Mv.rot {lo hi : Nat} (d : Nat → Nat) (m : Nat) : ∀ t i j, i + j ≤ t → i ≤ m → lo ≤ m - i → m + j ≤ hi → Mv lo hi d (So.rot d m i j)
  | 0, i, j, h, _, _, _ => by
    obtain rfl : i = 0 := by omega
    obtain rfl : j = 0 := by omega
    have e : So.rot d m 0 0 = d := by funext p; unfold So.rot; rw [if_neg (by omega), if_neg (by omega)]
    rw [e]; exact Mv.refl _ _ _
  | t + 1, i, j, h, h1, h2, h3 => by
    by_cases hi0 : i = 0
    · subst hi0
      have e : So.rot d m 0 j = d := by
        funext p; unfold So.rot
        by_cases c : m - 0 ≤ p ∧ p < m - 0 + j
        · rw [if_pos c]; rfl
        · rw [if_neg c, if_neg (by omega)]
      rw [e]; exact Mv.refl _ _ _
    · by_cases hj0 : j = 0
      · subst hj0
        have e : So.rot d m i 0 = d := by
          funext p; unfold So.rot
          rw [if_neg (by omega)]; split <;> rfl
        rw [e]; exact Mv.refl _ _ _
      · rcases Nat.lt_trichotomy i j with hlt | heq | hgt
        · rw [← rot_lt d m i j h1 (by omega) hlt]
          exact (Mv.swr d (m - i) (m + j - i) i h2 (by omega) (by omega) i (Nat.le_refl _)).trans (Mv.rot _ m t i (j - i) (by omega) h1 h2 (by omega))
        · subst heq
          rw [← rot_eq d m i h1]
          exact Mv.swr d (m - i) m i h2 (by omega) (by omega) i (Nat.le_refl _)
        · rw [← rot_gt d m i j h1 (by omega) hgt]
          exact (Mv.swr d (m - i) m j h2 (by omega) (by omega) j (Nat.le_refl _)).trans (Mv.rot _ m t (i - j) j (by omega) (by omega) (by omega) h3)

/-- The two halves merged: the whole is sorted. -/
theorem Halves.join {key d1 d2 d3 : Nat → Nat} {a mid b start fin : Nat} (h : Halves key d1 a mid b start fin) (m1 : Mv a mid d1 d2) (s1 : Srt key d2 a mid) (m2 : Mv mid b d2 d3) (s2 : Srt key d3 mid b) : Srt key d3 a b := by
  intro p q hp hpq hq
  by_cases c1 : q < mid
  · rw [m2.out p (by omega), m2.out q (by omega)]; exact s1 p q hp hpq c1
  · by_cases c2 : p < mid
    · rw [m2.out p (by omega)]
      obtain ⟨x, x1, x2, x3⟩ := m1.sub p hp c2
      obtain ⟨y, y1, y2, y3⟩ := m2.sub q (by omega) hq
      rw [x3, y3, m1.out y (by omega)]
      exact h.cross x y x1 x2 y1 y2
    · exact s2 p q (by omega) hpq hq

theorem Srt.join_left {key d : Nat → Nat} {a s b : Nat} (h : Srt key d a s) (k : Srt key d s b) (e : s ≤ a ∨ b ≤ s) : Srt key d a b := fun p q h1 h2 h3 => by
  rcases e with e | e
  · exact k p q (by omega) h2 h3
  · exact h p q h1 h2 (by omega)
end Go.Proofs.Qxb6617018a.So
