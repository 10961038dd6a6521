/- The plain theory of the stable sort by insertion and symmetric merge: no Go in sight. A row is a function from places to elements; an element is its place at the start; 'key' orders. -/
namespace Go.Proofs.Qxb6617018a.So

/-- The order that a stable sort brings about: by key, then by the place at the start. -/
def R (key : Nat → Nat) (x y : Nat) : Prop := key x < key y ∨ (key x = key y ∧ x < y)

theorem R.trans {key : Nat → Nat} {x y z : Nat} (h : R key x y) (k : R key y z) : R key x z := by unfold R at *; omega

/-- All of 0 .. n-1, each once. -/
structure Pm (n : Nat) (d : Nat → Nat) : Prop where
  lt : ∀ p, p < n → d p < n
  onto : ∀ x, x < n → ∃ p, p < n ∧ d p = x
  inj : ∀ p q, p < n → q < n → d p = d q → p = q

def swp (d : Nat → Nat) (i j : Nat) : Nat → Nat := fun p => if p = i then d j else if p = j then d i else d p

/-- What a function does that moves elements within [a, b). -/
structure Mv (a b : Nat) (d d' : Nat → Nat) : Prop where
  out : ∀ p, p < a ∨ b ≤ p → d' p = d p
  sub : ∀ p, a ≤ p → p < b → ∃ q, a ≤ q ∧ q < b ∧ d' p = d q
  pm : ∀ n, b ≤ n → Pm n d → Pm n d'

theorem Mv.refl (a b : Nat) (d : Nat → Nat) : Mv a b d d := ⟨fun _ _ => rfl, fun p h1 h2 => ⟨p, h1, h2, rfl⟩, fun _ _ h => h⟩
theorem Mv.trans {a b : Nat} {d e f : Nat → Nat} (h : Mv a b d e) (k : Mv a b e f) : Mv a b d f :=
  ⟨fun p hp => (k.out p hp).trans (h.out p hp), fun p h1 h2 => by
    obtain ⟨q, q1, q2, q3⟩ := k.sub p h1 h2
    obtain ⟨r, r1, r2, r3⟩ := h.sub q q1 q2
    exact ⟨r, r1, r2, q3.trans r3⟩, fun n hn hp => k.pm n hn (h.pm n hn hp)⟩
theorem Mv.mono {a b a' b' : Nat} {d e : Nat → Nat} (h : Mv a b d e) (ha : a' ≤ a) (hb : b ≤ b') : Mv a' b' d e :=
  ⟨fun p hp => h.out p (by omega), fun p h1 h2 => by
    by_cases hp : a ≤ p ∧ p < b
    · obtain ⟨q, q1, q2, q3⟩ := h.sub p hp.1 hp.2
      exact ⟨q, by omega, by omega, q3⟩
    · exact ⟨p, h1, h2, h.out p (by omega)⟩, fun n hn hp => h.pm n (by omega) hp⟩

theorem swp_eq (d : Nat → Nat) (i j p : Nat) : swp d i j p = d (if p = i then j else if p = j then i else p) := by
  unfold swp; split
  · rfl
  · split <;> rfl

theorem Mv.swap {a b i j : Nat} (d : Nat → Nat) (hi : a ≤ i) (hi' : i < b) (hj : a ≤ j) (hj' : j < b) : Mv a b d (swp d i j) := by
  refine ⟨fun p hp => ?_, fun p h1 h2 => ?_, fun n hn hp => ?_⟩
  · unfold swp; rw [if_neg (by omega), if_neg (by omega)]
  · unfold swp
    by_cases e : p = i
    · exact ⟨j, hj, hj', by rw [if_pos e]⟩
    · by_cases e2 : p = j
      · exact ⟨i, hi, hi', by rw [if_neg e, if_pos e2]⟩
      · exact ⟨p, h1, h2, by rw [if_neg e, if_neg e2]⟩
  · refine ⟨fun p h => ?_, fun x hx => ?_, fun p q h1 h2 he => ?_⟩
    · unfold swp
      split
      · exact hp.lt _ (by omega)
      · split
        · exact hp.lt _ (by omega)
        · exact hp.lt _ h
    · obtain ⟨p, h1, h2⟩ := hp.onto x hx
      unfold swp
      by_cases e : p = i
      · by_cases e3 : j = i
        · exact ⟨i, by omega, by rw [if_pos rfl, e3, ← e, h2]⟩
        · exact ⟨j, by omega, by rw [if_neg e3, if_pos rfl, ← e, h2]⟩
      · by_cases e2 : p = j
        · exact ⟨i, by omega, by rw [if_pos rfl, ← e2, h2]⟩
        · exact ⟨p, h1, by rw [if_neg e, if_neg e2, h2]⟩
    · rw [swp_eq, swp_eq] at he
      have hs : ∀ x, x < n → (if x = i then j else if x = j then i else x) < n := fun x hx => by
        split
        · omega
        · split <;> omega
      have e := hp.inj _ _ (hs p h1) (hs q h2) he
      split at e <;> split at e <;> (try split at e) <;> (try split at e) <;> omega

def Srt (key : Nat → Nat) (d : Nat → Nat) (a b : Nat) : Prop := ∀ p q, a ≤ p → p < q → q < b → R key (d p) (d q)
/-- Every element of [a, m) came ahead of every element of [m, b). -/
def Fst (d : Nat → Nat) (a m b : Nat) : Prop := ∀ p q, a ≤ p → p < m → m ≤ q → q < b → d p < d q

/-! ### insertion -/
structure InInv (key d : Nat → Nat) (a i j : Nat) : Prop where
  lo : a ≤ j
  hi : j ≤ i
  rest : ∀ p q, a ≤ p → p < q → q ≤ i → p ≠ j → q ≠ j → R key (d p) (d q)
  up : ∀ q, j < q → q ≤ i → R key (d j) (d q)
  idx : ∀ p, a ≤ p → p ≤ i → p ≠ j → d p < d j

theorem InInv.step {key d : Nat → Nat} {a i j : Nat} (h : InInv key d a i j) (hj : a < j) (hl : key (d j) < key (d (j - 1))) : InInv key (swp d j (j - 1)) a i (j - 1) := by
  have h1 := h.hi
  have ej : swp d j (j - 1) (j - 1) = d j := by unfold swp; rw [if_neg (by omega), if_pos rfl]
  have ek : swp d j (j - 1) j = d (j - 1) := by unfold swp; rw [if_pos rfl]
  have eo : ∀ p, p ≠ j → p ≠ j - 1 → swp d j (j - 1) p = d p := fun p a1 a2 => by unfold swp; rw [if_neg a1, if_neg a2]
  refine { lo := by omega, hi := by omega, rest := ?_, up := ?_, idx := ?_ }
  · intro p q hp hpq hq n1 n2
    by_cases e1 : p = j
    · subst e1
      rw [ek, eo q (by omega) (by omega)]
      exact h.rest (p - 1) q (by omega) (by omega) hq (by omega) (by omega)
    · by_cases e2 : q = j
      · subst e2
        rw [ek, eo p (by omega) (by omega)]
        exact h.rest p (q - 1) hp (by omega) (by omega) (by omega) (by omega)
      · rw [eo p e1 n1, eo q e2 n2]; exact h.rest p q hp hpq hq e1 e2
  · intro q hq hqi
    rw [ej]
    by_cases e : q = j
    · subst e; rw [ek]; exact .inl hl
    · rw [eo q e (by omega)]; exact h.up q (by omega) hqi
  · intro p hp hpi hne
    rw [ej]
    by_cases e : p = j
    · subst e; rw [ek]; exact h.idx (p - 1) (by omega) (by omega) (by omega)
    · rw [eo p e hne]; exact h.idx p hp hpi e

theorem InInv.fin {key d : Nat → Nat} {a i j : Nat} (h : InInv key d a i j) (hs : j = a ∨ ¬ key (d j) < key (d (j - 1))) : Srt key d a (i + 1) := by
  have h1 := h.hi
  have h0 := h.lo
  have low : ∀ p, a ≤ p → p < j → R key (d p) (d j) := by
    intro p hp hpj
    rcases hs with hs | hs
    · omega
    · have hx : R key (d (j - 1)) (d j) := by
        have := h.idx (j - 1) (by omega) (by omega) (by omega)
        unfold R; omega
      by_cases e : p = j - 1
      · rw [e]; exact hx
      · exact (h.rest p (j - 1) hp (by omega) (by omega) (by omega) (by omega)).trans hx
  intro p q hp hpq hq
  by_cases e1 : p = j
  · subst e1; exact h.up q hpq (by omega)
  · by_cases e2 : q = j
    · subst e2; exact low p hp hpq
    · exact h.rest p q hp hpq (by omega) e1 e2

structure OutInv (key d : Nat → Nat) (a b i : Nat) : Prop where
  srt : Srt key d a i
  idx : ∀ p q, a ≤ p → p < q → i ≤ q → q < b → d p < d q

theorem OutInv.start {key d : Nat → Nat} {a b : Nat} (h : ∀ p q, a ≤ p → p < q → q < b → d p < d q) : OutInv key d a b (a + 1) :=
  ⟨fun p q h1 h2 h3 => by omega, fun p q h1 h2 _ h4 => h p q h1 h2 h4⟩
theorem OutInv.into {key d : Nat → Nat} {a b i : Nat} (h : OutInv key d a b i) (ha : a < i) (hi : i < b) : InInv key d a i i :=
  { lo := by omega, hi := Nat.le_refl _, rest := fun p q h1 h2 h3 h4 h5 => h.srt p q h1 h2 (by omega), up := fun q h1 h2 => by omega, idx := fun p h1 h2 h3 => h.idx p i h1 (by omega) (Nat.le_refl _) hi }
theorem OutInv.next {key d d' : Nat → Nat} {a b i : Nat} (h : OutInv key d a b i) (hs : Srt key d' a (i + 1)) (hm : Mv a (i + 1) d d') : OutInv key d' a b (i + 1) := by
  refine ⟨hs, fun p q h1 h2 h3 h4 => ?_⟩
  rw [hm.out q (by omega)]
  by_cases hp : p < i + 1
  · obtain ⟨r, r1, r2, r3⟩ := hm.sub p h1 hp
    rw [r3]; exact h.idx r q r1 (by omega) (by omega) h4
  · rw [hm.out p (by omega)]; exact h.idx p q h1 h2 (by omega) h4

/-! ### swapRange, rotate -/
def swr (d : Nat → Nat) (a b n : Nat) : Nat → Nat := fun p => if a ≤ p ∧ p < a + n then d (p - a + b) else if b ≤ p ∧ p < b + n then d (p - b + a) else d p

theorem swr_zero (d : Nat → Nat) (a b : Nat) : swr d a b 0 = d := by
  funext p; unfold swr; rw [if_neg (by omega), if_neg (by omega)]
theorem swr_succ (d : Nat → Nat) (a b i n : Nat) (hi : i < n) (hab : a + n ≤ b) : swp (swr d a b i) (a + i) (b + i) = swr d a b (i + 1) := by
  funext p
  unfold swp
  by_cases e1 : p = a + i
  · rw [if_pos e1]
    unfold swr
    rw [if_neg (by omega), if_neg (by omega), if_pos (by omega)]
    congr 1; omega
  · rw [if_neg e1]
    by_cases e2 : p = b + i
    · rw [if_pos e2]
      unfold swr
      rw [if_neg (by omega), if_neg (by omega), if_neg (by omega), if_pos (by omega)]
      congr 1; omega
    · rw [if_neg e2]
      unfold swr
      by_cases c1 : a ≤ p ∧ p < a + i
      · rw [if_pos c1, if_pos (by omega)]
      · by_cases c2 : b ≤ p ∧ p < b + i
        · rw [if_neg c1, if_pos c2, if_neg (by omega), if_pos (by omega)]
        · rw [if_neg c1, if_neg c2, if_neg (by omega), if_neg (by omega)]

theorem Mv.swr {lo hi : Nat} (d : Nat → Nat) (a b n : Nat) (h1 : lo ≤ a) (hab : a + n ≤ b) (h2 : b + n ≤ hi) : ∀ i, i ≤ n → Mv lo hi d (So.swr d a b i)
  | 0, _ => by rw [swr_zero]; exact Mv.refl _ _ _
  | i + 1, hi => by
    rw [← swr_succ d a b i n (by omega) hab]
    exact (Mv.swr d a b n h1 hab h2 i (by omega)).trans (Mv.swap _ (by omega) (by omega) (by omega) (by omega))

def rot (d : Nat → Nat) (m i j : Nat) : Nat → Nat := fun p => if m - i ≤ p ∧ p < m - i + j then d (p + i) else if m - i + j ≤ p ∧ p < m + j then d (p - j) else d p

theorem rot_gt (d : Nat → Nat) (m i j : Nat) (hi : i ≤ m) (hj : 0 < j) (h : j < i) : rot (swr d (m - i) m j) m (i - j) j = rot d m i j := by
  funext p
  unfold rot
  by_cases c1 : m - i ≤ p ∧ p < m - i + j
  · rw [if_neg (by omega), if_neg (by omega), if_pos c1]
    unfold swr; rw [if_pos (by omega)]; congr 1; omega
  · rw [if_neg c1]
    by_cases c2 : m - i + j ≤ p ∧ p < m + j
    · rw [if_pos c2]
      by_cases c3 : p < m - i + j + j
      · rw [if_pos (by omega)]
        unfold swr; rw [if_neg (by omega), if_pos (by omega)]; congr 1; omega
      · rw [if_neg (by omega), if_pos (by omega)]
        unfold swr; rw [if_neg (by omega), if_neg (by omega)]
    · rw [if_neg c2, if_neg (by omega), if_neg (by omega)]
      unfold swr; rw [if_neg (by omega), if_neg (by omega)]
theorem rot_lt (d : Nat → Nat) (m i j : Nat) (hi : i ≤ m) (h0 : 0 < i) (h : i < j) : rot (swr d (m - i) (m + j - i) i) m i (j - i) = rot d m i j := by
  funext p
  unfold rot
  by_cases c1 : m - i ≤ p ∧ p < m - i + (j - i)
  · rw [if_pos c1, if_pos (by omega)]
    unfold swr
    by_cases c2 : p + i < m + j - i
    · by_cases c3 : p + i < m
      · omega
      · rw [if_neg (by omega), if_neg (by omega)]
    · omega
  · rw [if_neg c1]
    by_cases c2 : m - i + (j - i) ≤ p ∧ p < m + (j - i)
    · rw [if_pos c2]
      by_cases c3 : p < m - i + j
      · rw [if_pos (by omega)]
        unfold swr; rw [if_pos (by omega)]; congr 1; omega
      · omega
    · rw [if_neg c2]
      by_cases c4 : m - i ≤ p ∧ p < m - i + j
      · omega
      · rw [if_neg c4]
        by_cases c5 : m - i + j ≤ p ∧ p < m + j
        · rw [if_pos c5]
          unfold swr; rw [if_neg (by omega), if_pos (by omega)]; congr 1; omega
        · rw [if_neg c5]
          unfold swr; rw [if_neg (by omega), if_neg (by omega)]
theorem rot_eq (d : Nat → Nat) (m i : Nat) (hi : i ≤ m) : swr d (m - i) m i = rot d m i i := by
  funext p
  unfold rot swr
  by_cases c1 : m - i ≤ p ∧ p < m - i + i
  · rw [if_pos c1, if_pos c1]; congr 1; omega
  · rw [if_neg c1, if_neg c1]
    by_cases c2 : m ≤ p ∧ p < m + i
    · rw [if_pos c2, if_pos (by omega)]; congr 1; omega
    · rw [if_neg c2, if_neg (by omega)]

/-! ### shifting one element -/
/-- d[a] carried to place k, what was between one place down. -/
def shu (d : Nat → Nat) (a k : Nat) : Nat → Nat := fun p => if a ≤ p ∧ p < k then d (p + 1) else if p = k then d a else d p
theorem shu_start (d : Nat → Nat) (a : Nat) : shu d a a = d := by
  funext p; unfold shu; rw [if_neg (by omega)]; split
  · rename_i h; rw [h]
  · rfl
theorem shu_succ (d : Nat → Nat) (a k : Nat) (h : a ≤ k) : swp (shu d a k) k (k + 1) = shu d a (k + 1) := by
  funext p
  unfold swp
  by_cases e1 : p = k
  · rw [if_pos e1]; unfold shu; rw [if_neg (by omega), if_neg (by omega), if_pos (by omega), e1]
  · rw [if_neg e1]
    by_cases e2 : p = k + 1
    · rw [if_pos e2]; unfold shu; rw [if_neg (by omega), if_pos rfl, if_neg (by omega), if_pos e2]
    · rw [if_neg e2]; unfold shu
      by_cases c : a ≤ p ∧ p < k
      · rw [if_pos c, if_pos (by omega)]
      · rw [if_neg c, if_neg e1, if_neg (by omega), if_neg e2]
/-- d[m] carried down to place k, what was between one place up. -/
def shd (d : Nat → Nat) (m k : Nat) : Nat → Nat := fun p => if p = k then d m else if k < p ∧ p ≤ m then d (p - 1) else d p
theorem shd_start (d : Nat → Nat) (m : Nat) : shd d m m = d := by
  funext p; unfold shd; split
  · rename_i h; rw [h]
  · rw [if_neg (by omega)]
theorem shd_succ (d : Nat → Nat) (m k : Nat) (h : k ≤ m) (h0 : 0 < k) : swp (shd d m k) k (k - 1) = shd d m (k - 1) := by
  funext p
  unfold swp
  by_cases e1 : p = k
  · rw [if_pos e1]; unfold shd; rw [if_neg (by omega), if_neg (by omega), if_neg (by omega), if_pos (by omega), e1]
  · rw [if_neg e1]
    by_cases e2 : p = k - 1
    · rw [if_pos e2]; unfold shd; rw [if_pos rfl, if_pos e2]
    · rw [if_neg e2]; unfold shd
      rw [if_neg e1, if_neg e2]
      by_cases c : k < p ∧ p ≤ m
      · rw [if_pos c, if_pos (by omega)]
      · rw [if_neg c, if_neg (by omega)]
theorem Mv.shu {lo hi : Nat} (d : Nat → Nat) (a : Nat) (h1 : lo ≤ a) : ∀ k, a ≤ k → k < hi → Mv lo hi d (So.shu d a k)
  | 0, h, _ => by obtain rfl : a = 0 := by omega
                  rw [shu_start]; exact Mv.refl _ _ _
  | k + 1, h, hk => by
    by_cases e : a = k + 1
    · subst e; rw [shu_start]; exact Mv.refl _ _ _
    · rw [← shu_succ d a k (by omega)]
      exact (Mv.shu d a h1 k (by omega) (by omega)).trans (Mv.swap _ (by omega) (by omega) (by omega) (by omega))
end Go.Proofs.Qxb6617018a.So
