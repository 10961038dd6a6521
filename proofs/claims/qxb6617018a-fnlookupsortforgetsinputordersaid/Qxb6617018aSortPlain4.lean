/- Plain: ranks, counts, sorted rows of one multiset. -/
import Derived.Test.Qxb6617018aSortPlain2
namespace Go.Proofs.Qxb6617018a.So

/-- How many of 0 .. n-1 meet P. -/
def cnt (P : Nat → Bool) : Nat → Nat
  | 0 => 0
  | m + 1 => cnt P m + (if P m then 1 else 0)

theorem cnt_le (P : Nat → Bool) : ∀ n, cnt P n ≤ n
  | 0 => Nat.le_refl _
  | m + 1 => by have := cnt_le P m; unfold cnt; split <;> omega

theorem cnt_range (P : Nat → Bool) : ∀ n, cnt P n = (List.range n).countP P
  | 0 => rfl
  | m + 1 => by rw [List.range_succ, List.countP_append, ← cnt_range P m, cnt]; simp [List.countP_cons]

theorem Pm.perm {n : Nat} {d : Nat → Nat} (h : Pm n d) : ((List.range n).map d).Perm (List.range n) := by
  refine (List.perm_ext_iff_of_nodup ?_ List.nodup_range).2 fun a => ?_
  · unfold List.Nodup
    rw [List.pairwise_map]
    refine List.Pairwise.imp_of_mem (R := fun a b => a ≠ b) (fun {a b} ha hb hne e => hne ?_) List.nodup_range
    exact h.inj a b (List.mem_range.1 ha) (List.mem_range.1 hb) e
  · constructor
    · intro ha
      obtain ⟨p, hp, rfl⟩ := List.mem_map.1 ha
      exact List.mem_range.2 (h.lt p (List.mem_range.1 hp))
    · intro ha
      obtain ⟨p, hp, e⟩ := h.onto a (List.mem_range.1 ha)
      exact List.mem_map.2 ⟨p, List.mem_range.2 hp, e⟩

theorem cnt_perm {n : Nat} {d : Nat → Nat} (h : Pm n d) (P : Nat → Bool) : cnt (fun q => P (d q)) n = cnt P n := by
  rw [cnt_range, cnt_range, ← h.perm.countP_eq P, List.countP_map]
  rfl

theorem cnt_all (P : Nat → Bool) : ∀ m, (∀ q, q < m → P q = true) → cnt P m = m
  | 0, _ => rfl
  | m + 1, h => by rw [cnt, cnt_all P m fun q hq => h q (by omega), h m (by omega)]; rfl

theorem cnt_down (P : Nat → Bool) : ∀ n, (∀ p q, p < q → q < n → P q = true → P p = true) → ∀ p, p < n → (P p = true ↔ p < cnt P n)
  | 0, _, p, hp => by omega
  | m + 1, hd, p, hp => by
    have hd' : ∀ p q, p < q → q < m → P q = true → P p = true := fun p q h1 h2 => hd p q h1 (by omega)
    have hm := cnt_le P m
    by_cases hP : P m = true
    · have hall : ∀ q, q < m → P q = true := fun q hq => hd q m hq (by omega) hP
      rw [cnt, cnt_all P m hall, if_pos hP]
      refine ⟨fun _ => by omega, fun _ => ?_⟩
      by_cases e : p = m
      · rw [e]; exact hP
      · exact hall p (by omega)
    · rw [cnt, if_neg hP, Nat.add_zero]
      by_cases e : p = m
      · subst e
        exact ⟨fun h => absurd h hP, fun h => by omega⟩
      · exact cnt_down P m hd' p (by omega)

/-- Does j come ahead of i? -/
def ahead (key : Nat → Nat) (i j : Nat) : Bool := decide (key j < key i) || (decide (j < i) && !decide (key i < key j))

theorem ahead_R (key : Nat → Nat) (i j : Nat) : ahead key i j = true ↔ R key j i := by
  unfold ahead R
  simp only [Bool.or_eq_true, Bool.and_eq_true, decide_eq_true_eq, Bool.not_eq_true', decide_eq_false_iff_not]
  omega

/-- **The place of an element is its rank.** -/
theorem rank_place {n : Nat} {d key : Nat → Nat} (hp : Pm n d) (hs : Srt key d 0 n) (i : Nat) (hi : i < n) : cnt (ahead key i) n < n ∧ d (cnt (ahead key i) n) = i := by
  obtain ⟨p, hpn, e⟩ := hp.onto i hi
  have hc := cnt_perm hp (ahead key i)
  have hdn : ∀ p q, p < q → q < n → ahead key i (d q) = true → ahead key i (d p) = true := fun a b h1 h2 h3 =>
    (ahead_R key i _).2 (R.trans (hs a b (Nat.zero_le _) h1 h2) ((ahead_R key i _).1 h3))
  have hP := cnt_down (fun q => ahead key i (d q)) n hdn
  have h1 : ¬ p < cnt (ahead key i) n := fun h => by
    rw [← hc] at h
    have := (ahead_R key i _).1 ((hP p hpn).2 h)
    rw [e] at this
    unfold R at this
    omega
  have h2 : p ≤ cnt (ahead key i) n := by
    rcases Nat.eq_zero_or_pos p with k | k
    · omega
    · have h3 := (hP (p - 1) (by omega)).1 ((ahead_R key i _).2 (by have := hs (p - 1) p (Nat.zero_le _) (by omega) hpn; rwa [e] at this))
      rw [hc] at h3
      omega
  have h4 : cnt (ahead key i) n = p := by omega
  rw [h4]
  exact ⟨hpn, e⟩

theorem srt_mono {key d : Nat → Nat} {n : Nat} (hs : Srt key d 0 n) (p q : Nat) (h : p ≤ q) (hq : q < n) : key (d p) ≤ key (d q) := by
  rcases Nat.lt_or_ge p q with k | k
  · have := hs p q (Nat.zero_le _) k hq; unfold R at this; omega
  · rw [show p = q by omega]; exact Nat.le_refl _

theorem srt_cnt {key d : Nat → Nat} {n : Nat} (hp : Pm n d) (hm : ∀ p q, p ≤ q → q < n → key (d p) ≤ key (d q)) (c p : Nat) (h : p < n) : key (d p) < c ↔ p < cnt (fun x => decide (key x < c)) n := by
  rw [← cnt_perm hp (fun x => decide (key x < c)), ← cnt_down (fun q => decide (key (d q) < c)) n ?_ p h]
  · simp
  · intro a b h1 h2 h3
    simp only [decide_eq_true_eq] at h3 ⊢
    have := hm a b (by omega) h2
    omega

/-- **Two sorted rows of one multiset are the same, key by key.** -/
theorem srt_same {key d e : Nat → Nat} {n : Nat} (hd : Pm n d) (he : Pm n e) (hm : ∀ p q, p ≤ q → q < n → key (d p) ≤ key (d q)) (hm' : ∀ p q, p ≤ q → q < n → key (e p) ≤ key (e q)) (p : Nat) (h : p < n) : key (d p) = key (e p) := by
  have h1 := srt_cnt hd hm (key (d p)) p h
  have h2 := srt_cnt he hm' (key (d p)) p h
  have h3 := srt_cnt hd hm (key (e p)) p h
  have h4 := srt_cnt he hm' (key (e p)) p h
  omega

theorem Pm.rev {n : Nat} {d : Nat → Nat} (h : Pm n d) : Pm n fun p => n - 1 - d p := by
  refine ⟨fun p hp => by omega, fun x hx => ?_, fun p q hp hq e => ?_⟩
  · obtain ⟨p, hp, e⟩ := h.onto (n - 1 - x) (by omega)
    exact ⟨p, hp, by show n - 1 - d p = x; omega⟩
  · have e' : n - 1 - d p = n - 1 - d q := e
    have := h.lt p hp
    have := h.lt q hq
    exact h.inj p q hp hq (by omega)
end Go.Proofs.Qxb6617018a.So
