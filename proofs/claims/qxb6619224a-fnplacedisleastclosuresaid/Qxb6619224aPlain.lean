/- The plain law: the least closed set of operations, without any Go. -/
namespace Go.Proofs.Qxb6619224a.Pl

/-- What an operation asks for: the writer of the value that it expects. -/
def needs (P : Nat → Bool) (K V : Nat → Int) (j : Nat) : Prop := K j = 2 ∨ (K j = 1 ∧ P j = false ∧ V j ≠ -1)

/-- The least closed set: in every set that holds the operations that responded and is closed. -/
def Cl (n : Nat) (P : Nat → Bool) (K V Wr : Nat → Int) (k : Nat) : Prop :=
  ∀ S : Nat → Prop, (∀ i, i < n → P i = false → S i) → (∀ j w : Nat, S j → j < n → needs P K V j → Wr (V j).toNat = (w : Int) → S w) → S k

/-- A member of it asks for a writer that is none. -/
def Bad (n : Nat) (P : Nat → Bool) (K V Wr : Nat → Int) : Prop := ∃ j, j < n ∧ Cl n P K V Wr j ∧ needs P K V j ∧ Wr (V j).toNat = -1

theorem Cl.base {n : Nat} {P : Nat → Bool} {K V Wr : Nat → Int} {k : Nat} (hk : k < n) (h : P k = false) : Cl n P K V Wr k := fun _ h1 _ => h1 k hk h
theorem Cl.step {n : Nat} {P : Nat → Bool} {K V Wr : Nat → Int} {j w : Nat} (hj : Cl n P K V Wr j) (hn : j < n) (h : needs P K V j) (hw : Wr (V j).toNat = (w : Int)) : Cl n P K V Wr w :=
  fun S h1 h2 => h2 j w (hj S h1 h2) hn h hw

/-- The writer of v is one and lies in the set. -/
def Clv (n : Nat) (Wr : Nat → Int) (sl : List Bool) (v : Int) : Prop := ∃ w : Nat, w < n ∧ Wr v.toNat = (w : Int) ∧ sl.getD w false = true

/-- How many are not in the set yet. -/
def cf (sl : List Bool) : Nat := sl.count false

theorem cf_set (sl : List Bool) (w : Nat) (hw : w < sl.length) (h : sl.getD w false = false) : cf (sl.set w true) + 1 = cf sl := by
  induction sl generalizing w with
  | nil => simp at hw
  | cons a t ih =>
    cases w with
    | zero =>
      have ha : a = false := by simpa using h
      subst ha
      simp [cf]
    | succ w =>
      have := ih w (by simpa using hw) (by simpa using h)
      unfold cf at *
      rw [List.set_cons_succ, List.count_cons, List.count_cons]
      omega

theorem cf_le (sl : List Bool) : cf sl ≤ sl.length := List.count_le_length

theorem getD_set (sl : List Bool) (w j : Nat) (hw : w < sl.length) : (sl.set w true).getD j false = (decide (j = w) || sl.getD j false) := by
  rw [List.getD_eq_getElem?_getD, List.getElem?_set, List.getD_eq_getElem?_getD]
  by_cases h : w = j
  · subst h; simp [hw]
  · have h' : ¬ j = w := fun e => h e.symm
    simp [h, h']

theorem Clv.mono {n : Nat} {Wr : Nat → Int} {sl : List Bool} {v : Int} (h : Clv n Wr sl v) (w : Nat) (hw : w < sl.length) : Clv n Wr (sl.set w true) v := by
  obtain ⟨x, h1, h2, h3⟩ := h
  exact ⟨x, h1, h2, by rw [getD_set _ _ _ hw, h3]; simp⟩

section
variable {n m : Nat} {P : Nat → Bool} {K V Wr : Nat → Int}

/-- The input's own conditions. -/
structure Ok (n m : Nat) (K V Wr : Nat → Int) : Prop where
  wr : ∀ v, v < m → -1 ≤ Wr v ∧ Wr v < (n : Int)
  one : ∀ k, k < n → K k = 1 → -1 ≤ V k ∧ V k < (m : Int)
  two : ∀ k, k < n → K k = 2 → 0 ≤ V k ∧ V k < (m : Int)

theorem Ok.val (h : Ok n m K V Wr) {j : Nat} (hj : j < n) (hn : needs P K V j) : 0 ≤ V j ∧ V j < (m : Int) := by
  rcases hn with h2 | ⟨h1, _, h3⟩
  · exact h.two j hj h2
  · have := h.one j hj h1; omega

/-- A closed set that holds the responded operations, and no more than the least one: it is the least one, and nothing is lacking. -/
theorem least (sl : List Bool) (hb : ∀ k, k < n → P k = false → sl.getD k false = true) (hc : ∀ j, j < n → sl.getD j false = true → needs P K V j → Clv n Wr sl (V j))
    (hs : ∀ j, j < n → sl.getD j false = true → Cl n P K V Wr j) : (∀ k, k < n → (sl.getD k false = true ↔ Cl n P K V Wr k)) ∧ ¬ Bad n P K V Wr := by
  have h1 : ∀ k, Cl n P K V Wr k → k < n ∧ sl.getD k false = true := fun k h => h (fun k => k < n ∧ sl.getD k false = true) (fun i hi hp => ⟨hi, hb i hi hp⟩) (fun j w ⟨hj, hsj⟩ _ hn hw => by
    obtain ⟨x, h1, h2, h3⟩ := hc j hj hsj hn
    have : x = w := by omega
    subst this
    exact ⟨h1, h3⟩)
  refine ⟨fun k hk => ⟨hs k hk, fun h => (h1 k h).2⟩, ?_⟩
  rintro ⟨j, hj, hcl, hn, hw⟩
  obtain ⟨x, _, h2, _⟩ := hc j hj (h1 j hcl).2 hn
  omega

/-! ### find -/
/-- What find leaves, and what it is called with but for 'v0'. -/
structure FPre (n m : Nat) (P : Nat → Bool) (K V Wr : Nat → Int) (v : Int) (sl : List Bool) : Prop where
  len : sl.length = n
  sub : ∀ j, j < n → sl.getD j false = true → Cl n P K V Wr j
  from_ : ∃ j, j < n ∧ Cl n P K V Wr j ∧ needs P K V j ∧ V j = v
  cas : ∀ j, j < n → sl.getD j false = true → K j = 2 → Clv n Wr sl (V j) ∨ V j = v
  vpos : 0 ≤ v
  vm : v < (m : Int)

/-- The state inside find: v0 is what it was called with, sl0 the set then. -/
structure FInv (n m : Nat) (P : Nat → Bool) (K V Wr : Nat → Int) (v0 : Int) (sl0 : List Bool) (v : Int) (sl : List Bool) : Prop extends FPre n m P K V Wr v sl where
  first : v = v0 ∨ Clv n Wr sl v0
  mono : ∀ j, sl0.getD j false = true → sl.getD j false = true

/-- What find has done when it says true. -/
structure FPost (n : Nat) (P : Nat → Bool) (K V Wr : Nat → Int) (v0 : Int) (sl0 sl : List Bool) : Prop where
  len : sl.length = n
  sub : ∀ j, j < n → sl.getD j false = true → Cl n P K V Wr j
  cas : ∀ j, j < n → sl.getD j false = true → K j = 2 → Clv n Wr sl (V j)
  first : Clv n Wr sl v0
  mono : ∀ j, sl0.getD j false = true → sl.getD j false = true

theorem FInv.start {v0 : Int} {sl : List Bool} (h : FPre n m P K V Wr v0 sl) : FInv n m P K V Wr v0 sl v0 sl := { h with first := .inl rfl, mono := fun _ h => h }

theorem FInv.none {v0 : Int} {sl0 : List Bool} {v : Int} {sl : List Bool} (h : FInv n m P K V Wr v0 sl0 v sl) (hw : Wr v.toNat = -1) : Bad n P K V Wr := by
  obtain ⟨j, h1, h2, h3, h4⟩ := h.from_
  exact ⟨j, h1, h2, h3, by rw [h4]; exact hw⟩

theorem FInv.done {v0 : Int} {sl0 : List Bool} {v : Int} {sl : List Bool} (h : FInv n m P K V Wr v0 sl0 v sl) (w : Nat) (hwn : w < n) (hw : Wr v.toNat = (w : Int)) (hs : sl.getD w false = true) : FPost n P K V Wr v0 sl0 sl := by
  have hv : Clv n Wr sl v := ⟨w, hwn, hw, hs⟩
  refine { len := h.len, sub := h.sub, cas := ?_, first := ?_, mono := h.mono }
  · intro j hj hsj hk
    rcases h.cas j hj hsj hk with h1 | h1
    · exact h1
    · rw [h1]; exact hv
  · rcases h.first with h1 | h1
    · rw [← h1]; exact hv
    · exact h1

/-- The set with one writer more. -/
theorem FInv.put {v0 : Int} {sl0 : List Bool} {v : Int} {sl : List Bool} (h : FInv n m P K V Wr v0 sl0 v sl) (w : Nat) (hwn : w < n) (hw : Wr v.toNat = (w : Int)) :
    (sl.set w true).length = n ∧ (∀ j, j < n → (sl.set w true).getD j false = true → Cl n P K V Wr j) ∧ (∀ j, j < n → (sl.set w true).getD j false = true → K j = 2 → j ≠ w → Clv n Wr (sl.set w true) (V j)) ∧
      Clv n Wr (sl.set w true) v0 ∧ (∀ j, sl0.getD j false = true → (sl.set w true).getD j false = true) ∧ Cl n P K V Wr w := by
  have hl := h.len
  have hv : Clv n Wr (sl.set w true) v := ⟨w, hwn, hw, by rw [getD_set _ _ _ (by omega)]; simp⟩
  have hcw : Cl n P K V Wr w := by
    obtain ⟨j, h1, h2, h3, h4⟩ := h.from_
    exact h2.step h1 h3 (by rw [h4]; exact hw)
  refine ⟨by rw [List.length_set]; exact hl, ?_, ?_, ?_, ?_, hcw⟩
  · intro j hj hs
    rw [getD_set _ _ _ (by omega)] at hs
    by_cases e : j = w
    · subst e; exact hcw
    · exact h.sub j hj (by simpa [e] using hs)
  · intro j hj hs hk hne
    rw [getD_set _ _ _ (by omega)] at hs
    rcases h.cas j hj (by simpa [hne] using hs) hk with h1 | h1
    · exact h1.mono w (by omega)
    · rw [h1]; exact hv
  · rcases h.first with h1 | h1
    · rw [← h1]; exact hv
    · exact h1.mono w (by omega)
  · intro j hj
    rw [getD_set _ _ _ (by omega), h.mono j hj]; simp

theorem FInv.stop {v0 : Int} {sl0 : List Bool} {v : Int} {sl : List Bool} (h : FInv n m P K V Wr v0 sl0 v sl) (w : Nat) (hwn : w < n) (hw : Wr v.toNat = (w : Int)) (hk : K w ≠ 2) : FPost n P K V Wr v0 sl0 (sl.set w true) := by
  obtain ⟨h1, h2, h3, h4, h5, _⟩ := h.put w hwn hw
  exact { len := h1, sub := h2, cas := fun j hj hs hkj => h3 j hj hs hkj (fun e => hk (e ▸ hkj)), first := h4, mono := h5 }

theorem FInv.go {v0 : Int} {sl0 : List Bool} {v : Int} {sl : List Bool} (ok : Ok n m K V Wr) (h : FInv n m P K V Wr v0 sl0 v sl) (w : Nat) (hwn : w < n) (hw : Wr v.toNat = (w : Int)) (hk : K w = 2) : FInv n m P K V Wr v0 sl0 (V w) (sl.set w true) := by
  obtain ⟨h1, h2, h3, h4, h5, h6⟩ := h.put w hwn hw
  have := ok.two w hwn hk
  exact { len := h1, sub := h2, from_ := ⟨w, hwn, h6, .inl hk, rfl⟩, cas := fun j hj hs hkj => by
            by_cases e : j = w
            · exact .inr (by rw [e])
            · exact .inl (h3 j hj hs hkj e), vpos := this.1, vm := this.2, first := .inr h4, mono := h5 }

/-! ### placed -/
structure OInv (n : Nat) (P : Nat → Bool) (K V Wr : Nat → Int) (i : Nat) (sl : List Bool) : Prop where
  len : sl.length = n
  sub : ∀ j, j < n → sl.getD j false = true → Cl n P K V Wr j
  base : ∀ j, j < i → j < n → P j = false → sl.getD j false = true ∧ (needs P K V j → Clv n Wr sl (V j))
  cas : ∀ j, j < n → sl.getD j false = true → K j = 2 → Clv n Wr sl (V j)

theorem OInv.start : OInv n P K V Wr 0 (List.replicate n false) := by
  have h0 : ∀ j, (List.replicate n false).getD j false = false := fun j => by
    rw [List.getD_eq_getElem?_getD, List.getElem?_replicate]; split <;> rfl
  exact { len := by simp, sub := fun j _ h => by rw [h0] at h; simp at h, base := fun j h => by omega, cas := fun j _ h => by rw [h0] at h; simp at h }

theorem OInv.skip {i : Nat} {sl : List Bool} (h : OInv n P K V Wr i sl) (hp : P i = true) : OInv n P K V Wr (i + 1) sl :=
  { len := h.len, sub := h.sub, cas := h.cas, base := fun j hj hn hpj => by
      by_cases e : j = i
      · subst e; rw [hp] at hpj; simp at hpj
      · exact h.base j (by omega) hn hpj }

theorem OInv.pre {i : Nat} {sl : List Bool} (ok : Ok n m K V Wr) (h : OInv n P K V Wr i sl) (hi : i < n) (hp : P i = false) (hn : needs P K V i) : FPre n m P K V Wr (V i) (sl.set i true) := by
  have hl := h.len
  have hv := ok.val hi hn
  refine { len := by rw [List.length_set]; exact hl, sub := ?_, from_ := ⟨i, hi, .base hi hp, hn, rfl⟩, cas := ?_, vpos := hv.1, vm := hv.2 }
  · intro j hj hs
    rw [getD_set _ _ _ (by omega)] at hs
    by_cases e : j = i
    · subst e; exact .base hi hp
    · exact h.sub j hj (by simpa [e] using hs)
  · intro j hj hs hk
    rw [getD_set _ _ _ (by omega)] at hs
    by_cases e : j = i
    · exact .inr (by rw [e])
    · exact .inl ((h.cas j hj (by simpa [e] using hs) hk).mono i (by omega))

theorem OInv.found {i : Nat} {sl sl' : List Bool} (h : OInv n P K V Wr i sl) (hi : i < n) (hf : FPost n P K V Wr (V i) (sl.set i true) sl') : OInv n P K V Wr (i + 1) sl' := by
  have hl := h.len
  refine { len := hf.len, sub := hf.sub, cas := hf.cas, base := ?_ }
  intro j hj hn hp
  by_cases e : j = i
  · subst e
    exact ⟨hf.mono j (by rw [getD_set _ _ _ (by omega)]; simp), fun _ => hf.first⟩
  · obtain ⟨h1, h2⟩ := h.base j (by omega) hn hp
    refine ⟨hf.mono j (by rw [getD_set _ _ _ (by omega), h1]; simp), fun hnd => ?_⟩
    obtain ⟨w, w1, w2, w3⟩ := h2 hnd
    exact ⟨w, w1, w2, hf.mono w (by rw [getD_set _ _ _ (by omega), w3]; simp)⟩

theorem OInv.plain {i : Nat} {sl : List Bool} (h : OInv n P K V Wr i sl) (hi : i < n) (hp : P i = false) (hn : ¬ needs P K V i) : OInv n P K V Wr (i + 1) (sl.set i true) := by
  have hl := h.len
  refine { len := by rw [List.length_set]; exact hl, sub := ?_, cas := ?_, base := ?_ }
  · intro j hj hs
    rw [getD_set _ _ _ (by omega)] at hs
    by_cases e : j = i
    · subst e; exact .base hi hp
    · exact h.sub j hj (by simpa [e] using hs)
  · intro j hj hjn hpj
    by_cases e : j = i
    · subst e
      exact ⟨by rw [getD_set _ _ _ (by omega)]; simp, fun h' => absurd h' hn⟩
    · obtain ⟨h1, h2⟩ := h.base j (by omega) hjn hpj
      exact ⟨by rw [getD_set _ _ _ (by omega), h1]; simp, fun hnd => (h2 hnd).mono i (by omega)⟩
  · intro j hj hs hk
    rw [getD_set _ _ _ (by omega)] at hs
    by_cases e : j = i
    · subst e; exact absurd (.inl hk) hn
    · exact (h.cas j hj (by simpa [e] using hs) hk).mono i (by omega)

theorem OInv.fin {sl : List Bool} (h : OInv n P K V Wr n sl) : (∀ k, k < n → (sl.getD k false = true ↔ Cl n P K V Wr k)) ∧ ¬ Bad n P K V Wr :=
  least sl (fun k hk hp => (h.base k hk hk hp).1) (fun j hj hs hn => by
    rcases hn with h2 | ⟨h1, h3, h4⟩
    · exact h.cas j hj hs h2
    · exact (h.base j hj hj h3).2 (.inr ⟨h1, h3, h4⟩)) h.sub

/-! ### the work list -/
structure WInv (n : Nat) (P : Nat → Bool) (K V Wr : Nat → Int) (sl : List Bool) (st : List Nat) (failed : Bool) : Prop where
  len : sl.length = n
  mem : ∀ x, x ∈ st → x < n ∧ sl.getD x false = true
  base : ∀ k, k < n → P k = false → sl.getD k false = true
  sub : ∀ j, j < n → sl.getD j false = true → Cl n P K V Wr j
  clo : ∀ j, j < n → sl.getD j false = true → j ∉ st → needs P K V j → Clv n Wr sl (V j) ∨ (Wr (V j).toNat = -1 ∧ failed = true)
  bad : failed = true → Bad n P K V Wr
  room : st.length + cf sl ≤ n

theorem WInv.fin {sl : List Bool} {failed : Bool} (h : WInv n P K V Wr sl [] failed) : (failed = true → Bad n P K V Wr) ∧ (failed = false → (∀ k, k < n → (sl.getD k false = true ↔ Cl n P K V Wr k)) ∧ ¬ Bad n P K V Wr) := by
  refine ⟨h.bad, fun hf => least sl h.base (fun j hj hs hn => ?_) h.sub⟩
  rcases h.clo j hj hs (by simp) hn with h1 | h1
  · exact h1
  · rw [hf] at h1; simp at h1

theorem WInv.idle {sl : List Bool} {st : List Nat} {x : Nat} {failed : Bool} (h : WInv n P K V Wr sl (st ++ [x]) failed) (hn : ¬ needs P K V x) : WInv n P K V Wr sl st failed := by
  have hr := h.room
  rw [List.length_append] at hr
  refine { len := h.len, mem := fun y hy => h.mem y (List.mem_append_left _ hy), base := h.base, sub := h.sub, bad := h.bad, room := by simp at hr; omega, clo := ?_ }
  intro j hj hs hm hnd
  by_cases e : j = x
  · subst e; exact absurd hnd hn
  · exact h.clo j hj hs (by simp [hm, e]) hnd

theorem WInv.lack {sl : List Bool} {st : List Nat} {x : Nat} {failed : Bool} (h : WInv n P K V Wr sl (st ++ [x]) failed) (hn : needs P K V x) (hw : Wr (V x).toNat = -1) : WInv n P K V Wr sl st true := by
  have hr := h.room
  rw [List.length_append] at hr
  obtain ⟨hx, hsx⟩ := h.mem x (by simp)
  refine { len := h.len, mem := fun y hy => h.mem y (List.mem_append_left _ hy), base := h.base, sub := h.sub, bad := fun _ => ⟨x, hx, h.sub x hx hsx, hn, hw⟩, room := by simp at hr; omega, clo := ?_ }
  intro j hj hs hm hnd
  by_cases e : j = x
  · subst e; exact .inr ⟨hw, rfl⟩
  · rcases h.clo j hj hs (by simp [hm, e]) hnd with h1 | h1
    · exact .inl h1
    · exact .inr ⟨h1.1, rfl⟩

theorem WInv.old {sl : List Bool} {st : List Nat} {x : Nat} {failed : Bool} (h : WInv n P K V Wr sl (st ++ [x]) failed) (w : Nat) (hwn : w < n) (hw : Wr (V x).toNat = (w : Int)) (hs : sl.getD w false = true) : WInv n P K V Wr sl st failed := by
  have hr := h.room
  rw [List.length_append] at hr
  refine { len := h.len, mem := fun y hy => h.mem y (List.mem_append_left _ hy), base := h.base, sub := h.sub, bad := h.bad, room := by simp at hr; omega, clo := ?_ }
  intro j hj hsj hm hnd
  by_cases e : j = x
  · subst e; exact .inl ⟨w, hwn, hw, hs⟩
  · exact h.clo j hj hsj (by simp [hm, e]) hnd

theorem WInv.new {sl : List Bool} {st : List Nat} {x : Nat} {failed : Bool} (h : WInv n P K V Wr sl (st ++ [x]) failed) (hn : needs P K V x) (w : Nat) (hwn : w < n) (hw : Wr (V x).toNat = (w : Int)) (hs : sl.getD w false = false) : WInv n P K V Wr (sl.set w true) (st ++ [w]) failed := by
  have hr := h.room
  have hl := h.len
  have hc := cf_set sl w (by omega) hs
  obtain ⟨hx, hsx⟩ := h.mem x (by simp)
  have hcw : Cl n P K V Wr w := (h.sub x hx hsx).step hx hn hw
  rw [List.length_append] at hr
  refine { len := by rw [List.length_set]; exact hl, mem := ?_, base := ?_, sub := ?_, bad := h.bad, room := by rw [List.length_append]; simp at hr ⊢; omega, clo := ?_ }
  · intro y hy
    rw [getD_set _ _ _ (by omega)]
    rcases List.mem_append.1 hy with hy | hy
    · obtain ⟨h1, h2⟩ := h.mem y (List.mem_append_left _ hy)
      exact ⟨h1, by rw [h2]; simp⟩
    · have : y = w := by simpa using hy
      subst this
      exact ⟨hwn, by simp⟩
  · intro k hk hp
    rw [getD_set _ _ _ (by omega), h.base k hk hp]; simp
  · intro j hj hsj
    rw [getD_set _ _ _ (by omega)] at hsj
    by_cases e : j = w
    · subst e; exact hcw
    · exact h.sub j hj (by simpa [e] using hsj)
  · intro j hj hsj hm hnd
    rw [getD_set _ _ _ (by omega)] at hsj
    have hne : j ≠ w := fun e => hm (by simp [e])
    have hm' : j ∉ st := fun e => hm (by simp [e])
    by_cases e : j = x
    · subst e
      exact .inl ⟨w, hwn, hw, by rw [getD_set _ _ _ (by omega)]; simp⟩
    · rcases h.clo j hj (by simpa [hne] using hsj) (by simp [hm', e]) hnd with h1 | h1
      · exact .inl (h1.mono w (by omega))
      · exact .inr h1

/-- The first loop: the responded operations below k, in the set and on the list. -/
structure SInv (n : Nat) (P : Nat → Bool) (k : Nat) (sl : List Bool) (st : List Nat) : Prop where
  len : sl.length = n
  iff : ∀ j, j < n → (sl.getD j false = true ↔ j < k ∧ P j = false)
  mem : ∀ j, j ∈ st ↔ j < n ∧ sl.getD j false = true
  room : st.length + cf sl ≤ n

theorem getD_rep (n j : Nat) : (List.replicate n false).getD j false = false := by
  rw [List.getD_eq_getElem?_getD, List.getElem?_replicate]; split <;> rfl

theorem SInv.start : SInv n P 0 (List.replicate n false) [] :=
  { len := by simp, iff := fun j _ => by rw [getD_rep]; simp, mem := fun j => by rw [getD_rep]; simp, room := by have := cf_le (List.replicate n false); simp at this ⊢; omega }

theorem SInv.skip {k : Nat} {sl : List Bool} {st : List Nat} (h : SInv n P k sl st) (hp : P k = true) : SInv n P (k + 1) sl st :=
  { len := h.len, mem := h.mem, room := h.room, iff := fun j hj => by
      rw [h.iff j hj]
      constructor
      · rintro ⟨h1, h2⟩; exact ⟨by omega, h2⟩
      · rintro ⟨h1, h2⟩
        refine ⟨?_, h2⟩
        by_cases e : j = k
        · subst e; rw [hp] at h2; simp at h2
        · omega }

theorem SInv.put {k : Nat} {sl : List Bool} {st : List Nat} (h : SInv n P k sl st) (hk : k < n) (hp : P k = false) : SInv n P (k + 1) (sl.set k true) (st ++ [k]) := by
  have hl := h.len
  have h0 : sl.getD k false = false := by
    cases e : sl.getD k false
    · rfl
    · have := (h.iff k hk).1 e; omega
  have hc := cf_set sl k (by omega) h0
  have hr := h.room
  refine { len := by rw [List.length_set]; exact hl, iff := ?_, mem := ?_, room := by rw [List.length_append]; simp; omega }
  · intro j hj
    rw [getD_set _ _ _ (by omega)]
    have hi := h.iff j hj
    by_cases e : j = k
    · subst e; simp [hp]
    · simp only [e, decide_false, Bool.false_or]
      rw [hi]
      constructor
      · rintro ⟨h1, h2⟩; exact ⟨by omega, h2⟩
      · rintro ⟨h1, h2⟩; exact ⟨by omega, h2⟩
  · intro j
    rw [getD_set _ _ _ (by omega), List.mem_append, h.mem j]
    by_cases e : j = k
    · subst e; simp [hk]
    · simp [e]

theorem SInv.fin {sl : List Bool} {st : List Nat} (h : SInv n P n sl st) : WInv n P K V Wr sl st false :=
  { len := h.len, mem := fun x hx => (h.mem x).1 hx, base := fun k hk hp => (h.iff k hk).2 ⟨hk, hp⟩, sub := fun j hj hs => .base hj ((h.iff j hj).1 hs).2, clo := fun j hj hs hm _ => absurd ((h.mem j).2 ⟨hj, hs⟩) hm, bad := fun hf => by simp at hf, room := h.room }
end
end Go.Proofs.Qxb6619224a.Pl
