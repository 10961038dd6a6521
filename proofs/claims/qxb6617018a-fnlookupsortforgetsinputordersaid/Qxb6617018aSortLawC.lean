/- Plain: what the two sorted lookups hold. -/
import Derived.Test.Qxb6617018aSortLawB
namespace Go.Proofs.Qxb6617018a
open _root_.Go.Proofs.Qxb6617018a.So

theorem cnt_congr {P Q : Nat → Bool} : ∀ n, (∀ x, x < n → P x = Q x) → cnt P n = cnt Q n
  | 0, _ => rfl
  | m + 1, h => by rw [cnt, cnt, cnt_congr m fun x hx => h x (by omega), h m (by omega)]

theorem ckey_small (k : Bool) (l tg : List UInt8) (hl : l.length = 20) (ht : tg.length = 20) : decide (ckey k l tg < 256 ^ 20) = !k := by
  have h := num_lt (xorl l tg)
  rw [xorl_length l tg hl ht] at h
  unfold ckey
  cases k
  · simp [h]
  · simp

theorem candv_facts (l : List UInt8) (k : Bool) (h : l.length = 20) : (candv l k).size = 21 ∧ (candv l k).all (·.oneCell') = true ∧ (Try.prog.info? 37).map (·.size) = some (candv l k).size ∧ (candv l k)[20]? = some (.bool k) := by
  have hs : (candv l k).size = 21 := by simp [candv, arrv_size, h]
  refine ⟨hs, by simp [candv, arrv, Value.oneCell'], ?_, candv_last l k h⟩
  rw [hs]
  have h : (Try.prog.info? 37).map (·.size) = some 21 := by kernel_rfl
  exact h

/-- A variable that is made and filled. -/
theorem boxed (w : World) (Z A : Array Value) (t : TypeId) : ((w.alloc (.cells Z t)).setRow w.heap.size A).heap.size = w.heap.size + 1 ∧ ((w.alloc (.cells Z t)).setRow w.heap.size A).heap[w.heap.size]? = some (.cells A t (0, 0)) ∧ RowKit.Below w.heap.size w ((w.alloc (.cells Z t)).setRow w.heap.size A) := by
  refine ⟨by simp, setRow_heap _ _ _ A t (0, 0) (Go.heap_alloc_new w _), belowSetRow ((RowKit.Below.refl _ _).alloc (Nat.le_refl _) _) (Nat.le_refl _) _⟩

/-- What the sorted lookup and the one sorted out of the reversed list hold. -/
theorem plain6 {n : Nat} {d1 d2 : Nat → Nat} {I : Nat → List UInt8} {K : Nat → Bool} {tg : List UInt8} (ht : tg.length = 20) (hI : ∀ x, x < n → (I x).length = 20)
    (p1 : Pm n d1) (s1 : Srt (fun x => ckey (K x) (I x) tg) d1 0 n) (p2 : Pm n d2) (s2 : Srt (fun x => ckey (K (n - 1 - x)) (I (n - 1 - x)) tg) d2 0 n) :
    (∀ q, q < n → K (d1 q) = K (n - 1 - d2 q) ∧ I (d1 q) = I (n - 1 - d2 q)) ∧ (∀ q, q < n → K (d1 q) = decide (cnt (fun x => !K x) n ≤ q)) ∧
    ∀ q r, q ≤ r → r < n → ckey (K (d1 q)) (I (d1 q)) tg ≤ ckey (K (d1 r)) (I (d1 r)) tg := by
  have m1 := fun q r => srt_mono s1 q r
  have m2 := fun q r => srt_mono s2 q r
  refine ⟨fun q hq => ?_, fun q hq => ?_, fun q r h hr => m1 q r h hr⟩
  · have h := srt_same (key := fun x => ckey (K x) (I x) tg) p1 p2.rev (fun a b h hb => m1 a b h hb) (fun a b h hb => m2 a b h hb) q hq
    have l1 := p1.lt q hq
    have l2 := p2.lt q hq
    exact ckey_inj _ _ _ _ tg (hI _ l1) (hI _ (by omega)) ht h
  · have h := srt_cnt (key := fun x => ckey (K x) (I x) tg) p1 (fun a b h hb => m1 a b h hb) (256 ^ 20) q hq
    have l1 := p1.lt q hq
    have h1 := ckey_small (K (d1 q)) (I (d1 q)) tg (hI _ l1) ht
    rw [cnt_congr n fun x hx => ckey_small (K x) (I x) tg (hI x hx) ht] at h
    have h2 : decide (ckey (K (d1 q)) (I (d1 q)) tg < 256 ^ 20) = decide (q < cnt (fun x => !K x) n) := decide_eq_decide.2 h
    rw [h1] at h2
    have h3 : K (d1 q) = !decide (q < cnt (fun x => !K x) n) := by rw [← h2]; simp
    rw [h3, ← decide_not]
    exact decide_eq_decide.2 (by omega)
end Go.Proofs.Qxb6617018a
