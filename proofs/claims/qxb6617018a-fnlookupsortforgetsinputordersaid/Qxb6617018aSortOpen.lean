/- A []Cand argument, opened. -/
import Derived.Test.Qxb6617018aOpen
import Derived.Test.Qxb6617018aSortLawA
import Derived.Deep.Slices
namespace Go.Proofs.Qxb6617018a
open Go.ChangeShapes Go.WideShapes Go.ChangeAt Go.RowKit

theorem cells37 : Try.prog.cellsOf 37 = 21 := by kernel_rfl
theorem cells4 : Try.prog.cellsOf 4 = 1 := by kernel_rfl

/-- Twenty-one cells that read as a Cand. -/
theorem open_cand {H : Type} {enc : TypeId × Value → H} {W : World} {base : Nat} {spare : Nat → Bool} {held : Bool} {fuel : Nat} {cs : List Value} {x : DataW H × List MemPlace}
    (h : DataW.trod enc Try.prog W base spare held fuel 37 cs = some x) : ∃ (l : List UInt8) (k : Bool), l.length = 20 ∧ cs = (candv l k).toList := by
  obtain ⟨xs, m, _, _, hlen, hn, hel⟩ := DataW.trod_struct Try.underlying37 h
  rw [cells37] at hlen
  have hn2 : xs.length = 2 := hn
  have h0 : DataW.trod enc Try.prog W base spare held m 22 ((cs.drop 0).take (Try.prog.cellsOf 22)) = xs[0]? := hel 0 _ rfl
  have h1 : DataW.trod enc Try.prog W base spare held m 4 ((cs.drop 20).take (Try.prog.cellsOf 4)) = xs[1]? := hel 1 _ rfl
  rw [List.getElem?_eq_getElem (by omega)] at h0 h1
  rw [cells22] at h0
  rw [cells4] at h1
  obtain ⟨l, hl, e0⟩ := open_cells h0
  obtain ⟨k, e1, _⟩ := DataW.trod_bool Try.underlying4 h1
  refine ⟨l, k, hl, ?_⟩
  have e2 : cs = cs.take 20 ++ (cs.drop 20).take 1 := by
    rw [List.take_of_length_le (l := cs.drop 20) (by simp; omega), List.take_append_drop]
  rw [List.drop_zero] at e0
  rw [e2, e0, e1]
  simp [candv, arrv]

/-- A []Cand that came in. -/
theorem open_cands {H : Type} {enc : TypeId × Value → H} {W : World} {a : Option Addr} {len cap : Nat} {d : DataW H} {p : List MemPlace}
    (h : DataW.Trod enc Try.prog W 0 (fun _ => true) true 31 (.slice a len cap) d p) : len ≤ maxLen ∧ ∃ (g o : Nat) (I : Nat → List UInt8) (K : Nat → Bool), In W a len g o I K := by
  obtain ⟨fuel, hf⟩ := h
  rcases Go.Deep.open_slice Try.underlying31 hf with ⟨hcs, _⟩ | ⟨x, l, c, m, n, D, Pl, hcs, _, hl, hm, hmm, _, hel⟩
  · simp [Value.cells] at hcs
    obtain ⟨rfl, rfl, rfl⟩ := hcs
    exact ⟨Nat.zero_le _, 0, 0, fun _ => [], fun _ => false, ⟨fun q => absurd q (by omega), fun i hi => absurd hi (by omega), fun i hi => absurd hi (by omega)⟩⟩
  · simp [Value.cells] at hcs
    obtain ⟨rfl, rfl, rfl⟩ := hcs
    have hlm : len ≤ m := by rw [hmm]; simp only [if_true]; exact hl
    have hex : ∀ i, i < len → ∃ y : List UInt8 × Bool, y.1.length = 20 ∧ ∀ j u, (candv y.1 y.2).toList[j]? = some u → W.cell? (x.add (i * 21 + j)) = some u := by
      intro i hi
      obtain ⟨cs', h1, h2⟩ := hel i (by omega)
      rw [cells37] at h1
      obtain ⟨y, k, hy, rfl⟩ := open_cand h2
      obtain ⟨_, hcl, hc⟩ := World.cells?_some h1
      refine ⟨(y, k), hy, fun j u hj => ?_⟩
      have hjl : j < 21 := by
        rcases Nat.lt_or_ge j 21 with q | q
        · exact q
        · rw [List.getElem?_eq_none (by show (candv y k).toList.length ≤ j; omega)] at hj; cases hj
      have := hc j hjl
      rw [Go.Deep.add_add] at this
      rw [this]; exact hj
    obtain ⟨F, hF⟩ := Go.Deep.choose_lt (α := List UInt8 × Bool) hex
    refine ⟨Nat.le_trans hl hm, x.block, x.off, fun i => (F i).1, fun i => (F i).2, ?_⟩
    have hsp : 0 < len → x = ⟨x.block, x.off, none⟩ := fun q => by
      obtain ⟨hy, h1⟩ := hF 0 q
      have h20 : (candv (F 0).1 (F 0).2).toList[0]? = some ((candv (F 0).1 (F 0).2).toList[0]'(by simp [candv, arrv_size, hy])) := List.getElem?_eq_getElem _
      have h2 := h1 0 _ h20
      have h3 : x.add (0 * 21 + 0) = x := by simp [Addr.add]
      rw [h3] at h2
      obtain ⟨b, f, sp⟩ := x
      cases sp with
      | none => rfl
      | some z =>
        exfalso
        unfold World.cell? at h2
        split at h2
        · simp at h2
        · simp at h2
    refine ⟨fun q => by rw [← hsp q], fun i hi j u hj => ?_, fun i hi => (hF i hi).1⟩
    have h1 := (hF i hi).2 j u hj
    have hx := hsp (by omega)
    have : x.add (i * 21 + j) = ⟨x.block, x.off + i * 21 + j, none⟩ := by
      rw [hx]; unfold Addr.add
      by_cases q : i * 21 + j = 0
      · rw [if_pos q]; simp; omega
      · rw [if_neg q]; simp
    rw [this] at h1
    exact h1
end Go.Proofs.Qxb6617018a
