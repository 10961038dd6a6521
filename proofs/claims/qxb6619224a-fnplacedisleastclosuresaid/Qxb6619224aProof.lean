/- FnPlacedIsLeastClosure: the row. -/
import Derived.Test.Qxb6619224aRows
import Derived.Test.Qxb6619224aLaw
import Derived.ProofKit
import Derived.OpenShut
import Derived.ChangeOld
import Derived.Deep.Grids
namespace Go.Proofs.Qxb6619224a
open Go.ChangeShapes Go.WideShapes Go.ChangeAt Go.RowKit

theorem own : ownKnob Try.prog.godebug = none := by kernel_rfl
theorem laidOut : laidOutB Try.prog = true := by kernel_rfl

theorem law_any (a0 a1 a2 a3 a4 a5 a6 : Option Addr) (n0 n1 n2 n3 n4 n5 n6 c0 c1 c2 c3 c4 c5 c6 : Nat) (Z0 Z1 Z5 K V Wr : Nat → Int) (P : Nat → Bool) (w : World)
    (h0 : n0 ≤ maxLen) (h1 : n1 ≤ maxLen) (h2 : n2 ≤ maxLen) (h3 : n3 ≤ maxLen) (h4 : n4 ≤ maxLen) (h5 : n5 ≤ maxLen) (h6 : n6 ≤ maxLen)
    (s0 : Src w a0 n0 (fun j => .int .i64 (Z0 j))) (s1 : Src w a1 n1 (fun j => .int .i64 (Z1 j))) (s2 : Src w a2 n2 (fun j => .bool (P j))) (s3 : Src w a3 n3 (fun j => .int .u8 (K j))) (s4 : Src w a4 n4 (fun j => .int .i64 (V j))) (s5 : Src w a5 n5 (fun j => .int .i64 (Z5 j))) (s6 : Src w a6 n6 (fun j => .int .i64 (Wr j))) :
    Calls Try.prog 3 #[.slice a0 n0 c0, .slice a1 n1 c1, .slice a2 n2 c2, .slice a3 n3 c3, .slice a4 n4 c4, .slice a5 n5 c5, .slice a6 n6 c6] w fun e w' => e = .returned (.bool true) ∧ Below w.heap.size w w' := by
  by_cases hl : 16384 < n0 ∨ 16384 < n1 ∨ 16384 < n2 ∨ 16384 < n3 ∨ 16384 < n4 ∨ 16384 < n5 ∨ 16384 < n6
  · exact (law_long a0 a1 a2 a3 a4 a5 a6 n0 n1 n2 n3 n4 n5 n6 c0 c1 c2 c3 c4 c5 c6 w h0 h1 h2 h3 h4 h5 h6 hl).mono fun e w' ⟨e1, e2⟩ => ⟨e1, e2 ▸ Below.refl _ _⟩
  · exact law_main a0 a1 a2 a3 a4 a5 a6 n0 n1 n2 n3 n4 n5 n6 c0 c1 c2 c3 c4 c5 c6 Z0 Z1 Z5 K V Wr P w (by omega) (by omega) (by omega) (by omega) (by omega) (by omega) (by omega) s0 s1 s2 s3 s4 s5 s6

/-- A slice of integers that came in: its length, its elements. -/
theorem open_row {H : Type} {enc : TypeId × Value → H} {W : World} {t e : TypeId} {k : IntKind} {a : Option Addr} {len cap : Nat} {d : DataW H} {p : List MemPlace} (ht : Try.prog.underlying t = some (.slice e)) (he : Try.prog.underlying e = some (.int k)) (hc : Try.prog.cellsOf e = 1)
    (h : DataW.Trod enc Try.prog W 0 (fun _ => true) true t (.slice a len cap) d p) : len ≤ maxLen ∧ ∃ Z : Nat → Int, Src W a len (fun j => .int k (Z j)) := by
  obtain ⟨fuel, hf⟩ := h
  rcases open_ints ht he hc hf with ⟨hcs, _⟩ | ⟨x, l, c, zs, hcs, _, hl, hm, hz, _, hcell, _⟩
  · simp [Value.cells] at hcs
    obtain ⟨rfl, rfl, rfl⟩ := hcs
    exact ⟨Nat.zero_le _, fun _ => 0, fun j hj => by omega⟩
  · simp [Value.cells] at hcs
    obtain ⟨rfl, rfl, rfl⟩ := hcs
    refine ⟨Nat.le_trans hl hm, fun j => zs.getD j 0, fun j hj => ⟨x, rfl, hcell j ?_⟩⟩
    simp at hz
    omega

/-- A slice of bools that came in. -/
theorem open_brow {H : Type} {enc : TypeId × Value → H} {W : World} {a : Option Addr} {len cap : Nat} {d : DataW H} {p : List MemPlace}
    (h : DataW.Trod enc Try.prog W 0 (fun _ => true) true 23 (.slice a len cap) d p) : len ≤ maxLen ∧ ∃ P : Nat → Bool, Src W a len (fun j => .bool (P j)) := by
  obtain ⟨fuel, hf⟩ := h
  rcases Go.Deep.open_bools Try.underlying23 Try.underlying4 (by kernel_rfl) hf with ⟨hcs, _⟩ | ⟨x, l, c, B, hcs, _, hl, hm, _, hcell⟩
  · simp [Value.cells] at hcs
    obtain ⟨rfl, rfl, rfl⟩ := hcs
    exact ⟨Nat.zero_le _, fun _ => false, fun j hj => by omega⟩
  · simp [Value.cells] at hcs
    obtain ⟨rfl, rfl, rfl⟩ := hcs
    exact ⟨Nat.le_trans hl hm, B, fun j hj => ⟨x, rfl, hcell j (by omega)⟩⟩

set_option maxRecDepth 100000 in
theorem law_lifted (os : Os) (started : os.Started) (H : Type) (enc : TypeId × Value → H) :
    ReturnsInHanded {} Try.checked os 3 .any (Rows.fnPlacedIsLeastClosureSpec.pre6 enc Try.prog Try.f3 Rows.fnPlacedIsLeastClosureRow.domain false) (Rows.fnPlacedIsLeastClosureSpec.post enc Try.prog Try.f3 false true false false) := by
  refine returnsInHanded_of_change (C := Try.checked) own started (by kernel_rfl) Try.func3
    (ChangeSpec.witness6 (enc := enc) (C := Try.checked) false ⟨#[], #[.slice none 0 0, .slice none 0 0, .slice none 0 0, .slice none 0 0, .slice none 0 0, .slice none 0 0, .slice none 0 0], []⟩ 8 (by kernel_rfl) (by kernel_rfl) (by kernel_rfl) (by kernel_rfl)) ?_
  intro W base args ds gs before hval0 hW hcnd _
  have hval : ∀ (j : Nat) t v, Try.f3.params[j]? = some t → args[j]? = some v → Value.okWide Try.prog W .any base t v := hval0
  have hW' := hW
  obtain ⟨p, q, hA0, hV, rfl, hfz, hnd⟩ := hW
  have hA : DataW.TrodAll enc Try.prog W 0 (fun _ => true) true Try.f3.params.toList args.toList ds p := hA0
  rw [Try.params3] at hA hval
  obtain ⟨v0, vs0, d0, ds0, p0, q0, hargs, rfl, rfl, h0, r0⟩ := trodAll_cons hA
  obtain ⟨v1, vs1, d1, ds1, p1, q1, rfl, rfl, rfl, h1, r1⟩ := trodAll_cons r0
  obtain ⟨v2, vs2, d2, ds2, p2, q2, rfl, rfl, rfl, h2, r2⟩ := trodAll_cons r1
  obtain ⟨v3, vs3, d3, ds3, p3, q3, rfl, rfl, rfl, h3, r3⟩ := trodAll_cons r2
  obtain ⟨v4, vs4, d4, ds4, p4, q4, rfl, rfl, rfl, h4, r4⟩ := trodAll_cons r3
  obtain ⟨v5, vs5, d5, ds5, p5, q5, rfl, rfl, rfl, h5, r5⟩ := trodAll_cons r4
  obtain ⟨v6, vs6, d6, ds6, p6, q6, rfl, rfl, rfl, h6, r6⟩ := trodAll_cons r5
  obtain ⟨rfl, rfl, rfl⟩ := trodAll_nil r6
  obtain rfl : args = #[v0, v1, v2, v3, v4, v5, v6] := by cases args; simp_all
  obtain ⟨rfl, rfl⟩ := trodVars_none hV
  obtain ⟨a0, len0, cap0, rfl⟩ := okWide_slice Try.underlying22 (hval 0 22 v0 rfl rfl)
  have lt0 : ∀ x ∈ p0, x.block < W.heap.size := by obtain ⟨m, hm⟩ := h0; exact DataW.trod_lt m _ _ _ hm
  obtain ⟨l0, Z0, s0⟩ := open_row Try.underlying22 Try.underlying2 (by kernel_rfl) h0
  obtain ⟨a1, len1, cap1, rfl⟩ := okWide_slice Try.underlying22 (hval 1 22 v1 rfl rfl)
  have lt1 : ∀ x ∈ p1, x.block < W.heap.size := by obtain ⟨m, hm⟩ := h1; exact DataW.trod_lt m _ _ _ hm
  obtain ⟨l1, Z1, s1⟩ := open_row Try.underlying22 Try.underlying2 (by kernel_rfl) h1
  obtain ⟨a2, len2, cap2, rfl⟩ := okWide_slice Try.underlying23 (hval 2 23 v2 rfl rfl)
  have lt2 : ∀ x ∈ p2, x.block < W.heap.size := by obtain ⟨m, hm⟩ := h2; exact DataW.trod_lt m _ _ _ hm
  obtain ⟨l2, Z2, s2⟩ := open_brow h2
  obtain ⟨a3, len3, cap3, rfl⟩ := okWide_slice Try.underlying24 (hval 3 24 v3 rfl rfl)
  have lt3 : ∀ x ∈ p3, x.block < W.heap.size := by obtain ⟨m, hm⟩ := h3; exact DataW.trod_lt m _ _ _ hm
  obtain ⟨l3, Z3, s3⟩ := open_row Try.underlying24 Try.underlying5 (by kernel_rfl) h3
  obtain ⟨a4, len4, cap4, rfl⟩ := okWide_slice Try.underlying25 (hval 4 25 v4 rfl rfl)
  have lt4 : ∀ x ∈ p4, x.block < W.heap.size := by obtain ⟨m, hm⟩ := h4; exact DataW.trod_lt m _ _ _ hm
  obtain ⟨l4, Z4, s4⟩ := open_row Try.underlying25 Try.underlying3 (by kernel_rfl) h4
  obtain ⟨a5, len5, cap5, rfl⟩ := okWide_slice Try.underlying25 (hval 5 25 v5 rfl rfl)
  have lt5 : ∀ x ∈ p5, x.block < W.heap.size := by obtain ⟨m, hm⟩ := h5; exact DataW.trod_lt m _ _ _ hm
  obtain ⟨l5, Z5, s5⟩ := open_row Try.underlying25 Try.underlying3 (by kernel_rfl) h5
  obtain ⟨a6, len6, cap6, rfl⟩ := okWide_slice Try.underlying25 (hval 6 25 v6 rfl rfl)
  have lt6 : ∀ x ∈ p6, x.block < W.heap.size := by obtain ⟨m, hm⟩ := h6; exact DataW.trod_lt m _ _ _ hm
  obtain ⟨l6, Z6, s6⟩ := open_row Try.underlying25 Try.underlying3 (by kernel_rfl) h6
  clear hA0 hval0
  refine (law_any a0 a1 a2 a3 a4 a5 a6 len0 len1 len2 len3 len4 len5 len6 cap0 cap1 cap2 cap3 cap4 cap5 cap6 Z0 Z1 Z5 Z3 Z4 Z6 Z2 W l0 l1 l2 l3 l4 l5 l6 s0 s1 s2 s3 s4 s5 s6).mono fun e W' ⟨he, bel⟩ => ?_
  subst he
  exact ⟨_, rfl, _, _, _, [], _, [], hW', trodAll_mk1 (shut_bool Try.underlying4 _), (trodAll_cons_mk (Below.trod laidOut (by kernel_rfl) (of_decide_eq_true (by kernel_rfl)) h0 bel lt0) (trodAll_cons_mk (Below.trod laidOut (by kernel_rfl) (of_decide_eq_true (by kernel_rfl)) h1 bel lt1) (trodAll_cons_mk (Below.trod laidOut (by kernel_rfl) (of_decide_eq_true (by kernel_rfl)) h2 bel lt2) (trodAll_cons_mk (Below.trod laidOut (by kernel_rfl) (of_decide_eq_true (by kernel_rfl)) h3 bel lt3) (trodAll_cons_mk (Below.trod laidOut (by kernel_rfl) (of_decide_eq_true (by kernel_rfl)) h4 bel lt4) (trodAll_cons_mk (Below.trod laidOut (by kernel_rfl) (of_decide_eq_true (by kernel_rfl)) h5 bel lt5) (trodAll_cons_mk (Below.trod laidOut (by kernel_rfl) (of_decide_eq_true (by kernel_rfl)) h6 bel lt6) trodAll_mk0))))))), rfl, bel.frame _, fun h => by cases h⟩

theorem law_holds : Rows.FnPlacedIsLeastClosureSaid :=
  OpenClaim.holds_of_wide 3 Try.f3 rfl rfl rfl rfl rfl rfl rfl ⟨rfl, rfl, rfl, rfl, rfl⟩ rfl rfl rfl rfl rfl (by kernel_rfl) Try.func3 (by kernel_rfl)
    (of_decide_eq_true (by kernel_rfl)) (by unfold Func.isWrapper; first | (rw [if_pos (by decide +kernel)]; kernel_rfl) | (rw [if_neg (by decide +kernel)]; exact ⟨rfl, rfl⟩))
    (fun os started H enc _ => law_lifted os started H enc)
#print axioms law_holds
end Go.Proofs.Qxb6619224a
