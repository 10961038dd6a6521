/- The walk of FnIDStringOrderAndReadBack. -/
import Derived.Test.Qxb6617018aCmp
import Derived.Test.Qxb6617018aQuiet
namespace Go.Proofs.Qxb6617018a
open Go.RowKit Go.Lib

theorem two_blocks (w : World) (A B : Obj) : ((w.alloc A).alloc B).heap.size = w.heap.size + 2 ∧ ((w.alloc A).alloc B).heap[w.heap.size]? = some A ∧
    ((w.alloc A).alloc B).heap[w.heap.size + 1]? = some B ∧ Below w.heap.size w ((w.alloc A).alloc B) := by
  refine ⟨by simp, ?_, ?_, two_below w A B⟩
  · rw [Below.heap_alloc _ _ _ (by simp)]; exact Go.heap_alloc_new _ _
  · have := Go.heap_alloc_new (w.alloc A) B; simpa using this

/-- A whole array out of a block, at a guarded operation that is wanted. -/
theorem wpList_load_row_w {P : Program} {ops : Array Oper} {rest : List Oper} {o : Oper} {a : Act} {w : World} {Q : Exit → Act → World → Prop} (hw : Region.wanted o (yielded ops a.tmps) = true) (ty : TypeId) (x : Operand) (ho : o.op = .load ty x)
    (g : Nat) (hx : a.eval x = .pointer (some ⟨g, 0, none⟩)) (t : TypeId) (cs : Array Value) (fr : Nat × Nat) (d : TypeDesc) (hg : w.heap[g]? = some (.cells cs t fr))
    (hu : P.underlying ty = some d) (hd : (match d with | .struct _ | .array _ _ => true | _ => false) = true) (hi : (P.info? ty).map (·.size) = some cs.size)
    (h : wpList P ops Q rest (a.put o.dst (.agg cs)) w) : wpList P ops Q (o :: rest) a w :=
  wpList_step fun K hK => by rw [if_pos hw]; exact wp_load_row ty x ho g hx t cs fr d hg hu hd hi (hK _ _ h)

set_option maxHeartbeats 1000000 in
set_option maxRecDepth 100000 in
theorem order_walk (la lb : List UInt8) (hla : la.length = 20) (hlb : lb.length = 20) (w : World) :
    Calls Try.prog 3 #[.agg (arrv la), .agg (arrv lb)] w fun e w' => e = .returned (.bool true) ∧ Below w.heap.size w w' := by
  go_enter Try.func3, Try.ntmps3
  obtain ⟨W, hW⟩ : ∃ W, W = (w.alloc (.cells (arrv la) 22)).alloc (.cells (arrv lb) 22) := ⟨_, rfl⟩
  obtain ⟨hsz, hA, hB, hbel⟩ := two_blocks w (.cells (arrv la) 22) (.cells (arrv lb) 22)
  have HW : Hid _ := hW
  clear hW
  have HA : Hid _ := hA
  have HB : Hid _ := hB
  clear hA hB
  have iA := info22 la hla
  have iB := info22 lb hlb
  go_wp2_with (refine wpList_load_row rfl 22 _ rfl _ rfl 22 _ (0, 0) _ HA.out Try.underlying22 rfl iA ?_)
  refine (string_any la hla _).mono ?_
  rintro e w1 ⟨rfl, hb1⟩
  rw [← HW.out] at hb1 HA HB hsz hbel
  have hA1 := (hb1.block _ (by omega)).trans HA.out
  have hB1 := (hb1.block _ (by omega)).trans HB.out
  have hsz1 : w.heap.size + 2 ≤ w1.heap.size := by have := hb1.size; omega
  have hbel1 : Below w.heap.size w w1 := hbel.trans (hb1.mono (by omega))
  clear HA HB hbel hb1 hsz HW
  clear W
  go_wp2_with (refine wpList_load_row rfl 22 _ rfl _ rfl 22 _ (0, 0) _ hB1 Try.underlying22 rfl iB ?_)
  refine (string_any lb hlb _).mono ?_
  rintro e w2 ⟨rfl, hb2⟩
  have hA2 := (hb2.block _ (by omega)).trans hA1
  have hB2 := (hb2.block _ (by omega)).trans hB1
  have hsz2 : w.heap.size + 2 ≤ w2.heap.size := by have := hb2.size; omega
  have hbel2 : Below w.heap.size w w2 := hbel1.trans (hb2.mono (by omega))
  clear hA1 hB1 hbel1 hb2 hsz1
  clear w1
  obtain ⟨sa, hsa⟩ : ∃ s : ByteArray, s = ⟨(Hx.encode la).toArray⟩ := ⟨_, rfl⟩
  obtain ⟨sb, hsb⟩ : ∃ s : ByteArray, s = ⟨(Hx.encode lb).toArray⟩ := ⟨_, rfl⟩
  have za : sa.size = 40 := by rw [hsa]; exact enc_size la hla
  have zb : sb.size = 40 := by rw [hsb]; exact enc_size lb hlb
  rw [← hsa, ← hsb]
  have HA : Hid _ := hsa
  have HB : Hid _ := hsb
  clear hsa hsb
  go_wp2_with (refine wpList_load_row rfl 22 _ rfl _ rfl 22 _ (0, 0) _ hA2 Try.underlying22 rfl iA ?_)
  refine (readsBack_any la hla sa HA za _).mono ?_
  rintro e w3 ⟨rfl, rfl⟩
  have hA3 := (Below.heap_alloc w2 (.cells (arrv la) 22) _ (by omega)).trans hA2
  have hB3 := (Below.heap_alloc w2 (.cells (arrv la) 22) _ (by omega)).trans hB2
  have hsz3 : w.heap.size + 2 ≤ (w2.alloc (.cells (arrv la) 22)).heap.size := by simp; omega
  have hbel3 : Below w.heap.size w (w2.alloc (.cells (arrv la) 22)) := hbel2.alloc (by omega) _
  generalize w2.alloc (.cells (arrv la) 22) = w3 at *
  clear hA2 hB2 hbel2 hsz2
  clear w2
  go_wp2_with (refine wpList_load_row_w rfl 22 _ rfl _ rfl 22 _ (0, 0) _ hB3 Try.underlying22 rfl iB ?_)
  refine (readsBack_any lb hlb sb HB zb _).mono ?_
  rintro e w4 ⟨rfl, rfl⟩
  have hA4 := (Below.heap_alloc w3 (.cells (arrv lb) 22) _ (by omega)).trans hA3
  have hB4 := (Below.heap_alloc w3 (.cells (arrv lb) 22) _ (by omega)).trans hB3
  have hsz4 : w.heap.size + 2 ≤ (w3.alloc (.cells (arrv lb) 22)).heap.size := by simp; omega
  have hbel4 : Below w.heap.size w (w3.alloc (.cells (arrv lb) 22)) := hbel3.alloc (by omega) _
  generalize w3.alloc (.cells (arrv lb) 22) = w4 at *
  clear hA3 hB3 hbel3 hsz3
  clear w3
  go_wp2_with fail
  refine wp_region_quiet (C := fun w' => w'.heap[w.heap.size]? = some (.cells (arrv la) 22 (0, 0)) ∧ w'.heap[w.heap.size + 1]? = some (.cells (arrv lb) 22 (0, 0)) ∧ w.heap.size + 2 ≤ w'.heap.size ∧ Below w.heap.size w w') (by kernel_rfl) (by kernel_rfl) ⟨hA4, hB4, hsz4, hbel4.trans ⟨rfl, rfl, rfl, Nat.le_refl _, fun _ _ => rfl⟩⟩ ?_
  simp only
  refine q_value (.string sa) rfl (fun _ _ => rfl) ?_
  simp only [Act.put, List.setIfInBounds_toArray, List.set_cons_zero, List.set_cons_succ]
  refine q_value (.string sb) rfl (fun _ _ => rfl) ?_
  simp only [Act.put, List.setIfInBounds_toArray, List.set_cons_zero, List.set_cons_succ]
  refine q_call (.int .i64 (cmpl la lb)) 9 #[.string sa, .string sb] rfl (fun _ _ => by go_simp) ?_ ?_
  · rintro w' ⟨h1, h2, h3, h4⟩
    refine (cmpText_any sa sb za zb w').mono ?_
    rintro e w'' ⟨rfl, q, rfl⟩
    exact ⟨ret_int (by rw [HA.out, HB.out]; exact cmpl_encode la lb), h1, h2, h3, bdrew h4 q⟩
  simp only [Act.put, List.setIfInBounds_toArray, List.set_cons_zero, List.set_cons_succ]
  refine q_row 22 _ rfl _ rfl 22 _ (0, 0) _ rfl (fun w' h => h.1) Try.underlying22 rfl iA ?_
  simp only [Act.put, List.setIfInBounds_toArray, List.set_cons_zero, List.set_cons_succ]
  refine q_row 22 _ rfl _ rfl 22 _ (0, 0) _ rfl (fun w' h => h.2.1) Try.underlying22 rfl iB ?_
  simp only [Act.put, List.setIfInBounds_toArray, List.set_cons_zero, List.set_cons_succ]
  refine q_call (.int .i64 (cmpl la lb)) 10 #[.agg (arrv la), .agg (arrv lb)] rfl (fun _ _ => by go_simp) ?_ ?_
  · rintro w' ⟨h1, h2, h3, h4⟩
    refine (cmpID_any la lb hla hlb w').mono ?_
    rintro e w'' ⟨rfl, hb⟩
    exact ⟨rfl, (hb.block _ (by omega)).trans h1, (hb.block _ (by omega)).trans h2, Nat.le_trans h3 hb.size, h4.trans (hb.mono (by omega))⟩
  simp only [Act.put, List.setIfInBounds_toArray, List.set_cons_zero, List.set_cons_succ]
  refine q_value (.bool true) rfl (fun _ _ => by go_simp) ?_
  simp only [Act.put, List.setIfInBounds_toArray, List.set_cons_zero, List.set_cons_succ]
  refine q_value (.bool true) rfl (fun _ _ => rfl) ?_
  simp only [Act.put, List.setIfInBounds_toArray, List.set_cons_zero, List.set_cons_succ]
  refine wpQuiet_nil ?_
  rintro w' ⟨_, _, _, h4⟩
  go_wp2
  go_ret
  exact ⟨by simp, h4⟩
end Go.Proofs.Qxb6617018a
