/- The walk of the closure that (*lookup).sort hands to the sort. -/
import Derived.Test.Qxb6617018aSortCmp
import Derived.Deep.MidRow
namespace Go.Proofs.Qxb6617018a
open Go.RowKit Go.Lib

section
variable {P : Program} {ops : Array Oper} {C : World → Prop} {Q : Act → Prop} {a : Act} {o : Oper} {rest : List Oper}
/-- A whole array out of the middle of a block. -/
theorem q_mid (ty : TypeId) (x : Operand) (ho : o.op = .load ty x) (g off : Nat) (hx : a.eval x = .pointer (some ⟨g, off, none⟩)) (cs : List Value) (d : TypeDesc)
    (hw : Region.wanted o (yielded ops a.tmps) = true) (hg : ∀ w, C w → w.rangeAt g off cs) (hu : P.underlying ty = some d)
    (hd : d.isRow = true) (hi : (P.info? ty).map (·.size) = some cs.length)
    (h : wpQuiet P ops C Q rest (a.put o.dst (.agg cs.toArray))) : wpQuiet P ops C Q (o :: rest) a :=
  q_value (.agg cs.toArray) hw (fun w hC => by
    unfold execOp
    simp only [ho, hx, run_loadAt_mid w g off ty cs d (hg w hC) hu hd hi, Sem.run_bind, Sem.run_pure, Result.andThen_ok]) h
end

theorem range_grown {w w' : World} {b o : Nat} {cs : List Value} {r : Option Nat} (h : w.rangeAt b o cs) (k : w.grownBy w' r) (hb : some b ≠ r) : w'.rangeAt b o cs := fun j v hv => k.cell (h j v hv) hb
theorem range_below {w w' : World} {b o : Nat} {cs : List Value} (h : w.rangeAt b o cs) (k : Below w.heap.size w w') : w'.rangeAt b o cs := fun j v hv => by
  rw [k.cell (World.block_lt_of_cell? w _ (h j v hv))]; exact h j v hv

set_option maxHeartbeats 1000000 in
set_option maxRecDepth 100000 in
theorem less_any (w : World) (pl bl blk n c b1 b2 i j : Nat) (tg A B : List UInt8) (k1 k2 : Bool) (hi : i < n) (hj : j < n) (_hn : n < 1099511627776) (hA : A.length = 20) (hB : B.length = 20) (ht : tg.length = 20)
    (e1 : w.cell? ⟨pl, 0, none⟩ = some (.pointer (some ⟨bl, 0, none⟩))) (e2 : w.cell? ⟨bl, 21, none⟩ = some (.slice (some ⟨blk, 0, none⟩) n c)) (e3 : Hid (w.rangeAt bl 1 (arrv tg).toList))
    (r1 : w.cell? ⟨blk, i, none⟩ = some (.pointer (some ⟨b1, 0, none⟩))) (r2 : w.cell? ⟨blk, j, none⟩ = some (.pointer (some ⟨b2, 0, none⟩)))
    (s1 : Hid (w.rangeAt b1 0 (arrv A).toList)) (s2 : Hid (w.rangeAt b2 0 (arrv B).toList)) (t1 : w.cell? ⟨b1, 24, none⟩ = some (.bool k1)) (t2 : w.cell? ⟨b2, 24, none⟩ = some (.bool k2)) :
    Calls Try.prog 29 #[.int .i64 i, .int .i64 j, .pointer (some ⟨pl, 0, none⟩)] w fun e w' => e = .returned (.bool (if k1 = k2 then decide (cmpl (xorl A tg) (xorl B tg) = -1) else !k1)) ∧ Below w.heap.size w w' := by
  go_enter Try.func29, Try.ntmps29
  go_wp2_with fail
  go_quiet (fail)
  go_wp2_with fail
  go_quiet (fail)
  by_cases hk : k1 = k2
  · subst hk
    have q1 : (!k1 == k1) = false := by cases k1 <;> rfl
    rw [q1]
    clear q1
    go_wp2_with fail
    have lp := World.block_lt_of_cell? w _ e1
    have iA : (Try.prog.info? 23).map (·.size) = some (arrv A).toList.length := by rw [Array.length_toList, arrv_size, hA]; kernel_rfl
    have iB : (Try.prog.info? 23).map (·.size) = some (arrv B).toList.length := by rw [Array.length_toList, arrv_size, hB]; kernel_rfl
    have it : (Try.prog.info? 23).map (·.size) = some (arrv tg).toList.length := by rw [Array.length_toList, arrv_size, ht]; kernel_rfl
    refine wp_region_quiet (C := fun w' => Below w.heap.size w w') (by kernel_rfl) (by kernel_rfl) ⟨rfl, rfl, rfl, Nat.le_refl _, fun _ _ => rfl⟩ ?_
    simp only
    refine q_value (.pointer (some ⟨b1, 0, none⟩)) rfl (fun w' h => rfl) ?_
    simp only [Act.put, List.setIfInBounds_toArray, List.set_cons_zero, List.set_cons_succ]
    refine q_value (.pointer (some ⟨b1, 0, none⟩)) rfl (fun w' h => by go_simp) ?_
    simp only [Act.put, List.setIfInBounds_toArray, List.set_cons_zero, List.set_cons_succ]
    refine q_value (.pointer (some ⟨b1, 0, none⟩)) rfl (fun w' h => by go_simp) ?_
    simp only [Act.put, List.setIfInBounds_toArray, List.set_cons_zero, List.set_cons_succ]
    refine q_value (.pointer (some ⟨b1, 0, none⟩)) rfl (fun w' h => by go_simp) ?_
    simp only [Act.put, List.setIfInBounds_toArray, List.set_cons_zero, List.set_cons_succ]
    refine q_mid 23 _ rfl b1 0 rfl (arrv A).toList _ rfl (fun w' h => range_below s1.out h) Try.underlying23 rfl iA ?_
    simp only [Act.put, List.setIfInBounds_toArray, List.set_cons_zero, List.set_cons_succ]
    refine q_value (.pointer (some ⟨bl, 0, none⟩)) rfl (fun w' h => by have e := (h.cell (p := ⟨pl, 0, none⟩) lp).trans e1; go_simp) ?_
    simp only [Act.put, List.setIfInBounds_toArray, List.set_cons_zero, List.set_cons_succ]
    refine q_value (.pointer (some ⟨bl, 0, none⟩)) rfl (fun w' h => by go_simp) ?_
    simp only [Act.put, List.setIfInBounds_toArray, List.set_cons_zero, List.set_cons_succ]
    refine q_value (.pointer (some ⟨bl, 1, none⟩)) rfl (fun w' h => by go_simp) ?_
    simp only [Act.put, List.setIfInBounds_toArray, List.set_cons_zero, List.set_cons_succ]
    refine q_mid 23 _ rfl bl 1 rfl (arrv tg).toList _ rfl (fun w' h => range_below e3.out h) Try.underlying23 rfl it ?_
    simp only [Act.put, List.setIfInBounds_toArray, List.set_cons_zero, List.set_cons_succ]
    simp only [Array.toArray_toList]
    refine q_call (.agg (arrv (xorl A tg))) 30 #[.agg (arrv A), .agg (arrv tg)] rfl (fun _ _ => by go_simp) ?_ ?_
    · intro w' h
      refine (distance_any A tg hA ht w').mono ?_
      rintro e w'' ⟨rfl, hb⟩
      exact ⟨rfl, h.trans (hb.mono h.size)⟩
    simp only [Act.put, List.setIfInBounds_toArray, List.set_cons_zero, List.set_cons_succ]
    refine q_value (.pointer (some ⟨b2, 0, none⟩)) rfl (fun w' h => rfl) ?_
    simp only [Act.put, List.setIfInBounds_toArray, List.set_cons_zero, List.set_cons_succ]
    refine q_value (.pointer (some ⟨b2, 0, none⟩)) rfl (fun w' h => by go_simp) ?_
    simp only [Act.put, List.setIfInBounds_toArray, List.set_cons_zero, List.set_cons_succ]
    refine q_value (.pointer (some ⟨b2, 0, none⟩)) rfl (fun w' h => by go_simp) ?_
    simp only [Act.put, List.setIfInBounds_toArray, List.set_cons_zero, List.set_cons_succ]
    refine q_value (.pointer (some ⟨b2, 0, none⟩)) rfl (fun w' h => by go_simp) ?_
    simp only [Act.put, List.setIfInBounds_toArray, List.set_cons_zero, List.set_cons_succ]
    refine q_mid 23 _ rfl b2 0 rfl (arrv B).toList _ rfl (fun w' h => range_below s2.out h) Try.underlying23 rfl iB ?_
    simp only [Act.put, List.setIfInBounds_toArray, List.set_cons_zero, List.set_cons_succ]
    refine q_value (.pointer (some ⟨bl, 0, none⟩)) rfl (fun w' h => by have e := (h.cell (p := ⟨pl, 0, none⟩) lp).trans e1; go_simp) ?_
    simp only [Act.put, List.setIfInBounds_toArray, List.set_cons_zero, List.set_cons_succ]
    refine q_value (.pointer (some ⟨bl, 0, none⟩)) rfl (fun w' h => by go_simp) ?_
    simp only [Act.put, List.setIfInBounds_toArray, List.set_cons_zero, List.set_cons_succ]
    refine q_value (.pointer (some ⟨bl, 1, none⟩)) rfl (fun w' h => by go_simp) ?_
    simp only [Act.put, List.setIfInBounds_toArray, List.set_cons_zero, List.set_cons_succ]
    refine q_mid 23 _ rfl bl 1 rfl (arrv tg).toList _ rfl (fun w' h => range_below e3.out h) Try.underlying23 rfl it ?_
    simp only [Act.put, List.setIfInBounds_toArray, List.set_cons_zero, List.set_cons_succ]
    simp only [Array.toArray_toList]
    refine q_call (.agg (arrv (xorl B tg))) 30 #[.agg (arrv B), .agg (arrv tg)] rfl (fun _ _ => by go_simp) ?_ ?_
    · intro w' h
      refine (distance_any B tg hB ht w').mono ?_
      rintro e w'' ⟨rfl, hb⟩
      exact ⟨rfl, h.trans (hb.mono h.size)⟩
    simp only [Act.put, List.setIfInBounds_toArray, List.set_cons_zero, List.set_cons_succ]
    refine q_call (.int .i64 (cmpl (xorl A tg) (xorl B tg))) 31 #[.agg (arrv (xorl A tg)), .agg (arrv (xorl B tg))] rfl (fun _ _ => by go_simp) ?_ ?_
    · intro w' h
      refine (cmp_any _ _ (xorl_length A tg hA ht) (xorl_length B tg hB ht) w').mono ?_
      rintro e w'' ⟨rfl, hb⟩
      exact ⟨rfl, h.trans (hb.mono h.size)⟩
    simp only [Act.put, List.setIfInBounds_toArray, List.set_cons_zero, List.set_cons_succ]
    refine q_value (.bool (decide (cmpl (xorl A tg) (xorl B tg) < 0))) rfl (fun w' h => by go_simp) ?_
    simp only [Act.put, List.setIfInBounds_toArray, List.set_cons_zero, List.set_cons_succ]
    refine q_value (.bool (decide (cmpl (xorl A tg) (xorl B tg) < 0))) rfl (fun w' h => rfl) ?_
    simp only [Act.put, List.setIfInBounds_toArray, List.set_cons_zero, List.set_cons_succ]
    refine wpQuiet_nil ?_
    intro w' h
    go_wp2
    go_ret
    have hr := cmpl_range (xorl A tg) (xorl B tg)
    have he : decide (cmpl (xorl A tg) (xorl B tg) < 0) = decide (cmpl (xorl A tg) (xorl B tg) = -1) := by rw [decide_eq_decide]; omega
    exact ⟨congrArg (fun b => Ending.returned (.bool b)) he, h⟩
  · have q1 : (!k1 == k2) = true := by cases k1 <;> cases k2 <;> simp_all
    rw [q1]
    clear q1
    go_wp2_with fail
    go_ret
    exact ⟨rfl, ⟨rfl, rfl, rfl, Nat.le_refl _, fun _ _ => rfl⟩⟩
end Go.Proofs.Qxb6617018a
