/- The walk of FnLookupSortForgetsInputOrder. -/
import Derived.Test.Qxb6617018aSortLawC
namespace Go.Proofs.Qxb6617018a
open Go.RowKit

set_option maxHeartbeats 4000000 in
set_option maxRecDepth 100000 in
theorem law6_any (w : World) (tg : List UInt8) (ht : tg.length = 20) (p : Option Addr) (n c g o : Nat) (I : Nat → List UInt8) (K : Nat → Bool) (hin : Hid (In w p n g o I K)) (hn : n < 9223372036854775808) :
    Calls Try.prog 6 #[.agg (arrv tg), .slice p n c] w fun e w' => e = .returned (.bool true) ∧ Below w.heap.size w w' := by
  have iT := info22 tg ht
  have hT0 : (w.alloc (.cells (arrv tg) 22)).heap[w.heap.size]? = some (.cells (arrv tg) 22 (0, 0)) := Go.heap_alloc_new w _
  have hIn0 : Hid (In (w.alloc (.cells (arrv tg) 22)) p n g o I K) := hin.out.grown _
  have hb0 : Hid (Below w.heap.size w (w.alloc (.cells (arrv tg) 22))) := (Below.refl _ _).alloc (Nat.le_refl _) _
  have hgl : Hid (0 < n → g < w.heap.size) := fun h => hin.out.block_lt h
  have hs0 : (w.alloc (.cells (arrv tg) 22)).heap.size = w.heap.size + 1 := by simp
  go_enter Try.func6, Try.ntmps6
  go_wp2_with (refine wpList_load_row rfl 22 _ rfl _ rfl 22 _ (0, 0) _ hT0 Try.underlying22 rfl iT ?_)
  refine (bytes21_any tg p n c hn _).mono ?_
  rintro e w1 ⟨⟨r, rfl⟩, hw1⟩
  have hT1 : w1.heap[w.heap.size]? = some (.cells (arrv tg) 22 (0, 0)) := (hw1.block _ (by omega)).trans hT0
  have hB1 : Hid (Below (w.heap.size + 1) (w.alloc (.cells (arrv tg) 22)) w1) := hw1.mono (by omega)
  have hs1 : w.heap.size + 1 ≤ w1.heap.size := by have := hw1.size; omega
  clear hw1 hT0
  cases r
  · go_wp2_with fail
    go_ret
    exact ⟨rfl, hb0.out.trans (hB1.out.mono (by omega))⟩
  by_cases hl : n ≤ 4096
  rotate_left
  · have b1 : decide ((4096 : Int) < (n : Int)) = true := by simp; omega
    go_wp2_with fail
    go_ret
    exact ⟨rfl, hb0.out.trans (hB1.out.mono (by omega))⟩
  have b1 : decide ((4096 : Int) < (n : Int)) = false := by simp; omega
  have oD : (arrv tg).size = 20 := by rw [arrv_size, ht]
  have aD : (arrv tg).all (·.oneCell') = true := by simp [arrv, Value.oneCell']
  have iD : (Try.prog.info? 23).map (·.size) = some (arrv tg).size := by rw [oD]; kernel_rfl
  have hT1a : (w1.alloc (.cells (arrv (List.replicate 20 0)) 23)).heap[w1.heap.size]? = some (.cells (arrv (List.replicate 20 0)) 23 (0, 0)) := Go.heap_alloc_new w1 _
  have hR1 := setRow_heap _ _ _ (arrv tg) 23 (0, 0) hT1a
  go_wp2_with (first | refine wpList_load_row rfl 22 _ rfl _ rfl 22 _ (0, 0) _ hT1 Try.underlying22 rfl iT ?_ | refine wpList_load_row rfl 23 _ rfl _ rfl 23 _ (0, 0) _ hR1 Try.underlying23 rfl iD ?_ | refine wpList_store_row rfl 23 _ _ rfl _ (arrv tg) rfl rfl 23 _ hT1a iD (by rw [oD]; rfl) aD ?_)
  obtain ⟨w2, hw2⟩ : ∃ w2, w2 = (w1.alloc (.cells (arrv (List.replicate 20 0)) 23)).setRow w1.heap.size (arrv tg) := ⟨_, rfl⟩
  have hs2 : w2.heap.size = w1.heap.size + 1 := by rw [hw2]; simp
  have hB2 : Hid (Below (w.heap.size + 1) (w.alloc (.cells (arrv tg) 22)) w2) := by
    rw [hw2]; exact belowSetRow (hB1.out.alloc hs1 _) hs1 _
  refine (new13_any ((w1.alloc (.cells (arrv (List.replicate 20 0)) 23)).setRow w1.heap.size (arrv tg)) tg ht (fun _ => 0) I K (fun x => (x : Int)) (fun x => x) 0).mono ?_
  rintro e w3 ⟨bl1, rfl, hbl1, hlk1, hw3⟩
  rw [← hw2] at hbl1 hw3 hR1
  have hR3 := (hw3.block _ (by omega)).trans hR1
  have hs3 := hw3.size
  have hl1 := hlk1.block_lt
  have HK1 : Hid _ := hlk1
  have HW3 : Hid _ := hw3
  clear hw2 hT1a hR1 hT1 hw3 hlk1
  go_wp2_with (refine wpList_load_row rfl 23 _ rfl _ rfl 23 _ (0, 0) _ hR3 Try.underlying23 rfl iD ?_)
  refine (new13_any w3 tg ht (fun _ => 0) (fun x => I (n - 1 - x)) (fun x => K (n - 1 - x)) (fun x => ((n - 1 - x : Nat) : Int)) (fun x => x) 0).mono ?_
  rintro e w4 ⟨bl2, rfl, hbl2, hlk2, hw4⟩
  have hTwo : Hid (Two w4 w2.heap.size tg bl1 (.slice none 0 0) 0 (fun _ => 0) I K (fun x => (x : Int)) bl2 (.slice none 0 0) 0 (fun _ => 0) (fun x => I (n - 1 - x)) (fun x => K (n - 1 - x)) (fun x => ((n - 1 - x : Nat) : Int))) :=
    Two.start (Lb.start (HK1.out.belowL hw4) hbl1) (Lb.start hlk2 (by omega)) (by omega)
  have hB4 : Hid (Below w2.heap.size w2 w4) := HW3.out.trans (hw4.mono hs3)
  have hs4 : w2.heap.size ≤ w4.heap.size := by have := hw4.size; omega
  have hs5 : w.heap.size + 1 ≤ w2.heap.size := by omega
  clear HK1 HW3 hw4 hlk2 hR3 hs3 hl1 hbl1 hbl2 iD oD aD
  clear w3
  have hbase : Hid (∀ w', Below w2.heap.size w2 w' → Below (w.heap.size + 1) (w.alloc (.cells (arrv tg) 22)) w') := fun w' h => hB2.out.trans (h.mono hs5)
  have HTs : Hid (∀ w', Below w2.heap.size w2 w' → w'.heap[w.heap.size]? = some (.cells (arrv tg) 22 (0, 0))) := fun w' h => ((hbase.out w' h).block _ (by omega)).trans (Go.heap_alloc_new w _)
  have HSt : Hid (∀ w', Below w2.heap.size w2 w' → In w' p n g o I K) := fun w' h => hIn0.out.later (hbase.out w' h) (fun q => by have := hgl.out q; omega)
  have HFin : Hid (∀ w', Below w2.heap.size w2 w' → Below w.heap.size w w') := fun w' h => hb0.out.trans ((hbase.out w' h).mono (by omega))
  clear hB2 hbase hIn0 hb0 hgl hB1
  go_wp2_with fail
  go_loopw [9, 10] (fun vi _ wr => ∃ (i : Nat) (v1 : Value) (bs1 : Nat → Nat) (v2 : Value) (bs2 : Nat → Nat), i ≤ n ∧ vi = .int .i64 i ∧ Hid (Two wr w2.heap.size tg bl1 v1 i bs1 I K (fun x => (x : Int)) bl2 v2 i bs2 (fun x => I (n - 1 - x)) (fun x => K (n - 1 - x)) (fun x => ((n - 1 - x : Nat) : Int))) ∧ Hid (Below w2.heap.size w2 wr) ∧ w2.heap.size ≤ wr.heap.size) (fun vi _ _ => n - (RowKit.intOf vi).toNat)
  case atStart => exact ⟨0, _, _, _, _, Nat.zero_le _, rfl, hTwo, hB4, hs4⟩
  case round =>
    obtain ⟨i, v1, bs1, v2, bs2, hi, rfl, hT, hB, hs⟩ := hrel
    rename World => wr
    by_cases hlt : i < n
    · have b2 : decide ((i : Int) < (n : Int)) = true := by simp; omega
      obtain rfl := hin.out.hp (by omega)
      obtain ⟨m1, hm1⟩ : ∃ m1 : Nat, (n : Int) - 1 = (m1 : Int) := ⟨n - 1, by omega⟩
      obtain ⟨j, hj⟩ : ∃ j : Nat, (m1 : Int) - (i : Int) = (j : Int) := ⟨n - 1 - i, by omega⟩
      have hjn : j < n := by omega
      have hji : n - 1 - i = j := by omega
      have HJI : Hid _ := hji
      clear hji
      go_wp2_with fail
      have HL1 : Hid (Lb wr.drew w2.heap.size bl1 v1 i tg bs1 I K (fun x => (x : Int))) := hT.out.a.drew
      have iIi := info22l (I i) (hin.out.ilen i hlt)
      refine wp_region_held_drew (S := fun w' => Below w2.heap.size w2 w') (by kernel_rfl) hB.out.drew (fun hHeld => ?_)
      refine wpAnyH_take (i := 0) (oi := { dst := some 36, op := Op.move (Operand.tmp 7), type := 33, pos := _, after := #[], guard := none }) (v := ?_) rfl (by kernel_rfl) (by kernel_rfl) (by kernel_rfl) (fun _ _ _ h => h) (Or.inl ⟨by rfl, ?_⟩) (by assumption) ?_
      rotate_left
      · intro w' hSw
        go_simp
        try with_reducible rfl
      try simp only [Act.put, List.setIfInBounds_toArray, List.set_cons_zero, List.set_cons_succ]
      refine wpAnyH_take (i := 1) (oi := { dst := some 37, op := Op.move (Operand.tmp 1), type := 31, pos := _, after := #[], guard := none }) (v := ?_) rfl (by kernel_rfl) (by kernel_rfl) (by kernel_rfl) (fun _ _ _ h => h) (Or.inl ⟨by rfl, ?_⟩) (by assumption) ?_
      rotate_left
      · intro w' hSw
        go_simp
        try with_reducible rfl
      try simp only [Act.put, List.setIfInBounds_toArray, List.set_cons_zero, List.set_cons_succ]
      refine wpAnyH_take (i := 2) (oi := { dst := some 38, op := Op.move (Operand.tmp 9), type := 3, pos := _, after := #[], guard := none }) (v := ?_) rfl (by kernel_rfl) (by kernel_rfl) (by kernel_rfl) (fun _ _ _ h => h) (Or.inl ⟨by rfl, ?_⟩) (by assumption) ?_
      rotate_left
      · intro w' hSw
        go_simp
        try with_reducible rfl
      try simp only [Act.put, List.setIfInBounds_toArray, List.set_cons_zero, List.set_cons_succ]
      refine wpAnyH_take (i := 3) (oi := { dst := some 39, op := Op.indexAddr 31 (Operand.tmp 37) (Operand.tmp 38), type := 0, pos := _, after := #[{ on := 1, ground := Ground.data }, { on := 2, ground := Ground.data }], guard := none }) (v := ?_) rfl (by kernel_rfl) (by kernel_rfl) (by kernel_rfl) (fun _ _ _ h => h) (Or.inl ⟨by rfl, ?_⟩) (by assumption) ?_
      rotate_left
      · intro w' hSw
        go_simp
        try with_reducible rfl
      try simp only [Act.put, List.setIfInBounds_toArray, List.set_cons_zero, List.set_cons_succ]
      refine wpAnyH_take (i := 4) (oi := { dst := some 40, op := Op.fieldAddr 37 (Operand.tmp 39) 0, type := 0, pos := _, after := #[{ on := 3, ground := Ground.data }], guard := none }) (v := ?_) rfl (by kernel_rfl) (by kernel_rfl) (by kernel_rfl) (fun _ _ _ h => h) (Or.inl ⟨by rfl, ?_⟩) (by assumption) ?_
      rotate_left
      · intro w' hSw
        go_simp
        try with_reducible rfl
      try simp only [Act.put, List.setIfInBounds_toArray, List.set_cons_zero, List.set_cons_succ]
      refine wpAnyH_take (i := 5) (oi := { dst := some 41, op := Op.load 22 (Operand.tmp 40), type := 22, pos := _, after := #[{ on := 4, ground := Ground.data }], guard := none }) (v := _) rfl (by kernel_rfl) (by kernel_rfl) (by kernel_rfl) (fun _ _ _ h => h) (yieldsIf_load_mid (by rfl) _ _ rfl _ _ rfl _ _ (fun w' hSw => (HSt.out w' hSw).range i hlt) Try.underlying22 rfl iIi) (by assumption) ?_
      try simp only [Act.put, List.setIfInBounds_toArray, List.set_cons_zero, List.set_cons_succ]
      refine wpAnyH_take (i := 6) (oi := { dst := some 42, op := Op.move (Operand.tmp 1), type := 31, pos := _, after := #[], guard := none }) (v := ?_) rfl (by kernel_rfl) (by kernel_rfl) (by kernel_rfl) (fun _ _ _ h => h) (Or.inl ⟨by rfl, ?_⟩) (by assumption) ?_
      rotate_left
      · intro w' hSw
        go_simp
        try with_reducible rfl
      try simp only [Act.put, List.setIfInBounds_toArray, List.set_cons_zero, List.set_cons_succ]
      refine wpAnyH_take (i := 7) (oi := { dst := some 43, op := Op.move (Operand.tmp 9), type := 3, pos := _, after := #[], guard := none }) (v := ?_) rfl (by kernel_rfl) (by kernel_rfl) (by kernel_rfl) (fun _ _ _ h => h) (Or.inl ⟨by rfl, ?_⟩) (by assumption) ?_
      rotate_left
      · intro w' hSw
        go_simp
        try with_reducible rfl
      try simp only [Act.put, List.setIfInBounds_toArray, List.set_cons_zero, List.set_cons_succ]
      refine wpAnyH_take (i := 8) (oi := { dst := some 44, op := Op.indexAddr 31 (Operand.tmp 42) (Operand.tmp 43), type := 0, pos := _, after := #[{ on := 6, ground := Ground.data }, { on := 7, ground := Ground.data }], guard := none }) (v := ?_) rfl (by kernel_rfl) (by kernel_rfl) (by kernel_rfl) (fun _ _ _ h => h) (Or.inl ⟨by rfl, ?_⟩) (by assumption) ?_
      rotate_left
      · intro w' hSw
        go_simp
        try with_reducible rfl
      try simp only [Act.put, List.setIfInBounds_toArray, List.set_cons_zero, List.set_cons_succ]
      refine wpAnyH_take (i := 9) (oi := { dst := some 45, op := Op.fieldAddr 37 (Operand.tmp 44) 1, type := 0, pos := _, after := #[{ on := 8, ground := Ground.data }], guard := none }) (v := ?_) rfl (by kernel_rfl) (by kernel_rfl) (by kernel_rfl) (fun _ _ _ h => h) (Or.inl ⟨by rfl, ?_⟩) (by assumption) ?_
      rotate_left
      · intro w' hSw
        go_simp
        try with_reducible rfl
      try simp only [Act.put, List.setIfInBounds_toArray, List.set_cons_zero, List.set_cons_succ]
      refine wpAnyH_take (i := 10) (oi := { dst := some 46, op := Op.load 4 (Operand.tmp 45), type := 4, pos := _, after := #[{ on := 9, ground := Ground.data }], guard := none }) (v := ?_) rfl (by kernel_rfl) (by kernel_rfl) (by kernel_rfl) (fun _ _ _ h => h) (Or.inl ⟨by rfl, ?_⟩) (by assumption) ?_
      rotate_left
      · intro w' hSw
        have e := (HSt.out w' hSw).cell i hlt
        go_simp
        try with_reducible rfl
      try simp only [Act.put, List.setIfInBounds_toArray, List.set_cons_zero, List.set_cons_succ]
      refine wpAnyH_take (i := 11) (oi := { dst := some 47, op := Op.move (Operand.tmp 9), type := 3, pos := _, after := #[], guard := none }) (v := ?_) rfl (by kernel_rfl) (by kernel_rfl) (by kernel_rfl) (fun _ _ _ h => h) (Or.inl ⟨by rfl, ?_⟩) (by assumption) ?_
      rotate_left
      · intro w' hSw
        go_simp
        try with_reducible rfl
      try simp only [Act.put, List.setIfInBounds_toArray, List.set_cons_zero, List.set_cons_succ]
      refine wpAnyH_ready (rs := [12]) (by kernel_rfl) (by simp) ?_
      refine AllReadyH.cons (o := { dst := some 48, op := Op.call { callee := Callee.value (Operand.func 14), args := #[Operand.tmp 36, Operand.tmp 41, Operand.tmp 46, Operand.tmp 47], argTypes := #[33, 23, 4, 3] }, type := 0, pos := _, after := #[{ on := 0, ground := Ground.data }, { on := 5, ground := Ground.data }, { on := 10, ground := Ground.data }, { on := 11, ground := Ground.data }], guard := none }) rfl (fun KK hKK => ?_) AllReadyH.nil
      go_simp
      refine (add14_any wr.drew w2.heap.size bl1 v1 i tg bs1 I K (fun x => (x : Int)) (I i) (K i) (i : Int) (hin.out.ilen i hlt) HL1 (by omega) hs rfl rfl rfl).mono ?_
      rintro e w5 ⟨rfl, v1', bs1', hadd⟩
      have hB5 : Below w2.heap.size w2 w5 := hB.out.drew.trans (hadd.below HL1.out hs)
      have HB5 : Hid _ := hB5
      have hs5 : w2.heap.size ≤ w5.heap.size := Nat.le_trans hs hadd.size
      have HT5 : Hid _ := hT.out.drew.add hadd
      clear hadd
      go_wp2_with fail
      refine hKK.out _ _ hB5 (fun hHeld => ?_)
      clear hKK KK
      refine wpAnyH_done (by kernel_rfl) ?_ _
      go_wp2_with fail
      clear HL1 hHeld hB5
      have HL2 : Hid (Lb w5.drew w2.heap.size bl2 v2 i tg bs2 (fun x => I (n - 1 - x)) (fun x => K (n - 1 - x)) (fun x => ((n - 1 - x : Nat) : Int))) := HT5.out.b.drew
      have iIj := info22l (I j) (hin.out.ilen j hjn)
      refine wp_region_held_drew (S := fun w' => Below w2.heap.size w2 w') (by kernel_rfl) HB5.out.drew (fun hHeld => ?_)
      refine wpAnyH_take (i := 0) (oi := { dst := some 53, op := Op.move (Operand.tmp 8), type := 33, pos := _, after := #[], guard := none }) (v := ?_) rfl (by kernel_rfl) (by kernel_rfl) (by kernel_rfl) (fun _ _ _ h => h) (Or.inl ⟨by rfl, ?_⟩) (by assumption) ?_
      rotate_left
      · intro w' hSw
        go_simp
        try with_reducible rfl
      try simp only [Act.put, List.setIfInBounds_toArray, List.set_cons_zero, List.set_cons_succ]
      refine wpAnyH_take (i := 1) (oi := { dst := some 54, op := Op.move (Operand.tmp 1), type := 31, pos := _, after := #[], guard := none }) (v := ?_) rfl (by kernel_rfl) (by kernel_rfl) (by kernel_rfl) (fun _ _ _ h => h) (Or.inl ⟨by rfl, ?_⟩) (by assumption) ?_
      rotate_left
      · intro w' hSw
        go_simp
        try with_reducible rfl
      try simp only [Act.put, List.setIfInBounds_toArray, List.set_cons_zero, List.set_cons_succ]
      refine wpAnyH_take (i := 2) (oi := { dst := some 55, op := Op.move (Operand.tmp 10), type := 3, pos := _, after := #[], guard := none }) (v := ?_) rfl (by kernel_rfl) (by kernel_rfl) (by kernel_rfl) (fun _ _ _ h => h) (Or.inl ⟨by rfl, ?_⟩) (by assumption) ?_
      rotate_left
      · intro w' hSw
        go_simp
        try with_reducible rfl
      try simp only [Act.put, List.setIfInBounds_toArray, List.set_cons_zero, List.set_cons_succ]
      refine wpAnyH_take (i := 3) (oi := { dst := some 56, op := Op.indexAddr 31 (Operand.tmp 54) (Operand.tmp 55), type := 0, pos := _, after := #[{ on := 1, ground := Ground.data }, { on := 2, ground := Ground.data }], guard := none }) (v := ?_) rfl (by kernel_rfl) (by kernel_rfl) (by kernel_rfl) (fun _ _ _ h => h) (Or.inl ⟨by rfl, ?_⟩) (by assumption) ?_
      rotate_left
      · intro w' hSw
        go_simp
        try with_reducible rfl
      try simp only [Act.put, List.setIfInBounds_toArray, List.set_cons_zero, List.set_cons_succ]
      refine wpAnyH_take (i := 4) (oi := { dst := some 57, op := Op.fieldAddr 37 (Operand.tmp 56) 0, type := 0, pos := _, after := #[{ on := 3, ground := Ground.data }], guard := none }) (v := ?_) rfl (by kernel_rfl) (by kernel_rfl) (by kernel_rfl) (fun _ _ _ h => h) (Or.inl ⟨by rfl, ?_⟩) (by assumption) ?_
      rotate_left
      · intro w' hSw
        go_simp
        try with_reducible rfl
      try simp only [Act.put, List.setIfInBounds_toArray, List.set_cons_zero, List.set_cons_succ]
      refine wpAnyH_take (i := 5) (oi := { dst := some 58, op := Op.load 22 (Operand.tmp 57), type := 22, pos := _, after := #[{ on := 4, ground := Ground.data }], guard := none }) (v := _) rfl (by kernel_rfl) (by kernel_rfl) (by kernel_rfl) (fun _ _ _ h => h) (yieldsIf_load_mid (by rfl) _ _ rfl _ _ rfl _ _ (fun w' hSw => (HSt.out w' hSw).range j hjn) Try.underlying22 rfl iIj) (by assumption) ?_
      try simp only [Act.put, List.setIfInBounds_toArray, List.set_cons_zero, List.set_cons_succ]
      refine wpAnyH_take (i := 6) (oi := { dst := some 59, op := Op.move (Operand.tmp 1), type := 31, pos := _, after := #[], guard := none }) (v := ?_) rfl (by kernel_rfl) (by kernel_rfl) (by kernel_rfl) (fun _ _ _ h => h) (Or.inl ⟨by rfl, ?_⟩) (by assumption) ?_
      rotate_left
      · intro w' hSw
        go_simp
        try with_reducible rfl
      try simp only [Act.put, List.setIfInBounds_toArray, List.set_cons_zero, List.set_cons_succ]
      refine wpAnyH_take (i := 7) (oi := { dst := some 60, op := Op.move (Operand.tmp 10), type := 3, pos := _, after := #[], guard := none }) (v := ?_) rfl (by kernel_rfl) (by kernel_rfl) (by kernel_rfl) (fun _ _ _ h => h) (Or.inl ⟨by rfl, ?_⟩) (by assumption) ?_
      rotate_left
      · intro w' hSw
        go_simp
        try with_reducible rfl
      try simp only [Act.put, List.setIfInBounds_toArray, List.set_cons_zero, List.set_cons_succ]
      refine wpAnyH_take (i := 8) (oi := { dst := some 61, op := Op.indexAddr 31 (Operand.tmp 59) (Operand.tmp 60), type := 0, pos := _, after := #[{ on := 6, ground := Ground.data }, { on := 7, ground := Ground.data }], guard := none }) (v := ?_) rfl (by kernel_rfl) (by kernel_rfl) (by kernel_rfl) (fun _ _ _ h => h) (Or.inl ⟨by rfl, ?_⟩) (by assumption) ?_
      rotate_left
      · intro w' hSw
        go_simp
        try with_reducible rfl
      try simp only [Act.put, List.setIfInBounds_toArray, List.set_cons_zero, List.set_cons_succ]
      refine wpAnyH_take (i := 9) (oi := { dst := some 62, op := Op.fieldAddr 37 (Operand.tmp 61) 1, type := 0, pos := _, after := #[{ on := 8, ground := Ground.data }], guard := none }) (v := ?_) rfl (by kernel_rfl) (by kernel_rfl) (by kernel_rfl) (fun _ _ _ h => h) (Or.inl ⟨by rfl, ?_⟩) (by assumption) ?_
      rotate_left
      · intro w' hSw
        go_simp
        try with_reducible rfl
      try simp only [Act.put, List.setIfInBounds_toArray, List.set_cons_zero, List.set_cons_succ]
      refine wpAnyH_take (i := 10) (oi := { dst := some 63, op := Op.load 4 (Operand.tmp 62), type := 4, pos := _, after := #[{ on := 9, ground := Ground.data }], guard := none }) (v := ?_) rfl (by kernel_rfl) (by kernel_rfl) (by kernel_rfl) (fun _ _ _ h => h) (Or.inl ⟨by rfl, ?_⟩) (by assumption) ?_
      rotate_left
      · intro w' hSw
        have e := (HSt.out w' hSw).cell j hjn
        go_simp
        try with_reducible rfl
      try simp only [Act.put, List.setIfInBounds_toArray, List.set_cons_zero, List.set_cons_succ]
      refine wpAnyH_take (i := 11) (oi := { dst := some 64, op := Op.move (Operand.tmp 10), type := 3, pos := _, after := #[], guard := none }) (v := ?_) rfl (by kernel_rfl) (by kernel_rfl) (by kernel_rfl) (fun _ _ _ h => h) (Or.inl ⟨by rfl, ?_⟩) (by assumption) ?_
      rotate_left
      · intro w' hSw
        go_simp
        try with_reducible rfl
      try simp only [Act.put, List.setIfInBounds_toArray, List.set_cons_zero, List.set_cons_succ]
      refine wpAnyH_ready (rs := [12]) (by kernel_rfl) (by simp) ?_
      refine AllReadyH.cons (o := { dst := some 65, op := Op.call { callee := Callee.value (Operand.func 14), args := #[Operand.tmp 53, Operand.tmp 58, Operand.tmp 63, Operand.tmp 64], argTypes := #[33, 23, 4, 3] }, type := 0, pos := _, after := #[{ on := 0, ground := Ground.data }, { on := 5, ground := Ground.data }, { on := 10, ground := Ground.data }, { on := 11, ground := Ground.data }], guard := none }) rfl (fun KK hKK => ?_) AllReadyH.nil
      go_simp
      refine (add14_any w5.drew w2.heap.size bl2 v2 i tg bs2 (fun x => I (n - 1 - x)) (fun x => K (n - 1 - x)) (fun x => ((n - 1 - x : Nat) : Int)) (I j) (K j) (j : Int) (hin.out.ilen j hjn) HL2 (by omega) hs5 (by show I (n - 1 - i) = I j; rw [HJI.out]) (by show K (n - 1 - i) = K j; rw [HJI.out]) (by show ((n - 1 - i : Nat) : Int) = (j : Int); rw [HJI.out])).mono ?_
      rintro e w6 ⟨rfl, v2', bs2', hadd⟩
      have hB6 : Below w2.heap.size w2 w6 := HB5.out.drew.trans (hadd.below HL2.out hs5)
      have HB6 : Hid _ := hB6
      have hs6 : w2.heap.size ≤ w6.heap.size := Nat.le_trans hs5 hadd.size
      have HT6 : Hid _ := (HT5.out.drew.swap.add hadd).swap
      clear hadd
      go_wp2_with fail
      refine hKK.out _ _ hB6 (fun hHeld => ?_)
      clear hKK KK
      refine wpAnyH_done (by kernel_rfl) ?_ _
      go_wp2_with fail
      go_roundw
      case rel => exact ⟨i + 1, v1', bs1', v2', bs2', by omega, by go_num, HT6, HB6, hs6⟩
      case measure => simp [RowKit.intOf]; omega
    · obtain rfl : n = i := by omega
      have b2 : decide ((n : Int) < (n : Int)) = false := by simp
      obtain ⟨blk1, p1, c1, rfl, hLk1, e1⟩ := hT.out.a.done
      obtain ⟨blk2, p2, c2, rfl, hLk2, e2⟩ := hT.out.b.done
      have hr1 : w2.heap.size ≤ blk1 := hT.out.a.row_ge e1
      have hr2 : w2.heap.size ≤ blk2 := hT.out.b.row_ge e2
      have E1 : Hid _ := e1
      have E2 : Hid _ := e2
      have HLk1 : Hid _ := hLk1
      have HLk2 : Hid _ := hLk2
      clear hLk1 hLk2 e1 e2
      go_wp2_with fail
      refine (sort15_any wr bl1 blk1 p1 n c1 tg bs1 I K (fun x => (x : Int)) HLk1 (by omega)).mono ?_
      rintro e w5 ⟨rfl, d1, hk1, hpm1, hsr1, hg5⟩
      have hB5 : Hid (Below w2.heap.size w2 w5) := hB.out.grown hg5 hs (fun k e => by injection e with e; omega)
      have hs5' : w2.heap.size ≤ w5.heap.size := Nat.le_trans hs hg5.size
      have HKm : Hid _ := hT.out.other E1.out E2.out HLk2.out hg5
      have HK1 : Hid _ := hk1
      have HP1 : Hid _ := hpm1
      have HS1 : Hid _ := hsr1
      clear hk1 hpm1 hsr1 hg5 HLk1 HLk2
      go_wp2_with fail
      refine (sort15_any w5 bl2 blk2 p2 n c2 tg bs2 (fun x => I (n - 1 - x)) (fun x => K (n - 1 - x)) (fun x => ((n - 1 - x : Nat) : Int)) HKm (by omega)).mono ?_
      rintro e w6 ⟨rfl, d2, hk2, hpm2, hsr2, hg6⟩
      have hB6 : Hid (Below w2.heap.size w2 w6) := hB5.out.grown hg6 hs5' (fun k e => by injection e with e; omega)
      have hs6 : w2.heap.size ≤ w6.heap.size := Nat.le_trans hs5' hg6.size
      have HKl : Hid _ := hT.out.swap.other E2.out E1.out HK1.out hg6
      have HK2 : Hid _ := hk2
      obtain ⟨hsame, hunk, hord⟩ := plain6 ht (fun x hx => hin.out.ilen x hx) HP1.out HS1.out hpm2 hsr2
      have HSA : Hid _ := hsame
      have HUN : Hid _ := hunk
      have HOR : Hid _ := hord
      have HL1 : Hid (∀ q, q < n → d1 q < n) := HP1.out.lt
      have HL2 : Hid (∀ q, q < n → d2 q < n) := hpm2.lt
      have hcall : ∃ LL : World → Prop, (∀ W W', LL W → Below W.heap.size W W' → LL W') ∧ (∀ W, LL W → Below w2.heap.size w2 W) ∧
          (∀ W (q : Nat), LL W → q < n → Calls Try.prog 19 #[.pointer (some ⟨bl1, 0, none⟩), .int .i64 q] W fun e w' => e = .returned (.agg (arrv (I (d1 q)))) ∧ Below W.heap.size W w') ∧
          (∀ W (q : Nat), LL W → q < n → Calls Try.prog 20 #[.pointer (some ⟨bl1, 0, none⟩), .int .i64 q] W fun e w' => e = .returned (.bool (K (d1 q))) ∧ w' = W) ∧
          (∀ W (q : Nat), LL W → q < n → Calls Try.prog 19 #[.pointer (some ⟨bl2, 0, none⟩), .int .i64 q] W fun e w' => e = .returned (.agg (arrv (I (d1 q)))) ∧ Below W.heap.size W w') ∧
          (∀ W (q : Nat), LL W → q < n → Calls Try.prog 20 #[.pointer (some ⟨bl2, 0, none⟩), .int .i64 q] W fun e w' => e = .returned (.bool (K (d1 q))) ∧ w' = W) ∧
          (∀ W, LL W → Calls Try.prog 16 #[.pointer (some ⟨bl1, 0, none⟩)] W fun e w' => e = .returned (.int .i64 n) ∧ w' = W) ∧
          (∀ W, LL W → Calls Try.prog 16 #[.pointer (some ⟨bl2, 0, none⟩)] W fun e w' => e = .returned (.int .i64 n) ∧ w' = W) ∧ LL w6 := by
        refine ⟨fun W => Lk W bl1 blk1 p1 n c1 tg bs1 I K (fun x => (x : Int)) d1 ∧ Lk W bl2 blk2 p2 n c2 tg bs2 (fun x => I (n - 1 - x)) (fun x => K (n - 1 - x)) (fun x => ((n - 1 - x : Nat) : Int)) d2 ∧ Below w2.heap.size w2 W, ?_, ?_, ?_, ?_, ?_, ?_, ?_, ?_, HKl.out, hk2, hB6.out⟩
        · rintro W W' ⟨h1, h2, h3⟩ hb
          exact ⟨h1.belowL hb, h2.belowL hb, h3.trans (hb.mono h3.size)⟩
        · rintro W ⟨h1, h2, h3⟩
          exact h3
        · rintro W q ⟨h1, h2, h3⟩ hq
          exact id19_any h1 q _ hq rfl (HP1.out.lt q hq) (by omega)
        · rintro W q ⟨h1, h2, h3⟩ hq
          exact known20_any h1 q _ hq rfl (HP1.out.lt q hq) (by omega)
        · rintro W q ⟨h1, h2, h3⟩ hq
          rw [(hsame q hq).2]
          exact id19_any h2 q _ hq rfl (hpm2.lt q hq) (by omega)
        · rintro W q ⟨h1, h2, h3⟩ hq
          rw [(hsame q hq).1]
          exact known20_any h2 q _ hq rfl (hpm2.lt q hq) (by omega)
        · rintro W ⟨h1, h2, h3⟩
          exact len16_any h1
        · rintro W ⟨h1, h2, h3⟩
          exact len16_any h2
      obtain ⟨LL, hstep, hbel, hA19, hA20, hB19, hB20, hA16, hB16, hnow⟩ := hcall
      have HST : Hid _ := hstep
      have HBE : Hid _ := hbel
      have HA19 : Hid _ := hA19
      have HA20 : Hid _ := hA20
      have HB19 : Hid _ := hB19
      have HB20 : Hid _ := hB20
      have HA16 : Hid _ := hA16
      have HB16 : Hid _ := hB16
      have HNOW : Hid _ := hnow
      clear hstep hbel hA19 hA20 hB19 hB20 hA16 hB16 hnow
      clear hk2 hpm2 hsr2 hg6 HKm HK1 HK2 HKl HP1 HS1 hsame hunk hord hT hB hs hB5 hs5' E1 E2 hr1 hr2 HSA HL2 hTwo hB4 hs4 hB6 hs6
      clear w5 wr w4
      go_wp2_with fail
      refine (HA16.out _ HNOW.out).mono ?_
      rintro e w7 ⟨rfl, rfl⟩
      go_wp2_with fail
      refine (HB16.out _ HNOW.out).mono ?_
      rintro e w8 ⟨rfl, rfl⟩
      clear HA16 HB16
      go_wp2_with fail
      go_loopw [11, 12] (fun vu vi wr => ∃ i : Nat, i ≤ n ∧ vi = .int .i64 i ∧ vu = .int .i64 ((So.cnt (fun x => !K x) i : Nat) : Int) ∧ Hid (LL wr)) (fun _ vi _ => n - (RowKit.intOf vi).toNat)
      case atStart => exact ⟨0, Nat.zero_le _, rfl, rfl, HNOW⟩
      case round =>
        obtain ⟨i, hi1, rfl, rfl, hL⟩ := hrel
        rename World => wr
        have hcle := So.cnt_le (fun x => !K x) i
        obtain ⟨cn, hcn⟩ : ∃ cn, cn = So.cnt (fun x => !K x) i := ⟨_, rfl⟩
        rw [← hcn] at hcle ⊢
        have HCN : Hid _ := hcn
        clear hcn
        by_cases hi : i < n
        · have b3 : decide ((i : Int) < (n : Int)) = true := by simp; omega
          obtain rfl := hin.out.hp (by omega)
          have e := (HSt.out wr (HBE.out wr hL.out)).cell i hi
          cases hk : K i
          · rw [hk] at e
            have HN : Hid (Value.int .i64 ((cn : Int) + 1) = .int .i64 ((So.cnt (fun x => !K x) (i + 1) : Nat) : Int)) := by
              show _ = _
              rw [So.cnt, ← HCN.out, hk]; simp
            clear hk
            go_wp2_with fail
            go_roundw
            case rel => exact ⟨i + 1, by omega, by go_num, HN.out, hL⟩
            case measure => simp [RowKit.intOf]; omega
          · rw [hk] at e
            have HN : Hid (Value.int .i64 (cn : Int) = .int .i64 ((So.cnt (fun x => !K x) (i + 1) : Nat) : Int)) := by
              show _ = _
              rw [So.cnt, ← HCN.out, hk]; simp
            clear hk
            go_wp2_with fail
            go_roundw
            case rel => exact ⟨i + 1, by omega, by go_num, HN.out, hL⟩
            case measure => simp [RowKit.intOf]; omega
        · obtain rfl : n = i := by omega
          have b3 : decide ((n : Int) < (n : Int)) = false := by simp
          rw [← HCN.out] at HUN
          clear HCN HNOW
          go_wp2_with fail
          go_loopw [13, 14, 15, 16] (fun vq _ _ _ wr => ∃ q : Nat, q ≤ n ∧ vq = .int .i64 q ∧ Hid (LL wr)) (fun vq _ _ _ _ => n - (RowKit.intOf vq).toNat)
          case atStart => exact ⟨0, Nat.zero_le _, rfl, hL⟩
          case round =>
            obtain ⟨q, hq1, rfl, hL⟩ := hrel
            by_cases hq : q < n
            · have b4 : decide ((q : Int) < (n : Int)) = true := by simp; omega
              have hxn := HL1.out q hq
              have hxl := hin.out.ilen _ hxn
              obtain ⟨hAs, hA1, hAi, hAl⟩ := candv_facts (I (d1 q)) (K (d1 q)) hxl
              obtain ⟨D, hD, hDs, hDk0⟩ := foldC (I (d1 q)) hxl
              have hDk := hDk0 (K (d1 q))
              clear hDk0
              have hRl : (arrv (I (d1 q))).size = 20 := by rw [arrv_size, hxl]
              have hkq : decide ((cn : Int) ≤ (q : Int)) = K (d1 q) := by rw [HUN.out q hq]; simp
              have hkq2 : decide (cn ≤ q) = K (d1 q) := (HUN.out q hq).symm
              have HE : Hid (∀ W, (Op.equalIn 10000 37 (.agg (candv (I (d1 q)) (K (d1 q)))) (.agg (candv (I (d1 q)) (K (d1 q))))).run Try.prog W = .ok true W) := fun W => equal37 _ _ hxl W
              have HLess : Hid (∀ (l : List UInt8) (k : Bool) (W : World), l.length = 20 → Calls Try.prog 17 #[.agg (candv (I (d1 q)) (K (d1 q))), .agg (candv l k), .agg (arrv tg)] W fun e w' => e = .returned (.bool (decide (ckey (K (d1 q)) (I (d1 q)) tg < ckey k l tg))) ∧ Below W.heap.size W w') := fun l k W hl => candLess_any _ _ _ _ _ hxl hl ht W
              have hA19 : Hid (∀ W, LL W → Calls Try.prog 19 #[.pointer (some ⟨bl1, 0, none⟩), .int .i64 q] W fun e w' => e = .returned (.agg (arrv (I (d1 q)))) ∧ Below W.heap.size W w') := fun W h => HA19.out W q h hq
              have hA20 : Hid (∀ W, LL W → Calls Try.prog 20 #[.pointer (some ⟨bl1, 0, none⟩), .int .i64 q] W fun e w' => e = .returned (.bool (K (d1 q))) ∧ w' = W) := fun W h => HA20.out W q h hq
              have hB19 : Hid (∀ W, LL W → Calls Try.prog 19 #[.pointer (some ⟨bl2, 0, none⟩), .int .i64 q] W fun e w' => e = .returned (.agg (arrv (I (d1 q)))) ∧ Below W.heap.size W w') := fun W h => HB19.out W q h hq
              have hB20 : Hid (∀ W, LL W → Calls Try.prog 20 #[.pointer (some ⟨bl2, 0, none⟩), .int .i64 q] W fun e w' => e = .returned (.bool (K (d1 q))) ∧ w' = W) := fun W h => HB20.out W q h hq
              have hOr : Hid (∀ r, r ≤ q → decide (ckey (K (d1 q)) (I (d1 q)) tg < ckey (K (d1 r)) (I (d1 r)) tg) = false) := fun r hr => by
                have := HOR.out r q hr hq
                simp; omega
              generalize I (d1 q) = L at *
              generalize K (d1 q) = k at *
              obtain ⟨A, hA⟩ : ∃ A, A = candv L k := ⟨_, rfl⟩
              rw [← hA] at hAs hA1 hAi hAl hDk HE HLess
              clear hA hxn
              go_wp2_with fail
              refine (hA19.out wr hL.out).mono ?_
              rintro e wa ⟨rfl, hwa⟩
              have hLa : Hid (LL wa) := HST.out wr wa hL.out hwa
              clear hwa hL
              clear wr
              go_wp2_with fail
              refine (hA20.out wa hLa.out).mono ?_
              rintro e wb ⟨rfl, rfl⟩
              have hZX1 : (wb.alloc (.cells (candv (List.replicate 20 0) false) 37)).heap[wb.heap.size]? = some (.cells (candv (List.replicate 20 0) false) 37 (0, 0)) := Go.heap_alloc_new wb _
              have HZX1 : Hid _ := hZX1
              clear hZX1
              obtain ⟨X1, hX1⟩ : ∃ X, X = (wb.alloc (.cells (candv (List.replicate 20 0) false) 37)).setRow wb.heap.size A := ⟨_, rfl⟩
              obtain ⟨hsX1, hrX1, hbX1⟩ := boxed wb (candv (List.replicate 20 0) false) A 37
              rw [← hX1] at hsX1 hrX1 hbX1
              have hLX1 : Hid (LL X1) := HST.out wb X1 hLa.out hbX1
              have HX1 : Hid _ := hX1
              clear hX1 hbX1
              go_wp2_with (refine wpList_store_row rfl 37 _ _ rfl _ A rfl rfl 37 _ HZX1.out hAi (by rw [hAs]; rfl) hA1 ?_; change wpList _ _ _ _ _ ((wb.alloc (.cells (candv (List.replicate 20 0) false) 37)).setRow wb.heap.size A); rw [← HX1.out])
              refine (hB19.out X1 hLX1.out).mono ?_
              rintro e wc ⟨rfl, hwc⟩
              have hLc : Hid (LL wc) := HST.out X1 wc hLX1.out hwc
              have hr14 : wc.heap[wb.heap.size]? = some (.cells A 37 (0, 0)) := (hwc.block _ (by omega)).trans hrX1
              have hs14 : wb.heap.size + 1 ≤ wc.heap.size := by have := hwc.size; omega
              clear hwc hrX1 hsX1 HX1 HZX1 hLX1 hLa
              clear X1
              obtain ⟨b14, hb14⟩ : ∃ b, b = wb.heap.size := ⟨_, rfl⟩
              rw [← hb14] at hr14 hs14 ⊢
              clear hb14
              clear wb
              go_wp2_with fail
              refine (hB20.out wc hLc.out).mono ?_
              rintro e wd ⟨rfl, rfl⟩
              have hZX2 : (wd.alloc (.cells (candv (List.replicate 20 0) false) 37)).heap[wd.heap.size]? = some (.cells (candv (List.replicate 20 0) false) 37 (0, 0)) := Go.heap_alloc_new wd _
              have HZX2 : Hid _ := hZX2
              clear hZX2
              obtain ⟨X2, hX2⟩ : ∃ X, X = (wd.alloc (.cells (candv (List.replicate 20 0) false) 37)).setRow wd.heap.size A := ⟨_, rfl⟩
              obtain ⟨hsX2, hrX2, hbX2⟩ := boxed wd (candv (List.replicate 20 0) false) A 37
              rw [← hX2] at hsX2 hrX2 hbX2
              have hLX2 : Hid (LL X2) := HST.out wd X2 hLc.out hbX2
              have h14 : X2.heap[b14]? = some (.cells A 37 (0, 0)) := (hbX2.block _ (by omega)).trans hr14
              have e14 : X2.cell? ⟨b14, 20, none⟩ = some (.bool k) := by rw [cell_of_row _ b14 20 A 37 (0, 0) h14]; exact hAl
              have HX2 : Hid _ := hX2
              clear hX2 hbX2
              have hE := HE.out
              have H14 : Hid _ := h14
              have H15 : Hid _ := hrX2
              clear h14 hrX2 hr14
              by_cases hq0 : q = 0
              · have b5 : decide ((0 : Int) < (q : Int)) = false := by simp; omega
                have b6 : decide (0 < q) = false := by simp; omega
                clear hq0
                go_wp2_with (first | (refine wpList_store_row rfl 37 _ _ rfl _ A rfl rfl 37 _ HZX2.out hAi (by rw [hAs]; rfl) hA1 ?_; change wpList _ _ _ _ _ ((wd.alloc (.cells (candv (List.replicate 20 0) false) 37)).setRow wd.heap.size A); rw [← HX2.out]) | refine wpList_load_row rfl 37 _ rfl _ rfl 37 _ (0, 0) _ H14.out Try.underlying37 rfl hAi ?_ | refine wpList_load_row rfl 37 _ rfl _ rfl 37 _ (0, 0) _ H15.out Try.underlying37 rfl hAi ?_)
                go_roundw
                case rel => exact ⟨q + 1, by omega, by go_num, hLX2⟩
                case measure => simp [RowKit.intOf]; omega
              · have b5 : decide ((0 : Int) < (q : Int)) = true := by simp; omega
                have b6 : decide (0 < q) = true := by simp; omega
                obtain ⟨q1, hq1'⟩ : ∃ q1 : Nat, (q : Int) - 1 = (q1 : Int) := ⟨q - 1, by omega⟩
                have hq1n : q1 < n := by omega
                have hq1q : q1 ≤ q := by omega
                clear hq0
                have hxn1 := HL1.out q1 hq1n
                have hxl1 := hin.out.ilen _ hxn1
                obtain ⟨hAs1, hA11, hAi1, hAl1⟩ := candv_facts (I (d1 q1)) (K (d1 q1)) hxl1
                obtain ⟨D1, hD1, hDs1, hDk10⟩ := foldC (I (d1 q1)) hxl1
                have hDk1 := hDk10 (K (d1 q1))
                clear hDk10
                have hRl1 : (arrv (I (d1 q1))).size = 20 := by rw [arrv_size, hxl1]
                have hLs1 : Hid (∀ W, Calls Try.prog 17 #[.agg A, .agg (candv (I (d1 q1)) (K (d1 q1))), .agg (arrv tg)] W fun e w' => e = .returned (.bool false) ∧ Below W.heap.size W w') := fun W => by
                  refine (HLess.out (I (d1 q1)) (K (d1 q1)) W hxl1).mono ?_
                  rintro e w' ⟨rfl, hb⟩
                  exact ⟨by rw [hOr.out q1 hq1q], hb⟩
                have hC19 : Hid (∀ W, LL W → Calls Try.prog 19 #[.pointer (some ⟨bl1, 0, none⟩), .int .i64 q1] W fun e w' => e = .returned (.agg (arrv (I (d1 q1)))) ∧ Below W.heap.size W w') := fun W h => HA19.out W q1 h hq1n
                have hC20 : Hid (∀ W, LL W → Calls Try.prog 20 #[.pointer (some ⟨bl1, 0, none⟩), .int .i64 q1] W fun e w' => e = .returned (.bool (K (d1 q1))) ∧ w' = W) := fun W h => HA20.out W q1 h hq1n
                generalize I (d1 q1) = L1 at *
                generalize K (d1 q1) = k1 at *
                obtain ⟨A1, hA1e⟩ : ∃ A, A = candv L1 k1 := ⟨_, rfl⟩
                rw [← hA1e] at hAs1 hA11 hAi1 hAl1 hDk1 hLs1
                clear hA1e hxn1
                go_wp2_with (first | (refine wpList_store_row rfl 37 _ _ rfl _ A rfl rfl 37 _ HZX2.out hAi (by rw [hAs]; rfl) hA1 ?_; change wpList _ _ _ _ _ ((wd.alloc (.cells (candv (List.replicate 20 0) false) 37)).setRow wd.heap.size A); rw [← HX2.out]) | refine wpList_load_row rfl 37 _ rfl _ rfl 37 _ (0, 0) _ H14.out Try.underlying37 rfl hAi ?_ | refine wpList_load_row rfl 37 _ rfl _ rfl 37 _ (0, 0) _ H15.out Try.underlying37 rfl hAi ?_)
                refine (hC19.out X2 hLX2.out).mono ?_
                rintro e we ⟨rfl, hwe⟩
                have hLe : Hid (LL we) := HST.out X2 we hLX2.out hwe
                have hr14 : we.heap[b14]? = some (.cells A 37 (0, 0)) := (hwe.block _ (by omega)).trans H14.out
                have hse : b14 + 1 ≤ we.heap.size := by have := hwe.size; omega
                clear hwe H14 H15 e14 HX2 HZX2 hLX2 hLc
                go_wp2_with fail
                refine (hC20.out we hLe.out).mono ?_
                rintro e wf ⟨rfl, rfl⟩
                have hZX3 : (wf.alloc (.cells (candv (List.replicate 20 0) false) 37)).heap[wf.heap.size]? = some (.cells (candv (List.replicate 20 0) false) 37 (0, 0)) := Go.heap_alloc_new wf _
                have HZX3 : Hid _ := hZX3
                clear hZX3
                obtain ⟨X3, hX3⟩ : ∃ X, X = (wf.alloc (.cells (candv (List.replicate 20 0) false) 37)).setRow wf.heap.size A1 := ⟨_, rfl⟩
                obtain ⟨hsX3, hrX3, hbX3⟩ := boxed wf (candv (List.replicate 20 0) false) A1 37
                rw [← hX3] at hsX3 hrX3 hbX3
                have hLX3 : Hid (LL X3) := HST.out wf X3 hLe.out hbX3
                have h14 : X3.heap[b14]? = some (.cells A 37 (0, 0)) := (hbX3.block _ (by omega)).trans hr14
                have hTT : X3.heap[w.heap.size]? = some (.cells (arrv tg) 22 (0, 0)) := HTs.out X3 (HBE.out X3 hLX3.out)
                have HX3 : Hid _ := hX3
                clear hX3 hbX3
                have H14 : Hid _ := h14
                have H16 : Hid _ := hrX3
                have HTT : Hid _ := hTT
                clear h14 hrX3 hTT hr14
                go_wp2_with (first | (refine wpList_store_row rfl 37 _ _ rfl _ A1 rfl rfl 37 _ HZX3.out hAi1 (by rw [hAs1]; rfl) hA11 ?_; change wpList _ _ _ _ _ ((wf.alloc (.cells (candv (List.replicate 20 0) false) 37)).setRow wf.heap.size A1); rw [← HX3.out]) | refine wpList_load_row rfl 37 _ rfl _ rfl 37 _ (0, 0) _ H14.out Try.underlying37 rfl hAi ?_ | refine wpList_load_row rfl 37 _ rfl _ rfl 37 _ (0, 0) _ H16.out Try.underlying37 rfl hAi1 ?_ | refine wpList_load_row rfl 22 _ rfl _ rfl 22 _ (0, 0) _ HTT.out Try.underlying22 rfl iT ?_)
                refine (hLs1.out X3).mono ?_
                rintro e wg ⟨rfl, hwg⟩
                have hLg : Hid (LL wg) := HST.out X3 wg hLX3.out hwg
                clear hwg
                go_wp2_with fail
                go_roundw
                case rel => exact ⟨q + 1, by omega, by go_num, hLg⟩
                case measure => simp [RowKit.intOf]; omega
            · obtain rfl : n = q := by omega
              have b4 : decide ((n : Int) < (n : Int)) = false := by simp
              go_wp2_with fail
              go_ret
              exact ⟨rfl, HFin.out _ (HBE.out _ hL.out)⟩
end Go.Proofs.Qxb6617018a
