/- The walk of FnLookupSortStableByKnownThenDistance. -/
import Derived.Test.Qxb6617018aSortLawA
namespace Go.Proofs.Qxb6617018a
open Go.RowKit

set_option maxHeartbeats 4000000 in
set_option maxRecDepth 100000 in
theorem law5_any (w : World) (tg : List UInt8) (ht : tg.length = 20) (p : Option Addr) (n c g o : Nat) (I : Nat → List UInt8) (K : Nat → Bool) (hin : Hid (In w p n g o I K)) (hn : n < 9223372036854775808) :
    Calls Try.prog 5 #[.agg (arrv tg), .slice p n c] w fun e w' => e = .returned (.bool true) ∧ Below w.heap.size w w' := by
  have iT := info22 tg ht
  have hT0 : (w.alloc (.cells (arrv tg) 22)).heap[w.heap.size]? = some (.cells (arrv tg) 22 (0, 0)) := Go.heap_alloc_new w _
  have hIn0 : Hid (In (w.alloc (.cells (arrv tg) 22)) p n g o I K) := hin.out.grown _
  have hb0 : Hid (Below w.heap.size w (w.alloc (.cells (arrv tg) 22))) := (Below.refl _ _).alloc (Nat.le_refl _) _
  have hgl : Hid (0 < n → g < w.heap.size) := fun h => hin.out.block_lt h
  have hs0 : (w.alloc (.cells (arrv tg) 22)).heap.size = w.heap.size + 1 := by simp
  go_enter Try.func5, Try.ntmps5
  go_wp2_with (refine wpList_load_row rfl 22 _ rfl _ rfl 22 _ (0, 0) _ hT0 Try.underlying22 rfl iT ?_)
  refine (bytes12_any tg p n c hn _).mono ?_
  rintro e w1 ⟨⟨r, rfl⟩, hw1⟩
  have hT1 : w1.heap[w.heap.size]? = some (.cells (arrv tg) 22 (0, 0)) := (hw1.block _ (by omega)).trans hT0
  have hB1 : Hid (Below (w.heap.size + 1) (w.alloc (.cells (arrv tg) 22)) w1) := hw1.mono (by omega)
  have hs1 : w.heap.size + 1 ≤ w1.heap.size := by have := hw1.size; omega
  clear hw1 hT0
  cases r
  · go_wp2_with fail
    go_ret
    exact ⟨rfl, hb0.out.trans (hB1.out.mono (by omega))⟩
  by_cases hl : n ≤ 4096
  rotate_left
  · have b1 : decide ((4096 : Int) < (n : Int)) = true := by simp; omega
    go_wp2_with fail
    go_ret
    exact ⟨rfl, hb0.out.trans (hB1.out.mono (by omega))⟩
  have b1 : decide ((4096 : Int) < (n : Int)) = false := by simp; omega
  go_wp2_with (refine wpList_load_row rfl 22 _ rfl _ rfl 22 _ (0, 0) _ hT1 Try.underlying22 rfl iT ?_)
  refine (new13_any w1 tg ht (fun _ => 0) I K (fun x => (x : Int)) (fun x => x) 0).mono ?_
  rintro e w2 ⟨bl, rfl, hbl, hlk, hw2⟩
  have hLb : Hid (Lb w2 (w.heap.size + 1) bl (.slice none 0 0) 0 tg (fun _ => 0) I K (fun x => (x : Int))) := Lb.start hlk (by omega)
  have hB2 : Hid (Below (w.heap.size + 1) (w.alloc (.cells (arrv tg) 22)) w2) := hB1.out.trans (hw2.mono hs1)
  have hs2 : w.heap.size + 1 ≤ w2.heap.size := by have := hw2.size; omega
  have hbl1 : w.heap.size + 1 ≤ bl := by omega
  clear hlk hw2 hbl hT1 hB1 hs1
  clear w1
  go_wp2_with fail
  go_loopw [7] (fun vi wr => ∃ (i : Nat) (v : Value) (bs : Nat → Nat), i ≤ n ∧ vi = .int .i64 i ∧ Hid (Lb wr (w.heap.size + 1) bl v i tg bs I K (fun x => (x : Int))) ∧ Hid (Below (w.heap.size + 1) (w.alloc (.cells (arrv tg) 22)) wr) ∧ w.heap.size + 1 ≤ wr.heap.size) (fun vi _ => n - (RowKit.intOf vi).toNat)
  case atStart => exact ⟨0, _, _, Nat.zero_le _, rfl, hLb, hB2, hs2⟩
  case round =>
    obtain ⟨i, v, bs, hi, rfl, hL, hB, hs⟩ := hrel
    rename World => wr
    by_cases hlt : i < n
    · have b2 : decide ((i : Int) < (n : Int)) = true := by simp; omega
      obtain rfl := hin.out.hp (by omega)
      go_wp2_with fail
      have iI := info22l (I i) (hin.out.ilen i hlt)
      have hSt : ∀ w', Below (w.heap.size + 1) (w.alloc (.cells (arrv tg) 22)) w' → In w' (some ⟨g, o, none⟩) n g o I K := fun w' h => hIn0.out.later h (fun q => by have := hgl.out q; omega)
      have HSt : Hid _ := hSt
      clear hSt
      have HLd : Hid (Lb wr.drew (w.heap.size + 1) bl v i tg bs I K (fun x => (x : Int))) := hL.out.drew
      refine wp_region_held_drew (S := fun w' => Below (w.heap.size + 1) (w.alloc (.cells (arrv tg) 22)) w') (by kernel_rfl) hB.out.drew (fun hHeld => ?_)
      refine wpAnyH_take (i := 0) (oi := { dst := some 27, op := Op.move (Operand.tmp 6), type := 33, pos := _, after := #[], guard := none }) (v := ?_) rfl (by kernel_rfl) (by kernel_rfl) (by kernel_rfl) (fun _ _ _ h => h) (Or.inl ⟨by rfl, ?_⟩) (by assumption) ?_
      rotate_left
      · intro w' hSw
        go_simp
        try with_reducible rfl
      try simp only [Act.put, List.setIfInBounds_toArray, List.set_cons_zero, List.set_cons_succ]
      refine wpAnyH_take (i := 1) (oi := { dst := some 28, op := Op.move (Operand.tmp 1), type := 31, pos := _, after := #[], guard := none }) (v := ?_) rfl (by kernel_rfl) (by kernel_rfl) (by kernel_rfl) (fun _ _ _ h => h) (Or.inl ⟨by rfl, ?_⟩) (by assumption) ?_
      rotate_left
      · intro w' hSw
        go_simp
        try with_reducible rfl
      try simp only [Act.put, List.setIfInBounds_toArray, List.set_cons_zero, List.set_cons_succ]
      refine wpAnyH_take (i := 2) (oi := { dst := some 29, op := Op.move (Operand.tmp 7), type := 3, pos := _, after := #[], guard := none }) (v := ?_) rfl (by kernel_rfl) (by kernel_rfl) (by kernel_rfl) (fun _ _ _ h => h) (Or.inl ⟨by rfl, ?_⟩) (by assumption) ?_
      rotate_left
      · intro w' hSw
        go_simp
        try with_reducible rfl
      try simp only [Act.put, List.setIfInBounds_toArray, List.set_cons_zero, List.set_cons_succ]
      refine wpAnyH_take (i := 3) (oi := { dst := some 30, op := Op.indexAddr 31 (Operand.tmp 28) (Operand.tmp 29), type := 0, pos := _, after := #[{ on := 1, ground := Ground.data }, { on := 2, ground := Ground.data }], guard := none }) (v := ?_) rfl (by kernel_rfl) (by kernel_rfl) (by kernel_rfl) (fun _ _ _ h => h) (Or.inl ⟨by rfl, ?_⟩) (by assumption) ?_
      rotate_left
      · intro w' hSw
        go_simp
        try with_reducible rfl
      try simp only [Act.put, List.setIfInBounds_toArray, List.set_cons_zero, List.set_cons_succ]
      refine wpAnyH_take (i := 4) (oi := { dst := some 31, op := Op.fieldAddr 37 (Operand.tmp 30) 0, type := 0, pos := _, after := #[{ on := 3, ground := Ground.data }], guard := none }) (v := ?_) rfl (by kernel_rfl) (by kernel_rfl) (by kernel_rfl) (fun _ _ _ h => h) (Or.inl ⟨by rfl, ?_⟩) (by assumption) ?_
      rotate_left
      · intro w' hSw
        go_simp
        try with_reducible rfl
      try simp only [Act.put, List.setIfInBounds_toArray, List.set_cons_zero, List.set_cons_succ]
      refine wpAnyH_take (i := 5) (oi := { dst := some 32, op := Op.load 22 (Operand.tmp 31), type := 22, pos := _, after := #[{ on := 4, ground := Ground.data }], guard := none }) (v := _) rfl (by kernel_rfl) (by kernel_rfl) (by kernel_rfl) (fun _ _ _ h => h) (yieldsIf_load_mid (by rfl) _ _ rfl _ _ rfl _ _ (fun w' hSw => (HSt.out w' hSw).range i hlt) Try.underlying22 rfl iI) (by assumption) ?_
      try simp only [Act.put, List.setIfInBounds_toArray, List.set_cons_zero, List.set_cons_succ]
      refine wpAnyH_take (i := 6) (oi := { dst := some 33, op := Op.move (Operand.tmp 1), type := 31, pos := _, after := #[], guard := none }) (v := ?_) rfl (by kernel_rfl) (by kernel_rfl) (by kernel_rfl) (fun _ _ _ h => h) (Or.inl ⟨by rfl, ?_⟩) (by assumption) ?_
      rotate_left
      · intro w' hSw
        go_simp
        try with_reducible rfl
      try simp only [Act.put, List.setIfInBounds_toArray, List.set_cons_zero, List.set_cons_succ]
      refine wpAnyH_take (i := 7) (oi := { dst := some 34, op := Op.move (Operand.tmp 7), type := 3, pos := _, after := #[], guard := none }) (v := ?_) rfl (by kernel_rfl) (by kernel_rfl) (by kernel_rfl) (fun _ _ _ h => h) (Or.inl ⟨by rfl, ?_⟩) (by assumption) ?_
      rotate_left
      · intro w' hSw
        go_simp
        try with_reducible rfl
      try simp only [Act.put, List.setIfInBounds_toArray, List.set_cons_zero, List.set_cons_succ]
      refine wpAnyH_take (i := 8) (oi := { dst := some 35, op := Op.indexAddr 31 (Operand.tmp 33) (Operand.tmp 34), type := 0, pos := _, after := #[{ on := 6, ground := Ground.data }, { on := 7, ground := Ground.data }], guard := none }) (v := ?_) rfl (by kernel_rfl) (by kernel_rfl) (by kernel_rfl) (fun _ _ _ h => h) (Or.inl ⟨by rfl, ?_⟩) (by assumption) ?_
      rotate_left
      · intro w' hSw
        go_simp
        try with_reducible rfl
      try simp only [Act.put, List.setIfInBounds_toArray, List.set_cons_zero, List.set_cons_succ]
      refine wpAnyH_take (i := 9) (oi := { dst := some 36, op := Op.fieldAddr 37 (Operand.tmp 35) 1, type := 0, pos := _, after := #[{ on := 8, ground := Ground.data }], guard := none }) (v := ?_) rfl (by kernel_rfl) (by kernel_rfl) (by kernel_rfl) (fun _ _ _ h => h) (Or.inl ⟨by rfl, ?_⟩) (by assumption) ?_
      rotate_left
      · intro w' hSw
        go_simp
        try with_reducible rfl
      try simp only [Act.put, List.setIfInBounds_toArray, List.set_cons_zero, List.set_cons_succ]
      refine wpAnyH_take (i := 10) (oi := { dst := some 37, op := Op.load 4 (Operand.tmp 36), type := 4, pos := _, after := #[{ on := 9, ground := Ground.data }], guard := none }) (v := ?_) rfl (by kernel_rfl) (by kernel_rfl) (by kernel_rfl) (fun _ _ _ h => h) (Or.inl ⟨by rfl, ?_⟩) (by assumption) ?_
      rotate_left
      · intro w' hSw
        have e := (HSt.out w' hSw).cell i hlt
        go_simp
        try with_reducible rfl
      try simp only [Act.put, List.setIfInBounds_toArray, List.set_cons_zero, List.set_cons_succ]
      refine wpAnyH_take (i := 11) (oi := { dst := some 38, op := Op.move (Operand.tmp 7), type := 3, pos := _, after := #[], guard := none }) (v := ?_) rfl (by kernel_rfl) (by kernel_rfl) (by kernel_rfl) (fun _ _ _ h => h) (Or.inl ⟨by rfl, ?_⟩) (by assumption) ?_
      rotate_left
      · intro w' hSw
        go_simp
        try with_reducible rfl
      try simp only [Act.put, List.setIfInBounds_toArray, List.set_cons_zero, List.set_cons_succ]
      refine wpAnyH_ready (rs := [12]) (by kernel_rfl) (by simp) ?_
      refine AllReadyH.cons (o := { dst := some 39, op := Op.call { callee := Callee.value (Operand.func 14), args := #[Operand.tmp 27, Operand.tmp 32, Operand.tmp 37, Operand.tmp 38], argTypes := #[33, 23, 4, 3] }, type := 0, pos := _, after := #[{ on := 0, ground := Ground.data }, { on := 5, ground := Ground.data }, { on := 10, ground := Ground.data }, { on := 11, ground := Ground.data }], guard := none }) rfl (fun KK hKK => ?_) AllReadyH.nil
      go_simp
      refine (add14_any _ (w.heap.size + 1) bl v i tg bs I K (fun x => (x : Int)) (I i) (K i) (i : Int) (hin.out.ilen i hlt) (HLd : Hid (Lb wr.drew _ _ _ _ _ _ _ _ _)) (by omega) hs rfl rfl rfl).mono ?_
      rintro e w3 ⟨rfl, v', bs', hadd⟩
      have hB3 : Below (w.heap.size + 1) (w.alloc (.cells (arrv tg) 22)) w3 := hB.out.drew.trans (hadd.below HLd.out hs)
      have hs3 : w.heap.size + 1 ≤ w3.heap.size := Nat.le_trans hs hadd.size
      have hL3 : Hid _ := hadd.lb
      clear hadd
      go_wp2_with fail
      refine hKK.out _ _ hB3 (fun hHeld => ?_)
      clear hKK KK
      refine wpAnyH_done (by kernel_rfl) ?_ _
      go_wp2_with fail
      go_roundw
      case rel => exact ⟨i + 1, v', bs', by omega, by go_num, hL3, hB3, hs3⟩
      case measure => simp [RowKit.intOf]; omega
    · obtain rfl : n = i := by omega
      have b2 : decide ((n : Int) < (n : Int)) = false := by simp
      obtain ⟨blk, p', c', rfl, hLk, hblk⟩ := hL.out.done
      have hown : w.heap.size + 1 ≤ blk := hL.out.row_ge hblk
      have HLk : Hid _ := hLk
      clear hLk hblk hL
      go_wp2_with fail
      refine (sort15_any wr bl blk p' n c' tg bs I K (fun x => (x : Int)) HLk (by omega)).mono ?_
      rintro e w4 ⟨rfl, d, hk, hpm, hsrt, hg4⟩
      have hB4 : Hid (Below (w.heap.size + 1) (w.alloc (.cells (arrv tg) 22)) w4) := hB.out.grown hg4 hs (fun k e => by injection e with e; omega)
      have hs4 : w.heap.size + 1 ≤ w4.heap.size := Nat.le_trans hs hg4.size
      have HK : Hid _ := hk
      have HPM : Hid _ := hpm
      have HSR : Hid _ := hsrt
      clear hk hpm hsrt hg4 HLk hB hs
      clear wr
      go_wp2_with fail
      refine (len16_any HK).mono ?_
      rintro e w5 ⟨rfl, rfl⟩
      have hTs : ∀ w', Below (w.heap.size + 1) (w.alloc (.cells (arrv tg) 22)) w' → w'.heap[w.heap.size]? = some (.cells (arrv tg) 22 (0, 0)) := fun w' h => (h.block _ (by omega)).trans (Go.heap_alloc_new w _)
      have HTs : Hid _ := hTs
      clear hTs
      go_wp2_with fail
      go_loopw [8, 9, 10] (fun vi _ _ wr => ∃ i : Nat, i ≤ n ∧ vi = .int .i64 i ∧ Hid (Lk wr bl blk p' n c' tg bs I K (fun x => (x : Int)) d) ∧ Hid (Below (w.heap.size + 1) (w.alloc (.cells (arrv tg) 22)) wr) ∧ w.heap.size + 1 ≤ wr.heap.size) (fun vi _ _ _ => n - (RowKit.intOf vi).toNat)
      case atStart => exact ⟨0, Nat.zero_le _, rfl, HK, hB4, hs4⟩
      case round =>
        obtain ⟨i, hin1, rfl, hK5, hB5, hs5⟩ := hrel
        rename World => wr
        by_cases hi : i < n
        · have b3 : decide ((i : Int) < (n : Int)) = true := by simp; omega
          obtain rfl := hin.out.hp (by omega)
          have hSt : ∀ w', Below (w.heap.size + 1) (w.alloc (.cells (arrv tg) 22)) w' → In w' (some ⟨g, o, none⟩) n g o I K := fun w' h => hIn0.out.later h (fun q => by have := hgl.out q; omega)
          have HSt : Hid _ := hSt
          clear hSt
          obtain ⟨hrk, hdr⟩ := So.rank_place HPM.out HSR.out i hi
          have HRK : Hid _ := hrk
          have HDR : Hid _ := hdr
          clear hrk hdr
          go_wp2_with fail
          go_loopw [9, 10] (fun vr vj wr => ∃ j : Nat, j ≤ n ∧ vj = .int .i64 j ∧ vr = .int .i64 ((So.cnt (So.ahead (fun x => ckey (K x) (I x) tg) i) j : Nat) : Int) ∧ Hid (Lk wr bl blk p' n c' tg bs I K (fun x => (x : Int)) d) ∧ Hid (Below (w.heap.size + 1) (w.alloc (.cells (arrv tg) 22)) wr) ∧ w.heap.size + 1 ≤ wr.heap.size) (fun _ vj _ => n - (RowKit.intOf vj).toNat)
          case atStart => exact ⟨0, Nat.zero_le _, rfl, rfl, hK5, hB5, hs5⟩
          case round =>
            obtain ⟨j, hjn, rfl, rfl, hK6, hB6, hs6⟩ := hrel
            rename World => wr'
            have hcle := So.cnt_le (So.ahead (fun x => ckey (K x) (I x) tg) i) j
            obtain ⟨cn, hcn⟩ : ∃ cn, cn = So.cnt (So.ahead (fun x => ckey (K x) (I x) tg) i) j := ⟨_, rfl⟩
            rw [← hcn] at hcle ⊢
            have HCN : Hid _ := hcn
            clear hcn
            by_cases hj : j < n
            · have b4 : decide ((j : Int) < (n : Int)) = true := by simp; omega
              go_wp2_with fail
              refine wp_region_quiet (C := fun w' => Lk w' bl blk p' n c' tg bs I K (fun x => (x : Int)) d ∧ Below (w.heap.size + 1) (w.alloc (.cells (arrv tg) 22)) w') (by kernel_rfl) (by kernel_rfl) ⟨hK6.out.drewL, hB6.out.drew⟩ ?_
              simp only
              refine q_value (.slice (some ⟨g, o, none⟩) n c) rfl (fun w' h => rfl) ?_
              simp only [Act.put, List.setIfInBounds_toArray, List.set_cons_zero, List.set_cons_succ]
              refine q_value (.int .i64 (j : Int)) rfl (fun w' h => rfl) ?_
              simp only [Act.put, List.setIfInBounds_toArray, List.set_cons_zero, List.set_cons_succ]
              refine q_value (.pointer (some ⟨g, o + j * 21, none⟩)) rfl (fun w' h => by go_simp) ?_
              simp only [Act.put, List.setIfInBounds_toArray, List.set_cons_zero, List.set_cons_succ]
              refine q_mid 37 _ rfl g (o + j * 21) rfl (candv (I j) (K j)).toList _ rfl (fun w' h => (HSt.out w' h.2).row j hj) Try.underlying37 rfl (info37 (I j) (K j) (hin.out.ilen j hj)) ?_
              simp only [Act.put, List.setIfInBounds_toArray, List.set_cons_zero, List.set_cons_succ]
              refine q_value (.slice (some ⟨g, o, none⟩) n c) rfl (fun w' h => rfl) ?_
              simp only [Act.put, List.setIfInBounds_toArray, List.set_cons_zero, List.set_cons_succ]
              refine q_value (.int .i64 (i : Int)) rfl (fun w' h => rfl) ?_
              simp only [Act.put, List.setIfInBounds_toArray, List.set_cons_zero, List.set_cons_succ]
              refine q_value (.pointer (some ⟨g, o + i * 21, none⟩)) rfl (fun w' h => by go_simp) ?_
              simp only [Act.put, List.setIfInBounds_toArray, List.set_cons_zero, List.set_cons_succ]
              refine q_mid 37 _ rfl g (o + i * 21) rfl (candv (I i) (K i)).toList _ rfl (fun w' h => (HSt.out w' h.2).row i hi) Try.underlying37 rfl (info37 (I i) (K i) (hin.out.ilen i hi)) ?_
              simp only [Act.put, List.setIfInBounds_toArray, List.set_cons_zero, List.set_cons_succ]
              refine q_row 22 _ rfl _ rfl 22 _ (0, 0) _ rfl (fun w' h => HTs.out w' h.2) Try.underlying22 rfl iT ?_
              simp only [Act.put, List.setIfInBounds_toArray, List.set_cons_zero, List.set_cons_succ]
              simp only [Array.toArray_toList]
              refine q_call (.bool (decide (ckey (K j) (I j) tg < ckey (K i) (I i) tg))) 17 #[.agg (candv (I j) (K j)), .agg (candv (I i) (K i)), .agg (arrv tg)] rfl (fun _ _ => by go_simp) ?_ ?_
              · rintro w' ⟨h1, h2⟩
                refine (candLess_any (I j) (I i) tg (K j) (K i) (hin.out.ilen j hj) (hin.out.ilen i hi) ht w').mono ?_
                rintro e w'' ⟨rfl, hb⟩
                exact ⟨rfl, h1.belowL hb, h2.trans (hb.mono (Nat.le_trans (by rw [hs0]; exact Nat.le_refl _) h2.size))⟩
              simp only [Act.put, List.setIfInBounds_toArray, List.set_cons_zero, List.set_cons_succ]
              refine wpQuiet_nil ?_
              rintro w7 ⟨hk7, hb7⟩
              have hs7 : w.heap.size + 1 ≤ w7.heap.size := by have := hb7.size; omega
              have hK7 : Hid _ := hk7
              have hB7 : Hid _ := hb7
              clear hk7 hb7 hK6 hB6 hs6
              clear wr'
              by_cases q1 : ckey (K j) (I j) tg < ckey (K i) (I i) tg
              · have q2 : decide (ckey (K j) (I j) tg < ckey (K i) (I i) tg) = true := by simpa using q1
                rw [q2]
                have HN : Hid (Value.int .i64 ((cn : Int) + 1) = .int .i64 ((So.cnt (So.ahead (fun x => ckey (K x) (I x) tg) i) (j + 1) : Nat) : Int)) := by
                  show _ = _
                  have ha : So.ahead (fun x => ckey (K x) (I x) tg) i j = true := by unfold So.ahead; rw [q2]; rfl
                  rw [So.cnt, ← HCN.out, ha]; simp
                clear q1 q2
                go_wp2_with fail
                go_roundw
                case rel => exact ⟨j + 1, by omega, by go_num, HN.out, hK7, hB7, hs7⟩
                case measure => simp [RowKit.intOf]; omega
              · have q2 : decide (ckey (K j) (I j) tg < ckey (K i) (I i) tg) = false := by simpa using q1
                rw [q2]
                have Q2 : Hid _ := q2
                clear q1 q2
                by_cases q3 : j < i
                · have b5 : decide ((j : Int) < (i : Int)) = true := by simp; omega
                  go_wp2_with fail
                  refine wp_region_quiet (C := fun w' => Lk w' bl blk p' n c' tg bs I K (fun x => (x : Int)) d ∧ Below (w.heap.size + 1) (w.alloc (.cells (arrv tg) 22)) w') (by kernel_rfl) (by kernel_rfl) ⟨hK7.out.drewL, hB7.out.drew⟩ ?_
                  simp only
                  refine q_value (.int .i64 (j : Int)) rfl (fun w' h => rfl) ?_
                  simp only [Act.put, List.setIfInBounds_toArray, List.set_cons_zero, List.set_cons_succ]
                  refine q_value (.int .i64 (i : Int)) rfl (fun w' h => rfl) ?_
                  simp only [Act.put, List.setIfInBounds_toArray, List.set_cons_zero, List.set_cons_succ]
                  refine q_value (.bool true) rfl (fun w' h => by go_simp) ?_
                  simp only [Act.put, List.setIfInBounds_toArray, List.set_cons_zero, List.set_cons_succ]
                  refine q_value (.bool true) rfl (fun w' h => rfl) ?_
                  simp only [Act.put, List.setIfInBounds_toArray, List.set_cons_zero, List.set_cons_succ]
                  refine q_value (.slice (some ⟨g, o, none⟩) n c) rfl (fun w' h => rfl) ?_
                  simp only [Act.put, List.setIfInBounds_toArray, List.set_cons_zero, List.set_cons_succ]
                  refine q_value (.int .i64 (i : Int)) rfl (fun w' h => rfl) ?_
                  simp only [Act.put, List.setIfInBounds_toArray, List.set_cons_zero, List.set_cons_succ]
                  refine q_value (.pointer (some ⟨g, o + i * 21, none⟩)) rfl (fun w' h => by go_simp) ?_
                  simp only [Act.put, List.setIfInBounds_toArray, List.set_cons_zero, List.set_cons_succ]
                  refine q_mid 37 _ rfl g (o + i * 21) rfl (candv (I i) (K i)).toList _ rfl (fun w' h => (HSt.out w' h.2).row i hi) Try.underlying37 rfl (info37 (I i) (K i) (hin.out.ilen i hi)) ?_
                  simp only [Act.put, List.setIfInBounds_toArray, List.set_cons_zero, List.set_cons_succ]
                  refine q_value (.slice (some ⟨g, o, none⟩) n c) rfl (fun w' h => rfl) ?_
                  simp only [Act.put, List.setIfInBounds_toArray, List.set_cons_zero, List.set_cons_succ]
                  refine q_value (.int .i64 (j : Int)) rfl (fun w' h => rfl) ?_
                  simp only [Act.put, List.setIfInBounds_toArray, List.set_cons_zero, List.set_cons_succ]
                  refine q_value (.pointer (some ⟨g, o + j * 21, none⟩)) rfl (fun w' h => by go_simp) ?_
                  simp only [Act.put, List.setIfInBounds_toArray, List.set_cons_zero, List.set_cons_succ]
                  refine q_mid 37 _ rfl g (o + j * 21) rfl (candv (I j) (K j)).toList _ rfl (fun w' h => (HSt.out w' h.2).row j hj) Try.underlying37 rfl (info37 (I j) (K j) (hin.out.ilen j hj)) ?_
                  simp only [Act.put, List.setIfInBounds_toArray, List.set_cons_zero, List.set_cons_succ]
                  refine q_row 22 _ rfl _ rfl 22 _ (0, 0) _ rfl (fun w' h => HTs.out w' h.2) Try.underlying22 rfl iT ?_
                  simp only [Act.put, List.setIfInBounds_toArray, List.set_cons_zero, List.set_cons_succ]
                  simp only [Array.toArray_toList]
                  refine q_call (.bool (decide (ckey (K i) (I i) tg < ckey (K j) (I j) tg))) 17 #[.agg (candv (I i) (K i)), .agg (candv (I j) (K j)), .agg (arrv tg)] rfl (fun _ _ => by go_simp) ?_ ?_
                  · rintro w' ⟨h1, h2⟩
                    refine (candLess_any (I i) (I j) tg (K i) (K j) (hin.out.ilen i hi) (hin.out.ilen j hj) ht w').mono ?_
                    rintro e w'' ⟨rfl, hb⟩
                    exact ⟨rfl, h1.belowL hb, h2.trans (hb.mono (Nat.le_trans (by rw [hs0]; exact Nat.le_refl _) h2.size))⟩
                  simp only [Act.put, List.setIfInBounds_toArray, List.set_cons_zero, List.set_cons_succ]
                  refine q_value (.bool (!decide (ckey (K i) (I i) tg < ckey (K j) (I j) tg))) rfl (fun w' h => by go_simp) ?_
                  simp only [Act.put, List.setIfInBounds_toArray, List.set_cons_zero, List.set_cons_succ]
                  refine q_value (.bool (!decide (ckey (K i) (I i) tg < ckey (K j) (I j) tg))) rfl (fun w' h => by go_simp) ?_
                  simp only [Act.put, List.setIfInBounds_toArray, List.set_cons_zero, List.set_cons_succ]
                  refine wpQuiet_nil ?_
                  rintro w8 ⟨hk8, hb8⟩
                  have hs8 : w.heap.size + 1 ≤ w8.heap.size := by have := hb8.size; omega
                  have hK8 : Hid _ := hk8
                  have hB8 : Hid _ := hb8
                  clear hk8 hb8
                  by_cases q4 : ckey (K i) (I i) tg < ckey (K j) (I j) tg
                  · have q5 : decide (ckey (K i) (I i) tg < ckey (K j) (I j) tg) = true := by simpa using q4
                    rw [q5]
                    have HN : Hid (Value.int .i64 (cn : Int) = .int .i64 ((So.cnt (So.ahead (fun x => ckey (K x) (I x) tg) i) (j + 1) : Nat) : Int)) := by
                      show _ = _
                      have ha : So.ahead (fun x => ckey (K x) (I x) tg) i j = false := by unfold So.ahead; rw [Q2.out, q5]; simp
                      rw [So.cnt, ← HCN.out, ha]; simp
                    clear q4 q5
                    go_wp2_with fail
                    go_roundw
                    case rel => exact ⟨j + 1, by omega, by go_num, HN.out, hK8, hB8, hs8⟩
                    case measure => simp [RowKit.intOf]; omega
                  · have q5 : decide (ckey (K i) (I i) tg < ckey (K j) (I j) tg) = false := by simpa using q4
                    rw [q5]
                    have HN : Hid (Value.int .i64 ((cn : Int) + 1) = .int .i64 ((So.cnt (So.ahead (fun x => ckey (K x) (I x) tg) i) (j + 1) : Nat) : Int)) := by
                      show _ = _
                      have ha : So.ahead (fun x => ckey (K x) (I x) tg) i j = true := by unfold So.ahead; rw [Q2.out, q5]; simp [q3]
                      rw [So.cnt, ← HCN.out, ha]; simp
                    clear q4 q5
                    go_wp2_with fail
                    go_roundw
                    case rel => exact ⟨j + 1, by omega, by go_num, HN.out, hK8, hB8, hs8⟩
                    case measure => simp [RowKit.intOf]; omega
                · have b5 : decide ((j : Int) < (i : Int)) = false := by simp; omega
                  go_wp2_with fail
                  go_quiet (fail)
                  have HN : Hid (Value.int .i64 (cn : Int) = .int .i64 ((So.cnt (So.ahead (fun x => ckey (K x) (I x) tg) i) (j + 1) : Nat) : Int)) := by
                    show _ = _
                    have ha : So.ahead (fun x => ckey (K x) (I x) tg) i j = false := by unfold So.ahead; rw [Q2.out]; simp [q3]
                    rw [So.cnt, ← HCN.out, ha]; simp
                  go_wp2_with fail
                  go_roundw
                  case rel => exact ⟨j + 1, by omega, by go_num, HN.out, hK7.out.drewN _, bdrew hB7.out _, hs7⟩
                  case measure => simp [RowKit.intOf]; omega
            · obtain rfl : n = j := by omega
              have b4 : decide ((n : Int) < (n : Int)) = false := by simp
              rw [← HCN.out] at HRK HDR
              go_wp2_with fail
              refine (hop18_any hK6 cn i HRK.out HDR hi (by omega)).mono ?_
              rintro e w7 ⟨rfl, rfl⟩
              go_wp2_with fail
              refine wp_region_quiet (C := fun w' => Lk w' bl blk p' n c' tg bs I K (fun x => (x : Int)) d ∧ Below (w.heap.size + 1) (w.alloc (.cells (arrv tg) 22)) w') (by kernel_rfl) (by kernel_rfl) ⟨hK6.out.drewL, hB6.out.drew⟩ ?_
              simp only
              refine q_value (.pointer (some ⟨bl, 0, none⟩)) rfl (fun w' h => rfl) ?_
              simp only [Act.put, List.setIfInBounds_toArray, List.set_cons_zero, List.set_cons_succ]
              refine q_value (.int .i64 (cn : Int)) rfl (fun w' h => rfl) ?_
              simp only [Act.put, List.setIfInBounds_toArray, List.set_cons_zero, List.set_cons_succ]
              refine q_call (.agg (arrv (I i))) 19 #[.pointer (some ⟨bl, 0, none⟩), .int .i64 (cn : Int)] rfl (fun _ _ => by go_simp) ?_ ?_
              · rintro w' ⟨h1, h2⟩
                refine (id19_any h1 cn i HRK.out HDR hi (by omega)).mono ?_
                rintro e w'' ⟨rfl, hb⟩
                exact ⟨rfl, h1.belowL hb, h2.trans (hb.mono (Nat.le_trans (by rw [hs0]; exact Nat.le_refl _) h2.size))⟩
              simp only [Act.put, List.setIfInBounds_toArray, List.set_cons_zero, List.set_cons_succ]
              refine q_value (.slice (some ⟨g, o, none⟩) n c) rfl (fun w' h => rfl) ?_
              simp only [Act.put, List.setIfInBounds_toArray, List.set_cons_zero, List.set_cons_succ]
              refine q_value (.int .i64 (i : Int)) rfl (fun w' h => rfl) ?_
              simp only [Act.put, List.setIfInBounds_toArray, List.set_cons_zero, List.set_cons_succ]
              refine q_value (.pointer (some ⟨g, o + i * 21, none⟩)) rfl (fun w' h => by go_simp) ?_
              simp only [Act.put, List.setIfInBounds_toArray, List.set_cons_zero, List.set_cons_succ]
              refine q_value (.pointer (some ⟨g, o + i * 21, none⟩)) rfl (fun w' h => by go_simp) ?_
              simp only [Act.put, List.setIfInBounds_toArray, List.set_cons_zero, List.set_cons_succ]
              refine q_mid 22 _ rfl g (o + i * 21) rfl (arrv (I i)).toList _ rfl (fun w' h => (HSt.out w' h.2).range i hi) Try.underlying22 rfl (info22l (I i) (hin.out.ilen i hi)) ?_
              simp only [Act.put, List.setIfInBounds_toArray, List.set_cons_zero, List.set_cons_succ]
              simp only [Array.toArray_toList]
              refine q_value (.bool false) rfl (fun w' h => by have e := equal22 (I i) (hin.out.ilen i hi) w'; go_simp) ?_
              simp only [Act.put, List.setIfInBounds_toArray, List.set_cons_zero, List.set_cons_succ]
              refine q_value (.bool false) rfl (fun w' h => by go_simp) ?_
              simp only [Act.put, List.setIfInBounds_toArray, List.set_cons_zero, List.set_cons_succ]
              refine q_value (.pointer (some ⟨bl, 0, none⟩)) rfl (fun w' h => rfl) ?_
              simp only [Act.put, List.setIfInBounds_toArray, List.set_cons_zero, List.set_cons_succ]
              refine q_value (.int .i64 (cn : Int)) rfl (fun w' h => rfl) ?_
              simp only [Act.put, List.setIfInBounds_toArray, List.set_cons_zero, List.set_cons_succ]
              refine q_call (.bool (K i)) 20 #[.pointer (some ⟨bl, 0, none⟩), .int .i64 (cn : Int)] rfl (fun _ _ => by go_simp) ?_ ?_
              · rintro w' ⟨h1, h2⟩
                refine (known20_any h1 cn i HRK.out HDR hi (by omega)).mono ?_
                rintro e w'' ⟨rfl, rfl⟩
                exact ⟨rfl, h1, h2⟩
              simp only [Act.put, List.setIfInBounds_toArray, List.set_cons_zero, List.set_cons_succ]
              refine q_value (.slice (some ⟨g, o, none⟩) n c) rfl (fun w' h => rfl) ?_
              simp only [Act.put, List.setIfInBounds_toArray, List.set_cons_zero, List.set_cons_succ]
              refine q_value (.int .i64 (i : Int)) rfl (fun w' h => rfl) ?_
              simp only [Act.put, List.setIfInBounds_toArray, List.set_cons_zero, List.set_cons_succ]
              refine q_value (.pointer (some ⟨g, o + i * 21, none⟩)) rfl (fun w' h => by go_simp) ?_
              simp only [Act.put, List.setIfInBounds_toArray, List.set_cons_zero, List.set_cons_succ]
              refine q_value (.pointer (some ⟨g, o + i * 21 + 20, none⟩)) rfl (fun w' h => by go_simp) ?_
              simp only [Act.put, List.setIfInBounds_toArray, List.set_cons_zero, List.set_cons_succ]
              refine q_value (.bool (K i)) rfl (fun w' h => by have e := (HSt.out w' h.2).cell i hi; go_simp) ?_
              simp only [Act.put, List.setIfInBounds_toArray, List.set_cons_zero, List.set_cons_succ]
              refine q_value (.bool false) rfl (fun w' h => by go_simp) ?_
              simp only [Act.put, List.setIfInBounds_toArray, List.set_cons_zero, List.set_cons_succ]
              refine q_value (.bool false) rfl (fun w' h => by go_simp) ?_
              simp only [Act.put, List.setIfInBounds_toArray, List.set_cons_zero, List.set_cons_succ]
              refine wpQuiet_nil ?_
              rintro w8 ⟨hk8, hb8⟩
              have hs8 : w.heap.size + 1 ≤ w8.heap.size := by have := hb8.size; omega
              have hK8 : Hid _ := hk8
              have hB8 : Hid _ := hb8
              clear hk8 hb8
              go_wp2_with fail
              go_roundw
              case rel => exact ⟨i + 1, by omega, by go_num, hK8, hB8, hs8⟩
              case measure => simp [RowKit.intOf]; omega
        · obtain rfl : n = i := by omega
          have b3 : decide ((n : Int) < (n : Int)) = false := by simp
          go_wp2_with fail
          go_ret
          exact ⟨rfl, hb0.out.trans (hB5.out.mono (by omega))⟩
end Go.Proofs.Qxb6617018a
