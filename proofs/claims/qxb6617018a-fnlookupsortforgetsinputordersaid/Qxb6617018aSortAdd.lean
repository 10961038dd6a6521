/- The walk of ZZlookupAdd. -/
import Derived.Test.Qxb6617018aSortNew
import Derived.Deep.RegionHeld3
namespace Go.Proofs.Qxb6617018a
open Go.RowKit

/-- The cells of a candidate. -/
def candCells (l : List UInt8) (k : Bool) (h : Int) : Array Value := arrv l ++ #[Value.int IntKind.u64 0, Value.int IntKind.u64 0, Value.pointer none, Value.int IntKind.u16 0, Value.bool k, Value.int IntKind.i64 0, Value.int IntKind.u64 0, Value.int IntKind.i64 0, Value.pointer none, Value.string { data := #[] }, Value.int IntKind.i64 h]

theorem foldCand (l : List UInt8) (h : l.length = 20) : ∃ C D, Array.foldl (fun cs x => cs.setIfInBounds x.snd x.fst) #[Value.int IntKind.u8 0, Value.int IntKind.u8 0, Value.int IntKind.u8 0, Value.int IntKind.u8 0, Value.int IntKind.u8 0, Value.int IntKind.u8 0, Value.int IntKind.u8 0, Value.int IntKind.u8 0, Value.int IntKind.u8 0, Value.int IntKind.u8 0, Value.int IntKind.u8 0, Value.int IntKind.u8 0, Value.int IntKind.u8 0, Value.int IntKind.u8 0, Value.int IntKind.u8 0, Value.int IntKind.u8 0, Value.int IntKind.u8 0, Value.int IntKind.u8 0, Value.int IntKind.u8 0, Value.int IntKind.u8 0, Value.int IntKind.u64 0, Value.int IntKind.u64 0, Value.pointer none, Value.int IntKind.u16 0] (arrv l).zipIdx 0 20 = C ∧ C.size = 24 ∧
    Array.foldl (fun cs x => cs.setIfInBounds x.snd x.fst) #[Value.int IntKind.u8 0, Value.int IntKind.u8 0, Value.int IntKind.u8 0, Value.int IntKind.u8 0, Value.int IntKind.u8 0, Value.int IntKind.u8 0, Value.int IntKind.u8 0, Value.int IntKind.u8 0, Value.int IntKind.u8 0, Value.int IntKind.u8 0, Value.int IntKind.u8 0, Value.int IntKind.u8 0, Value.int IntKind.u8 0, Value.int IntKind.u8 0, Value.int IntKind.u8 0, Value.int IntKind.u8 0, Value.int IntKind.u8 0, Value.int IntKind.u8 0, Value.int IntKind.u8 0, Value.int IntKind.u8 0, Value.int IntKind.u64 0, Value.int IntKind.u64 0, Value.pointer none, Value.int IntKind.u16 0, Value.bool false, Value.int IntKind.i64 0, Value.int IntKind.u64 0, Value.int IntKind.i64 0, Value.pointer none, Value.string { data := #[] }, Value.int IntKind.i64 0] C.zipIdx 0 24 = D ∧ D.size = 31 ∧ ∀ k h, (D.setIfInBounds 24 (Value.bool k)).setIfInBounds 30 (Value.int IntKind.i64 h) = candCells l k h := by
  obtain ⟨a0, a1, a2, a3, a4, a5, a6, a7, a8, a9, a10, a11, a12, a13, a14, a15, a16, a17, a18, a19, rfl⟩ := list20 l h
  refine ⟨_, _, rfl, ?_, rfl, ?_, fun k h => ?_⟩ <;> kernel_rfl

/-- The row of a lookup that is being built. -/
def ptrs (bs : Nat → Nat) (n : Nat) : List Value := (List.range n).map fun x => .pointer (some ⟨bs x, 0, none⟩)

/-- A lookup that is being built: its slice is v, its row its own. -/
structure Lb (w : World) (base bl : Nat) (v : Value) (n : Nat) (tg : List UInt8) (bs : Nat → Nat) (I : Nat → List UInt8) (K : Nat → Bool) (H : Nat → Int) : Prop where
  cands : w.cell? ⟨bl, 21, none⟩ = some v
  fz : w.frozen? ⟨bl, 21, none⟩ = false
  tgt : w.rangeAt bl 1 (arrv tg).toList
  tlen : tg.length = 20
  own : w.ownsRow base 50 1 v n (ptrs bs n)
  id : ∀ x, x < n → w.rangeAt (bs x) 0 (arrv (I x)).toList
  ilen : ∀ x, x < n → (I x).length = 20
  known : ∀ x, x < n → w.cell? ⟨bs x, 24, none⟩ = some (.bool (K x))
  hop : ∀ x, x < n → w.cell? ⟨bs x, 30, none⟩ = some (.int .i64 (H x))
  ne : v.ownBlock ≠ some bl
  nes : ∀ x, x < n → v.ownBlock ≠ some (bs x)
  bsl : ∀ x, x < n → bs x ≠ bl
  bl_ge : base ≤ bl
  bs_ge : ∀ x, x < n → base ≤ bs x

/-- A candidate has been added to a lookup that is being built. -/
structure Added (w w' : World) (base bl : Nat) (v v' : Value) (n : Nat) (tg : List UInt8) (bs bs' : Nat → Nat) (I : Nat → List UInt8) (K : Nat → Bool) (H : Nat → Int) : Prop where
  lb : Lb w' base bl v' (n + 1) tg bs' I K H
  old : ∀ x, x < n → bs' x = bs x
  new : w.heap.size ≤ bs' n
  os : w'.os = w.os
  tape : w'.tape = w.tape
  output : w'.output = w.output
  size : w.heap.size ≤ w'.heap.size
  block : ∀ b, b < w.heap.size → b ≠ bl → some b ≠ v.ownBlock → w'.heap[b]? = w.heap[b]?
  own : ∀ b, v'.ownBlock = some b → v.ownBlock = some b ∨ w.heap.size ≤ b

/-- An append leaves the row in its block or in a new one. -/
theorem append_fresh {w : World} {P : Program} (base : Nat) (t ty e : TypeId) (i : TypeInfo) (z : Value) (bytes : Nat) (ht : P.underlying t = some (.slice e)) (hi : P.info? e = some i) (hz : i.zero = some z)
    (hsize : i.size = 1) (hby : i.bytes = bytes) (v : Value) (n : Nat) (xs : List Value) (hown : w.ownsRow base e 1 v n xs)
    (a : Addr) (c : Nat) (news : List Value) (hl : news.length = 1) (hnews : ∀ j u, news[j]? = some u → w.cell? (a.add j) = some u) (h1 : ∀ u ∈ news, u.oneCell' = true)
    (h63 : n + 1 ≤ maxLen) (hbytes : (n + 1) * bytes ≤ 140737488355328) {v' : Value} {w' : World} (hap : (Builtin.append_ #[t, t] ty #[v, .slice (some a) 1 c]).run P w = .ok v' w') :
    v'.ownBlock = v.ownBlock ∨ v'.ownBlock = some w.heap.size := by
  subst hby
  rcases hown.2 with ⟨rfl, rfl⟩ | ⟨g, cap, cur, rfl, hbg, hg, hnc, hcm, hcs, htake⟩
  · have hr := run_append_nil (P := P) w t ty e i z ht hi hz a 1 c news (by rw [hl, hsize]) hnews (by omega) (by omega) (by simp only [Nat.zero_add] at hbytes; omega)
    rw [hr] at hap
    cases hap
    exact .inr rfl
  · by_cases hroom : n + 1 ≤ cap
    · have hr := run_append_room (P := P) w t ty e i ht hi g n cap cur hg a 1 c news (by rw [hl, hsize]) hnews h1 hroom (by rw [hl, hsize, hcs]; omega)
      rw [hr] at hap
      cases hap
      exact .inl rfl
    · have holds : ∀ j u, xs[j]? = some u → w.cell? ((⟨g, 0, none⟩ : Addr).add j) = some u := hown.cells (g := g) rfl
      have hr := run_append_grow (P := P) w t ty e i z ht hi hz ⟨g, 0, none⟩ n cap xs (by rw [hown.1, hsize]) holds a 1 c news (by rw [hl, hsize]) hnews (by omega) (by simp only [maxLen] at h63; omega) (growslice_fits (by omega) hbytes)
      rw [hr] at hap
      cases hap
      exact .inr rfl

/-- An append whose run is known. -/
theorem wp_append_run {P : Program} {o : Oper} {a : Act} {w : World} {K : Act → World → Prop} {Q : Exit → Act → World → Prop} (s x : Operand) (t : TypeId)
    (ho : o.op = .call { callee := .builtin .append, args := #[s, x], argTypes := #[t, t] }) (v u : Value) (hs : a.eval s = v) (hx : a.eval x = u) {v' : Value} {w' : World}
    (hr : (Builtin.append_ #[t, t] o.type #[v, u]).run P w = .ok v' w') (h : K (a.put o.dst v') w') : o.wp P a w K Q := by
  unfold Oper.wp execOp
  simp only [ho, resolve, invoke, builtin, Sem.run_bind, Sem.run_pure, Result.andThen_ok, List.map_toArray, List.map_cons, List.map_nil, hs, hx, hr]
  exact h

set_option maxRecDepth 100000 in
theorem add14_any (w : World) (base bl : Nat) (v : Value) (n : Nat) (tg : List UInt8) (bs : Nat → Nat) (I : Nat → List UInt8) (K : Nat → Bool) (H : Nat → Int) (id : List UInt8) (k : Bool) (hop : Int) (hid : id.length = 20)
    (h : Hid (Lb w base bl v n tg bs I K H)) (hn : n < 1048576) (hbase : base ≤ w.heap.size) (hI : Hid (I n = id)) (hK : Hid (K n = k)) (hH : Hid (H n = hop)) :
    Calls Try.prog 14 #[.pointer (some ⟨bl, 0, none⟩), .agg (arrv id), .bool k, .int .i64 hop] w fun e w' => e = .returned (.tuple #[]) ∧ ∃ v' bs', Added w w' base bl v v' n tg bs bs' I K H := by
  have iD := info_arr id hid
  have hsz : (arrv id).size = 20 := by rw [arrv_size, hid]
  obtain ⟨C, D, hC, sC, hD, sD, hcd⟩ := foldCand id hid
  have hcd := hcd k hop
  have e21 := h.out.cands
  have f21 := h.out.fz
  have hlt := World.block_lt_of_cell? w _ e21
  have hR : (w.alloc (.cells (arrv id) 23)).rangeAt w.heap.size 0 (arrv id).toList := range_of_drop (r := []) (Go.heap_alloc_new w _) (by simp)
  have hu := Try.underlying23
  have iL : (Try.prog.info? 23).map (·.size) = some (arrv id).toList.length := by rw [Array.length_toList]; exact iD
  obtain ⟨i5, hi5, z1, z2, z3, z4⟩ := i50
  have hz5 : i5.zero = some (.pointer none) := by
    have hq : (Try.prog.info? 50).map (·.zero) = some (some (.pointer none)) := by kernel_rfl
    rw [hi5] at hq; simpa using hq
  have gWA : w.grownBy ((((w.alloc (.cells (arrv id) 23)).drewN 1).alloc (.cells (candCells id k hop) 71)).alloc (.cells #[.pointer (some ⟨w.heap.size + 1, 0, none⟩)] 50)) none := by
    refine ⟨rfl, rfl, rfl, by simp; omega, fun b hb _ => ?_⟩
    rw [Go.heap_alloc_old _ _ (by simp; omega), Go.heap_alloc_old _ _ (by simp; omega)]
    exact Go.heap_alloc_old _ _ hb
  have ownA := h.out.own.kept gWA (by cases hv : v.ownBlock <;> simp)
  have cA : ((((w.alloc (.cells (arrv id) 23)).drewN 1).alloc (.cells (candCells id k hop) 71)).alloc (.cells #[.pointer (some ⟨w.heap.size + 1, 0, none⟩)] 50)).cell? ⟨w.heap.size + 1 + 1, 0, none⟩ = some (.pointer (some ⟨w.heap.size + 1, 0, none⟩)) := by
    have hb : ((((w.alloc (.cells (arrv id) 23)).drewN 1).alloc (.cells (candCells id k hop) 71)).alloc (.cells #[.pointer (some ⟨w.heap.size + 1, 0, none⟩)] 50)).heap[w.heap.size + 1 + 1]? = some (.cells #[.pointer (some ⟨w.heap.size + 1, 0, none⟩)] 50 (0, 0)) := by
      have := Go.heap_alloc_new (((w.alloc (.cells (arrv id) 23)).drewN 1).alloc (.cells (candCells id k hop) 71)) (.cells #[.pointer (some ⟨w.heap.size + 1, 0, none⟩)] 50)
      simpa using this
    rw [cell_of_row _ _ 0 _ 50 (0, 0) hb]; rfl
  have hnw : ∀ (j : Nat) (u : Value), [Value.pointer (some ⟨w.heap.size + 1, 0, none⟩)][j]? = some u → ((((w.alloc (.cells (arrv id) 23)).drewN 1).alloc (.cells (candCells id k hop) 71)).alloc (.cells #[.pointer (some ⟨w.heap.size + 1, 0, none⟩)] 50)).cell? ((⟨w.heap.size + 1 + 1, 0, none⟩ : Addr).add j) = some u := by
    intro j u hj
    match j, hj with
    | 0, hj => simp only [List.getElem?_cons_zero, Option.some.injEq] at hj; rw [← hj]; exact cA
  obtain ⟨v', W', hap, hown', hgr, hfr⟩ := run_append_own (P := Try.prog) ((((w.alloc (.cells (arrv id) 23)).drewN 1).alloc (.cells (candCells id k hop) 71)).alloc (.cells #[.pointer (some ⟨w.heap.size + 1, 0, none⟩)] 50)) base 48 48 50 i5 (.pointer none) 1 8 Try.underlying48 hi5 hz5 z1 z3 rfl (by omega) v n _ ownA ⟨w.heap.size + 1 + 1, 0, none⟩ 1 1 [.pointer (some ⟨w.heap.size + 1, 0, none⟩)] rfl
    hnw (by simp [Value.oneCell']) (by simp only [maxLen]; omega) (by omega) (Nat.le_trans hbase gWA.size)
  have hfre := append_fresh base 48 48 50 i5 (.pointer none) 8 Try.underlying48 hi5 hz5 z1 z3 v n _ ownA ⟨w.heap.size + 1 + 1, 0, none⟩ 1 [.pointer (some ⟨w.heap.size + 1, 0, none⟩)] rfl hnw (by simp [Value.oneCell']) (by simp only [maxLen]; omega) (by omega) hap
  clear hfr cA
  have c21 : W'.cell? ⟨bl, 21, none⟩ = some v := by
    refine hgr.cell (gWA.cell e21 (by simp)) (fun e => h.out.ne e.symm)
  have z21 : W'.frozen? ⟨bl, 21, none⟩ = false := by
    rw [World.frozen?_of_block (hgr.block bl (Nat.lt_of_lt_of_le hlt gWA.size) (fun e => h.out.ne e.symm)), World.frozen?_of_block (gWA.block bl hlt (by simp))]; exact f21
  have hk0 : ((w.alloc (.cells (arrv id) 23)).drewN 1).rangeAt w.heap.size 0 (arrv id).toList := hR
  have hk1 : (((w.alloc (.cells (arrv id) 23)).drewN 1).alloc (.cells (candCells id k hop) 71)).rangeAt w.heap.size 0 (arrv id).toList := range_grown hk0 (World.grownBy_alloc _ _ none) (by simp)
  have hk2 : ((((w.alloc (.cells (arrv id) 23)).drewN 1).alloc (.cells (candCells id k hop) 71)).alloc (.cells #[.pointer (some ⟨w.heap.size + 1, 0, none⟩)] 50)).rangeAt w.heap.size 0 (arrv id).toList := range_grown hk1 (World.grownBy_alloc _ _ none) (by simp)
  have hkW : W'.rangeAt w.heap.size 0 (arrv id).toList := range_grown hk2 hgr (fun e => by have := (h.out.own.lt _ e.symm).2; omega)
  obtain ⟨g', c', rfl⟩ : ∃ g' c', v' = .slice (some ⟨g', 0, none⟩) (n + 1) c' := by
    rcases hown'.2 with ⟨_, q⟩ | ⟨g', c', _, q, _⟩
    · omega
    · exact ⟨g', c', q⟩
  obtain ⟨v', ev'⟩ : ∃ v' : Value, v' = .slice (some ⟨g', 0, none⟩) (n + 1) c' := ⟨_, rfl⟩
  rw [← ev'] at hap hown' hfre
  have cL : (((w.alloc (.cells (arrv id) 23)).alloc (.cells (candCells id k hop) 71)).alloc (.cells #[.pointer (some ⟨w.heap.size + 1, 0, none⟩)] 50)).cell? ⟨bl, 21, none⟩ = some v := gWA.cell e21 (by simp)
  have hlb : bl < w.heap.size := hlt
  have hkS : (W'.setCell ⟨bl, 21, none⟩ v').rangeAt w.heap.size 0 (arrv id).toList := fun j u hj => by
    rw [World.cell?_setCell_far _ _ _ _ (by simp only; omega)]; exact hkW j u hj
  have hsA : ((((w.alloc (.cells (arrv id) 23)).drewN 1).alloc (.cells (candCells id k hop) 71)).alloc (.cells #[.pointer (some ⟨w.heap.size + 1, 0, none⟩)] 50)).heap.size = w.heap.size + 1 + 1 + 1 := by simp
  have hvlt : ∀ b, v.ownBlock = some b → b < w.heap.size := fun b e => (h.out.own.lt _ e).2
  have hblk : ∀ b, b < w.heap.size → b ≠ bl → some b ≠ v.ownBlock → (W'.setCell ⟨bl, 21, none⟩ v').heap[b]? = w.heap[b]? := fun b hb h1 h2 => by
    rw [heap_setCell_other _ _ _ _ h1, hgr.block b (Nat.lt_of_lt_of_le hb gWA.size) h2, gWA.block b hb (by simp)]
  have hcell : ∀ b o u, b ≠ bl → some b ≠ v.ownBlock → w.cell? ⟨b, o, none⟩ = some u → (W'.setCell ⟨bl, 21, none⟩ v').cell? ⟨b, o, none⟩ = some u := fun b o u h1 h2 h3 => by
    rw [World.cell?_of_block (hblk b (World.block_lt_of_cell? w _ h3) h1 h2)]; exact h3
  have hnewA : ((((w.alloc (.cells (arrv id) 23)).drewN 1).alloc (.cells (candCells id k hop) 71)).alloc (.cells #[.pointer (some ⟨w.heap.size + 1, 0, none⟩)] 50)).heap[w.heap.size + 1]? = some (.cells (candCells id k hop) 71 (0, 0)) := by
    rw [Go.heap_alloc_old _ _ (by simp)]
    have := Go.heap_alloc_new ((w.alloc (.cells (arrv id) 23)).drewN 1) (.cells (candCells id k hop) 71)
    simpa using this
  have hnew : (W'.setCell ⟨bl, 21, none⟩ v').heap[w.heap.size + 1]? = some (.cells (candCells id k hop) 71 (0, 0)) := by
    rw [heap_setCell_other _ _ _ _ (by simp only; omega), hgr.block _ (by omega) (fun e => by have := hvlt _ e.symm; omega)]
    exact hnewA
  have hown1 : ∀ b, v'.ownBlock = some b → v.ownBlock = some b ∨ w.heap.size ≤ b := fun b e => by
    rcases hfre with k1 | k1
    · exact .inl (k1.symm.trans e)
    · rw [e] at k1; simp only [Option.some.injEq] at k1; right; omega
  have hnev : v'.ownBlock ≠ some (w.heap.size + 1) := fun e => by
    rcases hfre with k1 | k1
    · have := hvlt _ (k1.symm.trans e); omega
    · rw [e] at k1; simp only [Option.some.injEq] at k1; omega
  have hnebl : v'.ownBlock ≠ some bl := fun e => by
    rcases hown1 _ e with k1 | k1
    · exact h.out.ne k1
    · omega
  have hxlt : ∀ x, x < n → bs x < w.heap.size := fun x hx => World.block_lt_of_cell? w _ (h.out.known x hx)
  have hfin : Hid (∃ u bs', Added w (W'.setCell ⟨bl, 21, none⟩ v') base bl v u n tg bs bs' I K H) := by
    refine ⟨v', fun x => if x = n then w.heap.size + 1 else bs x, ?_, fun x hx => if_neg (by omega), by simp, ?_, ?_, ?_, ?_, hblk, hown1⟩
    · refine { cands := World.cell?_setCell_same _ _ _ c21, fz := by rw [World.frozen?_setCell]; exact z21, tgt := ?_, tlen := h.out.tlen, own := ?_, id := ?_, ilen := ?_, known := ?_, hop := ?_, ne := hnebl, nes := ?_, bsl := ?_, bl_ge := h.out.bl_ge, bs_ge := ?_ }
      · intro j u hj
        have hjl : j < 20 := by
          rcases Nat.lt_or_ge j 20 with q | q
          · exact q
          · rw [List.getElem?_eq_none (by rw [Array.length_toList, arrv_size, h.out.tlen]; exact q)] at hj; cases hj
        rw [World.cell?_setCell_other _ _ _ _ (by simp only [ne_eq, Addr.mk.injEq, and_true, true_and]; omega)]
        exact hgr.cell (gWA.cell (h.out.tgt j u hj) (by simp)) (fun e => h.out.ne e.symm)
      · have hp : ptrs (fun x => if x = n then w.heap.size + 1 else bs x) (n + 1) = ptrs bs n ++ [Value.pointer (some ⟨w.heap.size + 1, 0, none⟩)] := by
          simp only [ptrs, List.range_succ, List.map_append, List.map_cons, List.map_nil, if_pos]
          congr 1
          refine List.map_congr_left fun x hx => ?_
          rw [if_neg (by have := List.mem_range.1 hx; omega)]
        rw [hp]
        exact ownsRow_setCell_other hown' hnebl _
      all_goals (intro x hx; by_cases q : x = n)
      · subst q; rw [if_pos rfl, hI.out]; exact range_of_drop hnew (r := #[Value.int IntKind.u64 0, Value.int IntKind.u64 0, Value.pointer none, Value.int IntKind.u16 0, Value.bool k, Value.int IntKind.i64 0, Value.int IntKind.u64 0, Value.int IntKind.i64 0, Value.pointer none, Value.string { data := #[] }, Value.int IntKind.i64 hop].toList) (by simp [candCells])
      · rw [if_neg q]; intro j u hj; exact hcell _ _ _ (h.out.bsl x (by omega)) (fun e => h.out.nes x (by omega) e.symm) (h.out.id x (by omega) j u hj)
      · subst q; rw [hI.out]; exact hid
      · exact h.out.ilen x (by omega)
      · subst q; rw [if_pos rfl, hK.out, cell_of_row _ _ 24 _ 71 (0, 0) hnew]; simp [candCells, hsz]
      · rw [if_neg q]; exact hcell _ _ _ (h.out.bsl x (by omega)) (fun e => h.out.nes x (by omega) e.symm) (h.out.known x (by omega))
      · subst q; rw [if_pos rfl, hH.out, cell_of_row _ _ 30 _ 71 (0, 0) hnew]; simp [candCells, hsz]
      · rw [if_neg q]; exact hcell _ _ _ (h.out.bsl x (by omega)) (fun e => h.out.nes x (by omega) e.symm) (h.out.hop x (by omega))
      · rw [if_pos q]; exact hnev
      · rw [if_neg q]; intro e; rcases hown1 _ e with k1 | k1
        · exact h.out.nes x (by omega) k1
        · have := hxlt x (by omega); omega
      · rw [if_pos q]; omega
      · rw [if_neg q]; exact h.out.bsl x (by omega)
      · rw [if_pos q]; omega
      · rw [if_neg q]; exact h.out.bs_ge x (by omega)
    · exact hgr.os.trans gWA.os
    · exact hgr.tape.trans gWA.tape
    · exact hgr.output.trans gWA.output
    · rw [World.size_setCell]; exact Nat.le_trans gWA.size hgr.size
  rw [ev'] at hap hkS hfin
  clear hnw ev' hown' hfre hsA hblk hcell hnewA hnew hown1 hnev hnebl hxlt ownA
  go_enter Try.func14, Try.ntmps14
  go_wp2_with fail
  refine wp_region_held_drew (S := fun w' => w'.rangeAt w.heap.size 0 (arrv id).toList) (by kernel_rfl) hk0 (fun hHeld => ?_)
  refine wpAnyH_take (i := 0) (oi := { dst := some 8, op := Op.move (Operand.tmp 0), type := 33, pos := _, after := #[], guard := none }) (v := ?_) rfl (by kernel_rfl) (by kernel_rfl) (by kernel_rfl) (fun _ _ _ h => h) (Or.inl ⟨by rfl, ?_⟩) (by assumption) ?_
  rotate_left
  · intro w hSw
    go_simp
    try with_reducible rfl
  try simp only [Act.put, List.setIfInBounds_toArray, List.set_cons_zero, List.set_cons_succ]
  refine wpAnyH_take (i := 1) (oi := { dst := some 9, op := Op.move (Operand.tmp 0), type := 33, pos := _, after := #[], guard := none }) (v := ?_) rfl (by kernel_rfl) (by kernel_rfl) (by kernel_rfl) (fun _ _ _ h => h) (Or.inl ⟨by rfl, ?_⟩) (by assumption) ?_
  rotate_left
  · intro w hSw
    go_simp
    try with_reducible rfl
  try simp only [Act.put, List.setIfInBounds_toArray, List.set_cons_zero, List.set_cons_succ]
  refine wpAnyH_take (i := 2) (oi := { dst := some 10, op := Op.nilCheck (Operand.tmp 9), type := 0, pos := _, after := #[{ on := 1, ground := Ground.data }], guard := none }) (v := ?_) rfl (by kernel_rfl) (by kernel_rfl) (by kernel_rfl) (fun _ _ _ h => h) (Or.inl ⟨by rfl, ?_⟩) (by assumption) ?_
  rotate_left
  · intro w hSw
    go_simp
    try with_reducible rfl
  try simp only [Act.put, List.setIfInBounds_toArray, List.set_cons_zero, List.set_cons_succ]
  refine wpAnyH_take (i := 3) (oi := { dst := some 11, op := Op.fieldAddr 52 (Operand.tmp 10) 2, type := 0, pos := _, after := #[{ on := 2, ground := Ground.data }], guard := none }) (v := ?_) rfl (by kernel_rfl) (by kernel_rfl) (by kernel_rfl) (fun _ _ _ h => h) (Or.inl ⟨by rfl, ?_⟩) (by assumption) ?_
  rotate_left
  · intro w hSw
    go_simp
    try with_reducible rfl
  try simp only [Act.put, List.setIfInBounds_toArray, List.set_cons_zero, List.set_cons_succ]
  refine wpAnyH_take (i := 7) (oi := { dst := some 15, op := Op.move (Operand.tmp 2), type := 4, pos := _, after := #[], guard := none }) (v := ?_) rfl (by kernel_rfl) (by kernel_rfl) (by kernel_rfl) (fun _ _ _ h => h) (Or.inl ⟨by rfl, ?_⟩) (by assumption) ?_
  rotate_left
  · intro w hSw
    go_simp
    try with_reducible rfl
  try simp only [Act.put, List.setIfInBounds_toArray, List.set_cons_zero, List.set_cons_succ]
  refine wpAnyH_take (i := 8) (oi := { dst := some 16, op := Op.move (Operand.tmp 3), type := 3, pos := _, after := #[], guard := none }) (v := ?_) rfl (by kernel_rfl) (by kernel_rfl) (by kernel_rfl) (fun _ _ _ h => h) (Or.inl ⟨by rfl, ?_⟩) (by assumption) ?_
  rotate_left
  · intro w hSw
    go_simp
    try with_reducible rfl
  try simp only [Act.put, List.setIfInBounds_toArray, List.set_cons_zero, List.set_cons_succ]
  refine wpAnyH_take (i := 5) (oi := { dst := some 13, op := Op.load 23 (Operand.tmp 5), type := 23, pos := _, after := #[], guard := none }) (v := _) rfl (by kernel_rfl) (by kernel_rfl) (by kernel_rfl) (fun _ _ _ h => h) (yieldsIf_load_mid (by rfl) _ _ rfl _ _ rfl _ _ (fun w hSw => hSw) hu rfl iL) (by assumption) ?_
  try simp only [Act.put, List.setIfInBounds_toArray, List.set_cons_zero, List.set_cons_succ]
  refine wpAnyH_take (i := 6) (oi := { dst := some 14, op := Op.build 65 #[(0, Operand.tmp 13)], type := 65, pos := _, after := #[{ on := 5, ground := Ground.data }], guard := none }) (v := ?_) rfl (by kernel_rfl) (by kernel_rfl) (by kernel_rfl) (fun _ _ _ h => h) (Or.inl ⟨by rfl, ?_⟩) (by assumption) ?_
  rotate_left
  · intro w hSw
    go_simp
    try with_reducible rfl
  try simp only [Act.put, List.setIfInBounds_toArray, List.set_cons_zero, List.set_cons_succ]
  refine wpAnyH_take (i := 9) (oi := { dst := some 17, op := Op.build 71 #[(0, Operand.tmp 14), (1, Operand.tmp 15), (5, Operand.tmp 16)], type := 71, pos := _, after := #[{ on := 6, ground := Ground.data }, { on := 7, ground := Ground.data }, { on := 8, ground := Ground.data }], guard := none }) (v := ?_) rfl (by kernel_rfl) (by kernel_rfl) (by kernel_rfl) (fun _ _ _ h => h) (Or.inl ⟨by rfl, ?_⟩) (by assumption) ?_
  rotate_left
  · intro w hSw
    go_simp
    try with_reducible rfl
  try simp only [Act.put, List.setIfInBounds_toArray, List.set_cons_zero, List.set_cons_succ]
  refine wpAnyH_ready (rs := [4, 10]) (by kernel_rfl) (by simp) ?_
  refine AllReadyH.cons (o := { dst := some 12, op := Op.load 48 (Operand.tmp 11), type := 48, pos := _, after := #[{ on := 3, ground := Ground.data }], guard := none }) rfl (fun K hK => ?_) ?_
  · go_simp
    refine hK.out _ _ (by assumption) (fun hHeld => ?_)
    clear hK K
    try simp only [Act.put, List.setIfInBounds_toArray, List.set_cons_zero, List.set_cons_succ]
    refine wpAnyH_ready (rs := [10]) (by kernel_rfl) (by simp) ?_
    refine AllReadyH.cons (o := { dst := some 18, op := Op.box 71 (Operand.tmp 17), type := 50, pos := _, after := #[{ on := 9, ground := Ground.data }], guard := none }) rfl (fun K hK => ?_) AllReadyH.nil
    go_simp
    refine hK.out _ _ (by assumption) (fun hHeld => ?_)
    clear hK K
    try simp only [Act.put, List.setIfInBounds_toArray, List.set_cons_zero, List.set_cons_succ]
    refine wpAnyH_ready (rs := [11]) (by kernel_rfl) (by simp) ?_
    refine AllReadyH.cons (o := { dst := some 19, op := Op.buildSlice 48 1 #[(0, Operand.tmp 18)], type := 48, pos := _, after := #[{ on := 10, ground := Ground.data }], guard := none }) rfl (fun K hK => ?_) AllReadyH.nil
    go_simp
    refine hK.out _ _ (by assumption) (fun hHeld => ?_)
    clear hK K
    try simp only [Act.put, List.setIfInBounds_toArray, List.set_cons_zero, List.set_cons_succ]
    refine wpAnyH_ready (rs := [12]) (by kernel_rfl) (by simp) ?_
    refine AllReadyH.cons (o := { dst := some 20, op := Op.call { callee := Callee.builtin Builtin.append, args := #[Operand.tmp 12, Operand.tmp 19], argTypes := #[48, 48] }, type := 48, pos := _, after := #[{ on := 4, ground := Ground.data }, { on := 11, ground := Ground.data }], guard := none }) rfl (fun K hK => ?_) AllReadyH.nil
    rw [if_pos (by rfl)]; refine wp_append_run _ _ _ rfl _ _ rfl rfl hap ?_
    refine hK.out _ _ (by assumption) (fun hHeld => ?_)
    clear hK K
    try simp only [Act.put, List.setIfInBounds_toArray, List.set_cons_zero, List.set_cons_succ]
    refine wpAnyH_take (i := 13) (oi := { dst := some 21, op := Op.nilCheck (Operand.tmp 8), type := 0, pos := _, after := #[{ on := 0, ground := Ground.data }, { on := 0, ground := Ground.phase }, { on := 1, ground := Ground.phase }, { on := 2, ground := Ground.phase }, { on := 3, ground := Ground.phase }, { on := 4, ground := Ground.phase }, { on := 5, ground := Ground.phase }, { on := 6, ground := Ground.phase }, { on := 7, ground := Ground.phase }, { on := 8, ground := Ground.phase }, { on := 9, ground := Ground.phase }, { on := 10, ground := Ground.phase }, { on := 11, ground := Ground.phase }, { on := 12, ground := Ground.phase }], guard := none }) (v := ?_) rfl (by kernel_rfl) (by kernel_rfl) (by kernel_rfl) (fun _ _ _ h => h) (Or.inl ⟨by rfl, ?_⟩) (by assumption) ?_
    rotate_left
    · intro w hSw
      go_simp
      try with_reducible rfl
    try simp only [Act.put, List.setIfInBounds_toArray, List.set_cons_zero, List.set_cons_succ]
    refine wpAnyH_take (i := 14) (oi := { dst := some 22, op := Op.fieldAddr 52 (Operand.tmp 21) 2, type := 0, pos := _, after := #[{ on := 13, ground := Ground.data }, { on := 0, ground := Ground.phase }, { on := 1, ground := Ground.phase }, { on := 2, ground := Ground.phase }, { on := 3, ground := Ground.phase }, { on := 4, ground := Ground.phase }, { on := 5, ground := Ground.phase }, { on := 6, ground := Ground.phase }, { on := 7, ground := Ground.phase }, { on := 8, ground := Ground.phase }, { on := 9, ground := Ground.phase }, { on := 10, ground := Ground.phase }, { on := 11, ground := Ground.phase }, { on := 12, ground := Ground.phase }], guard := none }) (v := ?_) rfl (by kernel_rfl) (by kernel_rfl) (by kernel_rfl) (fun _ _ _ h => h) (Or.inl ⟨by rfl, ?_⟩) (by assumption) ?_
    rotate_left
    · intro w hSw
      go_simp
      try with_reducible rfl
    try simp only [Act.put, List.setIfInBounds_toArray, List.set_cons_zero, List.set_cons_succ]
    refine wpAnyH_ready (rs := [15]) (by kernel_rfl) (by simp) ?_
    refine AllReadyH.cons (o := { dst := none, op := Op.store 48 (Operand.tmp 22) (Operand.tmp 20), type := 0, pos := _, after := #[{ on := 14, ground := Ground.data }, { on := 12, ground := Ground.data }, { on := 12, ground := Ground.chain }, { on := 0, ground := Ground.phase }, { on := 1, ground := Ground.phase }, { on := 2, ground := Ground.phase }, { on := 3, ground := Ground.phase }, { on := 4, ground := Ground.phase }, { on := 5, ground := Ground.phase }, { on := 6, ground := Ground.phase }, { on := 7, ground := Ground.phase }, { on := 8, ground := Ground.phase }, { on := 9, ground := Ground.phase }, { on := 10, ground := Ground.phase }, { on := 11, ground := Ground.phase }, { on := 12, ground := Ground.phase }], guard := none }) rfl (fun K hK => ?_) AllReadyH.nil
    go_simp
    refine hK.out _ _ (by assumption) (fun hHeld => ?_)
    clear hK K
    try simp only [Act.put, List.setIfInBounds_toArray, List.set_cons_zero, List.set_cons_succ]
    refine wpAnyH_done (by kernel_rfl) ?_ _
    go_end0; exact ⟨rfl, hfin.out⟩
  refine AllReadyH.cons (o := { dst := some 18, op := Op.box 71 (Operand.tmp 17), type := 50, pos := _, after := #[{ on := 9, ground := Ground.data }], guard := none }) rfl (fun K hK => ?_) AllReadyH.nil
  go_simp
  refine hK.out _ _ (by assumption) (fun hHeld => ?_)
  clear hK K
  try simp only [Act.put, List.setIfInBounds_toArray, List.set_cons_zero, List.set_cons_succ]
  refine wpAnyH_ready (rs := [4, 11]) (by kernel_rfl) (by simp) ?_
  refine AllReadyH.cons (o := { dst := some 12, op := Op.load 48 (Operand.tmp 11), type := 48, pos := _, after := #[{ on := 3, ground := Ground.data }], guard := none }) rfl (fun K hK => ?_) ?_
  · go_simp
    refine hK.out _ _ (by assumption) (fun hHeld => ?_)
    clear hK K
    try simp only [Act.put, List.setIfInBounds_toArray, List.set_cons_zero, List.set_cons_succ]
    refine wpAnyH_ready (rs := [11]) (by kernel_rfl) (by simp) ?_
    refine AllReadyH.cons (o := { dst := some 19, op := Op.buildSlice 48 1 #[(0, Operand.tmp 18)], type := 48, pos := _, after := #[{ on := 10, ground := Ground.data }], guard := none }) rfl (fun K hK => ?_) AllReadyH.nil
    go_simp
    refine hK.out _ _ (by assumption) (fun hHeld => ?_)
    clear hK K
    try simp only [Act.put, List.setIfInBounds_toArray, List.set_cons_zero, List.set_cons_succ]
    refine wpAnyH_ready (rs := [12]) (by kernel_rfl) (by simp) ?_
    refine AllReadyH.cons (o := { dst := some 20, op := Op.call { callee := Callee.builtin Builtin.append, args := #[Operand.tmp 12, Operand.tmp 19], argTypes := #[48, 48] }, type := 48, pos := _, after := #[{ on := 4, ground := Ground.data }, { on := 11, ground := Ground.data }], guard := none }) rfl (fun K hK => ?_) AllReadyH.nil
    rw [if_pos (by rfl)]; refine wp_append_run _ _ _ rfl _ _ rfl rfl hap ?_
    refine hK.out _ _ (by assumption) (fun hHeld => ?_)
    clear hK K
    try simp only [Act.put, List.setIfInBounds_toArray, List.set_cons_zero, List.set_cons_succ]
    refine wpAnyH_take (i := 13) (oi := { dst := some 21, op := Op.nilCheck (Operand.tmp 8), type := 0, pos := _, after := #[{ on := 0, ground := Ground.data }, { on := 0, ground := Ground.phase }, { on := 1, ground := Ground.phase }, { on := 2, ground := Ground.phase }, { on := 3, ground := Ground.phase }, { on := 4, ground := Ground.phase }, { on := 5, ground := Ground.phase }, { on := 6, ground := Ground.phase }, { on := 7, ground := Ground.phase }, { on := 8, ground := Ground.phase }, { on := 9, ground := Ground.phase }, { on := 10, ground := Ground.phase }, { on := 11, ground := Ground.phase }, { on := 12, ground := Ground.phase }], guard := none }) (v := ?_) rfl (by kernel_rfl) (by kernel_rfl) (by kernel_rfl) (fun _ _ _ h => h) (Or.inl ⟨by rfl, ?_⟩) (by assumption) ?_
    rotate_left
    · intro w hSw
      go_simp
      try with_reducible rfl
    try simp only [Act.put, List.setIfInBounds_toArray, List.set_cons_zero, List.set_cons_succ]
    refine wpAnyH_take (i := 14) (oi := { dst := some 22, op := Op.fieldAddr 52 (Operand.tmp 21) 2, type := 0, pos := _, after := #[{ on := 13, ground := Ground.data }, { on := 0, ground := Ground.phase }, { on := 1, ground := Ground.phase }, { on := 2, ground := Ground.phase }, { on := 3, ground := Ground.phase }, { on := 4, ground := Ground.phase }, { on := 5, ground := Ground.phase }, { on := 6, ground := Ground.phase }, { on := 7, ground := Ground.phase }, { on := 8, ground := Ground.phase }, { on := 9, ground := Ground.phase }, { on := 10, ground := Ground.phase }, { on := 11, ground := Ground.phase }, { on := 12, ground := Ground.phase }], guard := none }) (v := ?_) rfl (by kernel_rfl) (by kernel_rfl) (by kernel_rfl) (fun _ _ _ h => h) (Or.inl ⟨by rfl, ?_⟩) (by assumption) ?_
    rotate_left
    · intro w hSw
      go_simp
      try with_reducible rfl
    try simp only [Act.put, List.setIfInBounds_toArray, List.set_cons_zero, List.set_cons_succ]
    refine wpAnyH_ready (rs := [15]) (by kernel_rfl) (by simp) ?_
    refine AllReadyH.cons (o := { dst := none, op := Op.store 48 (Operand.tmp 22) (Operand.tmp 20), type := 0, pos := _, after := #[{ on := 14, ground := Ground.data }, { on := 12, ground := Ground.data }, { on := 12, ground := Ground.chain }, { on := 0, ground := Ground.phase }, { on := 1, ground := Ground.phase }, { on := 2, ground := Ground.phase }, { on := 3, ground := Ground.phase }, { on := 4, ground := Ground.phase }, { on := 5, ground := Ground.phase }, { on := 6, ground := Ground.phase }, { on := 7, ground := Ground.phase }, { on := 8, ground := Ground.phase }, { on := 9, ground := Ground.phase }, { on := 10, ground := Ground.phase }, { on := 11, ground := Ground.phase }, { on := 12, ground := Ground.phase }], guard := none }) rfl (fun K hK => ?_) AllReadyH.nil
    go_simp
    refine hK.out _ _ (by assumption) (fun hHeld => ?_)
    clear hK K
    try simp only [Act.put, List.setIfInBounds_toArray, List.set_cons_zero, List.set_cons_succ]
    refine wpAnyH_done (by kernel_rfl) ?_ _
    go_end0; exact ⟨rfl, hfin.out⟩
  refine AllReadyH.cons (o := { dst := some 19, op := Op.buildSlice 48 1 #[(0, Operand.tmp 18)], type := 48, pos := _, after := #[{ on := 10, ground := Ground.data }], guard := none }) rfl (fun K hK => ?_) AllReadyH.nil
  go_simp
  refine hK.out _ _ (by assumption) (fun hHeld => ?_)
  clear hK K
  try simp only [Act.put, List.setIfInBounds_toArray, List.set_cons_zero, List.set_cons_succ]
  refine wpAnyH_ready (rs := [4]) (by kernel_rfl) (by simp) ?_
  refine AllReadyH.cons (o := { dst := some 12, op := Op.load 48 (Operand.tmp 11), type := 48, pos := _, after := #[{ on := 3, ground := Ground.data }], guard := none }) rfl (fun K hK => ?_) AllReadyH.nil
  go_simp
  refine hK.out _ _ (by assumption) (fun hHeld => ?_)
  clear hK K
  try simp only [Act.put, List.setIfInBounds_toArray, List.set_cons_zero, List.set_cons_succ]
  refine wpAnyH_ready (rs := [12]) (by kernel_rfl) (by simp) ?_
  refine AllReadyH.cons (o := { dst := some 20, op := Op.call { callee := Callee.builtin Builtin.append, args := #[Operand.tmp 12, Operand.tmp 19], argTypes := #[48, 48] }, type := 48, pos := _, after := #[{ on := 4, ground := Ground.data }, { on := 11, ground := Ground.data }], guard := none }) rfl (fun K hK => ?_) AllReadyH.nil
  rw [if_pos (by rfl)]; refine wp_append_run _ _ _ rfl _ _ rfl rfl hap ?_
  refine hK.out _ _ (by assumption) (fun hHeld => ?_)
  clear hK K
  try simp only [Act.put, List.setIfInBounds_toArray, List.set_cons_zero, List.set_cons_succ]
  refine wpAnyH_take (i := 13) (oi := { dst := some 21, op := Op.nilCheck (Operand.tmp 8), type := 0, pos := _, after := #[{ on := 0, ground := Ground.data }, { on := 0, ground := Ground.phase }, { on := 1, ground := Ground.phase }, { on := 2, ground := Ground.phase }, { on := 3, ground := Ground.phase }, { on := 4, ground := Ground.phase }, { on := 5, ground := Ground.phase }, { on := 6, ground := Ground.phase }, { on := 7, ground := Ground.phase }, { on := 8, ground := Ground.phase }, { on := 9, ground := Ground.phase }, { on := 10, ground := Ground.phase }, { on := 11, ground := Ground.phase }, { on := 12, ground := Ground.phase }], guard := none }) (v := ?_) rfl (by kernel_rfl) (by kernel_rfl) (by kernel_rfl) (fun _ _ _ h => h) (Or.inl ⟨by rfl, ?_⟩) (by assumption) ?_
  rotate_left
  · intro w hSw
    go_simp
    try with_reducible rfl
  try simp only [Act.put, List.setIfInBounds_toArray, List.set_cons_zero, List.set_cons_succ]
  refine wpAnyH_take (i := 14) (oi := { dst := some 22, op := Op.fieldAddr 52 (Operand.tmp 21) 2, type := 0, pos := _, after := #[{ on := 13, ground := Ground.data }, { on := 0, ground := Ground.phase }, { on := 1, ground := Ground.phase }, { on := 2, ground := Ground.phase }, { on := 3, ground := Ground.phase }, { on := 4, ground := Ground.phase }, { on := 5, ground := Ground.phase }, { on := 6, ground := Ground.phase }, { on := 7, ground := Ground.phase }, { on := 8, ground := Ground.phase }, { on := 9, ground := Ground.phase }, { on := 10, ground := Ground.phase }, { on := 11, ground := Ground.phase }, { on := 12, ground := Ground.phase }], guard := none }) (v := ?_) rfl (by kernel_rfl) (by kernel_rfl) (by kernel_rfl) (fun _ _ _ h => h) (Or.inl ⟨by rfl, ?_⟩) (by assumption) ?_
  rotate_left
  · intro w hSw
    go_simp
    try with_reducible rfl
  try simp only [Act.put, List.setIfInBounds_toArray, List.set_cons_zero, List.set_cons_succ]
  refine wpAnyH_ready (rs := [15]) (by kernel_rfl) (by simp) ?_
  refine AllReadyH.cons (o := { dst := none, op := Op.store 48 (Operand.tmp 22) (Operand.tmp 20), type := 0, pos := _, after := #[{ on := 14, ground := Ground.data }, { on := 12, ground := Ground.data }, { on := 12, ground := Ground.chain }, { on := 0, ground := Ground.phase }, { on := 1, ground := Ground.phase }, { on := 2, ground := Ground.phase }, { on := 3, ground := Ground.phase }, { on := 4, ground := Ground.phase }, { on := 5, ground := Ground.phase }, { on := 6, ground := Ground.phase }, { on := 7, ground := Ground.phase }, { on := 8, ground := Ground.phase }, { on := 9, ground := Ground.phase }, { on := 10, ground := Ground.phase }, { on := 11, ground := Ground.phase }, { on := 12, ground := Ground.phase }], guard := none }) rfl (fun K hK => ?_) AllReadyH.nil
  go_simp
  refine hK.out _ _ (by assumption) (fun hHeld => ?_)
  clear hK K
  try simp only [Act.put, List.setIfInBounds_toArray, List.set_cons_zero, List.set_cons_succ]
  refine wpAnyH_done (by kernel_rfl) ?_ _
  go_end0; exact ⟨rfl, hfin.out⟩
end Go.Proofs.Qxb6617018a
