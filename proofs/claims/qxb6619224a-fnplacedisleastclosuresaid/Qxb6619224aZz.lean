/- The walk of ZZHistoryPlaced. -/
import Derived.Test.Qxb6619224aPlaced
import Derived.Deep.RegionHeld3
import Derived.Deep.DrawnRows
import Derived.Deep.DeepCutAuto
import Derived.RegionTactic
namespace Go.Proofs.Qxb6619224a
open Go.RowKit Pl

theorem info40 : (Try.prog.info? 40).map (fun i => (i.zero, i.size, i.bytes)) = some (some (Value.agg #[.int .i64 0, .int .i64 0, .bool false]), 3, 24) := by kernel_rfl
theorem info43 : (Try.prog.info? 43).map (fun i => (i.zero, i.size, i.bytes)) = some (some (Value.agg #[.int .u8 0, .int .i64 0, .int .i64 0]), 3, 24) := by kernel_rfl

theorem make30 (n : Nat) (h : n ≤ 16384) (w : World) : (Instr.makeSlice 30 (.int .i64 (n : Int)) (.int .i64 (n : Int))).run Try.prog w = .ok (.slice (some ⟨w.heap.size, 0, none⟩) n n) (w.alloc (.cells (madeCells #[.int .i64 0, .int .i64 0, .bool false] (n * 3)) 40)) := by
  obtain ⟨i, hi, e⟩ := Option.map_eq_some_iff.1 info40
  simp only [Prod.mk.injEq] at e
  have hr := run_make (P := Try.prog) w 30 40 i _ Try.underlying30 hi e.1 .i64 .i64 n n (by omega) (by omega) (by rw [e.2.2]; omega) (by omega)
  rw [e.2.1, Int.toNat_natCast] at hr
  exact hr
theorem make31 (n : Nat) (h : n ≤ 16384) (w : World) : (Instr.makeSlice 31 (.int .i64 (n : Int)) (.int .i64 (n : Int))).run Try.prog w = .ok (.slice (some ⟨w.heap.size, 0, none⟩) n n) (w.alloc (.cells (madeCells #[.int .u8 0, .int .i64 0, .int .i64 0] (n * 3)) 43)) := by
  obtain ⟨i, hi, e⟩ := Option.map_eq_some_iff.1 info43
  simp only [Prod.mk.injEq] at e
  have hr := run_make (P := Try.prog) w 31 43 i _ Try.underlying31 hi e.1 .i64 .i64 n n (by omega) (by omega) (by rw [e.2.2]; omega) (by omega)
  rw [e.2.1, Int.toNat_natCast] at hr
  exact hr

/-- What lies in memory behind i rounds: the History and its two slices' rows. -/
structure ZMem (n : Nat) (w : World) (go gc : Nat) (rest : List Value) (P : Nat → Bool) (K V : Nat → Int) (i ic : Nat) (wr : World) : Prop where
  below : Below w.heap.size w wr
  lo : w.heap.size ≤ go
  lc : w.heap.size ≤ gc
  no : go ≠ w.heap.size + 1 + 1
  nc : gc ≠ w.heap.size + 1 + 1
  ne : go ≠ gc
  hist : wr.heap[w.heap.size + 1 + 1]? = some (.cells (.slice (some ⟨go, 0, none⟩) n n :: .slice (some ⟨gc, 0, none⟩) n n :: rest).toArray 38 (0, 0))
  ops : ∃ arr, wr.heap[go]? = some (.cells arr 40 (0, 0)) ∧ arr.size = n * 3 ∧ ∀ j, j < i → arr[j * 3 + 2]? = some (.bool (P j))
  calls : ∃ arr, wr.heap[gc]? = some (.cells arr 43 (0, 0)) ∧ arr.size = n * 3 ∧ ∀ j, j < ic → arr[j * 3]? = some (.int .u8 (K j)) ∧ arr[j * 3 + 1]? = some (.int .i64 (V j)) ∧ ∃ t : Int, arr[j * 3 + 2]? = some (.int .i64 t)

theorem three_blocks (w : World) (A B C : Obj) : (((w.alloc A).alloc B).alloc C).heap.size = w.heap.size + 3 ∧ (((w.alloc A).alloc B).alloc C).heap[w.heap.size]? = some A ∧
    (((w.alloc A).alloc B).alloc C).heap[w.heap.size + 1]? = some B ∧ (((w.alloc A).alloc B).alloc C).heap[w.heap.size + 1 + 1]? = some C ∧ Below w.heap.size w (((w.alloc A).alloc B).alloc C) := by
  refine ⟨by simp, ?_, ?_, ?_, (((Below.refl _ _).alloc (Nat.le_refl _) _).alloc (by simp) _).alloc (by simp; omega) _⟩
  · rw [Below.heap_alloc _ _ _ (by simp; omega), Below.heap_alloc _ _ _ (by simp)]; exact Go.heap_alloc_new _ _
  · rw [Below.heap_alloc _ _ _ (by simp)]; have := Go.heap_alloc_new (w.alloc A) B; simpa using this
  · have := Go.heap_alloc_new ((w.alloc A).alloc B) C; simpa using this

theorem far_block3 (w : World) (g i j k : Nat) (a b c : Value) {B : Nat} (h : B ≠ g) : (((w.setCell ⟨g, i, none⟩ a).setCell ⟨g, j, none⟩ b).setCell ⟨g, k, none⟩ c).heap[B]? = w.heap[B]? :=
  ((Below.heap_setCell _ _ _ _ h).trans (Below.heap_setCell _ _ _ _ h)).trans (Below.heap_setCell _ _ _ _ h)

/-- Three stores into one block: a cell of another block is as it was. -/
theorem far3 (w : World) (g i j k : Nat) (a b c : Value) {B : Nat} (h : B ≠ g) (o : Nat) : (((w.setCell ⟨g, i, none⟩ a).setCell ⟨g, j, none⟩ b).setCell ⟨g, k, none⟩ c).cell? ⟨B, o, none⟩ = w.cell? ⟨B, o, none⟩ :=
  World.cell?_of_block (((Below.heap_setCell _ _ _ _ h).trans (Below.heap_setCell _ _ _ _ h)).trans (Below.heap_setCell _ _ _ _ h))

section
variable {n : Nat} {w wr : World} {go gc : Nat} {rest : List Value} {P : Nat → Bool} {K V : Nat → Int} {i ic : Nat}

theorem ZMem.start1 : ZMem n w w.heap.size (w.heap.size + 1) rest P K V 0 0 (((w.alloc (.cells (madeCells #[.int .i64 0, .int .i64 0, .bool false] (n * 3)) 40)).alloc (.cells (madeCells #[.int .u8 0, .int .i64 0, .int .i64 0] (n * 3)) 43)).alloc
    (.cells (.slice (some ⟨w.heap.size, 0, none⟩) n n :: .slice (some ⟨w.heap.size + 1, 0, none⟩) n n :: rest).toArray 38)).drew := by
  obtain ⟨_, h1, h2, h3, h4⟩ := three_blocks w (.cells (madeCells #[.int .i64 0, .int .i64 0, .bool false] (n * 3)) 40) (.cells (madeCells #[.int .u8 0, .int .i64 0, .int .i64 0] (n * 3)) 43) (.cells (.slice (some ⟨w.heap.size, 0, none⟩) n n :: .slice (some ⟨w.heap.size + 1, 0, none⟩) n n :: rest).toArray 38)
  exact { below := h4.drew, lo := by omega, lc := by omega, no := by omega, nc := by omega, ne := by omega, hist := h3, ops := ⟨_, h1, size_madeCells _ _, fun j hj => by omega⟩, calls := ⟨_, h2, size_madeCells _ _, fun j hj => by omega⟩ }

theorem ZMem.start2 : ZMem n w (w.heap.size + 1) w.heap.size rest P K V 0 0 (((w.alloc (.cells (madeCells #[.int .u8 0, .int .i64 0, .int .i64 0] (n * 3)) 43)).alloc (.cells (madeCells #[.int .i64 0, .int .i64 0, .bool false] (n * 3)) 40)).alloc
    (.cells (.slice (some ⟨w.heap.size + 1, 0, none⟩) n n :: .slice (some ⟨w.heap.size, 0, none⟩) n n :: rest).toArray 38)).drew := by
  obtain ⟨_, h1, h2, h3, h4⟩ := three_blocks w (.cells (madeCells #[.int .u8 0, .int .i64 0, .int .i64 0] (n * 3)) 43) (.cells (madeCells #[.int .i64 0, .int .i64 0, .bool false] (n * 3)) 40) (.cells (.slice (some ⟨w.heap.size + 1, 0, none⟩) n n :: .slice (some ⟨w.heap.size, 0, none⟩) n n :: rest).toArray 38)
  exact { below := h4.drew, lo := by omega, lc := by omega, no := by omega, nc := by omega, ne := by omega, hist := h3, ops := ⟨_, h2, size_madeCells _ _, fun j hj => by omega⟩, calls := ⟨_, h1, size_madeCells _ _, fun j hj => by omega⟩ }

theorem ZMem.setO (h : ZMem n w go gc rest P K V i ic wr) (hi : i < n) (x1 x2 : Int) : ZMem n w go gc rest P K V (i + 1) ic (((wr.setCell ⟨go, i * 3, none⟩ (.int .i64 x1)).setCell ⟨go, i * 3 + 1, none⟩ (.int .i64 x2)).setCell ⟨go, i * 3 + 2, none⟩ (.bool (P i))).drew := by
  obtain ⟨arr, o1, o2, o3⟩ := h.ops
  have lo := h.lo
  refine { h with below := (((h.below.setCell lo _).setCell lo _).setCell lo _).drew, hist := (far_block3 wr go _ _ _ _ _ _ (fun e => h.no e.symm)).trans h.hist, calls := ?_, ops := ?_ }
  · have e1 := heap_setCell_same wr go (i * 3) _ _ (.int .i64 x1) o1
    have e2 := heap_setCell_same _ go (i * 3 + 1) _ _ (.int .i64 x2) e1
    have e3 := heap_setCell_same _ go (i * 3 + 2) _ _ (.bool (P i)) e2
    refine ⟨_, e3, by simp [o2], ?_⟩
    intro j hj
    by_cases e : j = i
    · subst e
      rw [Array.getElem?_setIfInBounds_self_of_lt (by simp [o2]; omega)]
    · rw [Array.getElem?_setIfInBounds_ne (by omega), Array.getElem?_setIfInBounds_ne (by omega), Array.getElem?_setIfInBounds_ne (by omega)]
      exact o3 j (by omega)
  · obtain ⟨arr, c1, c2, c3⟩ := h.calls
    exact ⟨arr, (far_block3 wr go _ _ _ _ _ _ (fun e => h.ne e.symm)).trans c1, c2, c3⟩

theorem ZMem.setC (h : ZMem n w go gc rest P K V i ic wr) (hi : ic < n) (t : Int) : ZMem n w go gc rest P K V i (ic + 1) (((wr.setCell ⟨gc, ic * 3, none⟩ (.int .u8 (K ic))).setCell ⟨gc, ic * 3 + 1, none⟩ (.int .i64 (V ic))).setCell ⟨gc, ic * 3 + 2, none⟩ (.int .i64 t)).drew := by
  obtain ⟨arr, o1, o2, o3⟩ := h.calls
  have lc := h.lc
  refine { h with below := (((h.below.setCell lc _).setCell lc _).setCell lc _).drew, hist := (far_block3 wr gc _ _ _ _ _ _ (fun e => h.nc e.symm)).trans h.hist, calls := ?_, ops := ?_ }
  · obtain ⟨arr, c1, c2, c3⟩ := h.ops
    exact ⟨arr, (far_block3 wr gc _ _ _ _ _ _ h.ne).trans c1, c2, c3⟩
  · have e1 := heap_setCell_same wr gc (ic * 3) _ _ (.int .u8 (K ic)) o1
    have e2 := heap_setCell_same _ gc (ic * 3 + 1) _ _ (.int .i64 (V ic)) e1
    have e3 := heap_setCell_same _ gc (ic * 3 + 2) _ _ (.int .i64 t) e2
    refine ⟨_, e3, by simp [o2], ?_⟩
    intro j hj
    by_cases e : j = ic
    · subst e
      refine ⟨?_, ?_, t, ?_⟩
      · rw [Array.getElem?_setIfInBounds_ne (by omega), Array.getElem?_setIfInBounds_ne (by omega), Array.getElem?_setIfInBounds_self_of_lt (by omega)]
      · rw [Array.getElem?_setIfInBounds_ne (by omega), Array.getElem?_setIfInBounds_self_of_lt (by simp [o2]; omega)]
      · rw [Array.getElem?_setIfInBounds_self_of_lt (by simp [o2]; omega)]
    · obtain ⟨p1, p2, t', p3⟩ := o3 j (by omega)
      refine ⟨?_, ?_, t', ?_⟩
      · rw [Array.getElem?_setIfInBounds_ne (by omega), Array.getElem?_setIfInBounds_ne (by omega), Array.getElem?_setIfInBounds_ne (by omega)]; exact p1
      · rw [Array.getElem?_setIfInBounds_ne (by omega), Array.getElem?_setIfInBounds_ne (by omega), Array.getElem?_setIfInBounds_ne (by omega)]; exact p2
      · rw [Array.getElem?_setIfInBounds_ne (by omega), Array.getElem?_setIfInBounds_ne (by omega), Array.getElem?_setIfInBounds_ne (by omega)]; exact p3

theorem ZMem.old (h : ZMem n w go gc rest P K V i ic wr) {a : Addr} {v : Value} (hc : w.cell? a = some v) : wr.cell? a = some v := (h.below.cell (p := a) (block_lt_of_cell hc)).trans hc
theorem ZMem.ch0 (h : ZMem n w go gc rest P K V i ic wr) : wr.cell? ⟨w.heap.size + 1 + 1, 0, none⟩ = some (.slice (some ⟨go, 0, none⟩) n n) := by rw [cell_of_row wr _ 0 _ _ _ h.hist]; rfl
theorem ZMem.ch1 (h : ZMem n w go gc rest P K V i ic wr) : wr.cell? ⟨w.heap.size + 1 + 1, 1, none⟩ = some (.slice (some ⟨gc, 0, none⟩) n n) := by rw [cell_of_row wr _ 1 _ _ _ h.hist]; rfl
end

set_option maxHeartbeats 1000000 in
theorem zz_any (n m : Nat) (P : Nat → Bool) (K V Wr : Nat → Int) (ok : Hid (Ok n m K V Wr)) (ai ar ap ak av at' aw : Option Addr) (ci cr cp ck cv ct cw gi gr gp gkd gv gt gw : Nat) (w : World) (hn : n ≤ 16384)
    (hai : Hid (0 < n → ai = some ⟨gi, 0, none⟩)) (har : Hid (0 < n → ar = some ⟨gr, 0, none⟩)) (hap : Hid (0 < n → ap = some ⟨gp, 0, none⟩)) (hak : Hid (0 < n → ak = some ⟨gkd, 0, none⟩)) (hav : Hid (0 < n → av = some ⟨gv, 0, none⟩)) (hat : Hid (0 < n → at' = some ⟨gt, 0, none⟩))
    (haw : Hid (0 < m → aw = some ⟨gw, 0, none⟩))
    (xi : Hid (∀ j, j < n → ∃ x : Int, w.cell? ⟨gi, j, none⟩ = some (.int .i64 x))) (xr : Hid (∀ j, j < n → ∃ x : Int, w.cell? ⟨gr, j, none⟩ = some (.int .i64 x))) (xp : Hid (∀ j, j < n → w.cell? ⟨gp, j, none⟩ = some (.bool (P j))))
    (xk : Hid (∀ j, j < n → w.cell? ⟨gkd, j, none⟩ = some (.int .u8 (K j)))) (xv : Hid (∀ j, j < n → w.cell? ⟨gv, j, none⟩ = some (.int .i64 (V j)))) (xt : Hid (∀ j, j < n → ∃ x : Int, w.cell? ⟨gt, j, none⟩ = some (.int .i64 x)))
    (xw : Hid (∀ v, v < m → w.cell? ⟨gw, v, none⟩ = some (.int .i64 (Wr v)))) :
    Calls Try.prog 5 #[.slice ai n ci, .slice ar n cr, .slice ap n cp, .slice ak n ck, .slice av n cv, .slice at' n ct, .slice aw m cw] w fun e w' =>
      Below w.heap.size w w' ∧ ((∃ gp sl, e = .returned (.tuple #[.slice (some ⟨gp, 0, none⟩) n n, .bool true]) ∧ OInv n P K V Wr n sl ∧ w'.heap[gp]? = some (.cells (bools sl) 4 (0, 0))) ∨ (e = .returned (.tuple #[.slice none 0 0, .bool false]) ∧ Bad n P K V Wr)) := by
  have k1 := make30 n hn
  have k2 := make31 n hn
  go_enter Try.func5, Try.ntmps5
  go_upto_region 1 with fail
  go_cut [16] (fun v wc => ∃ go gc rest, v = .pointer (some ⟨w.heap.size + 1 + 1, 0, none⟩) ∧ Hid (ZMem n w go gc rest P K V 0 0 wc))
  case first =>
    go_region
    all_goals go_wp2_with fail
    all_goals go_meet
    · exact ⟨_, _, _, rfl, ZMem.start1⟩
    · exact ⟨_, _, _, rfl, ZMem.start2⟩
  case rest =>
    obtain ⟨go, gc, rest, rfl, hZ⟩ := hcut
    clear k1 k2
    go_wp2_with fail
    go_loopg [28] n (fun g v wr => ∃ i : Nat, v = .int .i64 (i : Int) ∧ i ≤ n ∧ Hid (g = n - i) ∧ Hid (ZMem n w go gc rest P K V i i wr))
    case atStart => exact ⟨0, rfl, Nat.zero_le _, rfl, hZ⟩
    case round =>
      obtain ⟨i, rfl, hi, hg, hM⟩ := hrel
      clear hZ
      by_cases hlt : i < n
      · have hlt1 : (i : Int) < (n : Int) := by omega
        have hlt0 : (0 : Int) ≤ (i : Int) := by omega
        obtain rfl := hai.out (by omega)
        obtain rfl := har.out (by omega)
        obtain rfl := hap.out (by omega)
        obtain rfl := hak.out (by omega)
        obtain rfl := hav.out (by omega)
        obtain rfl := hat.out (by omega)
        obtain ⟨x1, q1⟩ := xi.out i hlt
        obtain ⟨x2, q2⟩ := xr.out i hlt
        have q3 := xp.out i hlt
        have r1 := hM.out.old q1
        have r2 := hM.out.old q2
        have r3 := hM.out.old q3
        have ch := hM.out.ch0
        obtain ⟨arrO, o1, o2, o3⟩ := hM.out.ops
        have fo : ∀ k, wr.frozen? ⟨go, k, none⟩ = false := fun k => frozen_of_row wr go k _ _ o1
        obtain ⟨u0, s0⟩ : ∃ v, wr.cell? ⟨go, i * 3, none⟩ = some v := ⟨_, (cell_of_row wr go (i * 3) _ _ _ o1).trans (Array.getElem?_eq_getElem (by omega))⟩
        obtain ⟨u1, s1⟩ : ∃ v, wr.cell? ⟨go, i * 3 + 1, none⟩ = some v := ⟨_, (cell_of_row wr go (i * 3 + 1) _ _ _ o1).trans (Array.getElem?_eq_getElem (by omega))⟩
        obtain ⟨u2, s2⟩ : ∃ v, wr.cell? ⟨go, i * 3 + 2, none⟩ = some v := ⟨_, (cell_of_row wr go (i * 3 + 2) _ _ _ o1).trans (Array.getElem?_eq_getElem (by omega))⟩
        have n0 : w.heap.size + 1 + 1 ≠ go := fun e => hM.out.no e.symm
        have b1 : gi < w.heap.size := block_lt_of_cell q1
        have b2 : gr < w.heap.size := block_lt_of_cell q2
        have b3 : gp < w.heap.size := block_lt_of_cell q3
        have lo := hM.out.lo
        have n1 : gi ≠ go := by omega
        have n2 : gr ≠ go := by omega
        have n3 : gp ≠ go := by omega
        have t0 := (far3 wr go (i * 3) (i * 3 + 1) (i * 3 + 2) (.int .i64 x1) (.int .i64 x2) (.bool (P i)) n0 0).trans ch
        have t1 := (far3 wr go (i * 3) (i * 3 + 1) (i * 3 + 2) (.int .i64 x1) (.int .i64 x2) (.bool (P i)) n1 i).trans r1
        have t2 := (far3 wr go (i * 3) (i * 3 + 1) (i * 3 + 2) (.int .i64 x1) (.int .i64 x2) (.bool (P i)) n2 i).trans r2
        have t3 := (far3 wr go (i * 3) (i * 3 + 1) (i * 3 + 2) (.int .i64 x1) (.int .i64 x2) (.bool (P i)) n3 i).trans r3
        have O1 : Hid _ := o1
        have O3 : Hid _ := o3
        clear o1 o3 q1 q2 q3
        go_wp2_with fail
        go_region_held3 (fun w' => w'.cell? ⟨w.heap.size + 1 + 1, 0, none⟩ = some (.slice (some ⟨go, 0, none⟩) n n) ∧ w'.cell? ⟨gi, i, none⟩ = some (.int .i64 x1) ∧ w'.cell? ⟨gr, i, none⟩ = some (.int .i64 x2) ∧ w'.cell? ⟨gp, i, none⟩ = some (.bool (P i))) (go_keep) (fail)
        have HM1 : Hid _ := hM.out.setO hlt x1 x2
        clear t0 t1 t2 t3 s0 s1 s2 fo O1 O3 r1 r2 r3 ch hM
        generalize (((wr.setCell ⟨go, i * 3, none⟩ (.int .i64 x1)).setCell ⟨go, i * 3 + 1, none⟩ (.int .i64 x2)).setCell ⟨go, i * 3 + 2, none⟩ (.bool (P i))).drew = W5 at *
        have q1 := xk.out i hlt
        have q2 := xv.out i hlt
        obtain ⟨x3, q3⟩ := xt.out i hlt
        have r1 := HM1.out.old q1
        have r2 := HM1.out.old q2
        have r3 := HM1.out.old q3
        have ch := HM1.out.ch1
        obtain ⟨arrC, o1, o4, o3⟩ := HM1.out.calls
        have fo : ∀ k, W5.frozen? ⟨gc, k, none⟩ = false := fun k => frozen_of_row W5 gc k _ _ o1
        obtain ⟨u0, s0⟩ : ∃ v, W5.cell? ⟨gc, i * 3, none⟩ = some v := ⟨_, (cell_of_row W5 gc (i * 3) _ _ _ o1).trans (Array.getElem?_eq_getElem (by omega))⟩
        obtain ⟨u1, s1⟩ : ∃ v, W5.cell? ⟨gc, i * 3 + 1, none⟩ = some v := ⟨_, (cell_of_row W5 gc (i * 3 + 1) _ _ _ o1).trans (Array.getElem?_eq_getElem (by omega))⟩
        obtain ⟨u2, s2⟩ : ∃ v, W5.cell? ⟨gc, i * 3 + 2, none⟩ = some v := ⟨_, (cell_of_row W5 gc (i * 3 + 2) _ _ _ o1).trans (Array.getElem?_eq_getElem (by omega))⟩
        have m0 : w.heap.size + 1 + 1 ≠ gc := fun e => HM1.out.nc e.symm
        have b4 : gkd < w.heap.size := block_lt_of_cell q1
        have b5 : gv < w.heap.size := block_lt_of_cell q2
        have b6 : gt < w.heap.size := block_lt_of_cell q3
        have lc := HM1.out.lc
        have m1 : gkd ≠ gc := by omega
        have m2 : gv ≠ gc := by omega
        have m3 : gt ≠ gc := by omega
        have t0 := (far3 W5 gc (i * 3) (i * 3 + 1) (i * 3 + 2) (.int .u8 (K i)) (.int .i64 (V i)) (.int .i64 x3) m0 1).trans ch
        have t1 := (far3 W5 gc (i * 3) (i * 3 + 1) (i * 3 + 2) (.int .u8 (K i)) (.int .i64 (V i)) (.int .i64 x3) m1 i).trans r1
        have t2 := (far3 W5 gc (i * 3) (i * 3 + 1) (i * 3 + 2) (.int .u8 (K i)) (.int .i64 (V i)) (.int .i64 x3) m2 i).trans r2
        have t3 := (far3 W5 gc (i * 3) (i * 3 + 1) (i * 3 + 2) (.int .u8 (K i)) (.int .i64 (V i)) (.int .i64 x3) m3 i).trans r3
        clear o1 o3 q1 q2 q3
        go_wp2_with fail
        go_region_held3 (fun w' => w'.cell? ⟨w.heap.size + 1 + 1, 1, none⟩ = some (.slice (some ⟨gc, 0, none⟩) n n) ∧ w'.cell? ⟨gkd, i, none⟩ = some (.int .u8 (K i)) ∧ w'.cell? ⟨gv, i, none⟩ = some (.int .i64 (V i)) ∧ w'.cell? ⟨gt, i, none⟩ = some (.int .i64 x3)) (go_keep) (fail)
        have HM2 : Hid _ := HM1.out.setC hlt x3
        clear t0 t1 t2 t3 s0 s1 s2 fo r1 r2 r3 ch HM1
        generalize (((W5.setCell ⟨gc, i * 3, none⟩ (.int .u8 (K i))).setCell ⟨gc, i * 3 + 1, none⟩ (.int .i64 (V i))).setCell ⟨gc, i * 3 + 2, none⟩ (.int .i64 x3)).drew = W6 at *
        go_wp2_with fail
        go_roundg (n - (i + 1))
        case rel => exact ⟨i + 1, by go_num, by omega, rfl, HM2⟩
        case measure => rw [hg.out]; omega
      · obtain rfl : i = n := by omega
        have hz : w.heap.size + 1 + 1 < wr.heap.size := by
          rcases Nat.lt_or_ge (w.heap.size + 1 + 1) wr.heap.size with h | h
          · exact h
          · have := hM.out.hist; rw [Array.getElem?_eq_none h] at this; cases this
        obtain ⟨arrO, o1, o2, o3⟩ := hM.out.ops
        obtain ⟨arrC, c1, c2, c3⟩ := hM.out.calls
        have HB : Hid _ := hM.out.below
        have hp := placed_any i m P K V Wr ok (w.heap.size + 1 + 1) gc go gw cw aw wr hn haw (fun v hv => hM.out.old (xw.out v hv)) hM.out.ch0 hM.out.ch1
          (fun j hj => ⟨(cell_of_row wr gc _ _ _ _ c1).trans (c3 j hj).1, (cell_of_row wr gc _ _ _ _ c1).trans (c3 j hj).2.1, (by obtain ⟨t, ht⟩ := (c3 j hj).2.2; exact ⟨t, (cell_of_row wr gc _ _ _ _ c1).trans ht⟩)⟩)
          (fun j hj => (cell_of_row wr go _ _ _ _ o1).trans (o3 j hj))
        have HP : Hid _ := hp
        clear hp o1 o2 o3 c1 c2 c3
        go_wp2_with fail
        refine Calls.mono HP.out ?_
        rintro e w' ⟨hb, ⟨gq, sl, rfl, h1, h2⟩ | ⟨rfl, h1⟩⟩
        · go_wp2_with fail
          go_ret2
          exact ⟨HB.out.trans (hb.mono HB.out.size), .inl ⟨gq, sl, rfl, h1, h2⟩⟩
        · go_wp2_with fail
          go_ret2
          exact ⟨HB.out.trans (hb.mono HB.out.size), .inr ⟨rfl, h1⟩⟩
end Go.Proofs.Qxb6619224a
