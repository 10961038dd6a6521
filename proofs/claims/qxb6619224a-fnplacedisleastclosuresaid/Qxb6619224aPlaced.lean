/- The walk of (*History).placed. -/
import Derived.Test.Qxb6619224aFind
namespace Go.Proofs.Qxb6619224a
open Go.RowKit Pl

theorem make23 (n : Nat) (h : n ≤ 16384) (w : World) : (Instr.makeSlice 23 (.int .i64 (n : Int)) (.int .i64 (n : Int))).run Try.prog w = .ok (.slice (some ⟨w.heap.size, 0, none⟩) n n) (w.alloc (.cells (bools (List.replicate n false)) 4)) := by
  obtain ⟨i, h1, h2, h3, h4⟩ : ∃ i, Try.prog.info? 4 = some i ∧ i.zero = some (.bool false) ∧ i.size = 1 ∧ i.bytes = 1 := by
    have : (Try.prog.info? 4).map (fun i => (i.zero, i.size, i.bytes)) = some (some (Value.bool false), 1, 1) := by kernel_rfl
    obtain ⟨i, hi, e⟩ := Option.map_eq_some_iff.1 this
    simp only [Prod.mk.injEq] at e
    exact ⟨i, hi, e.1, e.2.1, e.2.2⟩
  have hr := run_make (P := Try.prog) w 23 4 i (.bool false) Try.underlying23 h1 h2 .i64 .i64 n n (by omega) (by omega) (by rw [h4]; omega) (by omega)
  rw [h3, Nat.mul_one, Int.toNat_natCast] at hr
  rw [hr]
  congr 3
  apply Array.ext_getElem?
  intro j
  by_cases hj : j < n
  · simp [madeCells, bools, Value.cells, hj, Nat.mod_one]
  · simp [madeCells, bools, hj]

/-- What lies in memory while placed runs: its four variables, behind w. -/
structure PMem (gh n m cw : Nat) (aw : Option Addr) (w wr : World) (sl : List Bool) : Prop where
  below : Below w.heap.size w wr
  size : w.heap.size + 1 + 1 + 1 < wr.heap.size
  vh : wr.heap[w.heap.size]? = some (.cells #[.pointer (some ⟨gh, 0, none⟩)] 29 (0, 0))
  vw : wr.heap[w.heap.size + 1]? = some (.cells #[.slice aw m cw] 25 (0, 0))
  vp : wr.heap[w.heap.size + 1 + 1]? = some (.cells #[.slice (some ⟨w.heap.size + 1 + 1 + 1, 0, none⟩) n n] 23 (0, 0))
  row : wr.heap[w.heap.size + 1 + 1 + 1]? = some (.cells (bools sl) 4 (0, 0))

section
variable {gh n m cw : Nat} {aw : Option Addr} {w wr : World} {sl : List Bool}

theorem PMem.start : PMem gh n m cw aw w ((((w.alloc (.cells #[.pointer (some ⟨gh, 0, none⟩)] 29)).alloc (.cells #[.slice aw m cw] 25)).alloc (.cells #[.slice (some ⟨w.heap.size + 1 + 1 + 1, 0, none⟩) n n] 23)).alloc (.cells (bools sl) 4)) sl := by
  refine { below := ((((Below.refl _ _).alloc (Nat.le_refl _) _).alloc (by simp) _).alloc (by simp <;> omega) _).alloc (by simp <;> omega) _, size := by simp, vh := ?_, vw := ?_, vp := ?_, row := ?_ }
  · rw [Below.heap_alloc _ _ _ (by simp <;> omega), Below.heap_alloc _ _ _ (by simp <;> omega), Below.heap_alloc _ _ _ (by simp)]
    exact Go.heap_alloc_new _ _
  · rw [Below.heap_alloc _ _ _ (by simp <;> omega), Below.heap_alloc _ _ _ (by simp)]; have := Go.heap_alloc_new (w.alloc (.cells #[.pointer (some ⟨gh, 0, none⟩)] 29)) (.cells #[.slice aw m cw] 25); simpa using this
  · rw [Below.heap_alloc _ _ _ (by simp)]; have := Go.heap_alloc_new ((w.alloc (.cells #[.pointer (some ⟨gh, 0, none⟩)] 29)).alloc (.cells #[.slice aw m cw] 25)) (.cells #[.slice (some ⟨w.heap.size + 1 + 1 + 1, 0, none⟩) n n] 23); simpa using this
  · have := Go.heap_alloc_new (((w.alloc (.cells #[.pointer (some ⟨gh, 0, none⟩)] 29)).alloc (.cells #[.slice aw m cw] 25)).alloc (.cells #[.slice (some ⟨w.heap.size + 1 + 1 + 1, 0, none⟩) n n] 23)) (.cells (bools sl) 4); simpa using this

theorem PMem.alloc (h : PMem gh n m cw aw w wr sl) (o : Obj) : PMem gh n m cw aw w (wr.alloc o) sl := by
  have hs := h.size
  exact { below := h.below.alloc (by omega) _, size := by simp; omega, vh := (Below.heap_alloc _ _ _ (by omega)).trans h.vh, vw := (Below.heap_alloc _ _ _ (by omega)).trans h.vw, vp := (Below.heap_alloc _ _ _ (by omega)).trans h.vp, row := (Below.heap_alloc _ _ _ (by omega)).trans h.row }

theorem PMem.set (h : PMem gh n m cw aw w wr sl) (i : Nat) : PMem gh n m cw aw w (wr.setCell ⟨w.heap.size + 1 + 1 + 1, i, none⟩ (.bool true)) (sl.set i true) := by
  have hs := h.size
  exact { below := h.below.setCell (by show _ ≤ w.heap.size + 1 + 1 + 1; omega) _, size := by simpa [World.setCell] using hs, vh := (Below.heap_setCell _ _ _ _ (by show _ ≠ w.heap.size + 1 + 1 + 1; omega)).trans h.vh, vw := (Below.heap_setCell _ _ _ _ (by show _ ≠ w.heap.size + 1 + 1 + 1; omega)).trans h.vw, vp := (Below.heap_setCell _ _ _ _ (by show _ ≠ w.heap.size + 1 + 1 + 1; omega)).trans h.vp, row := by rw [heap_setCell_same wr _ i _ _ _ h.row, bools_set] }

theorem PMem.grown {w' : World} {sl' : List Bool} (h : PMem gh n m cw aw w wr sl) (hg : wr.grownBy w' (some (w.heap.size + 1 + 1 + 1))) (hr : w'.heap[w.heap.size + 1 + 1 + 1]? = some (.cells (bools sl') 4 (0, 0))) : PMem gh n m cw aw w w' sl' := by
  have hs := h.size
  have hz := hg.size
  have hb : ∀ k, k ≠ w.heap.size + 1 + 1 + 1 → k < wr.heap.size → w'.heap[k]? = wr.heap[k]? := fun k hk hlt => hg.block k hlt (by intro e; exact hk (by simpa using e))
  exact { below := h.below.trans ⟨hg.os, hg.tape, hg.output, hg.size, fun k hk => hb k (by omega) (by omega)⟩, size := by omega, vh := (hb _ (by omega) (by omega)).trans h.vh, vw := (hb _ (by omega) (by omega)).trans h.vw, vp := (hb _ (by omega) (by omega)).trans h.vp, row := hr }

theorem PMem.old (h : PMem gh n m cw aw w wr sl) {a : Addr} {v : Value} (hc : w.cell? a = some v) : wr.cell? a = some v := (h.below.cell (p := a) (block_lt_of_cell hc)).trans hc
theorem PMem.ch (h : PMem gh n m cw aw w wr sl) : wr.cell? ⟨w.heap.size, 0, none⟩ = some (.pointer (some ⟨gh, 0, none⟩)) := by rw [cell_of_row wr _ 0 _ _ _ h.vh]; rfl
theorem PMem.cwr (h : PMem gh n m cw aw w wr sl) : wr.cell? ⟨w.heap.size + 1, 0, none⟩ = some (.slice aw m cw) := by rw [cell_of_row wr _ 0 _ _ _ h.vw]; rfl
theorem PMem.cp (h : PMem gh n m cw aw w wr sl) : wr.cell? ⟨w.heap.size + 1 + 1, 0, none⟩ = some (.slice (some ⟨w.heap.size + 1 + 1 + 1, 0, none⟩) n n) := by rw [cell_of_row wr _ 0 _ _ _ h.vp]; rfl
end

/-- find, called from placed. -/
theorem find_in (n m : Nat) (P : Nat → Bool) (K V Wr : Nat → Int) (ok : Hid (Ok n m K V Wr)) (gh gc gw cw : Nat) (aw : Option Addr) (w W : World) (sl : List Bool) (v : Int) (hM : PMem gh n m cw aw w W sl)
    (haw : Hid (0 < m → aw = some ⟨gw, 0, none⟩)) (h2 : Hid (∀ v, v < m → w.cell? ⟨gw, v, none⟩ = some (.int .i64 (Wr v)))) (h6 : w.cell? ⟨gh, 1, none⟩ = some (.slice (some ⟨gc, 0, none⟩) n n))
    (h7 : Hid (∀ j, j < n → w.cell? ⟨gc, j * 3, none⟩ = some (.int .u8 (K j)) ∧ w.cell? ⟨gc, j * 3 + 1, none⟩ = some (.int .i64 (V j)) ∧ ∃ t : Int, w.cell? ⟨gc, j * 3 + 2, none⟩ = some (.int .i64 t)))
    (hpre : FPre n m P K V Wr v sl) :
    Calls Try.prog 7 #[.int .i64 v, .pointer (some ⟨w.heap.size + 1, 0, none⟩), .pointer (some ⟨w.heap.size + 1 + 1, 0, none⟩), .pointer (some ⟨w.heap.size, 0, none⟩)] W fun e w' =>
      (∃ sl', e = .returned (.bool true) ∧ FPost n P K V Wr v sl sl' ∧ PMem gh n m cw aw w w' sl') ∨
      (e = .returned (.bool false) ∧ Bad n P K V Wr ∧ Below w.heap.size w w' ∧ w'.heap[w.heap.size + 1 + 1]? = some (.cells #[.slice (some ⟨w.heap.size + 1 + 1 + 1, 0, none⟩) n n] 23 (0, 0))) := by
  have hm : 0 < m := by have := hpre.vm; have := hpre.vpos; omega
  have ea := haw.out hm
  have hn : 0 < n := by obtain ⟨j, hj, _⟩ := hpre.from_; omega
  have lw : gw < w.heap.size := block_lt_of_cell (h2.out 0 hm)
  have lc : gc < w.heap.size := block_lt_of_cell (h7.out 0 hn).1
  have lh : gh < w.heap.size := block_lt_of_cell h6
  have hs := hM.size
  have cw1 := hM.cwr
  rw [ea] at cw1
  refine (find_any n m P K V Wr ok (w.heap.size + 1) (w.heap.size + 1 + 1) w.heap.size gw (w.heap.size + 1 + 1 + 1) gh gc cw sl v W hpre cw1 (fun x hx => hM.old (h2.out x hx)) hM.cp hM.row hM.ch (hM.old h6)
    (fun j hj => ⟨hM.old (h7.out j hj).1, hM.old (h7.out j hj).2.1⟩) (by omega) (by omega) (by omega) (by omega) (by omega) (by omega)).mono ?_
  rintro e w' ⟨hg, ⟨sl', rfl, hp, hr⟩ | ⟨rfl, hb⟩⟩
  · exact .inl ⟨sl', rfl, hp, hM.grown hg hr⟩
  · have hb' : ∀ k, k ≠ w.heap.size + 1 + 1 + 1 → k < W.heap.size → w'.heap[k]? = W.heap[k]? := fun k hk hlt => hg.block k hlt (by intro e; exact hk (by simpa using e))
    exact .inr ⟨rfl, hb, hM.below.trans ⟨hg.os, hg.tape, hg.output, hg.size, fun k hk => hb' k (by omega) (by omega)⟩, (hb' _ (by omega) (by omega)).trans hM.vp⟩

set_option maxHeartbeats 1000000 in
theorem placed_any (n m : Nat) (P : Nat → Bool) (K V Wr : Nat → Int) (ok : Hid (Ok n m K V Wr)) (gh gc go gw cw : Nat) (aw : Option Addr) (w : World) (hn : n ≤ 16384)
    (haw : Hid (0 < m → aw = some ⟨gw, 0, none⟩)) (h2 : Hid (∀ v, v < m → w.cell? ⟨gw, v, none⟩ = some (.int .i64 (Wr v))))
    (h5 : w.cell? ⟨gh, 0, none⟩ = some (.slice (some ⟨go, 0, none⟩) n n)) (h6 : w.cell? ⟨gh, 1, none⟩ = some (.slice (some ⟨gc, 0, none⟩) n n))
    (h7 : Hid (∀ j, j < n → w.cell? ⟨gc, j * 3, none⟩ = some (.int .u8 (K j)) ∧ w.cell? ⟨gc, j * 3 + 1, none⟩ = some (.int .i64 (V j)) ∧ ∃ t : Int, w.cell? ⟨gc, j * 3 + 2, none⟩ = some (.int .i64 t)))
    (h8 : Hid (∀ j, j < n → w.cell? ⟨go, j * 3 + 2, none⟩ = some (.bool (P j)))) :
    Calls Try.prog 6 #[.pointer (some ⟨gh, 0, none⟩), .slice aw m cw] w fun e w' =>
      Below w.heap.size w w' ∧ ((∃ gp sl, e = .returned (.tuple #[.slice (some ⟨gp, 0, none⟩) n n, .bool true]) ∧ OInv n P K V Wr n sl ∧ w'.heap[gp]? = some (.cells (bools sl) 4 (0, 0))) ∨ (e = .returned (.tuple #[.slice none 0 0, .bool false]) ∧ Bad n P K V Wr)) := by
  have hmk := make23 n hn
  have l0 : gh < w.heap.size := block_lt_of_cell h5
  have l1 : gh < w.heap.size + 1 := by omega
  have l2 : gh < w.heap.size + 1 + 1 := by omega
  have l3 : gh < w.heap.size + 1 + 1 + 1 := by omega
  go_enter Try.func6, Try.ntmps6
  go_wp2_with fail
  go_loopg [22] n (fun g v wr => ∃ (i : Nat) (sl : List Bool), v = .int .i64 (i : Int) ∧ i ≤ n ∧ Hid (g = n - i) ∧ Hid (OInv n P K V Wr i sl) ∧ Hid (PMem gh n m cw aw w wr sl))
  case atStart => exact ⟨0, List.replicate n false, rfl, Nat.zero_le _, rfl, OInv.start, PMem.start⟩
  case round =>
    obtain ⟨i, sl, rfl, hi, hg, hO, hM⟩ := hrel
    have hM0 := hM.out
    have c0 := hM0.ch
    have c2 := hM0.cp
    have g0 := hM0.old h5
    have g1 := hM0.old h6
    have z0 : w.heap.size < wr.heap.size := by have := hM0.size; omega
    have z1 : w.heap.size + 1 < wr.heap.size := by have := hM0.size; omega
    have z2 : w.heap.size + 1 + 1 < wr.heap.size := by have := hM0.size; omega
    have z3 : w.heap.size + 1 + 1 + 1 < wr.heap.size := hM0.size
    have z4 : gh < wr.heap.size := by omega
    have hlen := hO.out.len
    by_cases hlt : i < n
    · have hlt1 : (i : Int) < (n : Int) := by omega
      obtain ⟨d1, d2, t, d3⟩ := h7.out i hlt
      have q1 := hM0.old d1
      have q2 := hM0.old d2
      have q3 := hM0.old d3
      have q4 := hM0.old (h8.out i hlt)
      have z5 : gc < wr.heap.size := block_lt_of_cell q1
      have z6 : go < wr.heap.size := block_lt_of_cell q4
      have H6 : Hid _ := h6
      clear d1 d2 d3 h5 h6 l0 l1 l2 l3 hM0 hmk
      cases hp : P i with
      | true =>
        rw [hp] at q4
        have HN : Hid (OInv n P K V Wr (i + 1) sl) := hO.out.skip hp
        clear hp
        go_wp2_with fail
        go_roundg (n - (i + 1))
        case rel => exact ⟨i + 1, sl, by go_num, by omega, rfl, HN, hM.out.alloc _⟩
        case measure => rw [hg.out]; omega
      | false =>
        rw [hp] at q4
        have c4 : wr.cell? ⟨w.heap.size + 1 + 1 + 1, i, none⟩ = some (.bool (sl.getD i false)) := by
          rw [cell_of_row wr _ i _ _ _ hM.out.row]; exact bools_at sl i (by omega)
        have hfz : wr.frozen? ⟨w.heap.size + 1 + 1 + 1, i, none⟩ = false := frozen_of_row wr _ i _ _ hM.out.row
        generalize sl.getD i false = b0 at c4
        have HM1 : Hid (PMem gh n m cw aw w ((wr.setCell ⟨w.heap.size + 1 + 1 + 1, i, none⟩ (.bool true)).alloc (.cells #[.int .u8 (K i), .int .i64 (V i), .int .i64 t] 43)) (sl.set i true)) := (hM.out.set i).alloc _
        have HF : Hid (needs P K V i → Calls Try.prog 7 #[.int .i64 (V i), .pointer (some ⟨w.heap.size + 1, 0, none⟩), .pointer (some ⟨w.heap.size + 1 + 1, 0, none⟩), .pointer (some ⟨w.heap.size, 0, none⟩)] ((wr.setCell ⟨w.heap.size + 1 + 1 + 1, i, none⟩ (.bool true)).alloc (.cells #[.int .u8 (K i), .int .i64 (V i), .int .i64 t] 43)) fun e w' =>
            (∃ sl', e = .returned (.bool true) ∧ FPost n P K V Wr (V i) (sl.set i true) sl' ∧ PMem gh n m cw aw w w' sl') ∨
            (e = .returned (.bool false) ∧ Bad n P K V Wr ∧ Below w.heap.size w w' ∧ w'.heap[w.heap.size + 1 + 1]? = some (.cells #[.slice (some ⟨w.heap.size + 1 + 1 + 1, 0, none⟩) n n] 23 (0, 0)))) :=
          fun hnd => find_in n m P K V Wr ok gh gc gw cw aw w _ _ (V i) HM1.out haw h2 H6.out h7 (hO.out.pre ok.out hlt hp hnd)
        have HP : Hid _ := hp
        clear hp
        by_cases hk2 : K i = 2
        · have HND : Hid (needs P K V i) := .inl hk2
          have hb2 : (K i == 2) = true := by rw [hk2]; rfl
          clear hk2
          go_wp2_with fail
          refine (HF.out HND.out).mono ?_
          rintro e w2 (⟨sl', rfl, hp2, hm2⟩ | ⟨rfl, hbad, hbel, hvp⟩)
          · go_wp2_with fail
            go_roundg (n - (i + 1))
            case rel => exact ⟨i + 1, sl', by go_num, by omega, rfl, hO.out.found hlt hp2, hm2⟩
            case measure => rw [hg.out]; omega
          · have cv : w2.cell? ⟨w.heap.size + 1 + 1, 0, none⟩ = some (.slice (some ⟨w.heap.size + 1 + 1 + 1, 0, none⟩) n n) := by rw [cell_of_row w2 _ 0 _ _ _ hvp]; rfl
            have cf2 : w2.frozen? ⟨w.heap.size + 1 + 1, 0, none⟩ = false := frozen_of_row w2 _ 0 _ _ hvp
            have HBEL : Hid (Below w.heap.size w (w2.setCell ⟨w.heap.size + 1 + 1, 0, none⟩ (.slice none 0 0))) := hbel.setCell (by show _ ≤ w.heap.size + 1 + 1; omega) _
            have HBAD : Hid _ := hbad
            clear hbad hbel hvp
            go_wp2_with fail
            refine bodyPost_ret (v := .tuple #[.slice none 0 0, .bool false]) (by simp [results, Try.results6, go_sem, cv]) rfl ⟨HBEL.out, .inr ⟨rfl, HBAD.out⟩⟩
        · have hb2 : (K i == 2) = false := by rw [beq_eq_false_iff_ne]; exact hk2
          by_cases hk1 : K i = 1
          · have hb1 : (K i == 1) = true := by rw [hk1]; rfl
            by_cases hv : V i = -1
            · have HND : Hid (¬ needs P K V i) := by rintro (h | ⟨_, _, h⟩) <;> contradiction
              have hb3 : (V i != -1) = false := by rw [hv]; rfl
              clear hk1 hk2 hv
              go_wp2_with fail
              go_roundg (n - (i + 1))
              case rel => exact ⟨i + 1, _, by go_num, by omega, rfl, hO.out.plain hlt HP.out HND.out, HM1.out⟩
              case measure => rw [hg.out]; omega
            · have HND : Hid (needs P K V i) := .inr ⟨hk1, HP.out, hv⟩
              have hb3 : (V i != -1) = true := by rw [bne_iff_ne]; exact hv
              clear hk1 hk2 hv
              go_wp2_with fail
              refine (HF.out HND.out).mono ?_
              rintro e w2 (⟨sl', rfl, hp2, hm2⟩ | ⟨rfl, hbad, hbel, hvp⟩)
              · go_wp2_with fail
                go_roundg (n - (i + 1))
                case rel => exact ⟨i + 1, sl', by go_num, by omega, rfl, hO.out.found hlt hp2, hm2⟩
                case measure => rw [hg.out]; omega
              · have cv : w2.cell? ⟨w.heap.size + 1 + 1, 0, none⟩ = some (.slice (some ⟨w.heap.size + 1 + 1 + 1, 0, none⟩) n n) := by rw [cell_of_row w2 _ 0 _ _ _ hvp]; rfl
                have cf2 : w2.frozen? ⟨w.heap.size + 1 + 1, 0, none⟩ = false := frozen_of_row w2 _ 0 _ _ hvp
                have HBEL : Hid (Below w.heap.size w (w2.setCell ⟨w.heap.size + 1 + 1, 0, none⟩ (.slice none 0 0))) := hbel.setCell (by show _ ≤ w.heap.size + 1 + 1; omega) _
                have HBAD : Hid _ := hbad
                clear hbad hbel hvp
                go_wp2_with fail
                refine bodyPost_ret (v := .tuple #[.slice none 0 0, .bool false]) (by simp [results, Try.results6, go_sem, cv]) rfl ⟨HBEL.out, .inr ⟨rfl, HBAD.out⟩⟩
          · have HND : Hid (¬ needs P K V i) := by rintro (h | ⟨h, _⟩) <;> contradiction
            have hb1 : (K i == 1) = false := by rw [beq_eq_false_iff_ne]; exact hk1
            clear hk1 hk2
            go_wp2_with fail
            go_roundg (n - (i + 1))
            case rel => exact ⟨i + 1, _, by go_num, by omega, rfl, hO.out.plain hlt HP.out HND.out, HM1.out⟩
            case measure => rw [hg.out]; omega
    · obtain rfl : i = n := by omega
      have cv := c2
      have hfv : wr.frozen? ⟨w.heap.size + 1 + 1, 0, none⟩ = false := frozen_of_row wr _ 0 _ _ hM0.vp
      have HBEL : Hid (Below w.heap.size w (wr.setCell ⟨w.heap.size + 1 + 1, 0, none⟩ (.slice (some ⟨w.heap.size + 1 + 1 + 1, 0, none⟩) i i))) := hM0.below.setCell (by show _ ≤ w.heap.size + 1 + 1; omega) _
      have HR : Hid ((wr.setCell ⟨w.heap.size + 1 + 1, 0, none⟩ (.slice (some ⟨w.heap.size + 1 + 1 + 1, 0, none⟩) i i)).heap[w.heap.size + 1 + 1 + 1]? = some (.cells (bools sl) 4 (0, 0))) := (Below.heap_setCell _ _ _ _ (by show _ ≠ w.heap.size + 1 + 1; omega)).trans hM0.row
      clear hM0 h5 h6 l0 l1 l2 l3 hmk
      go_wp2_with fail
      refine bodyPost_ret (v := .tuple #[.slice (some ⟨w.heap.size + 1 + 1 + 1, 0, none⟩) i i, .bool true]) (by simp [results, Try.results6, go_sem, cv]) rfl ⟨HBEL.out, .inl ⟨_, sl, rfl, hO.out, HR.out⟩⟩
end Go.Proofs.Qxb6619224a
