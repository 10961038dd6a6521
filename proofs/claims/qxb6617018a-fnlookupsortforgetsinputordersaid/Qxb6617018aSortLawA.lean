/- The input of the two laws; a lookup being built, and built. -/
import Derived.Test.Qxb6617018aSortBytes
import Derived.Test.Qxb6617018aSortPlain4
import Derived.Stop.BytesEq
namespace Go.Proofs.Qxb6617018a
open Go.RowKit

/-- An operation whose guard says no. -/
theorem wanted_not {o : Oper} {y : Nat → Option Bool} (j : Nat) (want b : Bool) (hg : o.guard = some (j, want)) (hy : y j = some b) (hb : (b == want) = false) : Region.wanted o y = false := by
  unfold Region.wanted
  rw [hg]
  simp only [hy]
  exact hb

/-- Two arrays of one text are equal. -/
theorem equal22 (l : List UInt8) (h : l.length = 20) (w : World) : (Op.equalIn 10000 22 (.agg (arrv l)) (.agg (arrv l))).run Try.prog w = .ok true w := by
  have := run_equalIn_bytes (P := Try.prog) w 9998 22 5 20 Try.underlying22 Try.underlying5 (fun w => by kernel_rfl) l l h h
  rw [beq_self_eq_true] at this
  exact this

/-- A []Cand of n elements. -/
structure In (w : World) (p : Option Addr) (n g o : Nat) (I : Nat → List UInt8) (K : Nat → Bool) : Prop where
  hp : 0 < n → p = some ⟨g, o, none⟩
  row : ∀ i, i < n → w.rangeAt g (o + i * 21) (candv (I i) (K i)).toList
  ilen : ∀ i, i < n → (I i).length = 20

section
variable {w w' : World} {p : Option Addr} {n g o : Nat} {I : Nat → List UInt8} {K : Nat → Bool}

theorem In.cell (h : In w p n g o I K) (i : Nat) (hi : i < n) : w.cell? ⟨g, o + i * 21 + 20, none⟩ = some (.bool (K i)) := by
  refine h.row i hi 20 _ ?_
  have := candv_last (I i) (K i) (h.ilen i hi)
  rw [Array.getElem?_toList]; exact this
theorem In.range (h : In w p n g o I K) (i : Nat) (hi : i < n) : w.rangeAt g (o + i * 21) (arrv (I i)).toList := fun j v hj => by
  refine h.row i hi j v ?_
  have hjl : j < (arrv (I i)).toList.length := by
    rcases Nat.lt_or_ge j (arrv (I i)).toList.length with q | q
    · exact q
    · rw [List.getElem?_eq_none q] at hj; cases hj
  rw [candv, Array.toList_append, List.getElem?_append_left hjl]; exact hj
theorem In.block_lt (h : In w p n g o I K) (hn : 0 < n) : g < w.heap.size := World.block_lt_of_cell? w _ (h.cell 0 hn)
theorem In.later (h : In w p n g o I K) {B : Nat} (hb : Below B w w') (hg : 0 < n → g < B) : In w' p n g o I K :=
  ⟨h.hp, fun i hi j v hj => by rw [hb.cell (hg (by omega))]; exact h.row i hi j v hj, h.ilen⟩
theorem In.grown (h : In w p n g o I K) (o' : Obj) : In (w.alloc o') p n g o I K :=
  ⟨h.hp, fun i hi => range_grown (h.row i hi) (World.grownBy_alloc w o' none) (by simp), h.ilen⟩

theorem info37 (l : List UInt8) (k : Bool) (hl : l.length = 20) : (Try.prog.info? 37).map (·.size) = some (candv l k).toList.length := by
  have : (candv l k).size = 21 := by simp [candv, arrv_size, hl]
  rw [Array.length_toList, this]
  have h : (Try.prog.info? 37).map (·.size) = some 21 := by kernel_rfl
  exact h
theorem info22l (l : List UInt8) (hl : l.length = 20) : (Try.prog.info? 22).map (·.size) = some (arrv l).toList.length := by rw [Array.length_toList]; exact info22 l hl
end

section
variable {w w' : World} {base bl blk n c : Nat} {v v' : Value} {tg : List UInt8} {bs bs' : Nat → Nat} {I : Nat → List UInt8} {K : Nat → Bool} {H : Nat → Int}

/-- The empty lookup, to be built. -/
theorem Lb.start {d : Nat → Nat} (h : Lk w bl blk none 0 0 tg bs I K H d) (hb : base ≤ bl) : Lb w base bl (.slice none 0 0) 0 tg bs I K H where
  cands := h.cands
  fz := h.fz
  tgt := h.tgt
  tlen := h.tlen
  own := World.ownsRow_nil w base 50 1
  id := fun x hx => absurd hx (by omega)
  ilen := fun x hx => absurd hx (by omega)
  known := fun x hx => absurd hx (by omega)
  hop := fun x hx => absurd hx (by omega)
  ne := by simp [Value.ownBlock]
  nes := fun x hx => absurd hx (by omega)
  bsl := fun x hx => absurd hx (by omega)
  bl_ge := hb
  bs_ge := fun x hx => absurd hx (by omega)

/-- A lookup that has been built stands in memory. -/
theorem Lb.done (h : Lb w base bl v n tg bs I K H) : ∃ blk p c, v = .slice p n c ∧ Lk w bl blk p n c tg bs I K H (fun x => x) ∧ (v.ownBlock = some blk ∨ blk = bl) := by
  rcases h.own.2 with ⟨rfl, rfl⟩ | ⟨g, cap, cur, rfl, hb, hg, hnc, hcm, hcs, htake⟩
  · exact ⟨bl, none, 0, rfl, { hp := fun q => absurd q (by omega), cands := h.cands, fz := h.fz, tgt := h.tgt, tlen := h.tlen, id := h.id, ilen := h.ilen, known := h.known, hop := h.hop, row := fun x hx => absurd hx (by omega), ne := fun q => absurd q (by omega), nes := fun x hx => absurd hx (by omega) }, Or.inr rfl⟩
  · refine ⟨g, some ⟨g, 0, none⟩, cap, rfl, { hp := fun _ => rfl, cands := h.cands, fz := h.fz, tgt := h.tgt, tlen := h.tlen, id := h.id, ilen := h.ilen, known := h.known, hop := h.hop, row := fun x hx => ?_, ne := fun _ e => h.ne (by rw [e]; rfl), nes := fun x hx e => h.nes x hx (by rw [e]; rfl) }, Or.inl rfl⟩
    refine ⟨?_, frozen_of_row _ _ x _ 50 hg⟩
    have := h.own.cells (g := g) rfl x (.pointer (some ⟨bs x, 0, none⟩)) (by simp [ptrs, hx])
    have hadd : (⟨g, 0, none⟩ : Addr).add x = ⟨g, x, none⟩ := by unfold Addr.add; split <;> simp_all
    rw [hadd] at this
    exact this

theorem Lb.own_ge (h : Lb w base bl v n tg bs I K H) (b : Nat) (e : v.ownBlock = some b) : base ≤ b := (h.own.lt b e).1

theorem Lb.drew (h : Lb w base bl v n tg bs I K H) : Lb w.drew base bl v n tg bs I K H :=
  ⟨h.cands, h.fz, h.tgt, h.tlen, h.own, h.id, h.ilen, h.known, h.hop, h.ne, h.nes, h.bsl, h.bl_ge, h.bs_ge⟩

theorem Lb.row_ge (h : Lb w base bl v n tg bs I K H) (e : v.ownBlock = some blk ∨ blk = bl) : base ≤ blk := by
  rcases e with e | rfl
  · exact h.own_ge blk e
  · exact h.bl_ge

theorem Lk.belowL {p : Option Addr} {d : Nat → Nat} (h : Lk w bl blk p n c tg bs I K H d) (hb : Below w.heap.size w w') : Lk w' bl blk p n c tg bs I K H d :=
  h.later ⟨hb.os, hb.tape, hb.output, hb.size, fun k hk _ => hb.block k hk⟩
theorem Lk.drewL {p : Option Addr} {d : Nat → Nat} (h : Lk w bl blk p n c tg bs I K H d) : Lk w.drew bl blk p n c tg bs I K H d :=
  ⟨h.hp, h.cands, h.fz, h.tgt, h.tlen, h.id, h.ilen, h.known, h.hop, h.row, h.ne, h.nes⟩

theorem Lk.drewN {p : Option Addr} {d : Nat → Nat} (h : Lk w bl blk p n c tg bs I K H d) (q : Nat) : Lk (w.drewN q) bl blk p n c tg bs I K H d :=
  ⟨h.hp, h.cands, h.fz, h.tgt, h.tlen, h.id, h.ilen, h.known, h.hop, h.row, h.ne, h.nes⟩

/-- An addition touches nothing below the base. -/
theorem Added.below (h : Added w w' base bl v v' n tg bs bs' I K H) (hl : Lb w base bl v n tg bs I K H) (hb : base ≤ w.heap.size) : Below base w w' :=
  ⟨h.os, h.tape, h.output, h.size, fun b hbb => h.block b (by omega) (by have := hl.bl_ge; omega) (fun e => by have := hl.own_ge b e.symm; omega)⟩
end
end Go.Proofs.Qxb6617018a
