/- The lookup in memory, and the walks of (*lookup).sort and ZZlookupSort. -/
import Derived.Test.Qxb6617018aSortSlice
namespace Go.Proofs.Qxb6617018a
open Go.RowKit
open _root_.Go.Proofs.Qxb6617018a.So

/-- A lookup in block bl: its target, its row of candidates in block blk (place p holds candidate d p), the candidates in blocks bs x. -/
structure Lk (w : World) (bl blk : Nat) (p : Option Addr) (n c : Nat) (tg : List UInt8) (bs : Nat → Nat) (I : Nat → List UInt8) (K : Nat → Bool) (H : Nat → Int) (d : Nat → Nat) : Prop where
  hp : 0 < n → p = some ⟨blk, 0, none⟩
  cands : w.cell? ⟨bl, 21, none⟩ = some (.slice p n c)
  fz : w.frozen? ⟨bl, 21, none⟩ = false
  tgt : w.rangeAt bl 1 (arrv tg).toList
  tlen : tg.length = 20
  id : ∀ x, x < n → w.rangeAt (bs x) 0 (arrv (I x)).toList
  ilen : ∀ x, x < n → (I x).length = 20
  known : ∀ x, x < n → w.cell? ⟨bs x, 24, none⟩ = some (.bool (K x))
  hop : ∀ x, x < n → w.cell? ⟨bs x, 30, none⟩ = some (.int .i64 (H x))
  row : ∀ x, x < n → w.cell? ⟨blk, x, none⟩ = some (.pointer (some ⟨bs (d x), 0, none⟩)) ∧ w.frozen? ⟨blk, x, none⟩ = false
  ne : 0 < n → blk ≠ bl
  nes : ∀ x, x < n → bs x ≠ blk

theorem Lk.block_lt {w : World} {bl blk : Nat} {p : Option Addr} {n c : Nat} {tg : List UInt8} {bs : Nat → Nat} {I : Nat → List UInt8} {K : Nat → Bool} {H : Nat → Int} {d : Nat → Nat} (h : Lk w bl blk p n c tg bs I K H d) : bl < w.heap.size := World.block_lt_of_cell? w _ h.cands

/-- The lookup through a change of its row alone. -/
theorem Lk.turn {w w' : World} {bl blk : Nat} {p : Option Addr} {n c : Nat} {tg : List UInt8} {bs : Nat → Nat} {I : Nat → List UInt8} {K : Nat → Bool} {H : Nat → Int} {d d' : Nat → Nat} (h : Lk w bl blk p n c tg bs I K H d) (hn : 0 < n)
    (k : w.grownBy w' (some blk)) (hr : ∀ x, x < n → w'.cell? ⟨blk, x, none⟩ = some (.pointer (some ⟨bs (d' x), 0, none⟩)) ∧ w'.frozen? ⟨blk, x, none⟩ = false) : Lk w' bl blk p n c tg bs I K H d' := by
  have n1 : some bl ≠ some blk := fun e => h.ne hn (by injection e with e; exact e.symm)
  have n2 : ∀ x, x < n → some (bs x) ≠ some blk := fun x hx e => h.nes x hx (by injection e)
  exact { hp := h.hp, cands := k.cell h.cands n1, fz := by rw [World.frozen?_of_block (k.block bl h.block_lt n1)]; exact h.fz, tgt := range_grown h.tgt k n1, tlen := h.tlen, id := fun x hx => range_grown (h.id x hx) k (n2 x hx), ilen := h.ilen,
          known := fun x hx => k.cell (h.known x hx) (n2 x hx), hop := fun x hx => k.cell (h.hop x hx) (n2 x hx), row := hr, ne := h.ne, nes := h.nes }

/-- The lookup where other blocks have come. -/
theorem Lk.later {w w' : World} {bl blk : Nat} {p : Option Addr} {n c : Nat} {tg : List UInt8} {bs : Nat → Nat} {I : Nat → List UInt8} {K : Nat → Bool} {H : Nat → Int} {d : Nat → Nat} (h : Lk w bl blk p n c tg bs I K H d)
    (k : w.grownBy w' none) : Lk w' bl blk p n c tg bs I K H d :=
  { hp := h.hp, cands := k.cell h.cands (by simp), fz := by rw [World.frozen?_of_block (k.block bl h.block_lt (by simp))]; exact h.fz, tgt := range_grown h.tgt k (by simp), tlen := h.tlen, id := fun x hx => range_grown (h.id x hx) k (by simp), ilen := h.ilen,
    known := fun x hx => k.cell (h.known x hx) (by simp), hop := fun x hx => k.cell (h.hop x hx) (by simp),
    row := fun x hx => ⟨k.cell (h.row x hx).1 (by simp), by rw [World.frozen?_of_block (k.block blk (World.block_lt_of_cell? w _ (h.row x hx).1) (by simp))]; exact (h.row x hx).2⟩, ne := h.ne, nes := h.nes }

set_option maxRecDepth 100000 in
theorem sort24_any (w : World) (bl blk : Nat) (p : Option Addr) (n c : Nat) (tg : List UInt8) (bs : Nat → Nat) (I : Nat → List UInt8) (K : Nat → Bool) (H : Nat → Int) (h : Hid (Lk w bl blk p n c tg bs I K H fun x => x)) (hn : n < 1099511627776) :
    Calls Try.prog 24 #[.pointer (some ⟨bl, 0, none⟩)] w fun e w' => e = .returned (.tuple #[]) ∧ ∃ d, Lk w' bl blk p n c tg bs I K H d ∧ Pm n d ∧ Srt (fun x => ckey (K x) (I x) tg) d 0 n ∧ w.grownBy w' (some blk) := by
  have hc : Calls Try.prog 28 #[.iface 48 (.slice p n c), .func (.func 29) #[] #[.pointer (some ⟨w.heap.size, 0, none⟩)]] (w.alloc (.cells #[.pointer (some ⟨bl, 0, none⟩)] 33)) fun e w' => e = .returned (.tuple #[]) ∧ ∃ d, Lk w' bl blk p n c tg bs I K H d ∧ Pm n d ∧ Srt (fun x => ckey (K x) (I x) tg) d 0 n ∧ w.grownBy w' (some blk) := by
    have hga := World.grownBy_alloc w (.cells #[.pointer (some ⟨bl, 0, none⟩)] 33)
    have h1 := h.out.later (hga none)
    have hpl : (w.alloc (.cells #[.pointer (some ⟨bl, 0, none⟩)] 33)).cell? ⟨w.heap.size, 0, none⟩ = some (.pointer (some ⟨bl, 0, none⟩)) := by simp
    generalize hW : w.alloc (.cells #[.pointer (some ⟨bl, 0, none⟩)] 33) = W at *
    by_cases h2 : 2 ≤ n
    · have hb : blk < w.heap.size := World.block_lt_of_cell? w _ (h.out.row 0 (by omega)).1
      obtain rfl := h.out.hp (by omega)
      refine (slice_any (fun x => .pointer (some ⟨bs x, 0, none⟩)) (fun _ => rfl) (fun x => ckey (K x) (I x) tg) n blk c 29 _ W h2 hn (Nat.lt_of_lt_of_le hb (hga none).size)
        (enters_of Try.func29 (by kernel_rfl) rfl) (fun x hx => h1.row x hx) ?_).mono ?_
      · intro d w1 i j hr hpm hg hi hj
        have h3 := h1.turn (by omega) hg hr
        have nepl : some w.heap.size ≠ some blk := fun e => by
          have e2 : w.heap.size = blk := by injection e
          omega
        have hk := less_any w1 w.heap.size bl blk n c (bs (d i)) (bs (d j)) i j tg (I (d i)) (I (d j)) (K (d i)) (K (d j)) hi hj hn (h3.ilen _ (hpm.lt i hi)) (h3.ilen _ (hpm.lt j hj)) h3.tlen
          (hg.cell hpl nepl) h3.cands h3.tgt (h3.row i hi).1 (h3.row j hj).1 (h3.id _ (hpm.lt i hi)) (h3.id _ (hpm.lt j hj)) (h3.known _ (hpm.lt i hi)) (h3.known _ (hpm.lt j hj))
        refine Calls.mono hk ?_
        rintro e w2 ⟨rfl, hb2⟩
        refine ⟨?_, hb2.os, hb2.tape, hb2.output, hb2.size, fun k hk _ => hb2.block k hk⟩
        rw [ckey_lt _ _ _ _ _ (h3.ilen _ (hpm.lt i hi)) (h3.ilen _ (hpm.lt j hj)) h3.tlen]
      · rintro e w1 ⟨rfl, d, hS⟩
        exact ⟨rfl, d, h1.turn (by omega) hS.env hS.row, hS.pm, hS.srt, grownB_trans (hga _) hS.env⟩
    · refine (slice_tiny p n c (by omega) _ _ _ W).mono ?_
      rintro e w1 ⟨rfl, hg⟩
      exact ⟨rfl, fun x => x, h1.later hg, ⟨fun p h => h, fun x h => ⟨x, h, rfl⟩, fun p q _ _ h => h⟩, fun p q _ h3 h4 => by omega, grownB_trans (hga _) (grownB_but hg _)⟩
  have e21 := h.out.cands
  have hlt := h.out.block_lt
  have HC : Hid _ := hc
  clear hc
  go_enter Try.func24, Try.ntmps24
  go_wp2_with fail
  refine Calls.mono HC.out ?_
  rintro e w' ⟨rfl, hx⟩
  have HX : Hid _ := hx
  clear hx HC
  go_wp2_with fail
  go_end0
  exact ⟨rfl, HX.out⟩

theorem sort15_any (w : World) (bl blk : Nat) (p : Option Addr) (n c : Nat) (tg : List UInt8) (bs : Nat → Nat) (I : Nat → List UInt8) (K : Nat → Bool) (H : Nat → Int) (h : Hid (Lk w bl blk p n c tg bs I K H fun x => x)) (hn : n < 1099511627776) :
    Calls Try.prog 15 #[.pointer (some ⟨bl, 0, none⟩)] w fun e w' => e = .returned (.tuple #[]) ∧ ∃ d, Lk w' bl blk p n c tg bs I K H d ∧ Pm n d ∧ Srt (fun x => ckey (K x) (I x) tg) d 0 n ∧ w.grownBy w' (some blk) := by
  have hc := sort24_any w bl blk p n c tg bs I K H h hn
  have HC : Hid _ := hc
  clear hc
  go_enter Try.func15, Try.ntmps15
  go_wp2_with fail
  refine Calls.mono HC.out ?_
  rintro e w' ⟨rfl, hx⟩
  have HX : Hid _ := hx
  clear hx HC
  go_wp2_with fail
  go_end0
  exact ⟨rfl, HX.out⟩
end Go.Proofs.Qxb6617018a
