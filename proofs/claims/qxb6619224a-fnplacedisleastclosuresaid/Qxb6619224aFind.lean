/- The walk of placed's closure find. -/
import Derived.Test.Qxb6619224aProg
import Derived.Test.Qxb6619224aPlain
import Derived.WalkKit
import Derived.WalkSpells
import Derived.Outline
import Derived.Deep.QuietTactic
import Derived.BigQuiet
import Derived.Deep.LoopGhost
namespace Go.Proofs.Qxb6619224a
open Go.RowKit Pl

/-- The cells of a []bool. -/
def bools (sl : List Bool) : Array Value := (sl.map Value.bool).toArray

theorem bools_at (sl : List Bool) (j : Nat) (h : j < sl.length) : (bools sl)[j]? = some (.bool (sl.getD j false)) := by
  simp [bools, List.getElem?_eq_getElem h]

theorem bools_set (sl : List Bool) (j : Nat) : (bools sl).setIfInBounds j (.bool true) = bools (sl.set j true) := by
  simp [bools]

theorem grown_refl (w : World) (r : Option Nat) : w.grownBy w r := ⟨rfl, rfl, rfl, Nat.le_refl _, fun _ _ _ => rfl⟩
theorem grown_set {w w' : World} {g : Nat} (h : w.grownBy w' (some g)) (i : Nat) (v : Value) : w.grownBy (w'.setCell ⟨g, i, none⟩ v) (some g) :=
  ⟨h.os, h.tape, h.output, by simpa [World.setCell] using h.size, fun k hk hne => (Below.heap_setCell _ _ _ _ (by intro e; exact hne (by rw [e]))).trans (h.block k hk hne)⟩

set_option maxHeartbeats 1000000 in
theorem find_any (n m : Nat) (P : Nat → Bool) (K V Wr : Nat → Int) (ok : Hid (Ok n m K V Wr)) (bw bp bh gw gp gh gc cw : Nat) (sl0 : List Bool) (v0 : Int) (w : World)
    (hpre : Hid (FPre n m P K V Wr v0 sl0)) (h1 : w.cell? ⟨bw, 0, none⟩ = some (.slice (some ⟨gw, 0, none⟩) m cw)) (h2 : Hid (∀ v, v < m → w.cell? ⟨gw, v, none⟩ = some (.int .i64 (Wr v))))
    (h3 : w.cell? ⟨bp, 0, none⟩ = some (.slice (some ⟨gp, 0, none⟩) n n)) (h4 : Hid (w.heap[gp]? = some (.cells (bools sl0) 4 (0, 0)))) (h5 : w.cell? ⟨bh, 0, none⟩ = some (.pointer (some ⟨gh, 0, none⟩)))
    (h6 : w.cell? ⟨gh, 1, none⟩ = some (.slice (some ⟨gc, 0, none⟩) n n)) (h7 : Hid (∀ j, j < n → w.cell? ⟨gc, j * 3, none⟩ = some (.int .u8 (K j)) ∧ w.cell? ⟨gc, j * 3 + 1, none⟩ = some (.int .i64 (V j))))
    (e1 : bw ≠ gp) (e2 : gw ≠ gp) (e3 : bp ≠ gp) (e4 : bh ≠ gp) (e5 : gh ≠ gp) (e6 : gc ≠ gp) :
    Calls Try.prog 7 #[.int .i64 v0, .pointer (some ⟨bw, 0, none⟩), .pointer (some ⟨bp, 0, none⟩), .pointer (some ⟨bh, 0, none⟩)] w fun e w' =>
      w.grownBy w' (some gp) ∧ ((∃ sl, e = .returned (.bool true) ∧ FPost n P K V Wr v0 sl0 sl ∧ w'.heap[gp]? = some (.cells (bools sl) 4 (0, 0))) ∨ (e = .returned (.bool false) ∧ Bad n P K V Wr)) := by
  go_enter Try.func7, Try.ntmps7
  go_wp2_with fail
  go_loopg [0] (cf sl0) (fun g v wr => ∃ (x : Nat) (sl : List Bool), v = .int .i64 (x : Int) ∧ x < m ∧ Hid (FInv n m P K V Wr v0 sl0 (x : Int) sl) ∧ Hid (g = cf sl) ∧ Hid (w.grownBy wr (some gp)) ∧ Hid (wr.heap[gp]? = some (.cells (bools sl) 4 (0, 0))))
  case atStart =>
    have hp := hpre.out
    obtain ⟨x, hx⟩ := Int.eq_ofNat_of_zero_le hp.vpos
    refine ⟨x, sl0, by rw [hx], by have := hp.vm; omega, ?_, rfl, grown_refl _ _, h4⟩
    rw [← hx]; exact FInv.start hp
  case round =>
    obtain ⟨x, sl, rfl, hx, hI, hg, hG, hR⟩ := hrel
    have far : ∀ (a : Addr) (v : Value), a.block ≠ gp → w.cell? a = some v → wr.cell? a = some v := fun a v hne hc => hG.out.cell hc (by intro e; exact hne (by simpa using e))
    have c1 := far _ _ e1 h1
    have c2 := far _ _ e2 (h2.out x hx)
    have c3 := far _ _ e3 h3
    have c5 := far _ _ e4 h5
    have c6 := far _ _ e5 h6
    have hwr := ok.out.wr x hx
    have hlen := hI.out.len
    have hfz : ∀ i, wr.frozen? ⟨gp, i, none⟩ = false := fun i => frozen_of_row wr gp i _ _ hR.out
    have FAR : Hid _ := far
    clear far h1 h3 h5 h6
    by_cases hw : Wr x = -1
    · have HB : Hid (Bad n P K V Wr) := hI.out.none (by simpa using hw)
      rw [hw] at c2
      clear hw hwr hfz
      go_wp2_with fail
      go_ret
      exact ⟨hG.out, .inr ⟨rfl, HB.out⟩⟩
    · obtain ⟨y, hy⟩ := Int.eq_ofNat_of_zero_le (show 0 ≤ Wr x by omega)
      have hyn : y < n := by omega
      have HY : Hid (Wr (x : Int).toNat = (y : Int)) := by show _ = _; simpa using hy
      rw [hy] at c2
      have hne : ((y : Int) == -1) = false := by rw [beq_eq_false_iff_ne]; omega
      have c4 : wr.cell? ⟨gp, y, none⟩ = some (.bool (sl.getD y false)) := by
        rw [cell_of_row wr gp y _ _ _ hR.out]; exact bools_at sl y (by omega)
      clear hw hwr hy
      cases hs : sl.getD y false with
      | true =>
        rw [hs] at c4
        have HF : Hid (FPost n P K V Wr v0 sl0 sl) := hI.out.done y hyn HY.out hs
        clear hs
        go_wp2_with fail
        go_ret
        exact ⟨hG.out, .inl ⟨sl, rfl, HF.out, hR.out⟩⟩
      | false =>
        rw [hs] at c4
        have HC : Hid _ := cf_set sl y (by omega) hs
        obtain ⟨d1, d2⟩ := h7.out y hyn
        have c7 := FAR.out _ _ e6 d1
        have c8 := FAR.out _ _ e6 d2
        clear hs d1 d2
        have s5 : ∀ v, (wr.setCell ⟨gp, y, none⟩ v).cell? ⟨bh, 0, none⟩ = some (.pointer (some ⟨gh, 0, none⟩)) := fun v => by rw [← c5]; exact World.cell?_of_block (Below.heap_setCell _ _ _ _ e4)
        have s6 : ∀ v, (wr.setCell ⟨gp, y, none⟩ v).cell? ⟨gh, 1, none⟩ = some (.slice (some ⟨gc, 0, none⟩) n n) := fun v => by rw [← c6]; exact World.cell?_of_block (Below.heap_setCell _ _ _ _ e5)
        have s7 : ∀ v, (wr.setCell ⟨gp, y, none⟩ v).cell? ⟨gc, y * 3, none⟩ = some (.int .u8 (K y)) := fun v => by rw [← c7]; exact World.cell?_of_block (Below.heap_setCell _ _ _ _ e6)
        have s8 : ∀ v, (wr.setCell ⟨gp, y, none⟩ v).cell? ⟨gc, y * 3 + 1, none⟩ = some (.int .i64 (V y)) := fun v => by rw [← c8]; exact World.cell?_of_block (Below.heap_setCell _ _ _ _ e6)
        have HR : Hid ((wr.setCell ⟨gp, y, none⟩ (.bool true)).heap[gp]? = some (.cells (bools (sl.set y true)) 4 (0, 0))) := by
          show _ = _
          rw [heap_setCell_same wr gp y _ _ _ hR.out, bools_set]
        have HG : Hid (w.grownBy (wr.setCell ⟨gp, y, none⟩ (.bool true)) (some gp)) := grown_set hG.out y _
        by_cases hk : K y = 2
        · have HN : Hid _ := hI.out.go ok.out y hyn HY.out hk
          have hkb : (K y != 2) = false := by rw [hk]; rfl
          have hv2 := ok.out.two y hyn hk
          obtain ⟨z, hz⟩ := Int.eq_ofNat_of_zero_le hv2.1
          rw [hz] at HN s8
          have hzm : z < m := by omega
          clear hk hv2 hz c7 c8 c5 c6
          go_wp2_with fail
          go_roundg (cf (sl.set y true))
          case rel => exact ⟨z, sl.set y true, rfl, hzm, HN, rfl, HG, HR⟩
          case measure => rw [hg.out]; have := HC.out; omega
        · have HN : Hid _ := hI.out.stop y hyn HY.out hk
          have hkb : (K y != 2) = true := by rw [bne_iff_ne]; exact hk
          clear hk c7 c8 c5 c6
          go_wp2_with fail
          go_ret
          exact ⟨HG.out, .inl ⟨_, rfl, HN.out, HR.out⟩⟩
end Go.Proofs.Qxb6619224a
