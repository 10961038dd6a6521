/- The ground of the sort functions' walks: the row, what less and swap do; and the walk of swapRange_func. -/
import Derived.Test.Qxb6617018aProg
import Derived.Test.Qxb6617018aSortPlain2
import Derived.WalkKit
import Derived.WalkSpells
import Derived.Outline
import Derived.Deep.QuietTactic
import Derived.BigQuiet
import Derived.Deep.LoopGhost
namespace Go.Proofs.Qxb6617018a
open Go.RowKit So

/-- What a sort is at: the elements' values, their keys, how many, the row's block, the two function values, the world at the start. -/
structure Gd where
  enc : Nat → Value
  key : Nat → Nat
  n : Nat
  blk : Nat
  g : Nat
  lb : Array Value
  sf : Nat
  sb : Array Value
  W : World

def Gd.data (G : Gd) : Array Value := #[.func (.func G.g) #[] G.lb, .func (.func G.sf) #[] G.sb]

structure Gd.At (G : Gd) (d : Nat → Nat) (w : World) : Prop where
  row : ∀ p, p < G.n → w.cell? ⟨G.blk, p, none⟩ = some (G.enc (d p)) ∧ w.frozen? ⟨G.blk, p, none⟩ = false
  pm : Pm G.n d
  env : G.W.grownBy w (some G.blk)

structure Gd.Ok (G : Gd) : Prop where
  blk : G.blk < G.W.heap.size
  n : G.n < 1099511627776
  enter : ∀ args w, (callFunc G.g args).run Try.prog w = .ok (.enter G.g args) w
  less : ∀ d w i j, G.At d w → i < G.n → j < G.n → Calls Try.prog G.g (#[.int .i64 (i : Nat), .int .i64 (j : Nat)] ++ G.lb) w fun e w' => e = .returned (.bool (decide (G.key (d i) < G.key (d j)))) ∧ w.grownBy w' none
  swap : ∀ d w i j, G.At d w → i < G.n → j < G.n → ∃ w', (callFunc G.sf (#[.int .i64 (i : Nat), .int .i64 (j : Nat)] ++ G.sb)).run Try.prog w = .ok (.value (.tuple #[])) w' ∧ G.At (swp d i j) w' ∧ w.grownBy w' (some G.blk)

theorem grownB_refl (w : World) (r : Option Nat) : w.grownBy w r := ⟨rfl, rfl, rfl, Nat.le_refl _, fun _ _ _ => rfl⟩
theorem grownB_trans {a b c : World} {r : Option Nat} (h : a.grownBy b r) (k : b.grownBy c r) : a.grownBy c r :=
  ⟨k.os.trans h.os, k.tape.trans h.tape, k.output.trans h.output, Nat.le_trans h.size k.size, fun i hi hn => (k.block i (Nat.lt_of_lt_of_le hi h.size) hn).trans (h.block i hi hn)⟩
theorem grownB_but {a c : World} (h : a.grownBy c none) (r : Option Nat) : a.grownBy c r := ⟨h.os, h.tape, h.output, h.size, fun i hi _ => h.block i hi (by simp)⟩

theorem Gd.At.size {G : Gd} (ok : G.Ok) {d : Nat → Nat} {w : World} (h : G.At d w) : G.blk < w.heap.size := Nat.lt_of_lt_of_le ok.blk h.env.size
theorem Gd.At.grow {G : Gd} (ok : G.Ok) {d : Nat → Nat} {w w' : World} (h : G.At d w) (k : w.grownBy w' none) : G.At d w' := by
  have hb := k.block G.blk (h.size ok) (by simp)
  refine ⟨fun p hp => ?_, h.pm, grownB_trans h.env (grownB_but k _)⟩
  rw [World.cell?_of_block hb, World.frozen?_of_block hb]
  exact h.row p hp
theorem Gd.At.alloc {G : Gd} (ok : G.Ok) {d : Nat → Nat} {w : World} (h : G.At d w) (o : Obj) : G.At d (w.alloc o) := h.grow ok (World.grownBy_alloc w o none)

/-- The boxed data: its two cells. -/
structure Gd.Bx (G : Gd) (b : Nat) (w : World) : Prop where
  c0 : w.cell? ⟨b, 0, none⟩ = some (.func (.func G.g) #[] G.lb)
  c1 : w.cell? ⟨b, 1, none⟩ = some (.func (.func G.sf) #[] G.sb)
theorem Gd.Bx.grow {G : Gd} {b : Nat} {w w' : World} (h : G.Bx b w) (k : w.grownBy w' (some G.blk)) (hb : b ≠ G.blk) : G.Bx b w' :=
  ⟨k.cell h.c0 (by intro e; exact hb (by simpa using e)), k.cell h.c1 (by intro e; exact hb (by simpa using e))⟩
theorem Gd.Bx.start (G : Gd) (w : World) (t : TypeId) : G.Bx w.heap.size (w.alloc (.cells G.data t)) := ⟨by simp [Gd.data], by simp [Gd.data]⟩

set_option maxHeartbeats 1000000 in
set_option maxRecDepth 100000 in
theorem swapRange_any (G : Gd) (ok : Hid G.Ok) (d : Nat → Nat) (a b n : Nat) (w : World) (hat : Hid (G.At d w)) (h1 : a + n ≤ b) (h2 : b + n ≤ G.n) :
    Calls Try.prog 50 #[.agg G.data, .int .i64 a, .int .i64 b, .int .i64 n] w fun e w' => e = .returned (.tuple #[]) ∧ G.At (swr d a b n) w' ∧ w.grownBy w' (some G.blk) := by
  have hn := ok.out.n
  have hb0 : w.heap.size ≠ G.blk := by have := hat.out.size ok.out; omega
  have hA : Hid (G.At d (w.alloc (.cells G.data 89))) := hat.out.alloc ok.out _
  have hX : Hid (G.Bx w.heap.size (w.alloc (.cells G.data 89))) := Gd.Bx.start G w 89
  have hG : Hid (w.grownBy (w.alloc (.cells G.data 89)) (some G.blk)) := World.grownBy_alloc w _ _
  go_enter Try.func50, Try.ntmps50
  go_wp2
  go_loopw [8] (fun vi wr => ∃ (i : Nat), vi = .int .i64 i ∧ i ≤ n ∧ G.At (swr d a b i) wr ∧ G.Bx w.heap.size wr ∧ w.grownBy wr (some G.blk)) (fun vi _ => n - (intOf vi).toNat)
  case atStart => exact ⟨0, rfl, by omega, by rw [swr_zero]; exact hA.out, hX.out, hG.out⟩
  case round =>
    obtain ⟨i, rfl, hi, hA1, hX1, hG1⟩ := hrel
    clear hA hX hG
    have c1 := hX1.c1
    have HA : Hid _ := hA1
    have HX : Hid _ := hX1
    have HG : Hid _ := hG1
    clear hA1 hX1 hG1
    by_cases hlt : i < n
    · have b1 : decide ((i : Int) < (n : Int)) = true := by simp; omega
      obtain ⟨w', hs, hA2, hG2⟩ := ok.out.swap _ _ (a + i) (b + i) HA.out (by omega) (by omega)
      have HA2 : Hid _ := hA2
      have HG2 : Hid _ := hG2
      clear hA2 hG2
      rw [swr_succ d a b i n hlt h1] at HA2
      simp only [Int.natCast_add] at hs
      go_wp2_with fail
      go_roundw
      case rel => exact ⟨i + 1, by simp, by omega, HA2.out, HX.out.grow HG2.out hb0, grownB_trans HG.out HG2.out⟩
      case measure => simp [intOf]; omega
    · have b1 : decide ((i : Int) < (n : Int)) = false := by simp; omega
      go_wp2_with fail
      obtain rfl : i = n := by omega
      go_end0
      exact ⟨rfl, HA.out, HG.out⟩
end Go.Proofs.Qxb6617018a
