/- The shelf's contract of encoding/hex.EncodeToString, laid at this seat's translation in plain words; and the walk of (ID).String. -/
import Derived.Ground.PaProg
import Derived.Shelf.Hex.More
import Derived.Test.Qxb6617018aProg
import Derived.WalkKit
import Derived.WalkSpells
import Derived.Outline
namespace Go.Proofs
open Go.Shelf
def Try.laysPah39_ren : Go.Shelf.Ren := ⟨fun | 39 => 22 | 41 => 26 | 40 => 27 | n => n, fun | 30 => 45 | 9 => 9 | 3 => 3 | 0 => 0 | 5 => 5 | 46 => 79 | n => n, fun | n => n⟩
theorem Try.laysPah39 : Go.Proofs.Lays.ph39 Try.prog Try.laysPah39_ren := {
  mixed := by kernel_rfl
  f39 := Try.func22.trans (congrArg some (by kernel_rfl))
  f40 := Try.func27.trans (congrArg some (by kernel_rfl))
  f41 := Try.func26.trans (congrArg some (by kernel_rfl))
  t0 := Try.underlying0
  a0 := Try.isAgg0
  z0 := Try.sizeOf0
  v0 := Try.zeroValue0
  t3 := Try.underlying3
  a3 := Try.isAgg3
  z3 := Try.sizeOf3
  v3 := Try.zeroValue3
  t5 := Try.underlying5
  a5 := Try.isAgg5
  z5 := Try.sizeOf5
  v5 := Try.zeroValue5
  t9 := Try.underlying9
  a9 := Try.isAgg9
  z9 := Try.sizeOf9
  v9 := Try.zeroValue9
  t30 := Try.underlying45
  a30 := Try.isAgg45
  z30 := Try.sizeOf45
  v30 := Try.zeroValue45
  t46 := Try.underlying79
  a46 := Try.isAgg79
  z46 := Try.sizeOf79
  v46 := Try.zeroValue79
  info5 := by kernel_rfl }
open Go.RowKit Go.Lib in
theorem Try.hex_EncodeToString_bytes (bs os cs : Nat) (l : List UInt8) (w : World) (hsrc : ∀ i (h : i < l.length), w.cell? ⟨bs, os + i, none⟩ = some (.int .u8 ((l[i]'h).toNat : Int))) (hb : bs < w.heap.size) (hbig : 2 * l.length ≤ 281474976710656) :
    Calls Try.prog 22 #[.slice (some ⟨bs, os, none⟩) l.length cs] w fun e w' => e = .returned (.string ⟨(Hx.encode l).toArray⟩) ∧ Below w.heap.size w w' := Any.hex_EncodeToString_bytes Try.laysPah39 bs os cs l w hsrc hb hbig
end Go.Proofs
namespace Go.Proofs.Qxb6617018a
open Go.RowKit Go.Lib

/-- The value of a [20]byte array, off the list of its bytes. -/
def arrv (l : List UInt8) : Array Value := (l.map fun b => Value.int .u8 (b.toNat : Int)).toArray

theorem arrv_size (l : List UInt8) : (arrv l).size = l.length := by simp [arrv]
theorem arrv_get (l : List UInt8) (i : Nat) (h : i < l.length) : (arrv l)[i]? = some (.int .u8 ((l[i]'h).toNat : Int)) := by simp [arrv, h]

set_option maxHeartbeats 400000 in
theorem string_any (l : List UInt8) (hl : l.length = 20) (w : World) :
    Calls Try.prog 7 #[.agg (arrv l)] w fun e w' => e = .returned (.string ⟨(Hx.encode l).toArray⟩) ∧ Below w.heap.size w w' := by
  have hc := Try.hex_EncodeToString_bytes w.heap.size 0 20 l (w.alloc (.cells (arrv l) 23)) (by
    intro i h
    rw [cell_of_row _ w.heap.size (0 + i) (arrv l) 23 (0, 0) (heap_alloc_new w _), Nat.zero_add]
    exact arrv_get l i h) (by simp) (by omega)
  rw [hl] at hc
  go_enter Try.func7, Try.ntmps7
  go_wp2_with fail
  refine hc.mono ?_
  rintro e w' ⟨rfl, hb⟩
  go_wp2
  go_ret
  exact ⟨rfl, ((Below.refl _ _).alloc (Nat.le_refl _) _).trans (hb.mono (by simp))⟩
end Go.Proofs.Qxb6617018a
