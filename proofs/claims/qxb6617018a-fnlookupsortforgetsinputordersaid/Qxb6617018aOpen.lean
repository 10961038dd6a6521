/- A [20]byte argument, opened: its bytes; and its reading behind the call. -/
import Derived.Test.Qxb6617018aRows
import Derived.Test.Qxb6617018aHex
import Derived.ProofKit
import Derived.OpenShut
import Derived.ChangeOld
import Derived.Below
namespace Go.Proofs.Qxb6617018a
open Go.ChangeShapes Go.WideShapes Go.ChangeAt Go.RowKit

theorem own : ownKnob Try.prog.godebug = none := by kernel_rfl
theorem laidOut : laidOutB Try.prog = true := by kernel_rfl
theorem cells22 : Try.prog.cellsOf 22 = 20 := by kernel_rfl
theorem cells5 : Try.prog.cellsOf 5 = 1 := by kernel_rfl

theorem byte_of_wf {x : Int} (h : (Lit.int .u8 x).wf = true) : ∃ b : UInt8, x = (b.toNat : Int) := by
  simp [Lit.wf, IntKind.min, IntKind.max, IntKind.signed, IntKind.bits] at h
  refine ⟨UInt8.ofNat x.toNat, ?_⟩
  rw [UInt8.toNat_ofNat']
  omega

/-- Twenty cells that read as a [20]byte. -/
theorem open_cells {H : Type} {enc : TypeId × Value → H} {W : World} {base : Nat} {spare : Nat → Bool} {held : Bool} {fuel : Nat} {cs : List Value} {x : DataW H × List MemPlace}
    (h : DataW.trod enc Try.prog W base spare held fuel 22 cs = some x) : ∃ l : List UInt8, l.length = 20 ∧ cs = l.map fun b => Value.int .u8 (b.toNat : Int) := by
  obtain ⟨xs, m, _, _, hlen, hn, hel⟩ := DataW.trod_array Try.underlying22 h
  rw [cells22] at hlen
  have hc : ∀ i, i < 20 → ∃ b : UInt8, cs[i]? = some (Value.int .u8 (b.toNat : Int)) := by
    intro i hi
    have h1 := hel i hi
    rw [cells5, Nat.mul_one, List.getElem?_eq_getElem (by omega)] at h1
    obtain ⟨a, e0, _, wa⟩ := DataW.trod_int Try.underlying5 h1
    obtain ⟨b, rfl⟩ := byte_of_wf wa
    refine ⟨b, ?_⟩
    have e1 := congrArg (fun l : List Value => l[0]?) e0
    simpa [List.getElem?_drop, List.getElem?_take] using e1
  refine ⟨cs.map (fun v => match v with | .int _ q => UInt8.ofNat q.toNat | _ => 0), by simp [hlen], ?_⟩
  apply List.ext_getElem?
  intro i
  by_cases hi : i < 20
  · obtain ⟨b, hb⟩ := hc i hi
    simp [hb]
  · rw [List.getElem?_eq_none (by omega), List.getElem?_eq_none (by simp; omega)]

set_option maxRecDepth 100000 in
theorem open_arr {H : Type} {enc : TypeId × Value → H} {W : World} {base base' : Nat} {v : Value} {d : DataW H} {p : List MemPlace}
    (hv : Value.okWide Try.prog W .any base 22 v) (h : DataW.Trod enc Try.prog W base' (fun _ => true) true 22 v d p) : ∃ l : List UInt8, l.length = 20 ∧ v = .agg (arrv l) := by
  obtain ⟨cs, rfl, _, _⟩ : ∃ cs, v = .agg cs ∧ cs.size = Try.prog.cellsOf 22 ∧ Row.okWide Try.prog W .any base 22 cs := by
    simpa [Value.okWide, Try.underlying22] using hv
  obtain ⟨fuel, hf⟩ := h
  obtain ⟨l, hl, e⟩ := open_cells (by simpa [Value.cells] using hf)
  refine ⟨l, hl, ?_⟩
  unfold arrv
  rw [← e]
end Go.Proofs.Qxb6617018a
