/- The walks of FnScannedTextPassesTextThrough and of what it calls. -/
import Derived.Test.Qxb6616958aFmtProg
import Derived.WalkKit
import Derived.WalkSpells
import Derived.Outline
import Derived.Deep.QuietTactic
import Derived.BigQuiet
import Derived.Deep.LoopGhost
import Derived.Laws.CopyOwn
import Derived.Lib.ConvBytes
import Derived.Laws.BytesArg
namespace Go.Proofs.Qxb6616958aFmt
open Go.RowKit

theorem as34_9 (v : Value) (w : World) : (Instr.typeAssert (.iface 34 v) 20 9 true).run Tryf.prog w = .ok (.tuple #[.string ⟨#[]⟩, .bool false]) w := by kernel_rfl
theorem as34_34 (v : Value) (w : World) : (Instr.typeAssert (.iface 34 v) 20 34 true).run Tryf.prog w = .ok (.tuple #[v, .bool true]) w := by kernel_rfl
theorem as9_9 (v : Value) (w : World) : (Instr.typeAssert (.iface 9 v) 20 9 true).run Tryf.prog w = .ok (.tuple #[v, .bool true]) w := by kernel_rfl

set_option maxHeartbeats 400000 in
theorem bytes_any (a : Option Addr) (n c : Nat) (w : World) :
    Calls Tryf.prog 18 #[.slice a n c] w fun e w' => e = .returned (.tuple #[.slice a n c, .nilIface]) ∧ w' = w := by
  have h1 := as34_9
  have h2 := as34_34
  go_enter Tryf.func18, Tryf.ntmps18
  go_wp2
  go_ret2
  exact ⟨rfl, rfl⟩

theorem below_bytes (w : World) (s : ByteArray) : Below w.heap.size w (Lib.bytesWorld w 5 s) :=
  ⟨rfl, rfl, rfl, by rw [Lib.bytesWorld_size]; omega, fun k hk => Lib.bytesWorld_at_old w 5 s k hk⟩

set_option maxHeartbeats 400000 in
theorem string_any (s : ByteArray) (n : Nat) (xs : List Int) (w : World) (hn : s.size = n) (hx : Hid (∀ j (h : j < s.size), (s[j].toNat : Int) = xs.getD j 0)) :
    Calls Tryf.prog 19 #[.string s] w fun e w' => (∃ cap, e = .returned (.tuple #[.slice (some ⟨w.heap.size, 0, none⟩) n cap, .nilIface])) ∧
      (∀ j, j < n → w'.cell? ⟨w.heap.size, j, none⟩ = some (.int .u8 (xs.getD j 0))) ∧ Below w.heap.size w w' := by
  subst hn
  have h1 := as9_9
  have h2 := fun w => Lib.run_convert_string_bytes (P := Tryf.prog) w 9 34 5 s Tryf.underlying9 Tryf.underlying34 Tryf.underlying5
  go_enter Tryf.func19, Tryf.ntmps19
  go_wp2
  go_ret2
  refine ⟨⟨_, rfl⟩, ?_, below_bytes w s⟩
  intro j hj
  rw [Lib.bytesWorld_cell w 5 s j hj, ← hx.out j hj]
  have e : s.data.toList.getD j 0 = s[j] := by
    rw [List.getD_eq_getElem?_getD, List.getElem?_eq_getElem (by simpa using hj)]
    rfl
  rw [e]

set_option maxHeartbeats 400000 in
theorem same_none (a b : Option Addr) (c d : Nat) (w : World) :
    Calls Tryf.prog 20 #[.slice a 0 c, .slice b 0 d] w fun e w' => e = .returned (.bool true) ∧ w' = w := by
  go_enter Tryf.func20, Tryf.ntmps20
  go_wp2_with fail
  go_loopg [5] 0 (fun g v wr => v = .int .i64 0 ∧ wr = w)
  case atStart => exact ⟨rfl, rfl⟩
  case round =>
    obtain ⟨rfl, rfl⟩ := hrel
    go_wp2
    go_ret
    exact ⟨rfl, rfl⟩

set_option maxHeartbeats 400000 in
theorem same_some (ga oa gb ob n c d : Nat) (xs : List Int) (w : World) (hn : n ≤ 1048576) (ha : Hid (∀ j, j < n → w.cell? ⟨ga, oa + j, none⟩ = some (.int .u8 (xs.getD j 0)))) (hb : Hid (∀ j, j < n → w.cell? ⟨gb, ob + j, none⟩ = some (.int .u8 (xs.getD j 0)))) :
    Calls Tryf.prog 20 #[.slice (some ⟨ga, oa, none⟩) n c, .slice (some ⟨gb, ob, none⟩) n d] w fun e w' => e = .returned (.bool true) ∧ ∃ q, w' = w.drewN q := by
  go_enter Tryf.func20, Tryf.ntmps20
  go_wp2_with fail
  go_loopg [5] n (fun g v wr => ∃ k : Nat, k ≤ n ∧ Hid (g = n - k) ∧ v = .int .i64 k ∧ ∃ q, wr = w.drewN q)
  case atStart => exact ⟨0, Nat.zero_le _, rfl, rfl, 0, rfl⟩
  case round =>
    obtain ⟨k, hk, hg, rfl, q, rfl⟩ := hrel
    by_cases hlt : k < n
    · have hlt1 : (k : Int) < (n : Int) := by omega
      have h1 := ha.out k hlt
      have h2 := hb.out k hlt
      generalize xs.getD k 0 = x at h1 h2
      go_wp2_with fail
      go_quiet (fail)
      go_wp2_with fail
      go_roundg (n - (k + 1))
      case rel => exact ⟨k + 1, by omega, rfl, by go_num, _, rfl⟩
      case measure => rw [hg.out]; omega
    · go_wp2
      go_ret
      exact ⟨rfl, _, rfl⟩

set_option maxHeartbeats 400000 in
theorem scan_long (a : Option Addr) (n c : Nat) (w : World) (h : 1048576 < n) (hm : n ≤ maxLen) :
    Calls Tryf.prog 7 #[.slice a n c] w fun e w' => e = .returned (.bool true) ∧ w' = w := by
  unfold maxLen at hm
  go_enter Tryf.func7, Tryf.ntmps7
  go_wp2
  go_ret
  exact ⟨rfl, rfl⟩

set_option maxHeartbeats 400000 in
theorem scan_nil (w : World) : Calls Tryf.prog 7 #[.slice none 0 0] w fun e w' => e = .returned (.bool true) ∧ Below w.heap.size w w' := by
  have h1 := fun w => run_neq_slice_nil_any (P := Tryf.prog) w 34 5 none 0 0 0 0 Tryf.underlying34
  have h2 := fun w => run_convert_bytes_nil (P := Tryf.prog) w 34 5 Tryf.underlying34 Tryf.underlying5 0 0 9 Tryf.underlying9
  go_enter Tryf.func7, Tryf.ntmps7
  go_wp2_with (go_at_call 17; go_in)
  refine (bytes_any _ _ _ _).mono ?_
  rintro e w' ⟨rfl, rfl⟩
  go_wp2_with fail
  refine (string_any ByteArray.empty 0 [] _ rfl (fun j h => absurd h (by simp))).mono ?_
  rintro e w1 ⟨⟨cap, rfl⟩, _, hb⟩
  go_wp2_with fail
  refine (same_none _ _ _ _ _).mono ?_
  rintro e w' ⟨rfl, rfl⟩
  go_wp2_with fail
  refine (same_none _ _ _ _ _).mono ?_
  rintro e w' ⟨rfl, rfl⟩
  go_wp2_with fail
  go_ret
  exact ⟨rfl, hb⟩

theorem info5 : (Tryf.prog.info? 5).map (·.size) = some 1 := by kernel_rfl

theorem make34 (n : Nat) (h : n ≤ 1048576) (w : World) : (Instr.makeSlice 34 (.int .i64 (n : Int)) (.int .i64 (n : Int))).run Tryf.prog w = .ok (.slice (some ⟨w.heap.size, 0, none⟩) n n) (w.alloc (.cells (madeCells #[.int .u8 0] n) 5)) := by
  obtain ⟨i, h1, h2, h3, h4⟩ : ∃ i, Tryf.prog.info? 5 = some i ∧ i.zero = some (.int .u8 0) ∧ i.size = 1 ∧ i.bytes = 1 := by
    have : (Tryf.prog.info? 5).map (fun i => (i.zero, i.size, i.bytes)) = some (some (Value.int .u8 0), 1, 1) := by kernel_rfl
    obtain ⟨i, hi, e⟩ := Option.map_eq_some_iff.1 this
    simp only [Prod.mk.injEq] at e
    exact ⟨i, hi, e.1, e.2.1, e.2.2⟩
  have hr := run_make (P := Tryf.prog) w 34 5 i (.int .u8 0) Tryf.underlying34 h1 h2 .i64 .i64 n n (by omega) (by omega) (by rw [h4]; omega) (by omega)
  rw [h3, Nat.mul_one, Int.toNat_natCast] at hr
  exact hr

theorem splice_full {α : Type} (L cs : List α) (h : cs.length = L.length) : splice L 0 cs = cs := by
  unfold splice
  rw [List.take_zero, List.nil_append, Nat.zero_add, h, List.drop_length, List.append_nil]

set_option maxHeartbeats 1000000 in
theorem scan_some (ad : Addr) (n c : Nat) (xs : List Int) (w : World) (hn : n ≤ 1048576) (hl : n ≤ xs.length) (hr : ∀ x ∈ xs, 0 ≤ x ∧ x < 256)
    (hc : ∀ j, j < xs.length → w.cell? (ad.add j) = some (.int .u8 (xs.getD j 0))) :
    Calls Tryf.prog 7 #[.slice (some ad) n c] w fun e w' => e = .returned (.bool true) ∧ Below w.heap.size w w' := by
  have h1 := fun w => run_neq_slice_nil_any (P := Tryf.prog) w 34 5 (some ad) n c 0 0 Tryf.underlying34
  have h2 := make34 n hn
  obtain ⟨X, hX⟩ : ∃ X : List Value, X = (xs.take n).map (fun x => Value.int .u8 x) := ⟨_, rfl⟩
  have hXl : X.length = n := by rw [hX]; simp; omega
  have hXc : ∀ j v, X[j]? = some v → w.cell? (ad.add j) = some v := by
    intro j v hv
    rw [hX] at hv
    have hj : j < n := by have := (List.getElem?_eq_some_iff.1 hv).1; simpa using (by simp at this; omega)
    rw [hc j (by omega)]
    simp [hj] at hv
    obtain ⟨x, hx, rfl⟩ := hv
    rw [List.getD_eq_getElem?_getD, hx]
    rfl
  have hXo : ∀ v ∈ X, v.oneCell' = true := by
    intro v hv
    rw [hX, List.mem_map] at hv
    obtain ⟨x, _, rfl⟩ := hv
    rfl
  have hM : (madeCells #[.int .u8 0] n).toList.length = n := by simp [madeCells]
  have hg0 : (w.alloc (.cells (madeCells #[.int .u8 0] n) 5)).heap[w.heap.size]? = some (.cells (madeCells #[.int .u8 0] n).toList.toArray 5 (0, 0)) := heap_alloc_new w _
  have hb0 : Below w.heap.size w (w.alloc (.cells (madeCells #[.int .u8 0] n) 5)) := (Below.refl _ _).alloc (Nat.le_refl _) _
  have HX : Hid _ := hX
  have HC : Hid _ := hXc
  have HG : Hid _ := hg0
  have HL : Hid _ := hXl
  have HM : Hid _ := hM
  clear hX hXc hg0 hXl hM hc
  go_enter Tryf.func7, Tryf.ntmps7
  go_wp2_with (first | (go_at_call 17; go_in) | (refine wpList_copy_splice rfl _ _ 34 34 rfl 5 Tryf.underlying34 info5 _ _ n n n c rfl rfl w.heap.size 0 _ 5 HG.out X (by rw [HL.out]; simp) ?hpos (by rw [HL.out, HM.out]; omega) hXo w.heap.size w hb0 (Nat.le_refl _) ?_))
  case hpos =>
    intro _ j v hv
    exact (hb0.cell (p := ad.add j) (block_lt_of_cell (HC.out j v hv))).trans (HC.out j v hv)
  intro w2 HG2 hB2
  have hrow : w2.heap[w.heap.size]? = some (.cells X.toArray 5 (0, 0)) := by
    rw [HG2.out, splice_full _ X (by rw [HL.out, HM.out])]
  have hcell : ∀ j, j < n → w2.cell? ⟨w.heap.size, 0 + j, none⟩ = some (.int .u8 (xs.getD j 0)) := by
    intro j hj
    rw [cell_of_row w2 w.heap.size (0 + j) X.toArray 5 (0, 0) hrow, HX.out, Nat.zero_add]
    simp [hj, List.getElem?_eq_getElem (show j < xs.length by omega)]
  have hlt2 : w.heap.size < w2.heap.size := by
    rcases Nat.lt_or_ge w.heap.size w2.heap.size with h | h
    · exact h
    · rw [Array.getElem?_eq_none h] at hrow; cases hrow
  obtain ⟨t, hts, htx, hcv⟩ : ∃ t : ByteArray, t.size = n ∧ Hid (∀ j (h : j < t.size), (t[j].toNat : Int) = xs.getD j 0) ∧ (convert 34 9 (.slice (some ⟨w.heap.size, 0, none⟩) n n)).run Tryf.prog w2 = .ok (.string t) w2 := by
    refine ⟨strOfNums (xs.take n), by rw [strOfNums_size]; simp; omega, ?_, ?_⟩
    · intro j hj
      rw [strOfNums_size] at hj
      have hj1 : j < n := by simp at hj; omega
      have hj2 : j < xs.length := by omega
      have hx := hr (xs[j]) (List.getElem_mem hj2)
      show ((((xs.take n).map fun n => UInt8.ofNat n.toNat).toArray[j]'(by simpa using hj)).toNat : Int) = _
      simp [List.getElem?_eq_getElem hj2]
      omega
    · exact run_convert_bytes_arg (P := Tryf.prog) w2 34 5 Tryf.underlying34 Tryf.underlying5 w.heap.size 0 n n (xs.take n) (by simp; omega) (fun i hi => by
        rw [hcell i hi]
        simp [List.getD_eq_getElem?_getD, hi]) 9 Tryf.underlying9
  have HCELL : Hid _ := hcell
  clear hcell hrow HG2 HG HX HC HL HM hXo hb0 hr h2 h1
  go_wp2_with fail
  refine (bytes_any _ _ _ _).mono ?_
  rintro e w' ⟨rfl, rfl⟩
  go_wp2_with fail
  refine (string_any t n xs _ hts htx).mono ?_
  rintro e w3 ⟨⟨cap, rfl⟩, hc3, hb3⟩
  have HC3 : Hid (∀ j, j < n → w3.cell? ⟨w'.heap.size, 0 + j, none⟩ = some (.int .u8 (xs.getD j 0))) := fun j hj => by rw [Nat.zero_add]; exact hc3 j hj
  have HP3 : Hid (∀ j, j < n → w3.cell? ⟨w.heap.size, 0 + j, none⟩ = some (.int .u8 (xs.getD j 0))) := fun j hj => (hb3.cell (p := ⟨w.heap.size, 0 + j, none⟩) hlt2).trans (HCELL.out j hj)
  clear hc3 hcv HCELL htx hts
  go_wp2_with fail
  refine (same_some _ _ _ _ n _ _ xs _ hn HP3 HP3).mono ?_
  rintro e w4 ⟨rfl, q, rfl⟩
  go_wp2_with fail
  refine (same_some _ _ _ _ n _ _ xs (w3.drewN q) hn HC3 HP3).mono ?_
  rintro e w4 ⟨rfl, q2, rfl⟩
  go_wp2_with fail
  go_ret
  exact ⟨rfl, (hB2.trans (hb3.mono (by omega))).trans ⟨rfl, rfl, rfl, Nat.le_refl _, fun _ _ => rfl⟩⟩
end Go.Proofs.Qxb6616958aFmt
