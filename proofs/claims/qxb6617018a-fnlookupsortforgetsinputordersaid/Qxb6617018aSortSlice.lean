/- The shelf's entry of sort.SliceStable, laid at this seat's translation in plain words; and sort.SliceStable at any number of elements. -/
import Derived.Ground.GgtProg
import Derived.Shelf.GgSortMore.Stable
import Derived.Test.Qxb6617018aSortStable
import Derived.Test.Qxb6617018aSortLess
namespace Go.Proofs
open Go.Shelf
def Try.laysGt8_ren : Go.Shelf.Ren := ⟨fun | 8 => 28 | 13 => 32 | 14 => 33 | 16 => 35 | 15 => 34 | 29 => 46 | 30 => 47 | 42 => 49 | 49 => 50 | n => n, fun | 20 => 20 | 26 => 78 | 36 => 83 | 0 => 0 | 38 => 85 | 42 => 89 | 3 => 3 | 4 => 4 | 47 => 79 | 17 => 17 | 33 => 80 | 34 => 81 | 89 => 109 | 12 => 12 | 56 => 101 | 82 => 102 | 5 => 5 | 83 => 103 | 84 => 104 | 85 => 105 | 86 => 106 | 87 => 107 | n => n, fun | n => n⟩
theorem Try.laysGt8 : Go.Proofs.LaysGt.n8 Try.prog Try.laysGt8_ren := {
  mixed := by kernel_rfl
  f8 := Try.func28.trans (congrArg some (by kernel_rfl))
  f13 := Try.func32.trans (congrArg some (by kernel_rfl))
  f14 := Try.func33.trans (congrArg some (by kernel_rfl))
  f15 := Try.func34.trans (congrArg some (by kernel_rfl))
  f16 := Try.func35.trans (congrArg some (by kernel_rfl))
  f29 := Try.func46.trans (congrArg some (by kernel_rfl))
  f30 := Try.func47.trans (congrArg some (by kernel_rfl))
  f42 := Try.func49.trans (congrArg some (by kernel_rfl))
  f49 := Try.func50.trans (congrArg some (by kernel_rfl))
  t0 := Try.underlying0
  a0 := Try.isAgg0
  z0 := Try.sizeOf0
  v0 := Try.zeroValue0
  i0 := by kernel_rfl
  t3 := Try.underlying3
  a3 := Try.isAgg3
  z3 := Try.sizeOf3
  v3 := Try.zeroValue3
  i3 := by kernel_rfl
  t4 := Try.underlying4
  a4 := Try.isAgg4
  z4 := Try.sizeOf4
  v4 := Try.zeroValue4
  i4 := by kernel_rfl
  t5 := Try.underlying5
  a5 := Try.isAgg5
  z5 := Try.sizeOf5
  v5 := Try.zeroValue5
  i5 := by kernel_rfl
  t12 := Try.underlying12
  a12 := Try.isAgg12
  z12 := Try.sizeOf12
  v12 := Try.zeroValue12
  i12 := by kernel_rfl
  t17 := Try.underlying17
  a17 := Try.isAgg17
  z17 := Try.sizeOf17
  v17 := Try.zeroValue17
  i17 := by kernel_rfl
  t20 := Try.underlying20
  a20 := Try.isAgg20
  z20 := Try.sizeOf20
  v20 := Try.zeroValue20
  i20 := by kernel_rfl
  t26 := Try.underlying78
  a26 := Try.isAgg78
  z26 := Try.sizeOf78
  v26 := Try.zeroValue78
  i26 := by kernel_rfl
  t33 := Try.underlying80
  a33 := Try.isAgg80
  z33 := Try.sizeOf80
  v33 := Try.zeroValue80
  i33 := by kernel_rfl
  t34 := Try.underlying81
  a34 := Try.isAgg81
  z34 := Try.sizeOf81
  v34 := Try.zeroValue81
  i34 := by kernel_rfl
  t36 := Try.underlying83
  a36 := Try.isAgg83
  z36 := Try.sizeOf83
  v36 := Try.zeroValue83
  i36 := by kernel_rfl
  t38 := Try.underlying85
  a38 := Try.isAgg85
  z38 := Try.sizeOf85
  v38 := Try.zeroValue85
  i38 := by kernel_rfl
  t42 := Try.underlying89
  a42 := Try.isAgg89
  z42 := Try.sizeOf89
  v42 := Try.zeroValue89
  i42 := by kernel_rfl
  t47 := Try.underlying79
  a47 := Try.isAgg79
  z47 := Try.sizeOf79
  v47 := Try.zeroValue79
  i47 := by kernel_rfl
  t56 := Try.underlying101
  a56 := Try.isAgg101
  z56 := Try.sizeOf101
  v56 := Try.zeroValue101
  i56 := by kernel_rfl
  t82 := Try.underlying102
  a82 := Try.isAgg102
  z82 := Try.sizeOf102
  v82 := Try.zeroValue102
  i82 := by kernel_rfl
  t83 := Try.underlying103
  a83 := Try.isAgg103
  z83 := Try.sizeOf103
  v83 := Try.zeroValue103
  i83 := by kernel_rfl
  t84 := Try.underlying104
  a84 := Try.isAgg104
  z84 := Try.sizeOf104
  v84 := Try.zeroValue104
  i84 := by kernel_rfl
  t85 := Try.underlying105
  a85 := Try.isAgg105
  z85 := Try.sizeOf105
  v85 := Try.zeroValue105
  i85 := by kernel_rfl
  t86 := Try.underlying106
  a86 := Try.isAgg106
  z86 := Try.sizeOf106
  v86 := Try.zeroValue106
  i86 := by kernel_rfl
  t87 := Try.underlying107
  a87 := Try.isAgg107
  z87 := Try.sizeOf107
  v87 := Try.zeroValue107
  i87 := by kernel_rfl
  t89 := Try.underlying109
  a89 := Try.isAgg109
  z89 := Try.sizeOf109
  v89 := Try.zeroValue109
  i89 := by kernel_rfl }
end Go.Proofs
namespace Go.Proofs.Qxb6617018a
open Go.RowKit
open _root_.Go.Proofs.Qxb6617018a.So

theorem swp_at (G : Gd) (d : Nat → Nat) (w : World) (h : G.At d w) (i j : Nat) (hi : i < G.n) (hj : j < G.n) :
    G.At (swp d i j) ((w.setCell ⟨G.blk, 0 + i, none⟩ (G.enc (d j))).setCell ⟨G.blk, 0 + j, none⟩ (G.enc (d i))) ∧ w.grownBy ((w.setCell ⟨G.blk, 0 + i, none⟩ (G.enc (d j))).setCell ⟨G.blk, 0 + j, none⟩ (G.enc (d i))) (some G.blk) := by
  rw [Nat.zero_add, Nat.zero_add]
  have hg : w.grownBy ((w.setCell ⟨G.blk, i, none⟩ (G.enc (d j))).setCell ⟨G.blk, j, none⟩ (G.enc (d i))) (some G.blk) :=
    ⟨rfl, rfl, rfl, by simp [World.setCell], fun k _ hne => by
      have hk : k ≠ G.blk := fun e => hne (by rw [e])
      rw [Below.heap_setCell _ _ _ _ hk, Below.heap_setCell _ _ _ _ hk]⟩
  refine ⟨⟨fun p hp => ⟨?_, by rw [World.frozen?_setCell, World.frozen?_setCell]; exact (h.row p hp).2⟩, (Mv.swap d (Nat.zero_le _) hi (Nat.zero_le _) hj).pm _ (Nat.le_refl _) h.pm, grownB_trans h.env hg⟩, hg⟩
  obtain ⟨u, hu⟩ := cell?_setCell_some (p := ⟨G.blk, i, none⟩) (x := G.enc (d j)) (h.row j hj).1
  unfold swp
  by_cases e1 : p = j
  · subst e1
    rw [World.cell?_setCell_same _ _ _ hu]
    by_cases e2 : p = i
    · subst e2; simp
    · simp [e2]
  · rw [World.cell?_setCell_other _ _ _ _ (fun e => e1 (by injection e with _ h; exact h.symm))]
    by_cases e2 : p = i
    · subst e2
      rw [World.cell?_setCell_same _ _ _ (h.row p hp).1]; simp
    · rw [World.cell?_setCell_other _ _ _ _ (fun e => e2 (by injection e with _ h; exact h.symm))]
      simp [e1, e2]; exact (h.row p hp).1

theorem i48 : ∃ i, Try.prog.info? 48 = some i ∧ i.desc = .slice 50 := by
  have h : (Try.prog.info? 48).map (fun i => i.desc) = some (.slice 50) := by kernel_rfl
  cases hq : Try.prog.info? 48 with
  | none => rw [hq] at h; cases h
  | some i => rw [hq] at h; exact ⟨i, rfl, by simpa using h⟩
theorem i50 : ∃ i, Try.prog.info? 50 = some i ∧ i.size = 1 ∧ i.hasPointers = true ∧ i.bytes = 8 ∧ i.desc = .pointer 71 := by
  have h : (Try.prog.info? 50).map (fun i => (i.size, i.hasPointers, i.bytes, i.desc)) = some (1, true, 8, .pointer 71) := by kernel_rfl
  cases hq : Try.prog.info? 50 with
  | none => rw [hq] at h; cases h
  | some i => rw [hq] at h; simp only [Option.map_some, Option.some.injEq, Prod.mk.injEq] at h; exact ⟨i, rfl, h.1, h.2.1, h.2.2.1, h.2.2.2⟩
theorem k50 : ∀ w, (Extern.Rtype.kind 50).run Try.prog w = .ok 22 w := by
  intro w
  obtain ⟨i, hi, _, _, _, hd⟩ := i50
  simp [Extern.Rtype.kind, Extern.Rtype.under, typeInfo, hi, hd, Result.andThen]
open Go.Lib Go.Sort in
theorem stable_grown (t : TypeId) (p : Option Addr) (n c : Nat) (w : World) (r : Option Nat) : w.grownBy (stableWorld Try.prog Try.laysGt8_ren t p n c w) r := by
  unfold stableWorld
  exact grownB_trans (World.grownBy_alloc _ _ _) (World.grownBy_alloc _ _ _)


theorem ag50 : ∀ w, (isAgg 50).run Try.prog w = .ok false w := fun w => by
  unfold isAgg
  rw [Sem.run_bind, run_underlying Try.underlying50 w]
  rfl

/-- What the sort leaves in the row: the elements in the stable order. -/
structure Sorted (enc : Nat → Value) (key : Nat → Nat) (n blk : Nat) (w w' : World) (d : Nat → Nat) : Prop where
  row : ∀ p, p < n → w'.cell? ⟨blk, p, none⟩ = some (enc (d p)) ∧ w'.frozen? ⟨blk, p, none⟩ = false
  pm : Pm n d
  srt : Srt key d 0 n
  env : w.grownBy w' (some blk)

set_option maxRecDepth 100000 in
open Go.Lib Go.Sort in
theorem slice_any (enc : Nat → Value) (h1 : ∀ x, (enc x).oneCell' = true) (key : Nat → Nat) (n blk c g : Nat) (lb : Array Value) (w : World) (h2 : 2 ≤ n) (hn : n < 1099511627776) (hb : blk < w.heap.size)
    (eg : ∀ args w, (callFunc g args).run Try.prog w = .ok (.enter g args) w) (hrow : ∀ p, p < n → w.cell? ⟨blk, p, none⟩ = some (enc p) ∧ w.frozen? ⟨blk, p, none⟩ = false)
    (hless : ∀ d w1 i j, (∀ p, p < n → w1.cell? ⟨blk, p, none⟩ = some (enc (d p)) ∧ w1.frozen? ⟨blk, p, none⟩ = false) → Pm n d → w.grownBy w1 (some blk) → i < n → j < n →
      Calls Try.prog g (#[.int .i64 (i : Nat), .int .i64 (j : Nat)] ++ lb) w1 fun e w' => e = .returned (.bool (decide (key (d i) < key (d j)))) ∧ w1.grownBy w' none) :
    Calls Try.prog 28 #[.iface 48 (.slice (some ⟨blk, 0, none⟩) n c), .func (.func g) #[] lb] w fun e w' => e = .returned (.tuple #[]) ∧ ∃ d, Sorted enc key n blk w w' d := by
  obtain ⟨i, hi, hd⟩ := i48
  obtain ⟨ie, hie, z1, z2, z3, z4⟩ := i50
  have hk : swapperK n ie 22 = 3 := by
    unfold swapperK
    have q1 : (n == 0) = false := by simp; omega
    have q2 : (n == 1) = false := by simp; omega
    simp [q1, q2, z2, z3]
  have hB : sliceBound Try.prog 50 ie 22 (some ⟨blk, 0, none⟩) n c = #[.slice (some ⟨blk, 0, none⟩) n c, typeHandle Try.prog 50] := by
    unfold sliceBound; rw [hk]; rfl
  have hx : ∀ args W, (callFunc 39 args).run Try.prog W = ((Extern.ReflectliteSwapper.swap true args).run Try.prog W).andThen fun v w' => .ok (.value v) w' := fun args W =>
    run_callFunc_extern Try.func39 (by kernel_rfl) (by kernel_rfl) (by kernel_rfl) (e := Extern.ReflectliteSwapper.swap true) (by kernel_rfl) args W
  refine Any.sort_SliceStable_of_stable Try.laysGt8 48 50 i ie hi hd (by kernel_rfl) hie 22 k50 (some ⟨blk, 0, none⟩) n c (by omega) 39 (by rw [hk]; kernel_rfl) (.func g) #[] lb w (fun w' => ∃ d, Sorted enc key n blk w w' d) ?_
  rw [hB]
  have hgw := stable_grown 48 (some ⟨blk, 0, none⟩) n c w (some blk)
  have hgn := stable_grown 48 (some ⟨blk, 0, none⟩) n c w none
  generalize stableWorld Try.prog Try.laysGt8_ren 48 (some ⟨blk, 0, none⟩) n c w = W at hgw hgn ⊢
  obtain ⟨G, hG⟩ : ∃ G : Gd, G = ⟨enc, key, n, blk, g, lb, 39, #[.slice (some ⟨blk, 0, none⟩) n c, typeHandle Try.prog 50], W⟩ := ⟨_, rfl⟩
  have ok : G.Ok := by
    subst hG
    refine ⟨Nat.lt_of_lt_of_le hb hgw.size, hn, eg, fun d w1 i j hat hi hj => hless d w1 i j hat.row hat.pm (grownB_trans hgw hat.env) hi hj, fun d w1 i j hat hi hj => ?_⟩
    have hs := run_swap_one (P := Try.prog) true 50 ie hie z1 ag50 blk 0 n c i j hi hj (enc (d i)) (enc (d j)) (h1 _) (h1 _) w1 (by rw [Nat.zero_add]; exact (hat.row i hi).1) (by rw [Nat.zero_add]; exact (hat.row j hj).1) (by rw [Nat.zero_add]; exact (hat.row i hi).2) (by rw [Nat.zero_add]; exact (hat.row j hj).2)
    have ha := swp_at _ d w1 hat i j hi hj
    refine ⟨_, ?_, ha.1, ha.2⟩
    rw [hx]
    show ((Extern.ReflectliteSwapper.swap true #[.int .i64 i, .int .i64 j, .slice (some ⟨blk, 0, none⟩) n c, typeHandle Try.prog 50]).run Try.prog w1).andThen _ = _
    rw [hs]
    rfl
  have hat : G.At (fun p => p) W := by
    subst hG
    refine ⟨fun p hp => ?_, ⟨fun p h => h, fun x h => ⟨x, h, rfl⟩, fun p q _ _ h => h⟩, grownB_refl _ _⟩
    have hbb := hgn.block blk hb (by simp)
    rw [World.cell?_of_block hbb, World.frozen?_of_block hbb]
    exact hrow p hp
  have hs := stable_any G ok n (by subst hG; rfl) (fun p => p) W hat (fun p q h _ => h)
  have hdata : G.data = #[.func (.func g) #[] lb, .func (.func 39) #[] #[.slice (some ⟨blk, 0, none⟩) n c, typeHandle Try.prog 50]] := by subst hG; rfl
  rw [hdata] at hs
  refine hs.mono ?_
  rintro e w' ⟨rfl, ⟨d', hA, hS⟩, hg⟩
  subst hG
  exact ⟨rfl, d', hA.row, hA.pm, hS, grownB_trans hgw hA.env⟩


set_option maxRecDepth 100000 in
open Go.Lib Go.Sort in
theorem slice_tiny (p : Option Addr) (n c : Nat) (hn : n ≤ 1) (lf : Fn) (la lb : Array Value) (w : World) :
    Calls Try.prog 28 #[.iface 48 (.slice p n c), .func lf la lb] w fun e w' => e = .returned (.tuple #[]) ∧ w.grownBy w' none := by
  obtain ⟨i, hi, hd⟩ := i48
  obtain ⟨ie, hie, z1, z2, z3, z4⟩ := i50
  have fin : ∀ w' : World, (∃ os, w' = grow w os) → w.grownBy w' none := by
    rintro w' ⟨os, rfl⟩
    exact ⟨rfl, rfl, rfl, by simp [grow], fun k hk _ => by
      show (w.heap ++ os)[k]? = _
      rw [Array.getElem?_append_left hk]⟩
  rcases Nat.eq_zero_or_pos n with h | h
  · subst h
    have hk : swapperK 0 ie 22 = 1 := rfl
    refine (Any.sort_SliceStable_tiny Try.laysGt8 48 50 i ie hi hd (by kernel_rfl) hie 22 k50 p 0 c hn 37 (by rw [hk]; kernel_rfl) lf la lb w).mono ?_
    rintro e w' ⟨rfl, h⟩
    exact ⟨rfl, fin _ h⟩
  · obtain rfl : n = 1 := by omega
    have hk : swapperK 1 ie 22 = 2 := rfl
    refine (Any.sort_SliceStable_tiny Try.laysGt8 48 50 i ie hi hd (by kernel_rfl) hie 22 k50 p 1 c hn 38 (by rw [hk]; kernel_rfl) lf la lb w).mono ?_
    rintro e w' ⟨rfl, h⟩
    exact ⟨rfl, fin _ h⟩
end Go.Proofs.Qxb6617018a
