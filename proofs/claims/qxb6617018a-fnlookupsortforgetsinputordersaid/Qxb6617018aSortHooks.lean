/- The walks of the hooks that read a lookup. -/
import Derived.Test.Qxb6617018aSortLook
namespace Go.Proofs.Qxb6617018a
open Go.RowKit

section
variable {w : World} {bl blk : Nat} {p : Option Addr} {n c : Nat} {tg : List UInt8} {bs : Nat → Nat} {I : Nat → List UInt8} {K : Nat → Bool} {H : Nat → Int} {d : Nat → Nat}

theorem len16_any (h : Hid (Lk w bl blk p n c tg bs I K H d)) : Calls Try.prog 16 #[.pointer (some ⟨bl, 0, none⟩)] w fun e w' => e = .returned (.int .i64 n) ∧ w' = w := by
  have e21 := h.out.cands
  go_enter Try.func16, Try.ntmps16
  go_wp2_with fail
  go_ret
  exact ⟨rfl, rfl⟩

theorem hop18_any (h : Hid (Lk w bl blk p n c tg bs I K H d)) (r x : Nat) (hr : r < n) (hx : Hid (d r = x)) (hxn : x < n) (hn : n < 1099511627776) :
    Calls Try.prog 18 #[.pointer (some ⟨bl, 0, none⟩), .int .i64 r] w fun e w' => e = .returned (.int .i64 (H x)) ∧ w' = w := by
  obtain rfl := h.out.hp (by omega)
  have e21 := h.out.cands
  have er := (h.out.row r hr).1
  rw [hx.out] at er
  have eh := h.out.hop x hxn
  go_enter Try.func18, Try.ntmps18
  go_wp2_with fail
  go_ret
  exact ⟨rfl, rfl⟩

theorem known20_any (h : Hid (Lk w bl blk p n c tg bs I K H d)) (r x : Nat) (hr : r < n) (hx : Hid (d r = x)) (hxn : x < n) (hn : n < 1099511627776) :
    Calls Try.prog 20 #[.pointer (some ⟨bl, 0, none⟩), .int .i64 r] w fun e w' => e = .returned (.bool (K x)) ∧ w' = w := by
  obtain rfl := h.out.hp (by omega)
  have e21 := h.out.cands
  have er := (h.out.row r hr).1
  rw [hx.out] at er
  have eh := h.out.known x hxn
  go_enter Try.func20, Try.ntmps20
  go_wp2_with fail
  go_ret
  exact ⟨rfl, rfl⟩

set_option maxRecDepth 100000 in
theorem id19_any (h : Hid (Lk w bl blk p n c tg bs I K H d)) (r x : Nat) (hr : r < n) (hx : Hid (d r = x)) (hxn : x < n) (hn : n < 1099511627776) :
    Calls Try.prog 19 #[.pointer (some ⟨bl, 0, none⟩), .int .i64 r] w fun e w' => e = .returned (.agg (arrv (I x))) ∧ Below w.heap.size w w' := by
  obtain rfl := h.out.hp (by omega)
  have e21 := h.out.cands
  have er := (h.out.row r hr).1
  rw [hx.out] at er
  have l1 := World.block_lt_of_cell? w _ e21
  have l2 := World.block_lt_of_cell? w _ er
  have hl := h.out.ilen x hxn
  have hz : (arrv (List.replicate 20 0)).size = 20 := by rw [arrv_size]; rfl
  have hi : Hid ((w.alloc (.cells (arrv (List.replicate 20 0)) 23)).rangeAt (bs x) 0 (arrv (I x)).toList) := range_grown (h.out.id x hxn) (World.grownBy_alloc w _ none) (by simp)
  have iA : (Try.prog.info? 23).map (·.size) = some (arrv (I x)).toList.length := by rw [Array.length_toList, arrv_size, hl]; kernel_rfl
  have oD : (arrv (I x)).size = 20 := by rw [arrv_size, hl]
  have aD : (arrv (I x)).all (·.oneCell') = true := by simp [arrv, Value.oneCell']
  obtain ⟨D, eD⟩ : ∃ D, D = arrv (I x) := ⟨_, rfl⟩
  rw [← eD] at hi iA oD aD
  have HE : Hid _ := eD
  clear eD
  have iD : (Try.prog.info? 23).map (·.size) = some D.size := by rw [oD]; kernel_rfl
  obtain ⟨W, hW⟩ : ∃ W, W = w.alloc (.cells (arrv (List.replicate 20 0)) 23) := ⟨_, rfl⟩
  have hR : W.heap[w.heap.size]? = some (.cells (arrv (List.replicate 20 0)) 23 (0, 0)) := by rw [hW]; exact Go.heap_alloc_new w _
  have hR2 := setRow_heap W w.heap.size _ D 23 (0, 0) hR
  have hld := run_loadVar_row (P := Try.prog) _ _ 23 23 D (0, 0) _ hR2 Try.underlying23 rfl iD
  have hbel : Below w.heap.size w (W.setRow w.heap.size D) := belowSetRow (by rw [hW]; exact (Below.refl _ _).alloc (Nat.le_refl _) _) (Nat.le_refl _) D
  have HL : Hid _ := hld
  have HB : Hid _ := hbel
  have HR : Hid _ := hR
  rw [hW] at HR HL HB
  clear hld hbel hR2 hR hW
  go_enter Try.func19, Try.ntmps19
  go_wp2_with (first | refine wpList_load_mid rfl 23 _ rfl (bs x) 0 rfl D.toList _ hi.out Try.underlying23 rfl iA ?_ | refine wpList_store_row rfl 23 _ _ rfl _ D rfl rfl 23 _ HR.out iD (by rw [oD]; rfl) aD ?_)
  refine bodyPost_ret (v := .agg D) ?_ rfl ⟨by rw [HE.out], HB.out⟩
  simp [results, Try.results19, asAddr]
  exact HL.out
end
end Go.Proofs.Qxb6617018a
