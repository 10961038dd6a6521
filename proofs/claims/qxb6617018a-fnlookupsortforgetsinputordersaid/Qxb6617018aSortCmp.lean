/- The walks of bytes.Compare, (ID).Cmp and (ID).Distance. -/
import Derived.Test.Qxb6617018aSortKey
import Derived.Test.Qxb6617018aQuiet
import Derived.Test.Qxb6617018aOrderWalk
import Derived.Lib.BytesEntry
import Derived.Deep.QuietTactic
import Derived.BigQuiet
import Derived.Deep.LoopGhost
namespace Go.Proofs.Qxb6617018a
open Go.RowKit Go.Lib

theorem run_compare_rows (a b : List UInt8) (hl : a.length = b.length) (ba bb ca cb : Nat) (w : World) (h1 : ∀ i (h : i < a.length), w.cell? ⟨ba, i, none⟩ = some (.int .u8 ((a[i]'h).toNat : Int)))
    (h2 : ∀ i (h : i < b.length), w.cell? ⟨bb, i, none⟩ = some (.int .u8 ((b[i]'h).toNat : Int))) :
    (Extern.BytealgCompare.compare #[.slice (some ⟨ba, 0, none⟩) a.length ca, .slice (some ⟨bb, 0, none⟩) b.length cb]).run Try.prog w = .ok (.int .i64 (cmpl a b)) w := by
  have rd : ∀ (l : List UInt8) (g : Nat), (∀ i (h : i < l.length), w.cell? ⟨g, i, none⟩ = some (.int .u8 ((l[i]'h).toNat : Int))) → (Extern.Bytes.loadBytes ⟨g, 0, none⟩ l.length .empty).run Try.prog w = .ok ⟨l.toArray⟩ w := by
    intro l g h
    have := run_loadBytesX (P := Try.prog) w (l.map fun x => (x.toNat : Int)) ⟨g, 0, none⟩ .empty (by
      intro j x hx
      rw [List.getElem?_map] at hx
      rcases Nat.lt_or_ge j l.length with hj | hj
      · rw [List.getElem?_eq_getElem hj] at hx
        simp only [Option.map_some, Option.some.injEq] at hx
        have hadd : (⟨g, 0, none⟩ : Addr).add j = ⟨g, j, none⟩ := by unfold Addr.add; split <;> simp_all
        rw [hadd, ← hx]; exact h j hj
      · rw [List.getElem?_eq_none hj] at hx; cases hx)
    rw [List.length_map] at this
    rw [this]
    congr 1
    apply ByteArray.ext
    have e : (fun n : Int => UInt8.ofNat n.toNat) ∘ (fun x : UInt8 => (x.toNat : Int)) = id := by funext x; simp
    simp [bytesOf, e]
  change Sem.run Try.prog (do pure (goInt (Extern.BytealgCompare.cmp (← Extern.Bytes.bytesOf (.slice (some ⟨ba, 0, none⟩) a.length ca)) (← Extern.Bytes.bytesOf (.slice (some ⟨bb, 0, none⟩) b.length cb))))) w = _
  simp only [Extern.Bytes.bytesOf, Sem.run_bind, rd a ba h1, rd b bb h2, Result.andThen, Sem.run_pure]
  rw [cmp_eq]
  show Result.ok (goInt (compareBytes a b)) w = _
  rw [compareBytes_cmpl a b hl]
  rfl

theorem compare_any (a b : List UInt8) (ha : a.length = 20) (hb : b.length = 20) (ba bb ca cb : Nat) (w : World) (h1 : ∀ i (h : i < a.length), w.cell? ⟨ba, i, none⟩ = some (.int .u8 ((a[i]'h).toNat : Int)))
    (h2 : ∀ i (h : i < b.length), w.cell? ⟨bb, i, none⟩ = some (.int .u8 ((b[i]'h).toNat : Int))) :
    Calls Try.prog 36 #[.slice (some ⟨ba, 0, none⟩) 20 ca, .slice (some ⟨bb, 0, none⟩) 20 cb] w fun e w' => e = .returned (.int .i64 (cmpl a b)) ∧ w' = w := by
  have hc := run_compare_rows a b (by omega) ba bb ca cb w h1 h2
  rw [ha, hb] at hc
  have hr : (callFunc 48 #[.slice (some ⟨ba, 0, none⟩) 20 ca, .slice (some ⟨bb, 0, none⟩) 20 cb]).run Try.prog w = .ok (.value (.int .i64 (cmpl a b))) w := by
    rw [run_callFunc_extern Try.func48 (by kernel_rfl) (by kernel_rfl) (by kernel_rfl) (e := Extern.BytealgCompare.compare) (by kernel_rfl), hc]
    rfl
  clear h1 h2 hc
  go_enter Try.func36, Try.ntmps36
  go_wp2_with fail
  go_ret
  exact ⟨rfl, rfl⟩

theorem cmp_any (a b : List UInt8) (ha : a.length = 20) (hb : b.length = 20) (w : World) :
    Calls Try.prog 31 #[.agg (arrv a), .agg (arrv b)] w fun e w' => e = .returned (.int .i64 (cmpl a b)) ∧ Below w.heap.size w w' := by
  have hc : ∀ q, Calls Try.prog 36 #[.slice (some ⟨w.heap.size, 0, none⟩) 20 20, .slice (some ⟨w.heap.size + 1, 0, none⟩) 20 20] (((w.alloc (.cells (arrv a) 23)).alloc (.cells (arrv b) 23)).drewN q) fun e w' => e = .returned (.int .i64 (cmpl a b)) ∧ w' = ((w.alloc (.cells (arrv a) 23)).alloc (.cells (arrv b) 23)).drewN q := by
    intro q
    obtain ⟨hsz, hA, hB, hbel⟩ := two_blocks w (.cells (arrv a) 23) (.cells (arrv b) 23)
    refine compare_any a b ha hb _ _ _ _ _ (fun i h => ?_) (fun i h => ?_)
    · show ((w.alloc (.cells (arrv a) 23)).alloc (.cells (arrv b) 23)).cell? ⟨_, i, none⟩ = _
      rw [cell_of_row _ w.heap.size i (arrv a) 23 (0, 0) hA]; exact arrv_get a i h
    · show ((w.alloc (.cells (arrv a) 23)).alloc (.cells (arrv b) 23)).cell? ⟨_, i, none⟩ = _
      rw [cell_of_row _ (w.heap.size + 1) i (arrv b) 23 (0, 0) hB]; exact arrv_get b i h
  have HC : Hid _ := hc
  clear hc
  go_enter Try.func31, Try.ntmps31
  go_wp2_with fail
  refine wp_region_quiet (C := fun w' => ∃ q, w' = ((w.alloc (.cells (arrv a) 23)).alloc (.cells (arrv b) 23)).drewN q) (by kernel_rfl) (by kernel_rfl) ⟨_, rfl⟩ ?_
  simp only
  refine q_value (.slice (some ⟨w.heap.size, 0, none⟩) 20 20) rfl (fun _ _ => by go_simp) ?_
  simp only [Act.put, List.setIfInBounds_toArray, List.set_cons_zero, List.set_cons_succ]
  refine q_value (.slice (some ⟨w.heap.size + 1, 0, none⟩) 20 20) rfl (fun _ _ => by go_simp) ?_
  simp only [Act.put, List.setIfInBounds_toArray, List.set_cons_zero, List.set_cons_succ]
  refine q_call (.int .i64 (cmpl a b)) 36 #[.slice (some ⟨w.heap.size, 0, none⟩) 20 20, .slice (some ⟨w.heap.size + 1, 0, none⟩) 20 20] rfl (fun _ _ => by go_simp) ?_ ?_
  · rintro w' ⟨q, rfl⟩
    refine (HC.out q).mono ?_
    rintro e w'' ⟨rfl, rfl⟩
    exact ⟨rfl, q, rfl⟩
  simp only [Act.put, List.setIfInBounds_toArray, List.set_cons_zero, List.set_cons_succ]
  refine q_value (.int .i64 (cmpl a b)) rfl (fun _ _ => rfl) ?_
  simp only [Act.put, List.setIfInBounds_toArray, List.set_cons_zero, List.set_cons_succ]
  refine wpQuiet_nil ?_
  rintro w' ⟨q, rfl⟩
  go_wp2
  go_ret
  exact ⟨rfl, (two_below w _ _).trans ⟨rfl, rfl, rfl, Nat.le_refl _, fun _ _ => rfl⟩⟩

/-- The first i bytes of a, xored with those of b; zeros behind. -/
def xorPart (a b : List UInt8) (i : Nat) : List UInt8 := (xorl a b).take i ++ List.replicate (20 - i) 0

theorem xorPart_zero (a b : List UInt8) : xorPart a b 0 = List.replicate 20 0 := by simp [xorPart]
theorem xorPart_all (a b : List UInt8) (ha : a.length = 20) (hb : b.length = 20) : xorPart a b 20 = xorl a b := by
  have := xorl_length a b ha hb
  simp [xorPart, List.take_of_length_le (Nat.le_of_eq this)]
theorem xorPart_length (a b : List UInt8) (ha : a.length = 20) (hb : b.length = 20) (i : Nat) (h : i ≤ 20) : (xorPart a b i).length = 20 := by
  have := xorl_length a b ha hb
  simp [xorPart, this]; omega
theorem xorPart_succ (a b : List UInt8) (ha : a.length = 20) (hb : b.length = 20) (i : Nat) (h : i < 20) : (xorPart a b i).set i ((a[i]'(by omega)) ^^^ (b[i]'(by omega))) = xorPart a b (i + 1) := by
  have hl := xorl_length a b ha hb
  unfold xorPart
  apply List.ext_getElem
  · simp [hl]; omega
  · intro j h1 h2
    rw [List.getElem_set]
    by_cases e : i = j
    · subst e
      rw [if_pos rfl, List.getElem_append_left (by simp [hl]; omega), List.getElem_take]
      simp [xorl]
    · rw [if_neg e]
      by_cases k : j < i
      · rw [List.getElem_append_left (by simp [hl]; omega), List.getElem_append_left (by simp [hl]; omega), List.getElem_take, List.getElem_take]
      · rw [List.getElem_append_right (by simp [hl]; omega), List.getElem_append_right (by simp [hl]; omega)]
        simp

theorem arrv_set (l : List UInt8) (i : Nat) (b : UInt8) : (arrv l).setIfInBounds i (.int .u8 (b.toNat : Int)) = arrv (l.set i b) := by
  simp [arrv, List.map_set]

theorem bits_xor_u8 (x y : UInt8) : bits .xor .u8 (x.toNat : Int) (y.toNat : Int) = ((x ^^^ y).toNat : Int) := by
  have hx := x.toNat_lt
  have hy := y.toNat_lt
  have hz := (x ^^^ y).toNat_lt
  have h1 : (BitVec.ofInt 8 (x.toNat : Int)).toNat = x.toNat := by
    rw [BitVec.ofInt_natCast, BitVec.toNat_ofNat]; exact Nat.mod_eq_of_lt (by omega)
  have h2 : (BitVec.ofInt 8 (y.toNat : Int)).toNat = y.toNat := by
    rw [BitVec.ofInt_natCast, BitVec.toNat_ofNat]; exact Nat.mod_eq_of_lt (by omega)
  show IntKind.u8.wrap ((BitVec.ofInt 8 (x.toNat : Int) ^^^ BitVec.ofInt 8 (y.toNat : Int)).toNat : Int) = _
  rw [BitVec.toNat_xor, h1, h2, ← UInt8.toNat_xor]
  generalize (x ^^^ y).toNat = z at hz ⊢
  simp [IntKind.wrap, IntKind.bits, IntKind.signed]
  omega

theorem belowSetRow {B g : Nat} {w0 w : World} (hb : Below B w0 w) (hBg : B ≤ g) (cs : Array Value) : Below B w0 (w.setRow g cs) :=
  ⟨hb.os, hb.tape, hb.output, by simpa using hb.size, fun k hk => (setRow_other w g k cs (by omega)).trans (hb.block k hk)⟩

theorem set_last (W : World) (b q n : Nat) (hb : b = W.heap.size) (l : List UInt8) (x : UInt8) : ((W.alloc (.cells (arrv l) 23)).drewN q).setCell ⟨b, n, none⟩ (.int .u8 (x.toNat : Int)) = (W.alloc (.cells (arrv (l.set n x)) 23)).drewN q := by
  subst hb
  show ((W.alloc (.cells (arrv l) 23)).setCell ⟨W.heap.size, n, none⟩ (.int .u8 (x.toNat : Int))).drewN q = _
  rw [World.setCell_alloc_new, arrv_set]

set_option maxHeartbeats 1000000 in
theorem distance_any (a b : List UInt8) (ha : a.length = 20) (hb : b.length = 20) (w : World) :
    Calls Try.prog 30 #[.agg (arrv a), .agg (arrv b)] w fun e w' => e = .returned (.agg (arrv (xorl a b))) ∧ Below w.heap.size w w' := by
  go_enter Try.func30, Try.ntmps30
  go_wp2_with fail
  go_loopw [6, 7] (fun v6 v7 wr => ∃ n q : Nat, n ≤ 20 ∧ v7 = .int .i64 n ∧ wr = ((((w.alloc (.cells (arrv a) 23)).alloc (.cells (arrv b) 23)).alloc (.cells (arrv (List.replicate 20 0)) 23)).alloc (.cells (arrv (xorPart a b n)) 23)).drewN q) (fun _ v7 _ => 20 - (RowKit.intOf v7).toNat)
  case atStart => exact ⟨0, 0, Nat.zero_le _, rfl, by rw [xorPart_zero]; rfl⟩
  case round =>
    obtain ⟨n, q, hn, rfl, rfl⟩ := hrel
    by_cases hlt : n < 20
    · have b1 : decide ((n : Int) < 20) = true := by simp; omega
      obtain ⟨x, hx, ex⟩ : ∃ x : UInt8, (arrv a)[n]? = some (.int .u8 (x.toNat : Int)) ∧ Hid (x = a[n]'(by omega)) := ⟨_, arrv_get a n (by omega), rfl⟩
      obtain ⟨y, hy, ey⟩ : ∃ x : UInt8, (arrv b)[n]? = some (.int .u8 (x.toNat : Int)) ∧ Hid (x = b[n]'(by omega)) := ⟨_, arrv_get b n (by omega), rfl⟩
      obtain ⟨z, hz⟩ : ∃ y : UInt8, (arrv (xorPart a b n))[n]? = some (.int .u8 (y.toNat : Int)) := ⟨_, arrv_get _ n (by rw [xorPart_length a b ha hb n hn]; omega)⟩
      go_wp2_with fail
      go_region
      rw [bits_xor_u8, set_last _ _ _ _ (by simp), show x ^^^ y = (a[n]'(by omega)) ^^^ (b[n]'(by omega)) by rw [ex.out, ey.out], xorPart_succ a b ha hb n hlt]
      clear hx hy hz
      go_wp2_with fail
      go_roundw
      case rel => exact ⟨n + 1, _, by omega, by simp, rfl⟩
      case measure => simp [RowKit.intOf]; omega
    · have b1 : decide ((n : Int) < 20) = false := by simp; omega
      obtain rfl : n = 20 := by omega
      rw [xorPart_all a b ha hb]
      obtain ⟨W, hW⟩ : ∃ W, W = ((((w.alloc (.cells (arrv a) 23)).alloc (.cells (arrv b) 23)).alloc (.cells (arrv (List.replicate 20 0)) 23)).alloc (.cells (arrv (xorl a b)) 23)).drewN q := ⟨_, rfl⟩
      have hD : W.heap[w.heap.size + 1 + 1 + 1]? = some (.cells (arrv (xorl a b)) 23 (0, 0)) := by
        rw [hW]
        have := Go.heap_alloc_new (((w.alloc (.cells (arrv a) 23)).alloc (.cells (arrv b) 23)).alloc (.cells (arrv (List.replicate 20 0)) 23)) (.cells (arrv (xorl a b)) 23)
        simpa using this
      have hR : W.heap[w.heap.size + 1 + 1]? = some (.cells (arrv (List.replicate 20 0)) 23 (0, 0)) := by
        rw [hW]
        have := Go.heap_alloc_new ((w.alloc (.cells (arrv a) 23)).alloc (.cells (arrv b) 23)) (.cells (arrv (List.replicate 20 0)) 23)
        show ((((w.alloc (.cells (arrv a) 23)).alloc (.cells (arrv b) 23)).alloc (.cells (arrv (List.replicate 20 0)) 23)).alloc (.cells (arrv (xorl a b)) 23)).heap[w.heap.size + 1 + 1]? = _
        rw [Below.heap_alloc _ _ _ (by simp)]
        simpa using this
      have hbel : Below w.heap.size w W := by
        rw [hW]
        exact (((((Below.refl _ _).alloc (Nat.le_refl _) _).alloc (by simp) _).alloc (by simp; omega) _).alloc (by simp; omega) _).trans ⟨rfl, rfl, rfl, Nat.le_refl _, fun _ _ => rfl⟩
      rw [← hW]
      have iD : (Try.prog.info? 23).map (·.size) = some (arrv (xorl a b)).size := by
        rw [arrv_size, xorl_length a b ha hb]; kernel_rfl
      have oD : (arrv (xorl a b)).size = 20 := by rw [arrv_size, xorl_length a b ha hb]
      have aD : (arrv (xorl a b)).all (·.oneCell') = true := by simp [arrv, Value.oneCell']
      have HB : Hid _ := hbel
      clear hW hbel
      obtain ⟨D, eD⟩ : ∃ D, D = arrv (xorl a b) := ⟨_, rfl⟩
      rw [← eD] at hD iD oD aD
      have HE : Hid _ := eD
      clear eD
      go_wp2_with (first | refine wpList_load_row rfl 23 _ rfl _ rfl 23 _ (0, 0) _ hD Try.underlying23 rfl iD ?_ | refine wpList_store_row rfl 23 _ _ rfl _ D rfl rfl 23 _ hR iD (by rw [oD]; rfl) aD ?_)
      have hR2 := setRow_heap W (w.heap.size + 1 + 1) _ D 23 (0, 0) hR
      refine bodyPost_ret (v := .agg D) ?_ rfl ⟨by rw [HE.out], belowSetRow HB.out (by omega) D⟩
      have hl := run_loadVar_row (P := Try.prog) _ _ 23 23 D (0, 0) _ hR2 Try.underlying23 rfl iD
      simp [results, Try.results30, asAddr, hl, Act.put]
end Go.Proofs.Qxb6617018a
