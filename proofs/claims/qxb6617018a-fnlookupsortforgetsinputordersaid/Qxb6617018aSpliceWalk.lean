/- The walk of FnIDStringSplice. -/
import Derived.Test.Qxb6617018aPair
import Derived.Deep.QuietTactic
import Derived.BigQuiet
namespace Go.Proofs.Qxb6617018a
open Go.RowKit Go.Lib

set_option maxHeartbeats 400000 in
theorem splice_out (la lb : List UInt8) (cut : Int) (w : World) (h : cut < 0 ∨ 20 < cut) :
    Calls Try.prog 4 #[.agg (arrv la), .agg (arrv lb), .int .i64 cut] w fun e w' => e = .returned (.bool true) ∧ Below w.heap.size w w' := by
  rcases h with h | h
  · go_enter Try.func4, Try.ntmps4
    go_wp2
    go_ret
    exact ⟨rfl, ((Below.refl _ _).alloc (Nat.le_refl _) _).alloc (by simp) _⟩
  · have h' : ¬ cut < 0 := by omega
    go_enter Try.func4, Try.ntmps4
    go_wp2
    go_ret
    exact ⟨rfl, ((Below.refl _ _).alloc (Nat.le_refl _) _).alloc (by simp) _⟩

/-- The spliced list behind n rounds. -/
def mixl (la lb : List UInt8) (k n : Nat) : List UInt8 := (List.range 20).map fun j => if j < n then (if j < k then la.getD j 0 else lb.getD j 0) else 0

theorem mixl_length (la lb : List UInt8) (k n : Nat) : (mixl la lb k n).length = 20 := by simp [mixl]

theorem mix_step (la lb : List UInt8) (k n : Nat) (x : UInt8) (hx : x = if n < k then la.getD n 0 else lb.getD n 0) :
    (arrv (mixl la lb k n)).setIfInBounds n (.int .u8 (x.toNat : Int)) = arrv (mixl la lb k (n + 1)) := by
  subst hx
  apply Array.ext_getElem?
  intro i
  rw [Array.getElem?_setIfInBounds]
  by_cases hi : i < 20
  · by_cases e : n = i
    · subst e
      simp [arrv, mixl, hi]
    · have e2 : (i < n + 1) = (i < n) := by simp; omega
      simp [arrv, mixl, hi, e, e2]
  · simp [arrv, mixl, hi]
    omega

theorem mix_full (la lb : List UInt8) (hla : la.length = 20) (hlb : lb.length = 20) (k : Nat) (hk : k ≤ 20) : mixl la lb k 20 = la.take k ++ lb.drop k := by
  apply List.ext_getElem
  · simp [mixl, hla, hlb]; omega
  · intro i h1 h2
    have hi : i < 20 := by simpa [mixl] using h1
    by_cases h : i < k
    · rw [List.getElem_append_left (by simp; omega)]
      simp [mixl, hi, h, hla]
    · rw [List.getElem_append_right (by simp; omega)]
      have e : k + (i - min k la.length) = i := by omega
      simp [mixl, hi, h, hlb, e]

theorem three_blocks (w : World) (A B C : Obj) : (((w.alloc A).alloc B).alloc C).heap.size = w.heap.size + 3 ∧ (((w.alloc A).alloc B).alloc C).heap[w.heap.size]? = some A ∧
    (((w.alloc A).alloc B).alloc C).heap[w.heap.size + 1]? = some B ∧ (((w.alloc A).alloc B).alloc C).heap[w.heap.size + 1 + 1]? = some C ∧ Below w.heap.size w (((w.alloc A).alloc B).alloc C) := by
  refine ⟨by simp, ?_, ?_, ?_, (((Below.refl _ _).alloc (Nat.le_refl _) _).alloc (by simp) _).alloc (by simp; omega) _⟩
  · rw [Below.heap_alloc _ _ _ (by simp; omega), Below.heap_alloc _ _ _ (by simp)]; exact Go.heap_alloc_new _ _
  · rw [Below.heap_alloc _ _ _ (by simp)]; have := Go.heap_alloc_new (w.alloc A) B; simpa using this
  · have := Go.heap_alloc_new ((w.alloc A).alloc B) C; simpa using this

theorem encode_append (a b : List UInt8) : Hx.encode (a ++ b) = Hx.encode a ++ Hx.encode b := by simp [Hx.encode, List.flatMap_append]

theorem encode_take (l : List UInt8) (k : Nat) : Hx.encode (l.take k) = (Hx.encode l).take (2 * k) := by
  induction l generalizing k with
  | nil => simp [Hx.encode]
  | cons a t ih =>
    cases k with
    | zero => simp [Hx.encode]
    | succ k => rw [List.take_succ_cons, Hx.encode_cons, Hx.encode_cons, ih, show 2 * (k + 1) = 2 * k + 1 + 1 by omega]; simp

theorem encode_drop (l : List UInt8) (k : Nat) : Hx.encode (l.drop k) = (Hx.encode l).drop (2 * k) := by
  induction l generalizing k with
  | nil => simp [Hx.encode]
  | cons a t ih =>
    cases k with
    | zero => simp
    | succ k => rw [List.drop_succ_cons, Hx.encode_cons, ih, show 2 * (k + 1) = 2 * k + 1 + 1 by omega]; simp

theorem splice_text (la lb lc : List UInt8) (hlb : lb.length = 20) (k : Nat) (h : lc = la.take k ++ lb.drop k) (sa sb sc : ByteArray)
    (ha : sa = ⟨(Hx.encode la).toArray⟩) (hb : sb = ⟨(Hx.encode lb).toArray⟩) (hc : sc = ⟨(Hx.encode lc).toArray⟩) :
    (sc.toList == (sa.extract 0 (2 * k) ++ sb.extract (2 * k) 40).toList) = true := by
  rw [beq_iff_eq, ByteArray.toList_eq, ByteArray.toList_eq, ByteArray.data_append, Array.toList_append, extract_data, extract_data, ha, hb, hc, h, encode_append, encode_take, encode_drop]
  have := Hx.encode_length la
  have := Hx.encode_length lb
  simp only [List.drop_zero, Nat.sub_zero]
  congr 1
  rw [List.take_of_length_le (by simp; omega)]

theorem enc_size (l : List UInt8) (h : l.length = 20) : (⟨(Hx.encode l).toArray⟩ : ByteArray).size = 40 := by
  have hn := Hx.encode_length l
  show (Hx.encode l).toArray.size = 40
  simp; omega

theorem info22 (l : List UInt8) (h : l.length = 20) : (Try.prog.info? 22).map (·.size) = some (arrv l).size := by rw [arrv_size, h]; kernel_rfl

theorem bdrew {B : Nat} {a w : World} (h : Below B a w) (n : Nat) : Below B a (w.drewN n) := h.trans ⟨rfl, rfl, rfl, Nat.le_refl _, fun _ _ => rfl⟩

theorem right_pair (la lb lc : List UInt8) (hla : la.length = 20) (hlb : lb.length = 20) (hlc : lc.length = 20) (k : Nat) (h20 : k < 20) (h : lc = la.take k ++ lb.drop k) (sc : ByteArray)
    (hc : sc = ⟨(Hx.encode lc).toArray⟩) (w3 : World) (g : Nat) (hB : w3.heap[g]? = some (.cells (arrv lb) 22 (0, 0))) :
    ∃ x : UInt8, w3.cell? ⟨g, k, none⟩ = some (.int .u8 (x.toNat : Int)) ∧ Hid (∀ W, Calls Try.prog 11 #[.string sc, .int .i64 k, .int .u8 (x.toNat : Int)] W fun e w' => e = .returned (.bool true) ∧ w' = W) := by
  refine ⟨lb[k]'(by omega), ?_, ?_⟩
  · rw [cell_of_row _ _ k (arrv lb) 22 (0, 0) hB]; exact arrv_get lb k (by omega)
  · intro W
    rw [hc]
    refine pair_any lc hlc k h20 _ ?_ W
    simp [h, hla, Nat.min_eq_left (Nat.le_of_lt h20)]

theorem left_pair (la lb lc : List UInt8) (hla : la.length = 20) (hlc : lc.length = 20) (k : Nat) (hk : k ≤ 20) (h0 : 0 < k) (h : lc = la.take k ++ lb.drop k) (sc : ByteArray)
    (hc : sc = ⟨(Hx.encode lc).toArray⟩) (w3 : World) (g : Nat) (hA : w3.heap[g]? = some (.cells (arrv la) 22 (0, 0))) :
    ∃ x : UInt8, w3.cell? ⟨g, k - 1, none⟩ = some (.int .u8 (x.toNat : Int)) ∧ Hid (∀ W, Calls Try.prog 11 #[.string sc, .int .i64 ((k : Int) - 1), .int .u8 (x.toNat : Int)] W fun e w' => e = .returned (.bool true) ∧ w' = W) := by
  refine ⟨la[k - 1]'(by omega), ?_, ?_⟩
  · rw [cell_of_row _ _ (k - 1) (arrv la) 22 (0, 0) hA]; exact arrv_get la (k - 1) (by omega)
  · intro W
    rw [hc, show ((k : Int) - 1) = ((k - 1 : Nat) : Int) by omega]
    refine pair_any lc hlc (k - 1) (by omega) _ ?_ W
    simp only [h]
    rw [List.getElem_append_left (by simp; omega)]
    simp

set_option maxHeartbeats 1000000 in
theorem splice_in (la lb : List UInt8) (hla : la.length = 20) (hlb : lb.length = 20) (k : Nat) (w : World) (hk : k ≤ 20) :
    Calls Try.prog 4 #[.agg (arrv la), .agg (arrv lb), .int .i64 k] w fun e w' => e = .returned (.bool true) ∧ Below w.heap.size w w' := by
  have hd0 : decide ((k : Int) < 0) = false := by simp
  have hd1 : decide (20 < (k : Int)) = false := by simp; omega
  go_enter Try.func4, Try.ntmps4
  go_wp2_with fail
  go_loopw [8] (fun vj wr => ∃ n : Nat, n ≤ 20 ∧ vj = .int .i64 n ∧ wr = ((w.alloc (.cells (arrv la) 22)).alloc (.cells (arrv lb) 22)).alloc (.cells (arrv (mixl la lb k n)) 22)) (fun vj _ => 20 - (RowKit.intOf vj).toNat)
  case atStart => exact ⟨0, Nat.zero_le _, rfl, rfl⟩
  case round =>
    obtain ⟨n, hn, rfl, rfl⟩ := hrel
    by_cases hlt : n < 20
    · by_cases hnk : n < k
      · obtain ⟨x, hx, ex⟩ : ∃ x : UInt8, (arrv la)[n]? = some (.int .u8 (x.toNat : Int)) ∧ Hid (x = if n < k then la.getD n 0 else lb.getD n 0) := ⟨_, arrv_get la n (by omega), by show _ = _; simp [hnk, hla, hlt]⟩
        obtain ⟨y, hy⟩ : ∃ y : UInt8, (arrv (mixl la lb k n))[n]? = some (.int .u8 (y.toNat : Int)) := ⟨_, arrv_get _ n (by rw [mixl_length]; omega)⟩
        go_wp2_with fail
        go_roundw
        case rel => exact ⟨n + 1, by omega, by go_num, by rw [mix_step la lb k n x ex.out]⟩
        case measure => simp [RowKit.intOf]; omega
      · obtain ⟨x, hx, ex⟩ : ∃ x : UInt8, (arrv lb)[n]? = some (.int .u8 (x.toNat : Int)) ∧ Hid (x = if n < k then la.getD n 0 else lb.getD n 0) := ⟨_, arrv_get lb n (by omega), by show _ = _; simp [hnk, hlb, hlt]⟩
        obtain ⟨y, hy⟩ : ∃ y : UInt8, (arrv (mixl la lb k n))[n]? = some (.int .u8 (y.toNat : Int)) := ⟨_, arrv_get _ n (by rw [mixl_length]; omega)⟩
        go_wp2_with fail
        go_roundw
        case rel => exact ⟨n + 1, by omega, by go_num, by rw [mix_step la lb k n x ex.out]⟩
        case measure => simp [RowKit.intOf]; omega
    · obtain rfl : n = 20 := by omega
      have hlc := mixl_length la lb k 20
      have HM : Hid (mixl la lb k 20 = la.take k ++ lb.drop k) := mix_full la lb hla hlb k hk
      generalize mixl la lb k 20 = lc at *
      obtain ⟨W, hW⟩ : ∃ W, W = ((w.alloc (.cells (arrv la) 22)).alloc (.cells (arrv lb) 22)).alloc (.cells (arrv lc) 22) := ⟨_, rfl⟩
      rw [← hW]
      obtain ⟨hsz, hA, hB, hC, hbel⟩ := three_blocks w (.cells (arrv la) 22) (.cells (arrv lb) 22) (.cells (arrv lc) 22)
      rw [← hW] at hsz hA hB hC hbel
      clear hW hd0 hd1 hlt hn
      have iA := info22 la hla
      have iB := info22 lb hlb
      have iC := info22 lc hlc
      go_wp2_with (refine wpList_load_row rfl 22 _ rfl _ rfl 22 _ (0, 0) _ hA Try.underlying22 rfl iA ?_)
      refine (string_any la hla _).mono ?_
      rintro e w1 ⟨rfl, hb1⟩
      have hB1 := (hb1.block _ (by omega)).trans hB
      have hC1 := (hb1.block _ (by omega)).trans hC
      have hA1 := (hb1.block _ (by omega)).trans hA
      have hsz1 : w.heap.size + 3 ≤ w1.heap.size := by have := hb1.size; omega
      have hbel1 : Below w.heap.size w w1 := hbel.trans (hb1.mono (by omega))
      clear hA hB hC hbel hb1 hsz
      clear W
      go_wp2_with (refine wpList_load_row rfl 22 _ rfl _ rfl 22 _ (0, 0) _ hB1 Try.underlying22 rfl iB ?_)
      refine (string_any lb hlb _).mono ?_
      rintro e w2 ⟨rfl, hb2⟩
      have hB2 := (hb2.block _ (by omega)).trans hB1
      have hC2 := (hb2.block _ (by omega)).trans hC1
      have hA2 := (hb2.block _ (by omega)).trans hA1
      have hsz2 : w.heap.size + 3 ≤ w2.heap.size := by have := hb2.size; omega
      have hbel2 : Below w.heap.size w w2 := hbel1.trans (hb2.mono (by omega))
      clear hA1 hB1 hC1 hbel1 hb2 hsz1
      clear w1
      go_wp2_with (refine wpList_load_row rfl 22 _ rfl _ rfl 22 _ (0, 0) _ hC2 Try.underlying22 rfl iC ?_)
      refine (string_any lc hlc _).mono ?_
      rintro e w3 ⟨rfl, hb3⟩
      have hB3 := (hb3.block _ (by omega)).trans hB2
      have hA3 := (hb3.block _ (by omega)).trans hA2
      have hbel3 : Below w.heap.size w w3 := hbel2.trans (hb3.mono (by omega))
      clear hA2 hB2 hC2 hbel2 hb3 hsz2
      clear w2
      obtain ⟨sa, hsa⟩ : ∃ s : ByteArray, s = ⟨(Hx.encode la).toArray⟩ := ⟨_, rfl⟩
      obtain ⟨sb, hsb⟩ : ∃ s : ByteArray, s = ⟨(Hx.encode lb).toArray⟩ := ⟨_, rfl⟩
      obtain ⟨sc, hsc⟩ : ∃ s : ByteArray, s = ⟨(Hx.encode lc).toArray⟩ := ⟨_, rfl⟩
      have za : sa.size = 40 := by rw [hsa]; exact enc_size la hla
      have zb : sb.size = 40 := by rw [hsb]; exact enc_size lb hlb
      have zc : sc.size = 40 := by rw [hsc]; exact enc_size lc hlc
      rw [← hsa, ← hsb, ← hsc]
      have HA : Hid _ := hsa
      have HB : Hid _ := hsb
      have HC : Hid _ := hsc
      clear hsa hsb hsc iA iB iC
      have ht := splice_text la lb lc hlb k HM.out sa sb sc HA.out HB.out HC.out
      by_cases h20 : k < 20
      · obtain ⟨x, hx, hp1⟩ := right_pair la lb lc hla hlb hlc k h20 HM.out sc HC.out w3 _ hB3
        by_cases h0 : 0 < k
        · obtain ⟨y, hy, hp2⟩ := left_pair la lb lc hla hlc k hk h0 HM.out sc HC.out w3 _ hA3
          clear hA3 hB3
          go_wp2_with fail
          go_quiet (fail)
          go_wp2_with fail
          refine (hp1.out _).mono ?_
          rintro e w4 ⟨rfl, rfl⟩
          go_wp2_with fail
          refine (hp2.out _).mono ?_
          rintro e w4 ⟨rfl, rfl⟩
          go_wp2
          go_ret
          exact ⟨rfl, bdrew hbel3 _⟩
        · clear hA3 hB3
          go_wp2_with fail
          go_quiet (fail)
          go_wp2_with fail
          refine (hp1.out _).mono ?_
          rintro e w4 ⟨rfl, rfl⟩
          go_wp2
          go_ret
          exact ⟨rfl, bdrew hbel3 _⟩
      · obtain ⟨y, hy, hp2⟩ := left_pair la lb lc hla hlc k hk (by omega) HM.out sc HC.out w3 _ hA3
        clear hA3 hB3
        go_wp2_with fail
        go_quiet (fail)
        go_wp2_with fail
        refine (hp2.out _).mono ?_
        rintro e w4 ⟨rfl, rfl⟩
        go_wp2
        go_ret
        exact ⟨rfl, bdrew hbel3 _⟩
end Go.Proofs.Qxb6617018a
