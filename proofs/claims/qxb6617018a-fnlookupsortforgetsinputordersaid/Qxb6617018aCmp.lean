/- The comparisons: of two IDs, of two texts; and the reading back of a text. -/
import Derived.Test.Qxb6617018aSpliceWalk
namespace Go.Proofs.Qxb6617018a
open Go.RowKit Go.Lib

/-- The order of two lists of bytes, of one length: the first place where they differ. -/
def cmpl : List UInt8 → List UInt8 → Int
  | a :: s, b :: t => if a.toNat = b.toNat then cmpl s t else if a.toNat < b.toNat then -1 else 1
  | _, _ => 0

theorem cmpl_range (a b : List UInt8) : cmpl a b = -1 ∨ cmpl a b = 0 ∨ cmpl a b = 1 := by
  induction a generalizing b with
  | nil => simp [cmpl]
  | cons x t ih =>
    cases b with
    | nil => simp [cmpl]
    | cons y u =>
      unfold cmpl
      split
      · exact ih u
      · split <;> simp

theorem cmpl_eq (a b : List UInt8) (n : Nat) (h : n < a.length) (h' : n < b.length) (e : a[n].toNat = b[n].toNat) : cmpl (a.drop n) (b.drop n) = cmpl (a.drop (n + 1)) (b.drop (n + 1)) := by
  rw [List.drop_eq_getElem_cons h, List.drop_eq_getElem_cons h', cmpl, if_pos e]
theorem cmpl_lt (a b : List UInt8) (n : Nat) (h : n < a.length) (h' : n < b.length) (e : a[n].toNat < b[n].toNat) : cmpl (a.drop n) (b.drop n) = -1 := by
  rw [List.drop_eq_getElem_cons h, List.drop_eq_getElem_cons h', cmpl, if_neg (by omega), if_pos e]
theorem cmpl_gt (a b : List UInt8) (n : Nat) (h : n < a.length) (h' : n < b.length) (e : b[n].toNat < a[n].toNat) : cmpl (a.drop n) (b.drop n) = 1 := by
  rw [List.drop_eq_getElem_cons h, List.drop_eq_getElem_cons h', cmpl, if_neg (by omega), if_neg (by omega)]

theorem digit_lt (d e : Nat) (h : e < 16) (hl : d < e) : (Hx.digit d).toNat < (Hx.digit e).toNat := by
  rcases digit_cases d (by omega) with ⟨h1, h2⟩ | ⟨h1, h2⟩ <;> rcases digit_cases e h with ⟨h3, h4⟩ | ⟨h3, h4⟩ <;> omega

theorem cmpl_encode (a b : List UInt8) : cmpl (Hx.encode a) (Hx.encode b) = cmpl a b := by
  induction a generalizing b with
  | nil => cases b <;> simp [Hx.encode, cmpl]
  | cons x t ih =>
    cases b with
    | nil => simp [Hx.encode, cmpl]
    | cons y u =>
      have hx := x.toNat_lt
      have hy := y.toNat_lt
      rw [Hx.encode_cons, Hx.encode_cons, cmpl, cmpl, cmpl, ih]
      rcases Nat.lt_trichotomy (x.toNat / 16) (y.toNat / 16) with h | h | h
      · have := digit_lt _ _ (by omega) h
        rw [if_neg (by omega), if_pos this, if_neg (by omega), if_pos (by omega)]
      · rw [h, if_pos rfl]
        rcases Nat.lt_trichotomy (x.toNat % 16) (y.toNat % 16) with k | k | k
        · have := digit_lt _ _ (by omega) k
          rw [if_neg (by omega), if_pos this, if_neg (by omega), if_pos (by omega)]
        · rw [k, if_pos rfl, if_pos (by omega)]
        · have := digit_lt _ _ (by omega) k
          rw [if_neg (by omega), if_neg (by omega), if_neg (by omega), if_neg (by omega)]
      · have := digit_lt _ _ (by omega) h
        rw [if_neg (by omega), if_neg (by omega), if_neg (by omega), if_neg (by omega)]

theorem drew3 (w : World) (a b c : Nat) : ((w.drewN a).drewN b).drewN c = w.drewN (a + b + c) := by
  show ({ w with drawn := w.drawn + a + b + c } : World) = { w with drawn := w.drawn + (a + b + c) }
  congr 1
  omega

theorem two_below (w : World) (A B : Obj) : Below w.heap.size w ((w.alloc A).alloc B) := ((Below.refl _ _).alloc (Nat.le_refl _) _).alloc (by simp) _

theorem ret_int {k : IntKind} {a b : Int} (h : a = b) : Ending.returned (.int k a) = .returned (.int k b) := by rw [h]

set_option maxHeartbeats 400000 in
theorem cmpID_any (la lb : List UInt8) (hla : la.length = 20) (hlb : lb.length = 20) (w : World) :
    Calls Try.prog 10 #[.agg (arrv la), .agg (arrv lb)] w fun e w' => e = .returned (.int .i64 (cmpl la lb)) ∧ Below w.heap.size w w' := by
  go_enter Try.func10, Try.ntmps10
  go_wp2_with fail
  go_loopw [5] (fun vj wr => ∃ n : Nat, n ≤ 20 ∧ vj = .int .i64 n ∧ Hid (cmpl la lb = cmpl (la.drop n) (lb.drop n)) ∧ ∃ q, wr = ((w.alloc (.cells (arrv la) 22)).alloc (.cells (arrv lb) 22)).drewN q) (fun vj _ => 20 - (RowKit.intOf vj).toNat)
  case atStart => exact ⟨0, Nat.zero_le _, rfl, rfl, 0, rfl⟩
  case round =>
    obtain ⟨n, hn, rfl, hc, q, rfl⟩ := hrel
    by_cases hlt : n < 20
    · have hlt1 : (n : Int) < 20 := by omega
      obtain ⟨x, hx, ex⟩ : ∃ x : Nat, (arrv la)[n]? = some (.int .u8 (x : Int)) ∧ Hid (x = (la[n]'(by omega)).toNat) := ⟨_, arrv_get la n (by omega), rfl⟩
      obtain ⟨y, hy, ey⟩ : ∃ y : Nat, (arrv lb)[n]? = some (.int .u8 (y : Int)) ∧ Hid (y = (lb[n]'(by omega)).toNat) := ⟨_, arrv_get lb n (by omega), rfl⟩
      rcases Nat.lt_trichotomy x y with h | h | h
      · have hne : ((x : Int) != (y : Int)) = true := by rw [bne_iff_ne]; omega
        have hlt2 : (x : Int) < (y : Int) := by omega
        have HF : Hid (cmpl la lb = -1) := by show _ = _; rw [hc.out, cmpl_lt la lb n (by omega) (by omega) (by rw [← ex.out, ← ey.out]; exact h)]
        clear h
        go_wp2_with fail
        go_quiet (fail)
        go_wp2_with fail
        go_quiet (fail)
        go_wp2_with fail
        go_ret
        exact ⟨ret_int (by rw [HF.out]), bdrew (bdrew (bdrew (two_below w _ _) _) _) _⟩
      · have hne : ((x : Int) != (y : Int)) = false := by rw [h]; simp
        have HF : Hid (cmpl la lb = cmpl (la.drop (n + 1)) (lb.drop (n + 1))) := by show _ = _; rw [hc.out, cmpl_eq la lb n (by omega) (by omega) (by rw [← ex.out, ← ey.out]; exact h)]
        clear h
        go_wp2_with fail
        go_quiet (fail)
        go_wp2_with fail
        go_roundw
        case rel => exact ⟨n + 1, by omega, by go_num, HF, _, rfl⟩
        case measure => simp [RowKit.intOf]; omega
      · have hne : ((x : Int) != (y : Int)) = true := by rw [bne_iff_ne]; omega
        have hlt2 : ¬ (x : Int) < (y : Int) := by omega
        have HF : Hid (cmpl la lb = 1) := by show _ = _; rw [hc.out, cmpl_gt la lb n (by omega) (by omega) (by rw [← ex.out, ← ey.out]; exact h)]
        clear h
        go_wp2_with fail
        go_quiet (fail)
        go_wp2_with fail
        go_quiet (fail)
        go_wp2_with fail
        go_ret
        exact ⟨ret_int (by rw [HF.out]), bdrew (bdrew (bdrew (two_below w _ _) _) _) _⟩
    · obtain rfl : n = 20 := by omega
      have HF : Hid (cmpl la lb = 0) := by show _ = _; rw [hc.out, List.drop_of_length_le (by omega), List.drop_of_length_le (by omega), cmpl]; simp
      go_wp2
      go_ret
      exact ⟨ret_int (by rw [HF.out]), bdrew (two_below w _ _) _⟩

set_option maxHeartbeats 400000 in
theorem cmpText_any (s t : ByteArray) (hs : s.size = 40) (ht : t.size = 40) (w : World) :
    Calls Try.prog 9 #[.string s, .string t] w fun e w' => e = .returned (.int .i64 (cmpl s.data.toList t.data.toList)) ∧ ∃ q, w' = w.drewN q := by
  have ls : s.data.toList.length = 40 := by simpa using hs
  have lt : t.data.toList.length = 40 := by simpa using ht
  have LS : Hid _ := ls
  have LT : Hid _ := lt
  clear ls lt
  go_enter Try.func9, Try.ntmps9
  go_wp2_with fail
  go_loopw [6] (fun vj wr => ∃ n : Nat, n ≤ 40 ∧ vj = .int .i64 n ∧ Hid (cmpl s.data.toList t.data.toList = cmpl (s.data.toList.drop n) (t.data.toList.drop n)) ∧ ∃ q, wr = w.drewN q) (fun vj _ => 40 - (RowKit.intOf vj).toNat)
  case atStart => exact ⟨0, Nat.zero_le _, rfl, rfl, 0, rfl⟩
  case round =>
    obtain ⟨n, hn, rfl, hc, q, rfl⟩ := hrel
    by_cases hlt : n < 40
    · have hlt1 : (n : Int) < 40 := by omega
      have hns : n < s.size := by omega
      have hnt : n < t.size := by omega
      have ds : n < s.data.toList.length := by rw [LS.out]; omega
      have dt : n < t.data.toList.length := by rw [LT.out]; omega
      rcases Nat.lt_trichotomy s[n].toNat t[n].toNat with h | h | h
      · have hne : ((s[n].toNat : Int) != (t[n].toNat : Int)) = true := by rw [bne_iff_ne]; omega
        have hlt2 : (s[n].toNat : Int) < (t[n].toNat : Int) := by omega
        have HF : Hid (cmpl s.data.toList t.data.toList = -1) := by show _ = _; rw [hc.out, cmpl_lt _ _ n ds dt h]
        clear h
        go_wp2_with fail
        go_quiet (fail)
        go_wp2_with fail
        go_quiet (fail)
        go_wp2_with fail
        go_ret
        exact ⟨ret_int (by rw [HF.out]), _, drew3 w _ _ _⟩
      · have hne : ((s[n].toNat : Int) != (t[n].toNat : Int)) = false := by rw [h]; simp
        have HF : Hid (cmpl s.data.toList t.data.toList = cmpl (s.data.toList.drop (n + 1)) (t.data.toList.drop (n + 1))) := by show _ = _; rw [hc.out, cmpl_eq _ _ n ds dt h]
        clear h
        go_wp2_with fail
        go_quiet (fail)
        go_wp2_with fail
        go_roundw
        case rel => exact ⟨n + 1, by omega, by go_num, HF, _, rfl⟩
        case measure => simp [RowKit.intOf]; omega
      · have hne : ((s[n].toNat : Int) != (t[n].toNat : Int)) = true := by rw [bne_iff_ne]; omega
        have hlt2 : ¬ (s[n].toNat : Int) < (t[n].toNat : Int) := by omega
        have HF : Hid (cmpl s.data.toList t.data.toList = 1) := by show _ = _; rw [hc.out, cmpl_gt _ _ n ds dt h]
        clear h
        go_wp2_with fail
        go_quiet (fail)
        go_wp2_with fail
        go_quiet (fail)
        go_wp2_with fail
        go_ret
        exact ⟨ret_int (by rw [HF.out]), _, drew3 w _ _ _⟩
    · obtain rfl : n = 40 := by omega
      have HF : Hid (cmpl s.data.toList t.data.toList = 0) := by show _ = _; rw [hc.out, List.drop_of_length_le (by rw [LS.out]; omega), List.drop_of_length_le (by rw [LT.out]; omega), cmpl]; simp
      go_wp2
      go_ret
      exact ⟨ret_int (by rw [HF.out]), _, rfl⟩

set_option maxHeartbeats 400000 in
theorem readsBack_any (l : List UInt8) (hl : l.length = 20) (s : ByteArray) (hsl : Hid (s = ⟨(Hx.encode l).toArray⟩)) (hs : s.size = 40) (w : World) :
    Calls Try.prog 8 #[.string s, .agg (arrv l)] w fun e w' => e = .returned (.bool true) ∧ w' = w.alloc (.cells (arrv l) 22) := by
  go_enter Try.func8, Try.ntmps8
  go_wp2_with fail
  go_loop [5] (fun vj => ∃ n : Nat, n ≤ 20 ∧ vj = .int .i64 n) (fun vj => 20 - (RowKit.intOf vj).toNat)
  case atStart => exact ⟨0, Nat.zero_le _, rfl⟩
  case round =>
    obtain ⟨n, hn, rfl⟩ := hrel
    by_cases hlt : n < 20
    · have hlt1 : (n : Int) < 20 := by omega
      obtain ⟨x, hx, hp⟩ : ∃ x : Nat, (arrv l)[n]? = some (.int .u8 (x : Int)) ∧ Hid (∀ W, Calls Try.prog 11 #[.string s, .int .i64 n, .int .u8 (x : Int)] W fun e w' => e = .returned (.bool true) ∧ w' = W) :=
        ⟨_, arrv_get l n (by omega), fun W => by rw [hsl.out]; exact pair_any l hl n hlt _ rfl W⟩
      go_wp2_with fail
      refine (hp.out _).mono ?_
      rintro e w' ⟨rfl, rfl⟩
      go_wp2_with fail
      go_round
      case rel => exact ⟨n + 1, by omega, by go_num⟩
      case measure => simp [RowKit.intOf]; omega
    · go_wp2
      go_ret
      exact ⟨rfl, rfl⟩
end Go.Proofs.Qxb6617018a
