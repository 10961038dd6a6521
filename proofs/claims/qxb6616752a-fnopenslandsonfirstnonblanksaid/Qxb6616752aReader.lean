/- The value reader: done, peek, blanks, blanksBefore, opens, ZZopens. -/
import Derived.Test.Qxb6616752aProg
import Derived.WalkKit
import Derived.WalkSpells
import Derived.Outline
import Derived.Deep.QuietTactic
import Derived.BigQuiet
import Derived.Deep.LoopGhost
namespace Go.Proofs.Qxb6616752a
open Go.RowKit

/-- The number of blanks at the head of a list. -/
def skp : List UInt8 → Nat
  | [] => 0
  | c :: t => if c.toNat = 32 ∨ c.toNat = 9 then skp t + 1 else 0

/-- What peek answers: the byte at the head; 0 at the end. -/
def pkl : List UInt8 → Int
  | [] => 0
  | c :: _ => (c.toNat : Int)

/-- What opens answers. -/
def ans (l : List UInt8) : Bool := pkl (l.drop (skp l)) == 40

theorem skp_le (l : List UInt8) : skp l ≤ l.length := by
  induction l with
  | nil => simp [skp]
  | cons c t ih => unfold skp; split <;> simp; omega

theorem pkl_drop (s : ByteArray) (k : Nat) (h : k < s.size) : pkl (s.data.toList.drop k) = (s[k].toNat : Int) := by
  have h' : k < s.data.toList.length := by simpa using h
  rw [List.drop_eq_getElem_cons h']
  rfl

theorem pkl_end (s : ByteArray) (k : Nat) (h : ¬ k < s.size) : pkl (s.data.toList.drop k) = 0 := by
  rw [List.drop_of_length_le (by simpa using h)]
  rfl

theorem pkl_range (l : List UInt8) : 0 ≤ pkl l ∧ pkl l < 256 := by
  cases l with
  | nil => simp [pkl]
  | cons c t => have := c.toNat_lt; simp [pkl]; omega

theorem skp_blank (l : List UInt8) (h : pkl l = 32 ∨ pkl l = 9) : skp l = skp (l.drop 1) + 1 := by
  cases l with
  | nil => simp [pkl] at h
  | cons c t =>
    simp only [pkl] at h
    rw [skp, if_pos (by omega), List.drop_one, List.tail_cons]

theorem skp_other (l : List UInt8) (h1 : pkl l ≠ 32) (h2 : pkl l ≠ 9) : skp l = 0 := by
  cases l with
  | nil => rfl
  | cons c t =>
    simp only [pkl] at h1 h2
    rw [skp, if_neg (by omega)]

theorem pkl_lt (s : ByteArray) (k : Nat) (h : pkl (s.data.toList.drop k) = 32 ∨ pkl (s.data.toList.drop k) = 9) : k < s.size := by
  by_cases hk : k < s.size
  · exact hk
  · rw [pkl_end s k hk] at h; omega

theorem ret_int {k : IntKind} {a b : Int} (h : a = b) : Ending.returned (.int k a) = .returned (.int k b) := by rw [h]
theorem ret_bool {a b : Bool} (h : a = b) : Ending.returned (.bool a) = .returned (.bool b) := by rw [h]

theorem set_rd (w : World) (s : ByteArray) (n m : Nat) : ((w.alloc (.cells #[.string s, .int .i64 (n : Int)] 31)).drewN m).setCell ⟨w.heap.size, 1, none⟩ (.int .i64 ((n : Int) + 1)) = (w.alloc (.cells #[.string s, .int .i64 ((n + 1 : Nat) : Int)] 31)).drewN m := by
  show ((w.alloc (.cells #[.string s, .int .i64 (n : Int)] 31)).setCell ⟨w.heap.size, 1, none⟩ (.int .i64 ((n : Int) + 1))).drewN m = _
  rw [World.setCell_alloc_at _ _ _ _ _ rfl]
  rfl

set_option maxHeartbeats 400000 in
theorem done_any (s : ByteArray) (k : Nat) (w : World) (q : Nat) :
    Calls Try.prog 24 #[.pointer (some ⟨w.heap.size, 0, none⟩)] ((w.alloc (.cells #[.string s, .int .i64 (k : Int)] 31)).drewN q) fun e w' => e = .returned (.bool ((k : Int) == (s.size : Int))) ∧ ∃ m, w' = (w.alloc (.cells #[.string s, .int .i64 (k : Int)] 31)).drewN m := by
  go_enter Try.func24, Try.ntmps24
  go_wp2_with fail
  go_quiet (fail)
  go_wp2_with fail
  go_ret
  exact ⟨rfl, _, by rw [World.drewN_drewN]⟩

set_option maxHeartbeats 400000 in
theorem peek_any (s : ByteArray) (k : Nat) (w : World) (q : Nat) (hk : k ≤ s.size) :
    Calls Try.prog 22 #[.pointer (some ⟨w.heap.size, 0, none⟩)] ((w.alloc (.cells #[.string s, .int .i64 (k : Int)] 31)).drewN q) fun e w' => e = .returned (.int .u8 (pkl (s.data.toList.drop k))) ∧ ∃ m, w' = (w.alloc (.cells #[.string s, .int .i64 (k : Int)] 31)).drewN m := by
  by_cases hlt : k < s.size
  · have hd : ((k : Int) == (s.size : Int)) = false := by rw [beq_eq_false_iff_ne]; omega
    have hi : (k : Int) < (s.size : Int) := by omega
    have HP : Hid _ := pkl_drop s k hlt
    go_enter Try.func22, Try.ntmps22
    go_wp2_with fail
    refine (done_any s k w q).mono ?_
    rintro e w' ⟨rfl, m, rfl⟩
    go_wp2_with fail
    go_quiet (fail)
    go_wp2_with fail
    go_ret
    exact ⟨ret_int (by rw [HP.out]), _, by rw [World.drewN_drewN]⟩
  · have hd : ((k : Int) == (s.size : Int)) = true := by rw [beq_iff_eq]; omega
    have HP : Hid _ := pkl_end s k hlt
    go_enter Try.func22, Try.ntmps22
    go_wp2_with fail
    refine (done_any s k w q).mono ?_
    rintro e w' ⟨rfl, m, rfl⟩
    go_wp2_with fail
    go_ret
    exact ⟨ret_int (by rw [HP.out]), _, rfl⟩

set_option maxHeartbeats 400000 in
theorem blanks_any (s : ByteArray) (k : Nat) (w : World) (q : Nat) (hk : k ≤ s.size) (hs : s.size ≤ 100000) :
    Calls Try.prog 21 #[.pointer (some ⟨w.heap.size, 0, none⟩)] ((w.alloc (.cells #[.string s, .int .i64 (k : Int)] 31)).drewN q) fun e w' => e = .returned (.tuple #[]) ∧ ∃ m, w' = (w.alloc (.cells #[.string s, .int .i64 ((k + skp (s.data.toList.drop k) : Nat) : Int)] 31)).drewN m := by
  go_enter Try.func21, Try.ntmps21
  go_wp2_with fail
  go_loopg [] (s.size - k) (fun g wr => ∃ n : Nat, n ≤ s.size ∧ Hid (g = s.size - n) ∧ Hid (k + skp (s.data.toList.drop k) = n + skp (s.data.toList.drop n)) ∧ ∃ m, wr = (w.alloc (.cells #[.string s, .int .i64 (n : Int)] 31)).drewN m)
  case atStart => exact ⟨k, hk, rfl, rfl, q, rfl⟩
  case round =>
    obtain ⟨n, hn, hg, hl, m, rfl⟩ := hrel
    have hp : Hid (∀ q, Calls Try.prog 22 #[.pointer (some ⟨w.heap.size, 0, none⟩)] ((w.alloc (.cells #[.string s, .int .i64 (n : Int)] 31)).drewN q) fun e w' => e = .returned (.int .u8 (pkl (s.data.toList.drop n))) ∧ ∃ m, w' = (w.alloc (.cells #[.string s, .int .i64 (n : Int)] 31)).drewN m) := fun q => peek_any s n w q hn
    by_cases h1 : pkl (s.data.toList.drop n) = 32
    · have hlt := pkl_lt s n (.inl h1)
      have HS : Hid _ := skp_blank (s.data.toList.drop n) (.inl h1)
      have h1b : (pkl (s.data.toList.drop n) == 32) = true := by rw [h1]; rfl
      clear h1
      generalize pkl (s.data.toList.drop n) = x at hp h1b
      go_wp2_with fail
      refine (hp.out _).mono ?_
      rintro e w' ⟨rfl, m, rfl⟩
      go_wp2_with fail
      go_roundg (s.size - (n + 1))
      case rel => exact ⟨n + 1, by omega, rfl, by show _ = _; rw [hl.out, HS.out, List.drop_drop]; omega, _, set_rd w s n _⟩
      case measure => rw [hg.out]; omega
    · have h1b : (pkl (s.data.toList.drop n) == 32) = false := by rw [beq_eq_false_iff_ne]; exact h1
      by_cases h2 : pkl (s.data.toList.drop n) = 9
      · have hlt := pkl_lt s n (.inr h2)
        have HS : Hid _ := skp_blank (s.data.toList.drop n) (.inr h2)
        have h2b : (pkl (s.data.toList.drop n) == 9) = true := by rw [h2]; rfl
        clear h1 h2
        generalize pkl (s.data.toList.drop n) = x at hp h1b h2b
        go_wp2_with fail
        refine (hp.out _).mono ?_
        rintro e w' ⟨rfl, m, rfl⟩
        go_wp2_with fail
        refine (hp.out _).mono ?_
        rintro e w' ⟨rfl, m, rfl⟩
        go_wp2_with fail
        go_roundg (s.size - (n + 1))
        case rel => exact ⟨n + 1, by omega, rfl, by show _ = _; rw [hl.out, HS.out, List.drop_drop]; omega, _, set_rd w s n _⟩
        case measure => rw [hg.out]; omega
      · have h2b : (pkl (s.data.toList.drop n) == 9) = false := by rw [beq_eq_false_iff_ne]; exact h2
        have HS : Hid _ := skp_other (s.data.toList.drop n) h1 h2
        clear h1 h2
        generalize pkl (s.data.toList.drop n) = x at hp h1b h2b
        go_wp2_with fail
        refine (hp.out _).mono ?_
        rintro e w' ⟨rfl, m, rfl⟩
        go_wp2_with fail
        refine (hp.out _).mono ?_
        rintro e w' ⟨rfl, m, rfl⟩
        go_wp2_with fail
        go_end0
        exact ⟨rfl, _, by rw [hl.out, HS.out]; rfl⟩

set_option maxHeartbeats 400000 in
theorem before_any (s : ByteArray) (k : Nat) (w : World) (q : Nat) (hk : k ≤ s.size) (hs : s.size ≤ 100000) :
    Calls Try.prog 18 #[.pointer (some ⟨w.heap.size, 0, none⟩), .int .u8 40] ((w.alloc (.cells #[.string s, .int .i64 (k : Int)] 31)).drewN q) fun e w' => e = .returned (.bool (ans (s.data.toList.drop k))) ∧ ∃ m, w' = (w.alloc (.cells #[.string s, .int .i64 ((k + skp (s.data.toList.drop k) : Nat) : Int)] 31)).drewN m := by
  have hb := blanks_any s k w q hk hs
  have hle := skp_le (s.data.toList.drop k)
  have hlen : s.data.toList.length = s.size := by simp
  have HA : Hid (ans (s.data.toList.drop k) = (pkl (s.data.toList.drop (k + skp (s.data.toList.drop k))) == 40)) := by show _ = _; unfold ans; rw [List.drop_drop]
  have hn : k + skp (s.data.toList.drop k) ≤ s.size := by rw [List.length_drop] at hle; omega
  clear hle hlen
  generalize k + skp (s.data.toList.drop k) = n at *
  have HB : Hid _ := hb
  clear hb
  go_enter Try.func18, Try.ntmps18
  go_wp2_with fail
  refine Calls.mono HB.out ?_
  rintro e w' ⟨rfl, m, rfl⟩
  go_wp2_with fail
  refine (peek_any s n w m hn).mono ?_
  rintro e w' ⟨rfl, m, rfl⟩
  go_wp2_with fail
  go_ret
  exact ⟨ret_bool (by rw [HA.out]), _, rfl⟩

set_option maxHeartbeats 400000 in
theorem opens_any (s : ByteArray) (k : Nat) (w : World) (q : Nat) (hk : k ≤ s.size) (hs : s.size ≤ 100000) :
    Calls Try.prog 15 #[.pointer (some ⟨w.heap.size, 0, none⟩)] ((w.alloc (.cells #[.string s, .int .i64 (k : Int)] 31)).drewN q) fun e w' => e = .returned (.bool (ans (s.data.toList.drop k))) ∧ ∃ m, w' = (w.alloc (.cells #[.string s, .int .i64 ((k + skp (s.data.toList.drop k) : Nat) : Int)] 31)).drewN m := by
  go_enter Try.func15, Try.ntmps15
  go_wp2_with fail
  refine (before_any s k w q hk hs).mono ?_
  rintro e w' ⟨rfl, m, rfl⟩
  go_wp2_with fail
  go_ret
  exact ⟨rfl, _, rfl⟩

set_option maxHeartbeats 400000 in
/-- ZZopens: whether an opening parenthesis comes next behind the blanks, and where the reader stands. -/
theorem zzopens_any (s : ByteArray) (k : Nat) (w : World) (hk : k ≤ s.size) (hs : s.size ≤ 100000) :
    Calls Try.prog 10 #[.string s, .int .i64 (k : Int)] w fun e w' => e = .returned (.tuple #[.bool (ans (s.data.toList.drop k)), .int .i64 ((k + skp (s.data.toList.drop k) : Nat) : Int)]) ∧ Below w.heap.size w w' := by
  have hb := opens_any s k w 0 hk hs
  generalize k + skp (s.data.toList.drop k) = n at *
  generalize ans (s.data.toList.drop k) = b at *
  have HB : Hid _ := hb
  clear hb
  go_enter Try.func10, Try.ntmps10
  go_wp2_with fail
  refine Calls.mono HB.out ?_
  rintro e w' ⟨rfl, m, rfl⟩
  go_wp2_with fail
  go_quiet (fail)
  go_wp2_with fail
  go_ret2
  exact ⟨rfl, ((Below.refl _ _).alloc (Nat.le_refl _) _).trans ⟨rfl, rfl, rfl, Nat.le_refl _, fun _ _ => rfl⟩⟩
end Go.Proofs.Qxb6616752a
