/- FnOpensShiftAndBlank: the row. -/
import Derived.Test.Qxb6616752aRows
import Derived.Test.Qxb6616752aShiftWalk
import Derived.ProofKit
import Derived.OpenShut
import Derived.ShutString
import Derived.ChangeOld
namespace Go.Proofs.Qxb6616752a
open Go.ChangeShapes Go.WideShapes Go.ChangeAt Go.RowKit
open Go.ChangeMaps (open_string shut_string)

theorem own : ownKnob Try.prog.godebug = none := by kernel_rfl

theorem par_head (s : ByteArray) (k : Nat) (h : k < s.size) (hc : ((s[k].toNat : Int) == 40) = true) : skp (s.data.toList.drop k) = 0 ∧ ans (s.data.toList.drop k) = true := by
  have hp := pkl_drop s k h
  rw [beq_iff_eq] at hc
  rw [hc] at hp
  have h0 := skp_other (s.data.toList.drop k) (by omega) (by omega)
  exact ⟨h0, by unfold ans; rw [h0, List.drop_zero, hp]; rfl⟩

theorem shift_in (s : ByteArray) (k : Nat) (b : Bool) (w : World) (h : s.size ≤ 65536) (hk : k ≤ s.size) :
    Calls Try.prog 5 #[.string s, .int .i64 (k : Int), .bool b] w fun e w' => e = .returned (.bool true) ∧ Below w.heap.size w w' := by
  have c1 := fun (w : World) => zz_at s k _ _ _ ((k : Int) + (skp (s.data.toList.drop k) : Nat)) rfl hk (by omega) rfl rfl rfl w
  have c2 := fun (w : World) => zz_at (s.extract k s.size) 0 _ _ _ ((skp (s.data.toList.drop k) : Nat) : Int) (ext_tail s k) (by omega) (by simp; omega) rfl rfl (by omega) w
  have c3 := fun (c : UInt8) (hc : c.toNat = 32 ∨ c.toNat = 9) (w : World) => zz_at (s.extract 0 k ++ ⟨#[c]⟩ ++ s.extract k s.size) k _ _ _ ((k : Int) + (skp (s.data.toList.drop k) : Nat) + 1) (ext_mid s k hk c) (by rw [ext_mid_size s k hk]; omega) (by rw [ext_mid_size s k hk]; omega) (skp_cons c _ hc) (ans_cons c _ hc) (by omega) w
  have hle := skp_le (s.data.toList.drop k)
  have hlen : s.data.toList.length = s.size := by simp
  rw [List.length_drop] at hle
  have hp := par_head s k
  generalize skp (s.data.toList.drop k) = n at *
  generalize ans (s.data.toList.drop k) = r at *
  by_cases hlt : k < s.size
  · cases hc : ((s[k].toNat : Int) == 40) with
    | true =>
      obtain ⟨h1, h2⟩ := hp hlt hc
      cases b with
      | false => exact shift_par_false s k n r w h hk (by omega) c1 c2 (c3 32 (.inl rfl)) hlt hc h1 h2
      | true => exact shift_par_true s k n r w h hk (by omega) c1 c2 (c3 9 (.inr rfl)) hlt hc h1 h2
    | false =>
      cases b with
      | false => exact shift_oth_false s k n r w h hk (by omega) c1 c2 (c3 32 (.inl rfl)) hlt hc
      | true => exact shift_oth_true s k n r w h hk (by omega) c1 c2 (c3 9 (.inr rfl)) hlt hc
  · cases b with
    | false => exact shift_end_false s k n r w h hk (by omega) c1 c2 (c3 32 (.inl rfl)) hlt
    | true => exact shift_end_true s k n r w h hk (by omega) c1 c2 (c3 9 (.inr rfl)) hlt

theorem shift_walk (s : ByteArray) (i : Int) (b : Bool) (hs : s.size ≤ maxLen) (w : World) :
    Calls Try.prog 5 #[.string s, .int .i64 i, .bool b] w fun e w' => e = .returned (.bool true) ∧ Below w.heap.size w w' := by
  by_cases h : 65536 < s.size
  · exact (shift_long s i b w hs h).mono fun e w' ⟨h1, h2⟩ => ⟨h1, h2 ▸ Below.refl _ _⟩
  · by_cases hi : i < 0 ∨ (s.size : Int) < i
    · exact (shift_out s i b w (by omega) hi).mono fun e w' ⟨h1, h2⟩ => ⟨h1, h2 ▸ Below.refl _ _⟩
    · obtain ⟨k, rfl⟩ := Int.eq_ofNat_of_zero_le (show 0 ≤ i by omega)
      exact shift_in s k b w (by omega) (by omega)

set_option maxRecDepth 100000 in
theorem shift_lifted (os : Os) (started : os.Started) (H : Type) (enc : TypeId × Value → H) :
    ReturnsInHanded {} Try.checked os 5 .any (Rows.fnOpensShiftAndBlankSpec.pre6 enc Try.prog Try.f5 Rows.fnOpensShiftAndBlankRow.domain false) (Rows.fnOpensShiftAndBlankSpec.post enc Try.prog Try.f5 false true false false) := by
  refine returnsInHanded_of_change (C := Try.checked) own started (by kernel_rfl) Try.func5
    (ChangeSpec.witness6 (enc := enc) (C := Try.checked) false ⟨#[], #[.string ByteArray.empty, .int .i64 0, .bool false], []⟩ 8 (by kernel_rfl) (by kernel_rfl) (by kernel_rfl) (by kernel_rfl)) ?_
  intro W base args ds gs before hval0 hW hcnd _
  have hval : ∀ (j : Nat) t v, Try.f5.params[j]? = some t → args[j]? = some v → Value.okWide Try.prog W .any base t v := hval0
  have hW' := hW
  obtain ⟨p, q, hA0, hV, rfl, hfz, hnd⟩ := hW
  have hA : DataW.TrodAll enc Try.prog W 0 (fun _ => true) true Try.f5.params.toList args.toList ds p := hA0
  rw [Try.params5] at hA hval
  obtain ⟨v0, vs0, d0, ds0, p0, q0, hargs, rfl, rfl, h0, r0⟩ := trodAll_cons hA
  obtain ⟨v1, vs1, d1, ds1, p1, q1, rfl, rfl, rfl, h1, r1⟩ := trodAll_cons r0
  obtain ⟨v2, vs2, d2, ds2, p2, q2, rfl, rfl, rfl, h2, r2⟩ := trodAll_cons r1
  obtain ⟨rfl, rfl, rfl⟩ := trodAll_nil r2
  obtain rfl : args = #[v0, v1, v2] := by cases args; simp_all
  obtain ⟨rfl, rfl⟩ := trodVars_none hV
  obtain ⟨a0, rfl, rfl, rfl, w0⟩ := open_string Try.underlying9 (hval 0 9 v0 rfl rfl) h0
  obtain ⟨a1, rfl, rfl, rfl, w1⟩ := open_int Try.underlying3 (hval 1 3 v1 rfl rfl) h1
  obtain ⟨a2, rfl, rfl, rfl⟩ := open_bool Try.underlying4 (hval 2 4 v2 rfl rfl) h2
  clear hA0 hval0
  refine (shift_walk a0 a1 a2 w0 W).mono fun e W' ⟨he, bel⟩ => ?_
  subst he
  exact ⟨_, rfl, _, _, _, [], _, [], hW', trodAll_mk1 (shut_bool Try.underlying4 _), (trodAll_cons_mk (shut_string Try.underlying9 w0) (trodAll_cons_mk (shut_int Try.underlying3 w1) (trodAll_cons_mk (shut_bool Try.underlying4 _) trodAll_mk0))), rfl, bel.frame _, fun h => by cases h⟩

theorem shift_holds : Rows.FnOpensShiftAndBlankSaid :=
  OpenClaim.holds_of_wide 5 Try.f5 rfl rfl rfl rfl rfl rfl rfl ⟨rfl, rfl, rfl, rfl, rfl⟩ rfl rfl rfl rfl rfl (by kernel_rfl) Try.func5 (by kernel_rfl)
    (of_decide_eq_true (by kernel_rfl)) (by unfold Func.isWrapper; first | (rw [if_pos (by decide +kernel)]; kernel_rfl) | (rw [if_neg (by decide +kernel)]; exact ⟨rfl, rfl⟩))
    (fun os started H enc _ => shift_lifted os started H enc)
#print axioms shift_holds
end Go.Proofs.Qxb6616752a
