/- FnOpensLandsOnFirstNonBlank: the row. -/
import Derived.Test.Qxb6616752aRows
import Derived.Test.Qxb6616752aLandsWalk
import Derived.ProofKit
import Derived.OpenShut
import Derived.ShutString
import Derived.ChangeOld
namespace Go.Proofs.Qxb6616752a
open Go.ChangeShapes Go.WideShapes Go.ChangeAt Go.RowKit
open Go.ChangeMaps (open_string shut_string)

theorem own : ownKnob Try.prog.godebug = none := by kernel_rfl

theorem lands_in (s : ByteArray) (k : Nat) (w : World) (h : s.size ≤ 65536) (hk : k ≤ s.size) :
    Calls Try.prog 4 #[.string s, .int .i64 (k : Int)] w fun e w' => e = .returned (.bool true) ∧ Below w.heap.size w w' := by
  have hle := skp_le (s.data.toList.drop k)
  have hlen : s.data.toList.length = s.size := by simp
  rw [List.length_drop] at hle
  have hkj : k ≤ k + skp (s.data.toList.drop k) := by omega
  have hj : k + skp (s.data.toList.drop k) ≤ s.size := by omega
  have e1 : skp (s.data.toList.drop (k + skp (s.data.toList.drop k))) = 0 := by rw [← List.drop_drop]; exact skp_idem _
  have e2 : ans (s.data.toList.drop (k + skp (s.data.toList.drop k))) = ans (s.data.toList.drop k) := by rw [← List.drop_drop]; exact ans_idem _
  have c1 := fun (w : World) => zzopens_any s k w hk (by omega)
  have c2 := fun (w : World) => zzopens_any s (k + skp (s.data.toList.drop k)) w hj (by omega)
  rw [e1, e2, Nat.add_zero] at c2
  have hin : ∀ m (hm : m < s.size), k ≤ m → m < k + skp (s.data.toList.drop k) → ((s[m].toNat : Int) = 32 ∨ (s[m].toNat : Int) = 9) := by
    intro m hm h1 h2
    have := skp_in (s.data.toList.drop k) (m - k) (by omega)
    rw [List.drop_drop, show k + (m - k) = m by omega, pkl_drop s m hm] at this
    exact this
  have hno := skp_not (s.data.toList.drop k)
  have ha : ans (s.data.toList.drop k) = (pkl ((s.data.toList.drop k).drop (skp (s.data.toList.drop k))) == 40) := rfl
  rw [List.drop_drop] at hno ha
  generalize ans (s.data.toList.drop k) = r at *
  generalize k + skp (s.data.toList.drop k) = j at *
  refine lands_core s k j r w h hkj hj c1 c2 hin ?_
  show _ ∨ _
  by_cases hm : j < s.size
  · rw [pkl_drop s j hm] at hno ha
    exact .inl ⟨hm, beq_eq_false_iff_ne.2 hno.1, beq_eq_false_iff_ne.2 hno.2, ha.symm⟩
  · rw [pkl_end s j hm] at ha
    exact .inr ⟨hm, ha⟩

theorem lands_walk (s : ByteArray) (i : Int) (hs : s.size ≤ maxLen) (w : World) :
    Calls Try.prog 4 #[.string s, .int .i64 i] w fun e w' => e = .returned (.bool true) ∧ Below w.heap.size w w' := by
  by_cases h : 65536 < s.size
  · exact (lands_long s i w hs h).mono fun e w' ⟨h1, h2⟩ => ⟨h1, h2 ▸ Below.refl _ _⟩
  · by_cases hi : i < 0 ∨ (s.size : Int) < i
    · exact (lands_out s i w (by omega) hi).mono fun e w' ⟨h1, h2⟩ => ⟨h1, h2 ▸ Below.refl _ _⟩
    · obtain ⟨k, rfl⟩ := Int.eq_ofNat_of_zero_le (show 0 ≤ i by omega)
      exact lands_in s k w (by omega) (by omega)

set_option maxRecDepth 100000 in
theorem lands_lifted (os : Os) (started : os.Started) (H : Type) (enc : TypeId × Value → H) :
    ReturnsInHanded {} Try.checked os 4 .any (Rows.fnOpensLandsOnFirstNonBlankSpec.pre6 enc Try.prog Try.f4 Rows.fnOpensLandsOnFirstNonBlankRow.domain false) (Rows.fnOpensLandsOnFirstNonBlankSpec.post enc Try.prog Try.f4 false true false false) := by
  refine returnsInHanded_of_change (C := Try.checked) own started (by kernel_rfl) Try.func4
    (ChangeSpec.witness6 (enc := enc) (C := Try.checked) false ⟨#[], #[.string ByteArray.empty, .int .i64 0], []⟩ 8 (by kernel_rfl) (by kernel_rfl) (by kernel_rfl) (by kernel_rfl)) ?_
  intro W base args ds gs before hval0 hW hcnd _
  have hval : ∀ (j : Nat) t v, Try.f4.params[j]? = some t → args[j]? = some v → Value.okWide Try.prog W .any base t v := hval0
  have hW' := hW
  obtain ⟨p, q, hA0, hV, rfl, hfz, hnd⟩ := hW
  have hA : DataW.TrodAll enc Try.prog W 0 (fun _ => true) true Try.f4.params.toList args.toList ds p := hA0
  rw [Try.params4] at hA hval
  obtain ⟨v0, vs0, d0, ds0, p0, q0, hargs, rfl, rfl, h0, r0⟩ := trodAll_cons hA
  obtain ⟨v1, vs1, d1, ds1, p1, q1, rfl, rfl, rfl, h1, r1⟩ := trodAll_cons r0
  obtain ⟨rfl, rfl, rfl⟩ := trodAll_nil r1
  obtain rfl : args = #[v0, v1] := by cases args; simp_all
  obtain ⟨rfl, rfl⟩ := trodVars_none hV
  obtain ⟨a0, rfl, rfl, rfl, w0⟩ := open_string Try.underlying9 (hval 0 9 v0 rfl rfl) h0
  obtain ⟨a1, rfl, rfl, rfl, w1⟩ := open_int Try.underlying3 (hval 1 3 v1 rfl rfl) h1
  clear hA0 hval0
  refine (lands_walk a0 a1 w0 W).mono fun e W' ⟨he, bel⟩ => ?_
  subst he
  exact ⟨_, rfl, _, _, _, [], _, [], hW', trodAll_mk1 (shut_bool Try.underlying4 _), (trodAll_cons_mk (shut_string Try.underlying9 w0) (trodAll_cons_mk (shut_int Try.underlying3 w1) trodAll_mk0)), rfl, bel.frame _, fun h => by cases h⟩

theorem lands_holds : Rows.FnOpensLandsOnFirstNonBlankSaid :=
  OpenClaim.holds_of_wide 4 Try.f4 rfl rfl rfl rfl rfl rfl rfl ⟨rfl, rfl, rfl, rfl, rfl⟩ rfl rfl rfl rfl rfl (by kernel_rfl) Try.func4 (by kernel_rfl)
    (of_decide_eq_true (by kernel_rfl)) (by unfold Func.isWrapper; first | (rw [if_pos (by decide +kernel)]; kernel_rfl) | (rw [if_neg (by decide +kernel)]; exact ⟨rfl, rfl⟩))
    (fun os started H enc _ => lands_lifted os started H enc)
#print axioms lands_holds
end Go.Proofs.Qxb6616752a
