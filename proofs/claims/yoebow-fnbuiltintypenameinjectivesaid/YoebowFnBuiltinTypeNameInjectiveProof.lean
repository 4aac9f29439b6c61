/-
  The proof of 'Rows.FnBuiltinTypeNameInjectiveSaid'. The plain law (two texts behind one common opening; two texts whose openings differ in the first byte) ahead of the walk; every test on lengths is decided ahead. The frame behind the walk is the one that the kit's tool wrote for this function.
-/
import Derived.Test.YoebowRows
import Derived.WalkKit
import Derived.ProofKit
import Derived.OpenShut
import Derived.ShutString
namespace Go.Proofs.Yoebow.fnBuiltinTypeNameInjective
open Go.ChangeShapes Go.WideShapes Go.ChangeAt Go.RowKit
open Go.ChangeMaps (open_string shut_string)
set_option linter.unusedVariables false      -- a walk need not use every 'w<i>' (that an integer argument fits its kind)

theorem own : ownKnob Ebog.prog.godebug = none := by kernel_rfl

/-! ### THE PLAIN LAW: no Go in sight -/
/-- One opening ahead of two strings: the whole is the same text exactly when the strings are. -/
theorem same_opening (p a b : ByteArray) : ((p ++ a).toList == (p ++ b).toList) = (a.toList == b.toList) := by
  simp only [ByteArray.toList_eq, ByteArray.data_append, Array.toList_append]
  rw [Bool.eq_iff_iff]
  simp

/-- Two openings whose first bytes differ: never the same text. -/
theorem other_opening (x y : UInt8) (p q : List UInt8) (a b : ByteArray) (h : x ≠ y) : ((ByteArray.mk (x :: p).toArray ++ a).toList == (ByteArray.mk (y :: q).toArray ++ b).toList) = false := by
  simp [ByteArray.toList_eq, ByteArray.data_append, h]

/-! ### STEP 1: THE WALK: the Go text returns true, and the world has at most new blocks -/
set_option maxHeartbeats 400000 in
theorem walk (a0 : ByteArray) (a1 : ByteArray) (w0 : a0.size ≤ maxLen) (w1 : a1.size ≤ maxLen) (w : World) :
    Calls Ebog.prog 3 #[.string a0, .string a1] w fun e w' => e = .returned (.bool true) ∧ Grown w w' := by
  unfold maxLen at w0 w1
  by_cases c0 : a0.size ≤ 524288
  · by_cases c1 : a1.size ≤ 524288
    · -- the two comparisons of the law, decided ahead: 'builtin-function:' ahead of both names; 'builtin-function:' against 'user-function:'
      have e1 : ((ByteArray.mk #[98, 117, 105, 108, 116, 105, 110, 45, 102, 117, 110, 99, 116, 105, 111, 110, 58] ++ a0).toList == (ByteArray.mk #[98, 117, 105, 108, 116, 105, 110, 45, 102, 117, 110, 99, 116, 105, 111, 110, 58] ++ a1).toList) = (a0.toList == a1.toList) := same_opening _ _ _
      have e2 : ((ByteArray.mk #[98, 117, 105, 108, 116, 105, 110, 45, 102, 117, 110, 99, 116, 105, 111, 110, 58] ++ a0).toList == (ByteArray.mk #[117, 115, 101, 114, 45, 102, 117, 110, 99, 116, 105, 111, 110, 58] ++ a1).toList) = false := other_opening 98 117 _ _ a0 a1 (by decide)
      go_enter Ebog.func3, Ebog.ntmps3
      go_wp2
      go_ret
      exact ⟨rfl, by repeat (first | exact Grown.refl _ | apply Grown.drew | apply Grown.alloc)⟩
    · by_cases c2 : a1.size ≤ 1048576
      · by_cases c3 : a0.size + a1.size ≤ 1048576
        · go_enter Ebog.func3, Ebog.ntmps3
          go_wp2
          go_ret
          exact ⟨rfl, by repeat (first | exact Grown.refl _ | apply Grown.drew | apply Grown.alloc)⟩
        · go_enter Ebog.func3, Ebog.ntmps3
          go_wp2
          go_ret
          exact ⟨rfl, by repeat (first | exact Grown.refl _ | apply Grown.drew | apply Grown.alloc)⟩
      · go_enter Ebog.func3, Ebog.ntmps3
        go_wp2
        go_ret
        exact ⟨rfl, by repeat (first | exact Grown.refl _ | apply Grown.drew | apply Grown.alloc)⟩
  · go_enter Ebog.func3, Ebog.ntmps3
    go_wp2
    all_goals (go_ret; exact ⟨rfl, by repeat (first | exact Grown.refl _ | apply Grown.drew | apply Grown.alloc)⟩)

/-! ### THE ROW's STEP: WRITTEN OUT: LEAVE IT -/
set_option maxRecDepth 100000 in
theorem lifted (os : Os) (started : os.Started) (H : Type) (enc : TypeId × Value → H) :
    ReturnsInHanded {} Ebog.checked os 3 .any (Rows.fnBuiltinTypeNameInjectiveSpec.pre6 enc Ebog.prog Ebog.f3 Rows.fnBuiltinTypeNameInjectiveRow.domain false) (Rows.fnBuiltinTypeNameInjectiveSpec.post enc Ebog.prog Ebog.f3 false true false false) := by
  refine returnsInHanded_of_change (C := Ebog.checked) own started (by kernel_rfl) Ebog.func3
    (ChangeSpec.witness6 (enc := enc) (C := Ebog.checked) false ⟨#[], #[.string ByteArray.empty, .string ByteArray.empty], []⟩ 8 (by kernel_rfl) (by kernel_rfl) (by kernel_rfl) (by kernel_rfl)) ?_
  intro W base args ds gs before hval0 hW hcnd _
  have hval : ∀ (j : Nat) t v, Ebog.f3.params[j]? = some t → args[j]? = some v → Value.okWide Ebog.prog W .any base t v := hval0
  have hW' := hW
  obtain ⟨p, q, hA0, hV, rfl, hfz, hnd⟩ := hW
  have hA : DataW.TrodAll enc Ebog.prog W 0 (fun _ => true) true Ebog.f3.params.toList args.toList ds p := hA0
  rw [Ebog.params3] at hA hval
  obtain ⟨v0, vs0, d0, ds0, p0, q0, hargs, rfl, rfl, h0, r0⟩ := trodAll_cons hA
  obtain ⟨v1, vs1, d1, ds1, p1, q1, rfl, rfl, rfl, h1, r1⟩ := trodAll_cons r0
  obtain ⟨rfl, rfl, rfl⟩ := trodAll_nil r1
  obtain rfl : args = #[v0, v1] := by cases args; simp_all
  obtain ⟨rfl, rfl⟩ := trodVars_none hV
  obtain ⟨a0, rfl, rfl, rfl, w0⟩ := open_string Ebog.underlying9 (hval 0 9 v0 rfl rfl) h0
  obtain ⟨a1, rfl, rfl, rfl, w1⟩ := open_string Ebog.underlying9 (hval 1 9 v1 rfl rfl) h1
  clear hA0 hval0
  simp only [List.append_nil] at hW'
  refine (walk a0 a1 w0 w1 W).mono fun e W' ⟨he, hg⟩ => ?_
  subst he
  exact ⟨_, rfl, post_of_same (pa := []) (pv := []) hW' (fun _ _ _ => (trodAll_cons_mk (shut_bool Ebog.underlying4 _) trodAll_mk0)) (fun sp _ => (trodAll_cons_mk (shut_string Ebog.underlying9 w0) (trodAll_cons_mk (shut_string Ebog.underlying9 w1) trodAll_mk0))) (fun _ _ => rfl) rfl
    (hg.frame _) hg.2.1 (ok_one (by kernel_rfl) rfl (okWide_bool_mk Ebog.underlying4 _))⟩

theorem over : Rows.fnBuiltinTypeNameInjectiveRow.holds Ebog.pinned (OpenSpec.ofChange Rows.fnBuiltinTypeNameInjectiveSpec) :=
  OpenClaim.holds_of_wide 3 Ebog.f3 rfl rfl rfl rfl rfl rfl rfl ⟨rfl, rfl, rfl, rfl, rfl⟩ rfl rfl rfl rfl rfl (by kernel_rfl) Ebog.func3 (by kernel_rfl)
    (of_decide_eq_true (by kernel_rfl)) (by unfold Func.isWrapper; first | (rw [if_pos (by decide +kernel)]; kernel_rfl) | (rw [if_neg (by decide +kernel)]; exact ⟨rfl, rfl⟩))
    (fun os started H enc _ => lifted os started H enc)

/-- ████ THE STATEMENT ████ -/
theorem proved : Rows.FnBuiltinTypeNameInjectiveSaid :=
  over
end Go.Proofs.Yoebow.fnBuiltinTypeNameInjective
