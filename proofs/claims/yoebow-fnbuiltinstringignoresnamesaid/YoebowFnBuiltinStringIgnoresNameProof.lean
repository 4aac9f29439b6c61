/-
  The proof of 'Rows.FnBuiltinStringIgnoresNameSaid'. The walk: every test on lengths is decided ahead; the two texts that are compared are constants of the program. The frame behind the walk is the one that the kit's tool wrote for this function.
-/
import Derived.Test.YoebowRows
import Derived.WalkKit
import Derived.ProofKit
import Derived.OpenShut
import Derived.ShutString
namespace Go.Proofs.Yoebow.fnBuiltinStringIgnoresName
open Go.ChangeShapes Go.WideShapes Go.ChangeAt Go.RowKit
open Go.ChangeMaps (open_string shut_string)
set_option linter.unusedVariables false      -- a walk need not use every 'w<i>' (that an integer argument fits its kind)

theorem own : ownKnob Ebog.prog.godebug = none := by kernel_rfl

/-! ### STEP 1: THE WALK: the Go text returns true, and the world has at most new blocks -/
set_option maxHeartbeats 400000 in
theorem walk (a0 : ByteArray) (a1 : ByteArray) (w0 : a0.size ≤ maxLen) (w1 : a1.size ≤ maxLen) (w : World) :
    Calls Ebog.prog 5 #[.string a0, .string a1] w fun e w' => e = .returned (.bool true) ∧ Grown w w' := by
  unfold maxLen at w0 w1
  by_cases c0 : a0.size ≤ 524288
  · by_cases c1 : a1.size ≤ 524288
    · go_enter Ebog.func5, Ebog.ntmps5
      go_wp2
      go_ret
      exact ⟨rfl, by repeat (first | exact Grown.refl _ | apply Grown.drew | apply Grown.alloc)⟩
    · by_cases c2 : a1.size ≤ 1048576
      · by_cases c3 : a0.size + a1.size ≤ 1048576
        · go_enter Ebog.func5, Ebog.ntmps5
          go_wp2
          go_ret
          exact ⟨rfl, by repeat (first | exact Grown.refl _ | apply Grown.drew | apply Grown.alloc)⟩
        · go_enter Ebog.func5, Ebog.ntmps5
          go_wp2
          go_ret
          exact ⟨rfl, by repeat (first | exact Grown.refl _ | apply Grown.drew | apply Grown.alloc)⟩
      · go_enter Ebog.func5, Ebog.ntmps5
        go_wp2
        go_ret
        exact ⟨rfl, by repeat (first | exact Grown.refl _ | apply Grown.drew | apply Grown.alloc)⟩
  · go_enter Ebog.func5, Ebog.ntmps5
    go_wp2
    all_goals (go_ret; exact ⟨rfl, by repeat (first | exact Grown.refl _ | apply Grown.drew | apply Grown.alloc)⟩)

/-! ### THE ROW's STEP: WRITTEN OUT: LEAVE IT -/
set_option maxRecDepth 100000 in
theorem lifted (os : Os) (started : os.Started) (H : Type) (enc : TypeId × Value → H) :
    ReturnsInHanded {} Ebog.checked os 5 .any (Rows.fnBuiltinStringIgnoresNameSpec.pre6 enc Ebog.prog Ebog.f5 Rows.fnBuiltinStringIgnoresNameRow.domain false) (Rows.fnBuiltinStringIgnoresNameSpec.post enc Ebog.prog Ebog.f5 false true false false) := by
  refine returnsInHanded_of_change (C := Ebog.checked) own started (by kernel_rfl) Ebog.func5
    (ChangeSpec.witness6 (enc := enc) (C := Ebog.checked) false ⟨#[], #[.string ByteArray.empty, .string ByteArray.empty], []⟩ 8 (by kernel_rfl) (by kernel_rfl) (by kernel_rfl) (by kernel_rfl)) ?_
  intro W base args ds gs before hval0 hW hcnd _
  have hval : ∀ (j : Nat) t v, Ebog.f5.params[j]? = some t → args[j]? = some v → Value.okWide Ebog.prog W .any base t v := hval0
  have hW' := hW
  obtain ⟨p, q, hA0, hV, rfl, hfz, hnd⟩ := hW
  have hA : DataW.TrodAll enc Ebog.prog W 0 (fun _ => true) true Ebog.f5.params.toList args.toList ds p := hA0
  rw [Ebog.params5] at hA hval
  obtain ⟨v0, vs0, d0, ds0, p0, q0, hargs, rfl, rfl, h0, r0⟩ := trodAll_cons hA
  obtain ⟨v1, vs1, d1, ds1, p1, q1, rfl, rfl, rfl, h1, r1⟩ := trodAll_cons r0
  obtain ⟨rfl, rfl, rfl⟩ := trodAll_nil r1
  obtain rfl : args = #[v0, v1] := by cases args; simp_all
  obtain ⟨rfl, rfl⟩ := trodVars_none hV
  obtain ⟨a0, rfl, rfl, rfl, w0⟩ := open_string Ebog.underlying9 (hval 0 9 v0 rfl rfl) h0
  obtain ⟨a1, rfl, rfl, rfl, w1⟩ := open_string Ebog.underlying9 (hval 1 9 v1 rfl rfl) h1
  clear hA0 hval0
  simp only [List.append_nil] at hW'
  refine (walk a0 a1 w0 w1 W).mono fun e W' ⟨he, hg⟩ => ?_
  subst he
  exact ⟨_, rfl, post_of_same (pa := []) (pv := []) hW' (fun _ _ _ => (trodAll_cons_mk (shut_bool Ebog.underlying4 _) trodAll_mk0)) (fun sp _ => (trodAll_cons_mk (shut_string Ebog.underlying9 w0) (trodAll_cons_mk (shut_string Ebog.underlying9 w1) trodAll_mk0))) (fun _ _ => rfl) rfl
    (hg.frame _) hg.2.1 (ok_one (by kernel_rfl) rfl (okWide_bool_mk Ebog.underlying4 _))⟩

theorem over : Rows.fnBuiltinStringIgnoresNameRow.holds Ebog.pinned (OpenSpec.ofChange Rows.fnBuiltinStringIgnoresNameSpec) :=
  OpenClaim.holds_of_wide 5 Ebog.f5 rfl rfl rfl rfl rfl rfl rfl ⟨rfl, rfl, rfl, rfl, rfl⟩ rfl rfl rfl rfl rfl (by kernel_rfl) Ebog.func5 (by kernel_rfl)
    (of_decide_eq_true (by kernel_rfl)) (by unfold Func.isWrapper; first | (rw [if_pos (by decide +kernel)]; kernel_rfl) | (rw [if_neg (by decide +kernel)]; exact ⟨rfl, rfl⟩))
    (fun os started H enc _ => lifted os started H enc)

/-- ████ THE STATEMENT ████ -/
theorem proved : Rows.FnBuiltinStringIgnoresNameSaid :=
  over
end Go.Proofs.Yoebow.fnBuiltinStringIgnoresName
