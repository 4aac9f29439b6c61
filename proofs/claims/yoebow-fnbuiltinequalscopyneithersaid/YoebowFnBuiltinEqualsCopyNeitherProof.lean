/-
  The proof of 'Rows.FnBuiltinEqualsCopyNeitherSaid'. The walk: both callees that are named outright, and the method that is called through the interface, are entered in place; the one test on the road (is the string longer than 2^20 bytes?) is decided ahead. The frame behind the walk is the one that the kit's tool wrote for this function.
-/
import Derived.Test.YoebowRows
import Derived.WalkKit
import Derived.ProofKit
import Derived.OpenShut
import Derived.ShutString
namespace Go.Proofs.Yoebow.fnBuiltinEqualsCopyNeither
open Go.ChangeShapes Go.WideShapes Go.ChangeAt Go.RowKit
open Go.ChangeMaps (open_string shut_string)
set_option linter.unusedVariables false      -- a walk need not use every 'w<i>' (that an integer argument fits its kind)

theorem own : ownKnob Ebog.prog.godebug = none := by kernel_rfl

/-! ### STEP 1: THE WALK: the Go text returns true, and the world has at most new blocks -/
/-- A call of 'Equals' through the interface: at the dynamic type '*BuiltinFunction' it is function 20, at the same receiver. -/
theorem meth (a : Addr) (w : World) : (method 195 23 (.pointer (some a)) "Equals").run Ebog.prog w = .ok (20, .pointer (some a)) w := by kernel_rfl

set_option maxHeartbeats 400000 in
theorem walk (a0 : ByteArray) (w0 : a0.size ≤ maxLen) (w : World) :
    Calls Ebog.prog 8 #[.string a0] w fun e w' => e = .returned (.bool true) ∧ Grown w w' := by
  clear w0
  have hm := meth
  -- the one test on the road: is the string at most 2^20 bytes long? (zzBytes asks it twice, the law once more)
  by_cases c1 : a0.size ≤ 1048576
  · go_enter Ebog.func8, Ebog.ntmps8
    go_wp2
    go_ret
    exact ⟨rfl, by repeat (first | exact Grown.refl _ | apply Grown.drew | apply Grown.alloc)⟩
  · go_enter Ebog.func8, Ebog.ntmps8
    go_wp2
    go_ret
    exact ⟨rfl, by repeat (first | exact Grown.refl _ | apply Grown.drew | apply Grown.alloc)⟩

/-! ### THE ROW's STEP: WRITTEN OUT: LEAVE IT -/
set_option maxRecDepth 100000 in
theorem lifted (os : Os) (started : os.Started) (H : Type) (enc : TypeId × Value → H) :
    ReturnsInHanded {} Ebog.checked os 8 .any (Rows.fnBuiltinEqualsCopyNeitherSpec.pre6 enc Ebog.prog Ebog.f8 Rows.fnBuiltinEqualsCopyNeitherRow.domain false) (Rows.fnBuiltinEqualsCopyNeitherSpec.post enc Ebog.prog Ebog.f8 false true false false) := by
  refine returnsInHanded_of_change (C := Ebog.checked) own started (by kernel_rfl) Ebog.func8
    (ChangeSpec.witness6 (enc := enc) (C := Ebog.checked) false ⟨#[], #[.string ByteArray.empty], []⟩ 8 (by kernel_rfl) (by kernel_rfl) (by kernel_rfl) (by kernel_rfl)) ?_
  intro W base args ds gs before hval0 hW hcnd _
  have hval : ∀ (j : Nat) t v, Ebog.f8.params[j]? = some t → args[j]? = some v → Value.okWide Ebog.prog W .any base t v := hval0
  have hW' := hW
  obtain ⟨p, q, hA0, hV, rfl, hfz, hnd⟩ := hW
  have hA : DataW.TrodAll enc Ebog.prog W 0 (fun _ => true) true Ebog.f8.params.toList args.toList ds p := hA0
  rw [Ebog.params8] at hA hval
  obtain ⟨v0, vs0, d0, ds0, p0, q0, hargs, rfl, rfl, h0, r0⟩ := trodAll_cons hA
  obtain ⟨rfl, rfl, rfl⟩ := trodAll_nil r0
  obtain rfl : args = #[v0] := by cases args; simp_all
  obtain ⟨rfl, rfl⟩ := trodVars_none hV
  obtain ⟨a0, rfl, rfl, rfl, w0⟩ := open_string Ebog.underlying9 (hval 0 9 v0 rfl rfl) h0
  clear hA0 hval0
  simp only [List.append_nil] at hW'
  refine (walk a0 w0 W).mono fun e W' ⟨he, hg⟩ => ?_
  subst he
  exact ⟨_, rfl, post_of_same (pa := []) (pv := []) hW' (fun _ _ _ => (trodAll_cons_mk (shut_bool Ebog.underlying4 _) trodAll_mk0)) (fun sp _ => (trodAll_cons_mk (shut_string Ebog.underlying9 w0) trodAll_mk0)) (fun _ _ => rfl) rfl
    (hg.frame _) hg.2.1 (ok_one (by kernel_rfl) rfl (okWide_bool_mk Ebog.underlying4 _))⟩

theorem over : Rows.fnBuiltinEqualsCopyNeitherRow.holds Ebog.pinned (OpenSpec.ofChange Rows.fnBuiltinEqualsCopyNeitherSpec) :=
  OpenClaim.holds_of_wide 8 Ebog.f8 rfl rfl rfl rfl rfl rfl rfl ⟨rfl, rfl, rfl, rfl, rfl⟩ rfl rfl rfl rfl rfl (by kernel_rfl) Ebog.func8 (by kernel_rfl)
    (of_decide_eq_true (by kernel_rfl)) (by unfold Func.isWrapper; first | (rw [if_pos (by decide +kernel)]; kernel_rfl) | (rw [if_neg (by decide +kernel)]; exact ⟨rfl, rfl⟩))
    (fun os started H enc _ => lifted os started H enc)

/-- ████ THE STATEMENT ████ -/
theorem proved : Rows.FnBuiltinEqualsCopyNeitherSaid :=
  over
end Go.Proofs.Yoebow.fnBuiltinEqualsCopyNeither
