/-
  'Rows.FnBoolEqualsIsIdentitySaid' proved: the walk is ours; the frame around it is the given shell's.
-/
import Derived.Test.YoedowRows
import Derived.WalkKit
import Derived.ProofKit
import Derived.OpenShut
import Derived.ShutString
import Derived.Test.YoedowCallees
namespace Go.Proofs.Yoedow.fnBoolEqualsIsIdentity
open Go.ChangeShapes Go.WideShapes Go.ChangeAt Go.RowKit
open Go.ChangeMaps (open_string shut_string)
set_option linter.unusedVariables false      -- a walk need not use every 'w<i>' (that an integer argument fits its kind)

theorem own : ownKnob Edog.prog.godebug = none := by kernel_rfl

/-! ### STEP 1: THE WALK: the Go text returns true. 'Grown w w'': the world has at most new blocks (Derived/RowKit3.lean). Part the cases AHEAD of 'go_enter' where a test parts the walk; take each callee by a contract of your own. -/
theorem walk (a0 : Bool) (a1 : Bool) (w : World) :
    Calls Edog.prog 7 #[.bool a0, .bool a1] w fun e w' => e = .returned (.bool true) ∧ Grown w w' := by
  obtain ⟨hx, hy⟩ := two_laid w (.cells #[.bool a0] 39) (.cells #[.bool a1] 39)
  have HX : Hid (((w.alloc (.cells #[.bool a0] 39)).alloc (.cells #[.bool a1] 39)).heap[w.heap.size]? = some (.cells #[.bool a0] 39)) := hx
  have HY : Hid (((w.alloc (.cells #[.bool a0] 39)).alloc (.cells #[.bool a1] 39)).heap[w.heap.size + 1]? = some (.cells #[.bool a1] 39)) := hy
  clear hx hy
  go_enter Edog.func7, Edog.ntmps7
  go_wp2_with (go_at_call 10; refine (newBool _ _).mono ?_; rintro e w' ⟨rfl, rfl⟩)
  refine (equals_same _ _).mono ?_
  rintro e w' ⟨rfl, rfl⟩
  go_wp2_with fail
  refine (equals_other ⟨w.heap.size, 0, none⟩ ⟨w.heap.size + 1, 0, none⟩ _ _ _ _ _ (by simp) (by exact HX.out) (by exact HY.out)).mono ?_
  rintro e w' ⟨rfl, rfl⟩
  go_wp2_with fail
  refine (equals_other ⟨w.heap.size + 1, 0, none⟩ ⟨w.heap.size, 0, none⟩ _ _ _ _ _ (by simp) (by exact HY.out) (by exact HX.out)).mono ?_
  rintro e w' ⟨rfl, rfl⟩
  go_wp2
  go_ret
  exact ⟨rfl, by repeat (first | exact Grown.refl _ | apply Grown.drew | apply Grown.alloc)⟩

/-! ### THE ROW's STEP: WRITTEN OUT: LEAVE IT -/
set_option maxRecDepth 100000 in
theorem lifted (os : Os) (started : os.Started) (H : Type) (enc : TypeId × Value → H) :
    ReturnsInHanded {} Edog.checked os 7 .any (Rows.fnBoolEqualsIsIdentitySpec.pre6 enc Edog.prog Edog.f7 Rows.fnBoolEqualsIsIdentityRow.domain false) (Rows.fnBoolEqualsIsIdentitySpec.post enc Edog.prog Edog.f7 false true false false) := by
  refine returnsInHanded_of_change (C := Edog.checked) own started (by kernel_rfl) Edog.func7
    (ChangeSpec.witness6 (enc := enc) (C := Edog.checked) false ⟨#[], #[.bool false, .bool false], []⟩ 8 (by kernel_rfl) (by kernel_rfl) (by kernel_rfl) (by kernel_rfl)) ?_
  intro W base args ds gs before hval0 hW hcnd _
  have hval : ∀ (j : Nat) t v, Edog.f7.params[j]? = some t → args[j]? = some v → Value.okWide Edog.prog W .any base t v := hval0
  have hW' := hW
  obtain ⟨p, q, hA0, hV, rfl, hfz, hnd⟩ := hW
  have hA : DataW.TrodAll enc Edog.prog W 0 (fun _ => true) true Edog.f7.params.toList args.toList ds p := hA0
  rw [Edog.params7] at hA hval
  obtain ⟨v0, vs0, d0, ds0, p0, q0, hargs, rfl, rfl, h0, r0⟩ := trodAll_cons hA
  obtain ⟨v1, vs1, d1, ds1, p1, q1, rfl, rfl, rfl, h1, r1⟩ := trodAll_cons r0
  obtain ⟨rfl, rfl, rfl⟩ := trodAll_nil r1
  obtain rfl : args = #[v0, v1] := by cases args; simp_all
  obtain ⟨rfl, rfl⟩ := trodVars_none hV
  obtain ⟨a0, rfl, rfl, rfl⟩ := open_bool Edog.underlying4 (hval 0 4 v0 rfl rfl) h0
  obtain ⟨a1, rfl, rfl, rfl⟩ := open_bool Edog.underlying4 (hval 1 4 v1 rfl rfl) h1
  clear hA0 hval0
  simp only [List.append_nil] at hW'
  refine (walk a0 a1 W).mono fun e W' ⟨he, hg⟩ => ?_
  subst he
  exact ⟨_, rfl, post_of_same (pa := []) (pv := []) hW' (fun _ _ _ => (trodAll_cons_mk (shut_bool Edog.underlying4 _) trodAll_mk0)) (fun sp _ => (trodAll_cons_mk (shut_bool Edog.underlying4 _) (trodAll_cons_mk (shut_bool Edog.underlying4 _) trodAll_mk0))) (fun _ _ => rfl) rfl
    (hg.frame _) hg.2.1 (ok_one (by kernel_rfl) rfl (okWide_bool_mk Edog.underlying4 _))⟩

theorem over : Rows.fnBoolEqualsIsIdentityRow.holds Edog.pinned (OpenSpec.ofChange Rows.fnBoolEqualsIsIdentitySpec) :=
  OpenClaim.holds_of_wide 7 Edog.f7 rfl rfl rfl rfl rfl rfl rfl ⟨rfl, rfl, rfl, rfl, rfl⟩ rfl rfl rfl rfl rfl (by kernel_rfl) Edog.func7 (by kernel_rfl)
    (of_decide_eq_true (by kernel_rfl)) (by unfold Func.isWrapper; first | (rw [if_pos (by decide +kernel)]; kernel_rfl) | (rw [if_neg (by decide +kernel)]; exact ⟨rfl, rfl⟩))
    (fun os started H enc _ => lifted os started H enc)

/-- ████ THE STATEMENT ████ -/
theorem proved : Rows.FnBoolEqualsIsIdentitySaid :=
  over
#print axioms proved
end Go.Proofs.Yoedow.fnBoolEqualsIsIdentity
