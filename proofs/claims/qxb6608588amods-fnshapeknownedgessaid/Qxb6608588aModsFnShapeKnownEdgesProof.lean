/-
  A PROOF OF 'Rows.FnShapeKnownEdgesSaid'. The frame is the kit's shell (proof-skeleton.mjs) at this function; the plain law and the walk are this seat's.
-/
import Derived.Test.Qxb6608588aModsRows
import Derived.WalkKit
import Derived.ProofKit
import Derived.OpenShut
import Derived.ShutString
namespace Go.Proofs.Qxb6608588aMods.fnShapeKnownEdges
open Go.ChangeShapes Go.WideShapes Go.ChangeAt Go.RowKit
open Go.ChangeMaps (open_string shut_string)
set_option linter.unusedVariables false      -- a walk need not use every 'w<i>' (that an integer argument fits its kind)

theorem own : ownKnob Trym.prog.godebug = none := by kernel_rfl

/-! ### THE PLAIN LAW AND THE CALLEE -/
/-- The four declared shapes. -/
def known (s : Int) : Bool := decide (0 ≤ s) && decide (s < 4)
theorem known_any (s : Int) (w : World) : Calls Trym.prog 15 #[.int .i64 s] w fun e w' => e = .returned (.bool (known s)) ∧ w' = w := by
  unfold known
  by_cases h : 0 ≤ s
  · by_cases h' : s < 4
    · go_enter Trym.func15, Trym.ntmps15
      go_wp2
      go_ret
      exact ⟨by simp [*], rfl⟩
    · go_enter Trym.func15, Trym.ntmps15
      go_wp2
      go_ret
      exact ⟨by simp [*], rfl⟩
  · go_enter Trym.func15, Trym.ntmps15
    go_wp2
    go_ret
    exact ⟨by simp; omega, rfl⟩
theorem high (s : Int) (h : -9223372036854775808 ≤ s ∧ s ≤ 9223372036854775807) : (known s && !known (wrap64 (s + 1))) = (s == 3) := by
  rw [Bool.eq_iff_iff]
  simp only [known, wrap64, Bool.and_eq_true, Bool.not_eq_true', Bool.and_eq_false_iff, decide_eq_true_eq, decide_eq_false_iff_not, beq_iff_eq]
  omega
theorem low (s : Int) (h : -9223372036854775808 ≤ s ∧ s ≤ 9223372036854775807) : (!known s && known (wrap64 (s + 1))) = (wrap64 (s + 1) == 0) := by
  rw [Bool.eq_iff_iff]
  simp only [known, wrap64, Bool.and_eq_true, Bool.not_eq_true', Bool.and_eq_false_iff, decide_eq_true_eq, decide_eq_false_iff_not, beq_iff_eq]
  omega

/-! ### STEP 1: THE WALK: the Go text returns true. 'Grown w w'': the world has at most new blocks (Derived/RowKit3.lean). Part the cases AHEAD of 'go_enter' where a test parts the walk; take each callee by a contract of your own. -/
theorem walk (a0 : Int) (w0 : (Lit.int .i64 a0).wf = true) (w : World) :
    Calls Trym.prog 4 #[.int .i64 a0] w fun e w' => e = .returned (.bool true) ∧ Grown w w' := by
  have hi := high a0 (bounds_i64 w0)
  have lo := low a0 (bounds_i64 w0)
  obtain ⟨t, ht⟩ : ∃ t, wrap64 (a0 + 1) = t := ⟨_, rfl⟩
  rw [ht] at hi lo
  have H0 : Hid (∀ w, Calls Trym.prog 15 #[.int .i64 a0] w fun e w' => e = .returned (.bool (known a0)) ∧ w' = w) := known_any a0
  have H1 : Hid (∀ w, Calls Trym.prog 15 #[.int .i64 t] w fun e w' => e = .returned (.bool (known t)) ∧ w' = w) := known_any t
  by_cases k0 : known a0 = true
  · obtain ⟨b, k1⟩ : ∃ b, known t = b := ⟨_, rfl⟩
    have g : (a0 == 3) = !b := by rw [← hi, k0, k1]; rfl
    have l : (t == 0) = false := by rw [← lo, k0, k1]; rfl
    clear hi lo w0
    go_enter Trym.func4, Trym.ntmps4
    go_wp2_with fail
    refine (H0.out _).mono ?_
    rintro e w1 ⟨rfl, e1⟩
    subst e1
    go_wp2_with fail
    refine (H1.out _).mono ?_
    rintro e w2 ⟨rfl, e2⟩
    subst e2
    go_wp2_with fail
    refine (H0.out _).mono ?_
    rintro e w3 ⟨rfl, e3⟩
    subst e3
    go_wp2_with fail
    go_ret
    exact ⟨rfl, Grown.refl _⟩
  · have k : known a0 = false := by simpa using k0
    obtain ⟨b, k1⟩ : ∃ b, known t = b := ⟨_, rfl⟩
    have g : (a0 == 3) = false := by rw [← hi, k, k1]; rfl
    have l : (t == 0) = b := by rw [← lo, k, k1]; rfl
    clear hi lo w0 k0
    go_enter Trym.func4, Trym.ntmps4
    go_wp2_with fail
    refine (H0.out _).mono ?_
    rintro e w1 ⟨rfl, e1⟩
    subst e1
    go_wp2_with fail
    refine (H0.out _).mono ?_
    rintro e w2 ⟨rfl, e2⟩
    subst e2
    go_wp2_with fail
    refine (H1.out _).mono ?_
    rintro e w3 ⟨rfl, e3⟩
    subst e3
    go_wp2_with fail
    go_ret
    exact ⟨rfl, Grown.refl _⟩

/-! ### THE ROW's STEP: WRITTEN OUT: LEAVE IT -/
set_option maxRecDepth 100000 in
theorem lifted (os : Os) (started : os.Started) (H : Type) (enc : TypeId × Value → H) :
    ReturnsInHanded {} Trym.checked os 4 .any (Rows.fnShapeKnownEdgesSpec.pre6 enc Trym.prog Trym.f4 Rows.fnShapeKnownEdgesRow.domain false) (Rows.fnShapeKnownEdgesSpec.post enc Trym.prog Trym.f4 false true false false) := by
  refine returnsInHanded_of_change (C := Trym.checked) own started (by kernel_rfl) Trym.func4
    (ChangeSpec.witness6 (enc := enc) (C := Trym.checked) false ⟨#[], #[.int .i64 0], []⟩ 8 (by kernel_rfl) (by kernel_rfl) (by kernel_rfl) (by kernel_rfl)) ?_
  intro W base args ds gs before hval0 hW hcnd _
  have hval : ∀ (j : Nat) t v, Trym.f4.params[j]? = some t → args[j]? = some v → Value.okWide Trym.prog W .any base t v := hval0
  have hW' := hW
  obtain ⟨p, q, hA0, hV, rfl, hfz, hnd⟩ := hW
  have hA : DataW.TrodAll enc Trym.prog W 0 (fun _ => true) true Trym.f4.params.toList args.toList ds p := hA0
  rw [Trym.params4] at hA hval
  obtain ⟨v0, vs0, d0, ds0, p0, q0, hargs, rfl, rfl, h0, r0⟩ := trodAll_cons hA
  obtain ⟨rfl, rfl, rfl⟩ := trodAll_nil r0
  obtain rfl : args = #[v0] := by cases args; simp_all
  obtain ⟨rfl, rfl⟩ := trodVars_none hV
  obtain ⟨a0, rfl, rfl, rfl, w0⟩ := open_int Trym.underlying3 (hval 0 3 v0 rfl rfl) h0
  clear hA0 hval0
  simp only [List.append_nil] at hW'
  refine (walk a0 w0 W).mono fun e W' ⟨he, hg⟩ => ?_
  subst he
  exact ⟨_, rfl, post_of_same (pa := []) (pv := []) hW' (fun _ _ _ => (trodAll_cons_mk (shut_bool Trym.underlying4 _) trodAll_mk0)) (fun sp _ => (trodAll_cons_mk (shut_int Trym.underlying3 w0) trodAll_mk0)) (fun _ _ => rfl) rfl
    (hg.frame _) hg.2.1 (ok_one (by kernel_rfl) rfl (okWide_bool_mk Trym.underlying4 _))⟩

theorem over : Rows.fnShapeKnownEdgesRow.holds Trym.pinned (OpenSpec.ofChange Rows.fnShapeKnownEdgesSpec) :=
  OpenClaim.holds_of_wide 4 Trym.f4 rfl rfl rfl rfl rfl rfl rfl ⟨rfl, rfl, rfl, rfl, rfl⟩ rfl rfl rfl rfl rfl (by kernel_rfl) Trym.func4 (by kernel_rfl)
    (of_decide_eq_true (by kernel_rfl)) (by unfold Func.isWrapper; first | (rw [if_pos (by decide +kernel)]; kernel_rfl) | (rw [if_neg (by decide +kernel)]; exact ⟨rfl, rfl⟩))
    (fun os started H enc _ => lifted os started H enc)

/-- ████ THE STATEMENT ████ -/
theorem proved : Rows.FnShapeKnownEdgesSaid :=
  over
end Go.Proofs.Qxb6608588aMods.fnShapeKnownEdges
