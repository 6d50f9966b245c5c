/-
  A PROOF OF 'Rows.FnCanDecodeToIsSizeWithinFramesSaid'. The frame is the kit's shell (proof-skeleton.mjs) at this function; the plain law and the walk are this seat's.
-/
import Derived.Test.Qxb6605698aModsRows
import Derived.WalkKit
import Derived.ProofKit
import Derived.OpenShut
import Derived.ShutString
namespace Go.Proofs.Qxb6605698aMods.fnCanDecodeToIsSizeWithinFrames
open Go.ChangeShapes Go.WideShapes Go.ChangeAt Go.RowKit
open Go.ChangeMaps (open_string shut_string)
set_option linter.unusedVariables false      -- a walk need not use every 'w<i>' (that an integer argument fits its kind)

theorem own : ownKnob Trym.prog.godebug = none := by kernel_rfl

/-! ### THE PLAIN LAW AND THE CALLEE -/
/-- 'n' bytes of frames can decode to 's' bytes: what the Go callee answers, as arithmetic. -/
def can (n s : Int) : Bool := decide (s ≤ n * 32768)
theorem can_any (n s : Int) (n0 : 0 ≤ n) (n1 : n ≤ 9223372036854775807) (s0 : 0 ≤ s) (s1 : s ≤ 18446744073709551615) (w : World) :
    Calls Trym.prog 7 #[.int .i64 n, .int .u64 s] w fun e w' => e = .returned (.bool (can n s)) ∧ w' = w := by
  by_cases h : s = 0
  · have e : can n s = true := by unfold can; simp; omega
    rw [e]; clear e
    subst h
    go_enter Trym.func7, Trym.ntmps7
    go_wp2
    go_ret
    exact ⟨rfl, rfl⟩
  · have s2 : 1 ≤ s := by omega
    have e : can n s = decide ((s - 1) / 32768 < n) := by unfold can; rw [Bool.eq_iff_iff]; simp; omega
    have g : (s == 0) = false := by simpa using h
    rw [e]; clear e h
    go_enter Trym.func7, Trym.ntmps7
    go_wp2
    go_ret
    exact ⟨rfl, rfl⟩

/-! ### STEP 1: THE WALK: the Go text returns true. 'Grown w w'': the world has at most new blocks (Derived/RowKit3.lean). Part the cases AHEAD of 'go_enter' where a test parts the walk; take each callee by a contract of your own. -/
theorem walk (a0 : Int) (a1 : Int) (w0 : (Lit.int .i64 a0).wf = true) (w1 : (Lit.int .u64 a1).wf = true) (w : World) :
    Calls Trym.prog 3 #[.int .i64 a0, .int .u64 a1] w fun e w' => e = .returned (.bool true) ∧ Grown w w' := by
  have ⟨n1, n2⟩ := bounds_i64 w0
  have ⟨s1, s2⟩ := bounds_u64 w1
  by_cases h : a0 < 0
  · go_enter Trym.func3, Trym.ntmps3
    go_wp2
    go_ret
    exact ⟨rfl, Grown.refl _⟩
  · have h0 : 0 ≤ a0 := by omega
    by_cases h' : a0 < 562949953421312
    · have e : (can a0 a1 == decide (a1 ≤ a0 * 32768)) = true := by unfold can; exact beq_self_eq_true _
      go_enter Trym.func3, Trym.ntmps3
      go_wp2_with (go_at_call 7; refine (can_any a0 a1 h0 n2 s1 s2 _).mono ?_; rintro e w' ⟨rfl, rfl⟩)
      go_ret
      exact ⟨rfl, Grown.refl _⟩
    · have e : can a0 a1 = true := by unfold can; simp; omega
      go_enter Trym.func3, Trym.ntmps3
      go_wp2_with (go_at_call 7; refine (can_any a0 a1 h0 n2 s1 s2 _).mono ?_; rintro e w' ⟨rfl, rfl⟩)
      go_ret
      exact ⟨rfl, Grown.refl _⟩

/-! ### THE ROW's STEP: WRITTEN OUT: LEAVE IT -/
set_option maxRecDepth 100000 in
theorem lifted (os : Os) (started : os.Started) (H : Type) (enc : TypeId × Value → H) :
    ReturnsInHanded {} Trym.checked os 3 .any (Rows.fnCanDecodeToIsSizeWithinFramesSpec.pre6 enc Trym.prog Trym.f3 Rows.fnCanDecodeToIsSizeWithinFramesRow.domain false) (Rows.fnCanDecodeToIsSizeWithinFramesSpec.post enc Trym.prog Trym.f3 false true false false) := by
  refine returnsInHanded_of_change (C := Trym.checked) own started (by kernel_rfl) Trym.func3
    (ChangeSpec.witness6 (enc := enc) (C := Trym.checked) false ⟨#[], #[.int .i64 0, .int .u64 0], []⟩ 8 (by kernel_rfl) (by kernel_rfl) (by kernel_rfl) (by kernel_rfl)) ?_
  intro W base args ds gs before hval0 hW hcnd _
  have hval : ∀ (j : Nat) t v, Trym.f3.params[j]? = some t → args[j]? = some v → Value.okWide Trym.prog W .any base t v := hval0
  have hW' := hW
  obtain ⟨p, q, hA0, hV, rfl, hfz, hnd⟩ := hW
  have hA : DataW.TrodAll enc Trym.prog W 0 (fun _ => true) true Trym.f3.params.toList args.toList ds p := hA0
  rw [Trym.params3] at hA hval
  obtain ⟨v0, vs0, d0, ds0, p0, q0, hargs, rfl, rfl, h0, r0⟩ := trodAll_cons hA
  obtain ⟨v1, vs1, d1, ds1, p1, q1, rfl, rfl, rfl, h1, r1⟩ := trodAll_cons r0
  obtain ⟨rfl, rfl, rfl⟩ := trodAll_nil r1
  obtain rfl : args = #[v0, v1] := by cases args; simp_all
  obtain ⟨rfl, rfl⟩ := trodVars_none hV
  obtain ⟨a0, rfl, rfl, rfl, w0⟩ := open_int Trym.underlying2 (hval 0 2 v0 rfl rfl) h0
  obtain ⟨a1, rfl, rfl, rfl, w1⟩ := open_int Trym.underlying22 (hval 1 22 v1 rfl rfl) h1
  clear hA0 hval0
  simp only [List.append_nil] at hW'
  refine (walk a0 a1 w0 w1 W).mono fun e W' ⟨he, hg⟩ => ?_
  subst he
  exact ⟨_, rfl, post_of_same (pa := []) (pv := []) hW' (fun _ _ _ => (trodAll_cons_mk (shut_bool Trym.underlying4 _) trodAll_mk0)) (fun sp _ => (trodAll_cons_mk (shut_int Trym.underlying2 w0) (trodAll_cons_mk (shut_int Trym.underlying22 w1) trodAll_mk0))) (fun _ _ => rfl) rfl
    (hg.frame _) hg.2.1 (ok_one (by kernel_rfl) rfl (okWide_bool_mk Trym.underlying4 _))⟩

theorem over : Rows.fnCanDecodeToIsSizeWithinFramesRow.holds Trym.pinned (OpenSpec.ofChange Rows.fnCanDecodeToIsSizeWithinFramesSpec) :=
  OpenClaim.holds_of_wide 3 Trym.f3 rfl rfl rfl rfl rfl rfl rfl ⟨rfl, rfl, rfl, rfl, rfl⟩ rfl rfl rfl rfl rfl (by kernel_rfl) Trym.func3 (by kernel_rfl)
    (of_decide_eq_true (by kernel_rfl)) (by unfold Func.isWrapper; first | (rw [if_pos (by decide +kernel)]; kernel_rfl) | (rw [if_neg (by decide +kernel)]; exact ⟨rfl, rfl⟩))
    (fun os started H enc _ => lifted os started H enc)

/-- ████ THE STATEMENT ████ -/
theorem proved : Rows.FnCanDecodeToIsSizeWithinFramesSaid :=
  over
end Go.Proofs.Qxb6605698aMods.fnCanDecodeToIsSizeWithinFrames
