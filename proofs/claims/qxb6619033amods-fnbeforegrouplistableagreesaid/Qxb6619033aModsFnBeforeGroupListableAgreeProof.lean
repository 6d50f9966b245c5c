/-
  A PROOF OF 'Rows.FnBeforeGroupListableAgreeSaid'. The frame is the kit's shell (proof-skeleton.mjs) at this function; the plain law and the walk are this seat's.
-/
import Derived.Test.Qxb6619033aModsRows
import Derived.WalkKit
import Derived.ProofKit
import Derived.OpenShut
import Derived.Laws.Bits64b
import Derived.ShutString
namespace Go.Proofs.Qxb6619033aMods.fnBeforeGroupListableAgree
open Go.ChangeShapes Go.WideShapes Go.ChangeAt Go.RowKit
open Go.ChangeMaps (open_string shut_string)
set_option linter.unusedVariables false      -- a walk need not use every 'w<i>' (that an integer argument fits its kind)

theorem own : ownKnob Trym.prog.godebug = none := by kernel_rfl

/-! ### THE PLAIN LAW: no Go in sight -/
/-- The lower 63 bits of a word. -/
def low63 (g : Int) : Int := g % 9223372036854775808
theorem low63_bits (g : Int) (h : 0 ≤ g ∧ g ≤ 18446744073709551615) : bits .and .u64 g 9223372036854775807 = low63 g := by
  obtain ⟨n, rfl⟩ := Int.eq_ofNat_of_zero_le h.1
  have e := bits_and_u64_nat n 9223372036854775807 (by omega) (by omega)
  refine e.trans ?_
  rw [show (9223372036854775807 : Nat) = 2 ^ 63 - 1 from by decide, Nat.and_two_pow_sub_one_eq_mod]
  unfold low63
  omega
/-- The number of the gap before the group 'g'. -/
def gap (g : Int) : Int := (2 * g) % 18446744073709551616 + 1
theorem gap_wrap (g : Int) : IntKind.u64.wrap (IntKind.u64.wrap (2 * g) + 1) = gap g := by
  unfold gap
  simp only [IntKind.wrap_u64]
  omega
theorem gap_low (g : Int) (h : 0 ≤ g ∧ g ≤ 18446744073709551615) : (gap g == 0) = false ∧ decide (gap g < 2251799813685248) = decide (low63 g < 1125899906842624) := by
  unfold gap low63
  refine ⟨by simp; omega, ?_⟩
  rw [Bool.eq_iff_iff]
  simp only [decide_eq_true_eq]
  omega

/-- An 'and' of two words whose result is known by another name. -/
theorem wpList_and {P : Program} {w : World} {ops : Array Oper} {rest : List Oper} {o : Oper} {a : Act} {Q : Exit → Act → World → Prop} (hg : o.guard = none) (x y : Operand) (t t' : TypeId)
    (ho : o.op = Op.binOp .and t x y t') (k : IntKind) (X Y Z : Int) (hx : a.eval x = .int k X) (hy : a.eval y = .int k Y) (hz : bits .and k X Y = Z)
    (h : wpList P ops Q rest (a.put o.dst (.int k Z)) w) : wpList P ops Q (o :: rest) a w := by
  have hrun : (binOp .and t (.int k X) (.int k Y)).run P w = .ok (.int k Z) w := by rw [← hz]; simp [go_sem]
  have hgd : (eqGuard .and t x y (.int k X) (.int k Y)).run P w = .ok () w := by simp [eqGuard, go_sem]
  refine wpList_plain hg fun K hK => ?_
  unfold Oper.wp
  simp [execOp, ho, hx, hy, hgd, hrun, Result.andThen]
  exact hK _ _ h

/-! ### THE CALLEES -/
theorem gap_any (g : Int) (w : World) : Calls Trym.prog 6 #[.int .u64 g] w fun e w' => e = .returned (.int .u64 (gap g)) ∧ w' = w := by
  rw [← gap_wrap]
  go_enter Trym.func6, Trym.ntmps6
  go_wp2
  go_ret
  exact ⟨rfl, rfl⟩
/-- Can the gap 'i' of 'n' bytes be listed? -/
def lst (i n : Int) : Bool := decide (i < 2251799813685248) && (n != 0 && decide (n < 4096))
theorem listable_any (i n : Int) (h : (i == 0) = false) (w : World) : Calls Trym.prog 7 #[.int .u64 i, .int .u64 n] w fun e w' => e = .returned (.bool (lst i n)) ∧ w' = w := by
  have h' : (i != 0) = true := by simp only [bne, h]; rfl
  by_cases c1 : i < 2251799813685248
  · by_cases c2 : n = 0
    · have e : lst i n = false := by simp [lst, c2]
      rw [e]
      subst c2
      clear e
      go_enter Trym.func7, Trym.ntmps7
      go_wp2
      go_ret
      exact ⟨rfl, rfl⟩
    · have e : lst i n = decide (n < 4096) := by simp [lst, c1, c2]
      have c3 : (n != 0) = true := by simpa using c2
      rw [e]
      clear e c2
      go_enter Trym.func7, Trym.ntmps7
      go_wp2
      go_ret
      exact ⟨rfl, rfl⟩
  · have e : lst i n = false := by simp [lst, c1]
    rw [e]
    clear e
    go_enter Trym.func7, Trym.ntmps7
    go_wp2
    go_ret
    exact ⟨rfl, rfl⟩

/-! ### STEP 1: THE WALK: the Go text returns true. 'Grown w w'': the world has at most new blocks (Derived/RowKit3.lean). Part the cases AHEAD of 'go_enter' where a test parts the walk; take each callee by a contract of your own. -/
theorem walk (a0 : Int) (a1 : Int) (w0 : (Lit.int .u64 a0).wf = true) (w1 : (Lit.int .u64 a1).wf = true) (w : World) :
    Calls Trym.prog 4 #[.int .u64 a0, .int .u64 a1] w fun e w' => e = .returned (.bool true) ∧ Grown w w' := by
  obtain ⟨z, hz⟩ : ∃ z, low63 a0 = z := ⟨_, rfl⟩
  obtain ⟨i, hi⟩ : ∃ i, gap a0 = i := ⟨_, rfl⟩
  have HA : Hid (bits .and .u64 a0 9223372036854775807 = z) := by rw [← hz]; exact low63_bits a0 (bounds_u64 w0)
  have G : Hid (∀ w, Calls Trym.prog 6 #[.int .u64 a0] w fun e w' => e = .returned (.int .u64 i) ∧ w' = w) := by rw [← hi]; exact gap_any a0
  have H : Hid (∀ w, Calls Trym.prog 7 #[.int .u64 i, .int .u64 a1] w fun e w' => e = .returned (.bool (lst i a1)) ∧ w' = w) := by rw [← hi]; exact listable_any _ _ (gap_low a0 (bounds_u64 w0)).1
  have hl : lst i a1 = (decide (z < 1125899906842624) && (a1 != 0 && decide (a1 < 4096))) := by
    rw [← hi, ← hz, lst, (gap_low a0 (bounds_u64 w0)).2]
  clear hz hi
  by_cases c1 : z < 1125899906842624
  · by_cases c2 : a1 = 0
    · have e : lst i a1 = false := by rw [hl]; simp [c2]
      subst c2
      clear hl
      go_enter Trym.func4, Trym.ntmps4
      go_wp2_with (refine wpList_and rfl (.tmp 6) (.const (.int .u64 9223372036854775807)) 22 22 rfl .u64 a0 _ z rfl rfl HA.out ?_)
      refine (G.out _).mono ?_
      rintro e v1 ⟨rfl, e1⟩
      subst e1
      go_wp2_with fail
      refine (H.out _).mono ?_
      rintro e v2 ⟨rfl, e2⟩
      subst e2
      go_wp2_with fail
      go_ret
      exact ⟨rfl, Grown.refl _⟩
    · have e : lst i a1 = decide (a1 < 4096) := by rw [hl]; simp [c1, c2]
      have c3 : (a1 != 0) = true := by simpa using c2
      clear hl c2
      go_enter Trym.func4, Trym.ntmps4
      go_wp2_with (refine wpList_and rfl (.tmp 6) (.const (.int .u64 9223372036854775807)) 22 22 rfl .u64 a0 _ z rfl rfl HA.out ?_)
      refine (G.out _).mono ?_
      rintro e v1 ⟨rfl, e1⟩
      subst e1
      go_wp2_with fail
      refine (H.out _).mono ?_
      rintro e v2 ⟨rfl, e2⟩
      subst e2
      go_wp2_with fail
      go_ret
      exact ⟨rfl, Grown.refl _⟩
  · have e : lst i a1 = false := by rw [hl]; simp [c1]
    clear hl
    go_enter Trym.func4, Trym.ntmps4
    go_wp2_with (refine wpList_and rfl (.tmp 6) (.const (.int .u64 9223372036854775807)) 22 22 rfl .u64 a0 _ z rfl rfl HA.out ?_)
    refine (G.out _).mono ?_
    rintro e v1 ⟨rfl, e1⟩
    subst e1
    go_wp2_with fail
    refine (H.out _).mono ?_
    rintro e v2 ⟨rfl, e2⟩
    subst e2
    go_wp2_with fail
    go_ret
    exact ⟨rfl, Grown.refl _⟩

/-! ### THE ROW's STEP: WRITTEN OUT: LEAVE IT -/
set_option maxRecDepth 100000 in
theorem lifted (os : Os) (started : os.Started) (H : Type) (enc : TypeId × Value → H) :
    ReturnsInHanded {} Trym.checked os 4 .any (Rows.fnBeforeGroupListableAgreeSpec.pre6 enc Trym.prog Trym.f4 Rows.fnBeforeGroupListableAgreeRow.domain false) (Rows.fnBeforeGroupListableAgreeSpec.post enc Trym.prog Trym.f4 false true false false) := by
  refine returnsInHanded_of_change (C := Trym.checked) own started (by kernel_rfl) Trym.func4
    (ChangeSpec.witness6 (enc := enc) (C := Trym.checked) false ⟨#[], #[.int .u64 0, .int .u64 0], []⟩ 8 (by kernel_rfl) (by kernel_rfl) (by kernel_rfl) (by kernel_rfl)) ?_
  intro W base args ds gs before hval0 hW hcnd _
  have hval : ∀ (j : Nat) t v, Trym.f4.params[j]? = some t → args[j]? = some v → Value.okWide Trym.prog W .any base t v := hval0
  have hW' := hW
  obtain ⟨p, q, hA0, hV, rfl, hfz, hnd⟩ := hW
  have hA : DataW.TrodAll enc Trym.prog W 0 (fun _ => true) true Trym.f4.params.toList args.toList ds p := hA0
  rw [Trym.params4] at hA hval
  obtain ⟨v0, vs0, d0, ds0, p0, q0, hargs, rfl, rfl, h0, r0⟩ := trodAll_cons hA
  obtain ⟨v1, vs1, d1, ds1, p1, q1, rfl, rfl, rfl, h1, r1⟩ := trodAll_cons r0
  obtain ⟨rfl, rfl, rfl⟩ := trodAll_nil r1
  obtain rfl : args = #[v0, v1] := by cases args; simp_all
  obtain ⟨rfl, rfl⟩ := trodVars_none hV
  obtain ⟨a0, rfl, rfl, rfl, w0⟩ := open_int Trym.underlying22 (hval 0 22 v0 rfl rfl) h0
  obtain ⟨a1, rfl, rfl, rfl, w1⟩ := open_int Trym.underlying22 (hval 1 22 v1 rfl rfl) h1
  clear hA0 hval0
  simp only [List.append_nil] at hW'
  refine (walk a0 a1 w0 w1 W).mono fun e W' ⟨he, hg⟩ => ?_
  subst he
  exact ⟨_, rfl, post_of_same (pa := []) (pv := []) hW' (fun _ _ _ => (trodAll_cons_mk (shut_bool Trym.underlying4 _) trodAll_mk0)) (fun sp _ => (trodAll_cons_mk (shut_int Trym.underlying22 w0) (trodAll_cons_mk (shut_int Trym.underlying22 w1) trodAll_mk0))) (fun _ _ => rfl) rfl
    (hg.frame _) hg.2.1 (ok_one (by kernel_rfl) rfl (okWide_bool_mk Trym.underlying4 _))⟩

theorem over : Rows.fnBeforeGroupListableAgreeRow.holds Trym.pinned (OpenSpec.ofChange Rows.fnBeforeGroupListableAgreeSpec) :=
  OpenClaim.holds_of_wide 4 Trym.f4 rfl rfl rfl rfl rfl rfl rfl ⟨rfl, rfl, rfl, rfl, rfl⟩ rfl rfl rfl rfl rfl (by kernel_rfl) Trym.func4 (by kernel_rfl)
    (of_decide_eq_true (by kernel_rfl)) (by unfold Func.isWrapper; first | (rw [if_pos (by decide +kernel)]; kernel_rfl) | (rw [if_neg (by decide +kernel)]; exact ⟨rfl, rfl⟩))
    (fun os started H enc _ => lifted os started H enc)

/-- ████ THE STATEMENT ████ -/
theorem proved : Rows.FnBeforeGroupListableAgreeSaid :=
  over
end Go.Proofs.Qxb6619033aMods.fnBeforeGroupListableAgree
