/-
  THE WALK OF FnPresentRefusesOnlyNull.
-/
import Derived.Test.Qxb6619007aModsWalks2
import Derived.Laws.CopyOwn
namespace Go.Proofs.Qxb6619007aMods.Walks
open Go.RowKit

theorem size5 : (Trym.prog.info? 5).map (·.size) = some 1 := by kernel_rfl
theorem neq_nil (w : World) (a : Option Addr) (n c : Nat) : (binOp .neq 25 (.slice a n c) (.slice none 0 0)).run Trym.prog w = .ok (.bool (!a.isNone)) w :=
  run_neq_slice_nil_any (P := Trym.prog) w 25 5 a n c 0 0 Trym.underlying25
theorem eql_nil (w : World) (a : Option Addr) (n c : Nat) : (binOp .eql 25 (.slice a n c) (.slice none 0 0)).run Trym.prog w = .ok (.bool a.isNone) w :=
  Lib.run_eql_slice_nil (P := Trym.prog) w 25 5 a n c 0 0 Trym.underlying25

/-- The block of a slice that was just made. -/
theorem made_block {w : World} {base g n : Nat} {xs : List Value} (h : w.ownsRow base 5 1 (.slice (some ⟨g, 0, none⟩) n n) n xs) :
    ∃ cur : List Value, w.heap[g]? = some (.cells cur.toArray 5 (0, 0)) ∧ cur.length = n := by
  rcases h.2 with ⟨h, _⟩ | ⟨g', cap, cur, hv, _, hh, _, _, hs, _⟩
  · cases h
  · cases hv
    exact ⟨cur.toList, by simpa using hh, by simpa using hs⟩

/-- Behind the copy the row reads as its source. -/
theorem copied_row {w : World} {g n : Nat} {cur : List Value} {xs : List Int} (h : w.heap[g]? = some (.cells (splice cur 0 (xs.map (Value.int .u8))).toArray 5 (0, 0))) (hc : cur.length = n) (hx : xs.length = n) :
    Row w (some ⟨g, 0, none⟩) n xs := by
  have e : splice cur 0 (xs.map (Value.int .u8)) = xs.map (Value.int .u8) := by
    unfold splice
    rw [List.take_zero, List.nil_append, List.drop_of_length_le (by simp; omega), List.append_nil]
  rw [e] at h
  refine ⟨hx, (fun e => by cases e), fun x hx i hi => ?_⟩
  obtain rfl := Option.some.inj hx
  rw [Addr.add_lit, Nat.zero_add]
  simp [World.cell?, h, hi, List.getD]

/-- The cells that a copy reads. -/
theorem copy_src {w : World} {y : Addr} {len : Nat} {ys : List Int} (h : Row w (some y) len ys) : ∀ j v, (ys.map (Value.int .u8))[j]? = some v → w.cell? (y.add j) = some v := by
  intro j v hj
  have hjl : j < ys.length := by
    rcases Nat.lt_or_ge j ys.length with h | h
    · exact h
    · simp [List.getElem?_eq_none (show (ys.map (Value.int .u8)).length ≤ j by simpa using h)] at hj
  rw [h.2.2 y rfl j hjl]
  simp [List.getElem?_eq_getElem hjl] at hj
  subst hj
  simp [List.getD, List.getElem?_eq_getElem hjl]

/-- Too long: the function says true by its own guards. -/
theorem null_long (a0 a1 : Option Addr) (l0 c0 l1 c1 : Nat) (w : World) (h : 524288 < l0 ∨ 524288 < l1) :
    Calls Trym.prog 6 #[.slice a0 l0 c0, .slice a1 l1 c1] w fun e w' => e = .returned (.bool true) ∧ Below w.heap.size w w' := by
  rcases h with h | h
  · go_enter Trym.func6, Trym.ntmps6
    go_wp2
    all_goals (go_ret; exact ⟨rfl, Below.refl _ _⟩)
  · by_cases h' : 524288 < l0
    · go_enter Trym.func6, Trym.ntmps6
      go_wp2
      all_goals (go_ret; exact ⟨rfl, Below.refl _ _⟩)
    · go_enter Trym.func6, Trym.ntmps6
      go_wp2
      all_goals (go_ret; exact ⟨rfl, Below.refl _ _⟩)

theorem null_nil_nil (w : World) :
    Calls Trym.prog 6 #[.slice none 0 0, .slice none 0 0] w fun e w' => e = .returned (.bool true) ∧ Below w.heap.size w w' := by
  have n1 := neq_nil
  have n2 := eql_nil
  go_enter Trym.func6, Trym.ntmps6
  go_wp2_with fail
  refine (bytes15 none none 0 0 0 0 _ (by decide) (by decide)).mono ?_
  rintro e w' ⟨rfl, rfl⟩
  go_wp2_with fail
  refine (join_row none none 0 0 0 0 _ [] [] [120] _ (by decide) (by decide) (by decide) rfl (Row.nil _) (Row.nil _)).mono ?_
  rintro e w1 ⟨n, rfl, t1, d1⟩
  go_wp2_with fail
  refine (present_some _ n n [120] _ t1 (by decide)).mono ?_
  rintro e w2 ⟨rfl, rfl⟩
  go_wp2_with fail
  refine (present_nil _).mono ?_
  rintro e w2 ⟨rfl, rfl⟩
  go_wp2_with fail
  go_ret
  exact ⟨rfl, d1⟩


set_option maxHeartbeats 1600000 in
theorem null_nil_some (y : Addr) (l1 c1 : Nat) (ys : List Int) (w : World) (b1 : l1 ≤ 524288) (h1 : Row w (some y) l1 ys) :
    Calls Trym.prog 6 #[.slice none 0 0, .slice (some y) l1 c1] w fun e w' => e = .returned (.bool true) ∧ Below w.heap.size w w' := by
  have n1 := neq_nil
  have n2 := eql_nil
  obtain ⟨i0, hi, hz0, hz1, hz2⟩ := info_parts info5
  go_enter Trym.func6, Trym.ntmps6
  go_wp2_with fail
  refine (bytes15 none (some y) 0 0 l1 c1 w (by decide) b1).mono ?_
  rintro e w0 ⟨rfl, he⟩
  subst he
  go_wp2_with (first
    | (at_make; refine wpList_make_full _ rfl _ _ 25 rfl w0.heap.size 5 i0 (.int .u8 0) 1 Trym.underlying25 hi hz0 hz1 _ _ _ _ l1 rfl rfl rfl rfl (by rw [hz2]; omega) (by unfold maxLen; omega) (Nat.le_refl _) ?_; intro w1 hown1 hgrow1; obtain ⟨cur, hcur, hcl⟩ := made_block hown1; have hB1 : Below w0.heap.size w0 w1 := (Below.refl _ _).grown hgrow1 (Nat.le_refl _) (fun k h => by cases h))
    | (refine wpList_copy_splice rfl (.tmp 34) (.tmp 35) 25 25 rfl 5 Trym.underlying25 size5 _ _ _ _ _ _ rfl rfl w0.heap.size 0 cur 5 hcur (ys.map (Value.int .u8)) (by rw [List.length_map, h1.1]; exact (Nat.min_self _).symm) (fun _ => ⟨rfl, y, rfl, copy_src (h1.below hB1)⟩) (by rw [List.length_map, h1.1]; omega) (ints_oneCell _ _) w0.heap.size w0 hB1 (Nat.le_refl _) ?_; intro w2 HG hB2; have k1 := copied_row HG.out hcl h1.1; clear HG)
    | (go_at_call 16; refine (join_row none none 0 0 0 0 _ [] [] [120] _ (by decide) (by decide) (by decide) rfl (Row.nil _) (Row.nil _)).mono ?_; rintro e w3 ⟨n, rfl, t1, d1⟩))
  refine (present_some _ n n [120] _ t1 (by decide)).mono ?_
  rintro e w4 ⟨rfl, rfl⟩
  go_wp2_with fail
  refine (present_nil _).mono ?_
  rintro e w5 ⟨rfl, rfl⟩
  go_wp2_with fail
  go_ret
  exact ⟨rfl, hB2.trans (d1.mono hB2.size)⟩

set_option maxHeartbeats 1600000 in
theorem null_some_nil (x : Addr) (l0 c0 : Nat) (xs : List Int) (w : World) (b0 : l0 ≤ 524288) (h0 : Row w (some x) l0 xs) (v0 : ∀ n ∈ xs, 0 ≤ n ∧ n ≤ 255) :
    Calls Trym.prog 6 #[.slice (some x) l0 c0, .slice none 0 0] w fun e w' => e = .returned (.bool true) ∧ Below w.heap.size w w' := by
  have n1 := neq_nil
  have n2 := eql_nil
  obtain ⟨i0, hi, hz0, hz1, hz2⟩ := info_parts info5
  obtain ⟨L, hL⟩ : ∃ L, xs ++ nums ⟨#[120]⟩ ++ [] = L := ⟨_, rfl⟩
  have e1 : isNull L = false := by rw [← hL, nums_x]; exact x_last xs
  have r1 : ∀ n ∈ L, 0 ≤ n ∧ n ≤ 255 := by
    intro n hn
    rw [← hL, nums_x, List.append_nil] at hn
    rcases List.mem_append.1 hn with hn | hn
    · exact v0 n hn
    · simp at hn; omega
  have R1 : Hid (∀ n ∈ L, 0 ≤ n ∧ n ≤ 255) := r1
  have HL : Hid (xs ++ nums ⟨#[120]⟩ ++ [] = L) := hL
  have V0 : Hid (∀ n ∈ xs, 0 ≤ n ∧ n ≤ 255) := v0
  clear hL r1 v0
  go_enter Trym.func6, Trym.ntmps6
  go_wp2_with fail
  refine (bytes15 (some x) none l0 c0 0 0 w b0 (by decide)).mono ?_
  rintro e w0 ⟨rfl, he⟩
  subst he
  go_wp2_with (first
    | (at_make; refine wpList_make_full _ rfl _ _ 25 rfl w0.heap.size 5 i0 (.int .u8 0) 1 Trym.underlying25 hi hz0 hz1 _ _ _ _ l0 rfl rfl rfl rfl (by rw [hz2]; omega) (by unfold maxLen; omega) (Nat.le_refl _) ?_; intro w1 hown1 hgrow1; obtain ⟨cur, hcur, hcl⟩ := made_block hown1; have hB1 : Below w0.heap.size w0 w1 := (Below.refl _ _).grown hgrow1 (Nat.le_refl _) (fun k h => by cases h))
    | (refine wpList_copy_splice rfl (.tmp 25) (.tmp 26) 25 25 rfl 5 Trym.underlying25 size5 _ _ _ _ _ _ rfl rfl w0.heap.size 0 cur 5 hcur (xs.map (Value.int .u8)) (by rw [List.length_map, h0.1]; exact (Nat.min_self _).symm) (fun _ => ⟨rfl, x, rfl, copy_src (h0.below hB1)⟩) (by rw [List.length_map, h0.1]; omega) (ints_oneCell _ _) w0.heap.size w0 hB1 (Nat.le_refl _) ?_; intro w2 HG hB2; have k0 := copied_row HG.out hcl h0.1; clear HG)
    | (go_at_call 16; refine (join_row _ none l0 l0 0 0 _ xs [] L _ (by omega) (by decide) (by decide) HL.out k0 (Row.nil _)).mono ?_; rintro e w3 ⟨n, rfl, t1, d1⟩))
  refine (present_some _ n n L _ t1 R1.out).mono ?_
  rintro e w4 ⟨rfl, rfl⟩
  have k0' := k0.below d1
  by_cases z : l0 = 0
  · have g : ((l0 : Int) == 0) = true := by simp; omega
    have e2 : isNull xs = false := isNull_length (by rw [h0.1]; omega)
    clear z
    go_wp2_with fail
    refine (present_some _ l0 l0 xs _ k0' V0.out).mono ?_
    rintro e w5 ⟨rfl, rfl⟩
    go_wp2_with fail
    go_ret
    exact ⟨rfl, hB2.trans (d1.mono hB2.size)⟩
  · have g : ((l0 : Int) == 0) = false := by simp; omega
    go_wp2_with fail
    go_ret
    exact ⟨rfl, hB2.trans (d1.mono hB2.size)⟩

theorem not_both (xs ys : List Int) (h : ¬ xs = ys) (hx : isNull xs = true) : isNull ys = false := by
  unfold isNull at *
  rw [beq_eq_false_iff_ne]
  intro e
  exact h ((beq_iff_eq.1 hx).trans e.symm)
theorem below_drewN {B : Nat} {a w : World} (h : Below B a w) (n : Nat) : Below B a (w.drewN n) := h.trans ⟨rfl, rfl, rfl, Nat.le_refl _, fun _ _ => rfl⟩

set_option maxHeartbeats 3200000 in
theorem null_some_some (x y : Addr) (l0 c0 l1 c1 : Nat) (xs ys : List Int) (w : World) (b0 : l0 ≤ 524288) (b1 : l1 ≤ 524288) (h0 : Row w (some x) l0 xs) (h1 : Row w (some y) l1 ys)
    (v0 : ∀ n ∈ xs, 0 ≤ n ∧ n ≤ 255) (v1 : ∀ n ∈ ys, 0 ≤ n ∧ n ≤ 255) :
    Calls Trym.prog 6 #[.slice (some x) l0 c0, .slice (some y) l1 c1] w fun e w' => e = .returned (.bool true) ∧ Below w.heap.size w w' := by
  have n1 := neq_nil
  have n2 := eql_nil
  obtain ⟨i0, hi, hz0, hz1, hz2⟩ := info_parts info5
  obtain ⟨L, hL⟩ : ∃ L, xs ++ nums ⟨#[120]⟩ ++ [] = L := ⟨_, rfl⟩
  have e1 : isNull L = false := by rw [← hL, nums_x]; exact x_last xs
  have r1 : ∀ n ∈ L, 0 ≤ n ∧ n ≤ 255 := by
    intro n hn
    rw [← hL, nums_x, List.append_nil] at hn
    rcases List.mem_append.1 hn with hn | hn
    · exact v0 n hn
    · simp at hn; omega
  have R1 : Hid (∀ n ∈ L, 0 ≤ n ∧ n ≤ 255) := r1
  have HL : Hid (xs ++ nums ⟨#[120]⟩ ++ [] = L) := hL
  have V0 : Hid (∀ n ∈ xs, 0 ≤ n ∧ n ≤ 255) := v0
  have V1 : Hid (∀ n ∈ ys, 0 ≤ n ∧ n ≤ 255) := v1
  clear hL r1 v0 v1
  go_enter Trym.func6, Trym.ntmps6
  go_wp2_with fail
  refine (bytes15 (some x) (some y) l0 c0 l1 c1 w b0 b1).mono ?_
  rintro e w0 ⟨rfl, he⟩
  subst he
  go_wp2_with (first
    | (at_make; refine wpList_make_full _ rfl (.tmp 23) (.tmp 23) 25 rfl w0.heap.size 5 i0 (.int .u8 0) 1 Trym.underlying25 hi hz0 hz1 _ _ _ _ l0 rfl rfl rfl rfl (by rw [hz2]; omega) (by unfold maxLen; omega) (Nat.le_refl _) ?_; intro w1 hown1 hgrow1; obtain ⟨cur, hcur, hcl⟩ := made_block hown1; have hB1 : Below w0.heap.size w0 w1 := (Below.refl _ _).grown hgrow1 (Nat.le_refl _) (fun k h => by cases h))
    | (refine wpList_copy_splice rfl (.tmp 25) (.tmp 26) 25 25 rfl 5 Trym.underlying25 size5 _ _ _ _ _ _ rfl rfl w0.heap.size 0 cur 5 hcur (xs.map (Value.int .u8)) (by rw [List.length_map, h0.1]; exact (Nat.min_self _).symm) (fun _ => ⟨rfl, x, rfl, copy_src (h0.below hB1)⟩) (by rw [List.length_map, h0.1]; omega) (ints_oneCell _ _) w0.heap.size w0 hB1 (Nat.le_refl _) ?_; intro w2 HG hB2; have k0 := copied_row HG.out hcl h0.1; have j1 := h1.below hB2; clear HG hcur hcl hown1 hgrow1 hB1)
    | (at_make; refine wpList_make_full _ rfl (.tmp 32) (.tmp 32) 25 rfl w2.heap.size 5 i0 (.int .u8 0) 1 Trym.underlying25 hi hz0 hz1 _ _ _ _ l1 rfl rfl rfl rfl (by rw [hz2]; omega) (by unfold maxLen; omega) (Nat.le_refl _) ?_; intro w3 hown3 hgrow3; obtain ⟨cur3, hcur3, hcl3⟩ := made_block hown3; have hB3 : Below w2.heap.size w2 w3 := (Below.refl _ _).grown hgrow3 (Nat.le_refl _) (fun k h => by cases h))
    | (refine wpList_copy_splice rfl (.tmp 34) (.tmp 35) 25 25 rfl 5 Trym.underlying25 size5 _ _ _ _ _ _ rfl rfl w2.heap.size 0 cur3 5 hcur3 (ys.map (Value.int .u8)) (by rw [List.length_map, h1.1]; exact (Nat.min_self _).symm) (fun _ => ⟨rfl, y, rfl, copy_src (j1.below hB3)⟩) (by rw [List.length_map, h1.1]; omega) (ints_oneCell _ _) w2.heap.size w2 hB3 (Nat.le_refl _) ?_; intro w4 HG hB4; have k1 := copied_row HG.out hcl3 h1.1; have i1 := k0.below hB4; clear HG hcur3 hcl3 hown3 hgrow3 hB3)
    | (go_at_call 16; refine (join_row _ none l0 l0 0 0 _ xs [] L _ (by omega) (by decide) (by decide) HL.out i1 (Row.nil _)).mono ?_; rintro e w5 ⟨n, rfl, t1, d1⟩))
  have hB5 : Below w0.heap.size w0 w4 := hB2.trans (hB4.mono hB2.size)
  refine (present_some _ n n L _ t1 R1.out).mono ?_
  rintro e w6 ⟨rfl, e6⟩
  subst e6
  have ka := i1.below d1
  have kb := k1.below d1
  clear k0 j1 i1 k1 t1
  by_cases z : l0 = 0
  · have g : ((l0 : Int) == 0) = true := by simp; omega
    have e2 : isNull xs = false := isNull_length (by rw [h0.1]; omega)
    clear z
    go_wp2_with fail
    refine (present_some _ l0 l0 xs _ ka V0.out).mono ?_
    rintro e w7 ⟨rfl, e7⟩
    subst e7
    go_wp2_with fail
    refine (same_any _ _ l0 l0 l1 l1 xs ys _ (by omega) (by omega) ka kb).mono ?_
    rintro e w8 ⟨rfl, m, rfl⟩
    have kA := ka.drewN m
    have kB := kb.drewN m
    have HE : Hid (Below w0.heap.size w0 _) := below_drewN (hB5.trans (d1.mono hB5.size)) m
    by_cases q : xs = ys
    · have q1 : (xs == ys) = true := by rw [q]; exact beq_self_eq_true _
      have Q : Hid (xs = ys) := q
      clear q
      go_wp2_with fail
      go_ret
      exact ⟨rfl, HE.out⟩
    · have q1 : (xs == ys) = false := by rw [beq_eq_false_iff_ne]; exact q
      clear q
      go_wp2_with fail
      refine (present_some _ l0 l0 xs _ kA V0.out).mono ?_
      rintro e w9 ⟨rfl, e9⟩
      subst e9
      go_wp2_with fail
      go_ret
      exact ⟨rfl, HE.out⟩
  · have g : ((l0 : Int) == 0) = false := by simp; omega
    clear z
    go_wp2_with fail
    refine (same_any _ _ l0 l0 l1 l1 xs ys _ (by omega) (by omega) ka kb).mono ?_
    rintro e w8 ⟨rfl, m, rfl⟩
    have kA := ka.drewN m
    have kB := kb.drewN m
    have HE : Hid (Below w0.heap.size w0 _) := below_drewN (hB5.trans (d1.mono hB5.size)) m
    by_cases q : xs = ys
    · have q1 : (xs == ys) = true := by rw [q]; exact beq_self_eq_true _
      have Q : Hid (xs = ys) := q
      clear q
      go_wp2_with fail
      go_ret
      exact ⟨rfl, HE.out⟩
    · have q1 : (xs == ys) = false := by rw [beq_eq_false_iff_ne]; exact q
      by_cases u : isNull xs = true
      · have u' : isNull ys = false := not_both xs ys q u
        clear q
        go_wp2_with fail
        refine (present_some _ l0 l0 xs _ kA V0.out).mono ?_
        rintro e w9 ⟨rfl, e9⟩
        subst e9
        go_wp2_with fail
        refine (present_some _ l1 l1 ys _ kB V1.out).mono ?_
        rintro e w10 ⟨rfl, e10⟩
        subst e10
        go_wp2_with fail
        go_ret
        exact ⟨rfl, HE.out⟩
      · have u' : isNull xs = false := by simpa using u
        clear q u
        go_wp2_with fail
        refine (present_some _ l0 l0 xs _ kA V0.out).mono ?_
        rintro e w9 ⟨rfl, e9⟩
        subst e9
        go_wp2_with fail
        go_ret
        exact ⟨rfl, HE.out⟩

end Go.Proofs.Qxb6619007aMods.Walks
