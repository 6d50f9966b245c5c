/-
  THE WALK OF FnPresentNullOnlyAlone.
-/
import Derived.Test.Qxb6619007aModsWalks2
namespace Go.Proofs.Qxb6619007aMods.Walks
open Go.RowKit

/-- Too long: the function says true by its own guards. -/
theorem alone_long (a0 a1 : Option Addr) (l0 c0 l1 c1 : Nat) (w : World) (h : 524288 < l0 ∨ 524288 < l1) :
    Calls Trym.prog 7 #[.slice a0 l0 c0, .slice a1 l1 c1] w fun e w' => e = .returned (.bool true) ∧ Below w.heap.size w w' := by
  rcases h with h | h
  · go_enter Trym.func7, Trym.ntmps7
    go_wp2
    all_goals (go_ret; exact ⟨rfl, Below.refl _ _⟩)
  · by_cases h' : 524288 < l0
    · go_enter Trym.func7, Trym.ntmps7
      go_wp2
      all_goals (go_ret; exact ⟨rfl, Below.refl _ _⟩)
    · go_enter Trym.func7, Trym.ntmps7
      go_wp2
      all_goals (go_ret; exact ⟨rfl, Below.refl _ _⟩)

set_option maxHeartbeats 1600000 in
/-- The last test reads no byte of b. -/
theorem alone_no (a0 a1 : Option Addr) (l0 c0 l1 c1 : Nat) (xs ys : List Int) (w : World) (b0 : l0 ≤ 524288) (b1 : l1 ≤ 524288) (h0 : Row w a0 l0 xs) (h1 : Row w a1 l1 ys)
    (L1 L2 : List Int) (r1 : ∀ n ∈ L1, 0 ≤ n ∧ n ≤ 255) (r2 : ∀ n ∈ L2, 0 ≤ n ∧ n ≤ 255) (q1 : Hid (xs ++ nums ⟨#[110, 117, 108, 108]⟩ ++ ys = L1)) (q2 : Hid (xs ++ nums ⟨#[110, 117, 108]⟩ ++ ys = L2))
    (s : Bool) (gs : ((l0 : Int) + (l1 : Int) != 0) = s) (e1 : isNull L1 = !s) (e2 : isNull L2 = false)
    (g : ((l0 : Int) == 0) = false ∨ (((l0 : Int) == 0) = true ∧ ((l1 : Int) == 1) = false)) :
    Calls Trym.prog 7 #[.slice a0 l0 c0, .slice a1 l1 c1] w fun e w' => e = .returned (.bool true) ∧ Below w.heap.size w w' := by
  have R1 : Hid (∀ n ∈ L1, 0 ≤ n ∧ n ≤ 255) := r1
  have R2 : Hid (∀ n ∈ L2, 0 ≤ n ∧ n ≤ 255) := r2
  clear r1 r2
  rcases g with g | ⟨g, g'⟩
  · go_enter Trym.func7, Trym.ntmps7
    go_wp2_with fail
    refine (bytes19 a0 a1 l0 c0 l1 c1 _ b0 b1).mono ?_
    rintro e w' ⟨rfl, rfl⟩
    go_wp2_with fail
    refine (join_row a0 a1 l0 c0 l1 c1 _ xs ys L1 _ (by omega) (by omega) (by decide) q1.out h0 h1).mono ?_
    rintro e w1 ⟨n1, rfl, t1, d1⟩
    go_wp2_with fail
    refine (join_row a0 a1 l0 c0 l1 c1 _ xs ys L2 _ (by omega) (by omega) (by decide) q2.out (h0.below d1) (h1.below d1)).mono ?_
    rintro e w2 ⟨n2, rfl, t2, d2⟩
    go_wp2_with fail
    refine (present_some _ n1 n1 L1 _ (t1.below d2) R1.out).mono ?_
    rintro e w3 ⟨rfl, rfl⟩
    go_wp2_with fail
    refine (present_some _ n2 n2 L2 _ t2 R2.out).mono ?_
    rintro e w4 ⟨rfl, rfl⟩
    go_wp2_with fail
    go_ret
    exact ⟨rfl, d1.trans (d2.mono d1.size)⟩
  · go_enter Trym.func7, Trym.ntmps7
    go_wp2_with fail
    refine (bytes19 a0 a1 l0 c0 l1 c1 _ b0 b1).mono ?_
    rintro e w' ⟨rfl, rfl⟩
    go_wp2_with fail
    refine (join_row a0 a1 l0 c0 l1 c1 _ xs ys L1 _ (by omega) (by omega) (by decide) q1.out h0 h1).mono ?_
    rintro e w1 ⟨n1, rfl, t1, d1⟩
    go_wp2_with fail
    refine (join_row a0 a1 l0 c0 l1 c1 _ xs ys L2 _ (by omega) (by omega) (by decide) q2.out (h0.below d1) (h1.below d1)).mono ?_
    rintro e w2 ⟨n2, rfl, t2, d2⟩
    go_wp2_with fail
    refine (present_some _ n1 n1 L1 _ (t1.below d2) R1.out).mono ?_
    rintro e w3 ⟨rfl, rfl⟩
    go_wp2_with fail
    refine (present_some _ n2 n2 L2 _ t2 R2.out).mono ?_
    rintro e w4 ⟨rfl, rfl⟩
    go_wp2_with fail
    go_ret
    exact ⟨rfl, d1.trans (d2.mono d1.size)⟩

set_option maxHeartbeats 1600000 in
/-- a is empty, b is one byte: the last test reads it. -/
theorem alone_byte (a0 a1 : Option Addr) (l0 c0 l1 c1 : Nat) (xs ys : List Int) (w : World) (b0 : l0 ≤ 524288) (b1 : l1 ≤ 524288) (h0 : Row w a0 l0 xs) (h1 : Row w a1 l1 ys)
    (L1 L2 : List Int) (r1 : ∀ n ∈ L1, 0 ≤ n ∧ n ≤ 255) (r2 : ∀ n ∈ L2, 0 ≤ n ∧ n ≤ 255) (q1 : Hid (xs ++ nums ⟨#[110, 117, 108, 108]⟩ ++ ys = L1)) (q2 : Hid (xs ++ nums ⟨#[110, 117, 108]⟩ ++ ys = L2))
    (gs : ((l0 : Int) + (l1 : Int) != 0) = true) (e1 : isNull L1 = false) (c : Int) (hc : Hid (ys.getD 0 0 = c)) (s : Bool) (gc : (c == 108) = s) (e2 : isNull L2 = s)
    (g : ((l0 : Int) == 0) = true) (g' : ((l1 : Int) == 1) = true) (hl : l1 = 1) :
    Calls Trym.prog 7 #[.slice a0 l0 c0, .slice a1 l1 c1] w fun e w' => e = .returned (.bool true) ∧ Below w.heap.size w w' := by
  have R1 : Hid (∀ n ∈ L1, 0 ≤ n ∧ n ≤ 255) := r1
  have R2 : Hid (∀ n ∈ L2, 0 ≤ n ∧ n ≤ 255) := r2
  obtain ⟨b, off, rfl, hb, hcell⟩ := h1.place (by omega)
  have hck : w.cell? ⟨b, off, none⟩ = some (.int .u8 c) := by rw [← hc.out]; exact hcell 0 (by rw [h1.1]; omega)
  have hk : 0 < l1 := by omega
  clear r1 r2 hcell hl
  go_enter Trym.func7, Trym.ntmps7
  go_wp2_with fail
  refine (bytes19 a0 _ l0 c0 l1 c1 _ b0 b1).mono ?_
  rintro e w' ⟨rfl, rfl⟩
  go_wp2_with fail
  refine (join_row a0 _ l0 c0 l1 c1 _ xs ys L1 _ (by omega) (by omega) (by decide) q1.out h0 h1).mono ?_
  rintro e w1 ⟨n1, rfl, t1, d1⟩
  go_wp2_with fail
  refine (join_row a0 _ l0 c0 l1 c1 _ xs ys L2 _ (by omega) (by omega) (by decide) q2.out (h0.below d1) (h1.below d1)).mono ?_
  rintro e w2 ⟨n2, rfl, t2, d2⟩
  have hcb : w2.cell? ⟨b, off, none⟩ = some (.int .u8 c) := ((d1.trans (d2.mono d1.size)).cell (by exact hb)).trans hck
  go_wp2_with fail
  refine (present_some _ n1 n1 L1 _ (t1.below d2) R1.out).mono ?_
  rintro e w3 ⟨rfl, rfl⟩
  go_wp2_with fail
  refine (present_some _ n2 n2 L2 _ t2 R2.out).mono ?_
  rintro e w4 ⟨rfl, rfl⟩
  go_wp2_with fail
  go_ret
  exact ⟨rfl, d1.trans (d2.mono d1.size)⟩

end Go.Proofs.Qxb6619007aMods.Walks
