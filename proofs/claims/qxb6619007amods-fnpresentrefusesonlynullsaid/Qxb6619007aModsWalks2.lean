/-
  WHAT THE TWO LAWS ON 'present' SHARE: a row behind a call that writes nothing old; the join as a row; the guards on the lengths; the plain laws on the word null.
-/
import Derived.Test.Qxb6619007aModsWalks
namespace Go.Proofs.Qxb6619007aMods.Walks
open Go.RowKit

/-- A row that is read stays, where nothing old is written. -/
theorem Row.below {w w' : World} {ao : Option Addr} {len : Nat} {xs : List Int} (h : Row w ao len xs) (hb : Below w.heap.size w w') : Row w' ao len xs := by
  refine ⟨h.1, h.2.1, fun x hx i hi => ?_⟩
  have hc := h.2.2 x hx i hi
  have hlt : (x.add i).block < w.heap.size := by
    rcases Nat.lt_or_ge (x.add i).block w.heap.size with h | h
    · exact h
    · simp [World.cell?, Array.getElem?_eq_none h] at hc
  rw [hb.cell hlt]; exact hc
theorem Row.drewN {w : World} {ao : Option Addr} {len : Nat} {xs : List Int} (h : Row w ao len xs) (n : Nat) : Row (w.drewN n) ao len xs := h
theorem Row.nil (w : World) : Row w none 0 [] := ⟨rfl, fun _ => rfl, fun x h => by cases h⟩

/-- What a call owns whole is a row. -/
theorem row_of_owns {w : World} {base g n : Nat} {L : List Int} (h : w.ownsRow base 5 1 (.slice (some ⟨g, 0, none⟩) n n) n (L.map (Value.int .u8))) : Row w (some ⟨g, 0, none⟩) n L := by
  have hl : L.length = n := by simpa using h.1
  refine ⟨hl, (fun e => by cases e), fun x hx i hi => ?_⟩
  obtain rfl := Option.some.inj hx
  rw [Addr.add_lit, Nat.zero_add, h.cellAt i (by omega)]
  simp [List.getD, List.getElem?_map, List.getElem?_eq_getElem hi]

theorem join_row (a0 a1 : Option Addr) (l0 c0 l1 c1 : Nat) (mid : ByteArray) (xs ys L : List Int) (w : World) (b0 : l0 ≤ 1048576) (b1 : l1 ≤ 1048576) (bm : mid.size ≤ 16)
    (hL : xs ++ nums mid ++ ys = L) (h0 : Row w a0 l0 xs) (h1 : Row w a1 l1 ys) :
    Calls Trym.prog 16 #[.slice a0 l0 c0, .string mid, .slice a1 l1 c1] w fun e w' =>
      ∃ n : Nat, e = .returned (.slice (some ⟨w.heap.size, 0, none⟩) n n) ∧ Row w' (some ⟨w.heap.size, 0, none⟩) n L ∧ Below w.heap.size w w' := by
  refine (join_any a0 a1 l0 c0 l1 c1 mid xs ys w b0 b1 bm h0 h1).mono ?_
  rintro e w' ⟨rfl, hown, hb⟩
  rw [hL] at hown
  exact ⟨_, rfl, row_of_owns hown, hb⟩

theorem bytes19 (a0 a1 : Option Addr) (l0 c0 l1 c1 : Nat) (w : World) (b0 : l0 ≤ 524288) (b1 : l1 ≤ 524288) :
    Calls Trym.prog 19 #[.slice a0 l0 c0, .slice a1 l1 c1] w fun e w' => e = .returned (.bool true) ∧ w' = w := by
  go_enter Trym.func19, Trym.ntmps19
  go_wp2
  go_ret
  exact ⟨rfl, rfl⟩
theorem bytes15 (a0 a1 : Option Addr) (l0 c0 l1 c1 : Nat) (w : World) (b0 : l0 ≤ 524288) (b1 : l1 ≤ 524288) :
    Calls Trym.prog 15 #[.slice a0 l0 c0, .slice a1 l1 c1] w fun e w' => e = .returned (.bool true) ∧ w' = w := by
  go_enter Trym.func15, Trym.ntmps15
  go_wp2
  go_ret
  exact ⟨rfl, rfl⟩

/-! ### THE PLAIN LAWS -/
theorem nums_null : nums ⟨#[110, 117, 108, 108]⟩ = [110, 117, 108, 108] := rfl
theorem nums_nul : nums ⟨#[110, 117, 108]⟩ = [110, 117, 108] := rfl
theorem nums_x : nums ⟨#[120]⟩ = [120] := rfl

theorem isNull_length {xs : List Int} (h : ¬ xs.length = 4) : isNull xs = false := by
  unfold isNull
  rw [beq_eq_false_iff_ne]
  rintro rfl
  exact h rfl
theorem null_alone : isNull ([] ++ [110, 117, 108, 108] ++ []) = true := rfl
theorem null_more (xs ys : List Int) (h : 0 < xs.length + ys.length) : isNull (xs ++ [110, 117, 108, 108] ++ ys) = false :=
  isNull_length (by simp; omega)
theorem nul_ahead (xs ys : List Int) (h : 0 < xs.length) : isNull (xs ++ [110, 117, 108] ++ ys) = false := by
  match xs, h with
  | [x], _ => simp [isNull]
  | x :: y :: zs, _ => exact isNull_length (by simp; omega)
theorem nul_one (c : Int) : isNull ([] ++ [110, 117, 108] ++ [c]) = (c == 108) := by
  unfold isNull
  rw [Bool.eq_iff_iff]
  simp
theorem nul_none : isNull ([] ++ [110, 117, 108] ++ []) = false := rfl
theorem nul_more (ys : List Int) (h : 2 ≤ ys.length) : isNull ([] ++ [110, 117, 108] ++ ys) = false :=
  isNull_length (by simp; omega)
theorem x_last (xs : List Int) : isNull (xs ++ [120] ++ []) = false := by
  unfold isNull
  rw [beq_eq_false_iff_ne, List.append_nil]
  intro h
  have := congrArg List.getLast? h
  simp at this

end Go.Proofs.Qxb6619007aMods.Walks
