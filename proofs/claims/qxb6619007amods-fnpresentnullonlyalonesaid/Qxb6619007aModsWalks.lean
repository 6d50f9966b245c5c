/-
  THE CALLEES' CONTRACTS over bowline's laws: zzb1Join, present, zzb1SameBytes.
-/
import Derived.Test.Qxb6619007aModsRows
import Derived.WalkKit
import Derived.WalkSpells
import Derived.Deep.QuietTactic
import Derived.BigQuiet
import Derived.OpenShut
import Derived.Laws.BytesArg
namespace Go.Proofs.Qxb6619007aMods.Walks
open Go.RowKit

theorem info5 : (Trym.prog.info? 5).map (fun i => (i.zero, i.size, i.bytes)) = some (some (.int .u8 0), 1, 1) := by kernel_rfl

/-- A slice of bytes that is read: its 'len' elements are the numbers 'xs'. -/
def Row (w : World) (ao : Option Addr) (len : Nat) (xs : List Int) : Prop :=
  xs.length = len ∧ (ao = none → len = 0) ∧ ∀ x, ao = some x → ∀ i, i < xs.length → w.cell? (x.add i) = some (.int .u8 (xs.getD i 0))

theorem Row.place {w : World} {ao : Option Addr} {len : Nat} {xs : List Int} (h : Row w ao len xs) (hp : 0 < len) :
    ∃ b off, ao = some ⟨b, off, none⟩ ∧ b < w.heap.size ∧ ∀ j, j < xs.length → w.cell? ⟨b, off + j, none⟩ = some (.int .u8 (xs.getD j 0)) := by
  obtain ⟨hl, hn, hc⟩ := h
  cases ao with
  | none => exact absurd (hn rfl) (by omega)
  | some x =>
    obtain ⟨b, off, rfl, hj⟩ := ints_at (hc x rfl) (by omega)
    refine ⟨b, off, rfl, ?_, hj⟩
    have h0 := hj 0 (by omega)
    rcases Nat.lt_or_ge b w.heap.size with h | h
    · exact h
    · simp [World.cell?, Array.getElem?_eq_none h] at h0

/-- The bytes of a string as numbers. -/
def nums (s : ByteArray) : List Int := s.data.toList.map fun c => (c.toNat : Int)
theorem nums_length (s : ByteArray) : (nums s).length = s.size := by rw [nums, List.length_map]; rfl

theorem take_snoc (xs : List Int) (k : Nat) (h : k < xs.length) : xs.take (k + 1) = xs.take k ++ [xs.getD k 0] := by
  rw [List.take_succ_eq_append_getElem h]
  simp [List.getD, h]
theorem nums_get (s : ByteArray) (k : Nat) (h : k < s.size) : (nums s).getD k 0 = ((s[k]'h).toNat : Int) := by
  have h' : k < s.data.toList.length := h
  simp [nums, List.getD, List.getElem?_map, List.getElem?_eq_getElem h']
  rfl

set_option maxHeartbeats 1600000 in
theorem join_any (a0 a1 : Option Addr) (l0 c0 l1 c1 : Nat) (mid : ByteArray) (xs ys : List Int) (w : World) (b0 : l0 ≤ 1048576) (b1 : l1 ≤ 1048576) (bm : mid.size ≤ 16)
    (h0 : Row w a0 l0 xs) (h1 : Row w a1 l1 ys) :
    Calls Trym.prog 16 #[.slice a0 l0 c0, .string mid, .slice a1 l1 c1] w fun e w' =>
      e = .returned (.slice (some ⟨w.heap.size, 0, none⟩) (l0 + mid.size + l1) (l0 + mid.size + l1)) ∧
      w'.ownsRow w.heap.size 5 1 (.slice (some ⟨w.heap.size, 0, none⟩) (l0 + mid.size + l1) (l0 + mid.size + l1)) (l0 + mid.size + l1) ((xs ++ nums mid ++ ys).map (Value.int .u8)) ∧ Below w.heap.size w w' := by
  obtain ⟨i0, hi, hz0, hz1, hz2⟩ := info_parts info5
  go_enter Trym.func16, Trym.ntmps16
  go_wp2_with (at_make; refine wpList_make_own _ rfl _ _ 25 rfl w.heap.size 5 i0 (.int .u8 0) 1 Trym.underlying25 hi hz0 hz1 _ _ _ (l0 + mid.size + l1) rfl rfl (by omega) ?b2 ?b3 (Nat.le_refl _) ?_)
  case b2 => rw [hz2]; omega
  case b3 => unfold maxLen; omega
  intro w0 hown0 hgrow0
  go_wp2
  go_loopw [7, 8] (fun out si wr => ∃ k : Nat, k ≤ l0 ∧ si = .int .i64 k ∧ out = .slice (some ⟨w.heap.size, 0, none⟩) k (l0 + mid.size + l1) ∧
      wr.ownsRow w.heap.size 5 1 (.slice (some ⟨w.heap.size, 0, none⟩) k (l0 + mid.size + l1)) k ((xs.take k).map (Value.int .u8)) ∧ Below w.heap.size w wr)
    (fun _ si _ => l0 - (intOf si).toNat)
  case atStart => exact ⟨0, Nat.zero_le _, rfl, rfl, by simpa using hown0, (Below.refl _ _).grown hgrow0 (Nat.le_refl _) (fun k h => by cases h)⟩
  case round =>
    obtain ⟨k, hk, rfl, rfl, hown, hnx⟩ := hrel
    clear hown0 hgrow0
    by_cases hlt : k < l0
    · obtain ⟨b, off, rfl, hb, hc⟩ := h0.place (by omega)
      have hxl : k < xs.length := by rw [h0.1]; exact hlt
      obtain ⟨c, hcv⟩ : ∃ c, c = xs.getD k 0 := ⟨_, rfl⟩
      have hck : wr.cell? ⟨b, off + k, none⟩ = some (.int .u8 c) := by rw [hcv]; exact (hnx.cell (by exact hb)).trans (hc k hxl)
      have HC : Hid (c = xs.getD k 0) := hcv
      have HX : Hid (k < xs.length) := hxl
      clear hc hcv hxl
      go_wp2_with (at_builtin; refine wpList_append_fits _ rfl (.tmp 26) (.tmp 31) 25 rfl w.heap.size 5 i0 1 Trym.underlying25 hi hz1 w.heap.size k (l0 + mid.size + l1) _ rfl (hown.alloc _) ⟨wr.heap.size, 0, none⟩ 1 1 [.int .u8 c] rfl rfl (by intro t u ht; match t, ht with | 0, ht => simp at ht; subst ht; simp [Addr.add]) (by intro u hu; simp at hu; subst hu; rfl) (by omega) ?_; intro w1 hown1 hgrow1)
      go_roundw
      case rel => exact ⟨k + 1, by omega, by go_num, rfl, by rw [take_snoc xs k HX.out, ← HC.out, List.map_append]; exact hown1, (hnx.alloc hnx.size _).grown hgrow1 (by simp; have := hnx.size; omega) (fun k hk => by cases hk; exact Nat.le_refl _)⟩
      case measure => simp [intOf]; omega
    · obtain rfl : l0 = k := by omega
      have hx : xs.take l0 = xs := List.take_of_length_le (by rw [h0.1]; exact Nat.le_refl _)
      rw [hx] at hown
      clear hx
      go_wp2
      go_loopw [7, 9] (fun out si wr => ∃ k : Nat, k ≤ mid.size ∧ si = .int .i64 k ∧ out = .slice (some ⟨w.heap.size, 0, none⟩) (l0 + k) (l0 + mid.size + l1) ∧
          wr.ownsRow w.heap.size 5 1 (.slice (some ⟨w.heap.size, 0, none⟩) (l0 + k) (l0 + mid.size + l1)) (l0 + k) ((xs ++ (nums mid).take k).map (Value.int .u8)) ∧ Below w.heap.size w wr)
        (fun _ si _ => mid.size - (intOf si).toNat)
      case atStart => exact ⟨0, Nat.zero_le _, rfl, rfl, by simpa using hown, hnx⟩
      case round =>
        clear hown hnx
        obtain ⟨k, hk, rfl, rfl, hown, hnx⟩ := hrel
        by_cases hlt : k < mid.size
        · have hxl : k < (nums mid).length := by rw [nums_length]; exact hlt
          have HC : Hid (((mid[k]'hlt).toNat : Int) = (nums mid).getD k 0) := (nums_get mid k hlt).symm
          have HX : Hid (k < (nums mid).length) := hxl
          clear hxl
          go_wp2_with (at_builtin; refine wpList_append_fits _ rfl (.tmp 39) (.tmp 43) 25 rfl w.heap.size 5 i0 1 Trym.underlying25 hi hz1 w.heap.size (l0 + k) (l0 + mid.size + l1) _ rfl (hown.alloc _) ⟨wr.heap.size, 0, none⟩ 1 1 [.int .u8 ((mid[k]'hlt).toNat : Int)] rfl rfl (by intro t u ht; match t, ht with | 0, ht => simp at ht; subst ht; simp [Addr.add]) (by intro u hu; simp at hu; subst hu; rfl) (by omega) ?_; intro w1 hown1 hgrow1)
          go_roundw
          case rel => exact ⟨k + 1, by omega, by go_num, rfl, by rw [take_snoc (nums mid) k HX.out, ← HC.out, ← List.append_assoc, List.map_append]; exact hown1, (hnx.alloc hnx.size _).grown hgrow1 (by simp; have := hnx.size; omega) (fun k hk => by cases hk; exact Nat.le_refl _)⟩
          case measure => simp [intOf]; omega
        · obtain ⟨m, hm⟩ : ∃ m, m = mid.size := ⟨_, rfl⟩
          obtain rfl : k = mid.size := by omega
          have hx : (nums mid).take mid.size = nums mid := List.take_of_length_le (by rw [nums_length]; exact Nat.le_refl _)
          rw [hx] at hown
          clear hx hm
          go_wp2
          go_loopw [7, 10] (fun out si wr => ∃ k : Nat, k ≤ l1 ∧ si = .int .i64 k ∧ out = .slice (some ⟨w.heap.size, 0, none⟩) (l0 + mid.size + k) (l0 + mid.size + l1) ∧
              wr.ownsRow w.heap.size 5 1 (.slice (some ⟨w.heap.size, 0, none⟩) (l0 + mid.size + k) (l0 + mid.size + l1)) (l0 + mid.size + k) ((xs ++ nums mid ++ ys.take k).map (Value.int .u8)) ∧ Below w.heap.size w wr)
            (fun _ si _ => l1 - (intOf si).toNat)
          case atStart => exact ⟨0, Nat.zero_le _, rfl, rfl, by simpa using hown, hnx⟩
          case round =>
            clear hown hnx
            obtain ⟨k, hk, rfl, rfl, hown, hnx⟩ := hrel
            by_cases hlt : k < l1
            · obtain ⟨b, off, rfl, hb, hc⟩ := h1.place (by omega)
              have hxl : k < ys.length := by rw [h1.1]; exact hlt
              obtain ⟨c, hcv⟩ : ∃ c, c = ys.getD k 0 := ⟨_, rfl⟩
              have hck : wr.cell? ⟨b, off + k, none⟩ = some (.int .u8 c) := by rw [hcv]; exact (hnx.cell (by exact hb)).trans (hc k hxl)
              have HC : Hid (c = ys.getD k 0) := hcv
              have HX : Hid (k < ys.length) := hxl
              clear hc hcv hxl
              go_wp2_with (at_builtin; refine wpList_append_fits _ rfl (.tmp 51) (.tmp 56) 25 rfl w.heap.size 5 i0 1 Trym.underlying25 hi hz1 w.heap.size (l0 + mid.size + k) (l0 + mid.size + l1) _ rfl (hown.alloc _) ⟨wr.heap.size, 0, none⟩ 1 1 [.int .u8 c] rfl rfl (by intro t u ht; match t, ht with | 0, ht => simp at ht; subst ht; simp [Addr.add]) (by intro u hu; simp at hu; subst hu; rfl) (by omega) ?_; intro w1 hown1 hgrow1)
              go_roundw
              case rel => exact ⟨k + 1, by omega, by go_num, rfl, by rw [take_snoc ys k HX.out, ← HC.out, ← List.append_assoc, List.map_append]; exact hown1, (hnx.alloc hnx.size _).grown hgrow1 (by simp; have := hnx.size; omega) (fun k hk => by cases hk; exact Nat.le_refl _)⟩
              case measure => simp [intOf]; omega
            · obtain rfl : l1 = k := by omega
              have hx : ys.take l1 = ys := List.take_of_length_le (by rw [h1.1]; exact Nat.le_refl _)
              rw [hx] at hown
              clear hx
              go_wp2
              go_ret
              exact ⟨rfl, hown, hnx⟩

/-! ### present -/
/-- Are these the four bytes of the word null? -/
def isNull (xs : List Int) : Bool := xs == [110, 117, 108, 108]

theorem run_convert_bytes_row {P : Program} (w : World) (src e : TypeId) (hs : P.underlying src = some (.slice e)) (he : P.underlying e = some (.int .u8)) (x : Addr) (len cap : Nat) (xs : List Int) (hlen : xs.length = len)
    (hcell : ∀ i, i < xs.length → w.cell? (x.add i) = some (.int .u8 (xs.getD i 0))) :
    ∀ dst, P.underlying dst = some .string → (convert src dst (.slice (some x) len cap)).run P w = .ok (.string (strOfNums xs)) w := by
  intro dst hd
  have hl : (loadCells x len).run P w = .ok (xs.map (Value.int .u8)).toArray w := by
    have := run_loadCells_list (P := P) w x (xs.map (Value.int .u8)) (fun j v hj => by
      have hjl : j < xs.length := by
        rcases Nat.lt_or_ge j xs.length with h | h
        · exact h
        · simp [List.getElem?_eq_none (show (xs.map (Value.int .u8)).length ≤ j by simpa using h)] at hj
      rw [hcell j hjl]
      simp [List.getElem?_eq_getElem hjl] at hj
      subst hj
      simp [List.getD, List.getElem?_eq_getElem hjl])
    simpa [hlen] using this
  rw [run_convert_bytes_string w src dst e _ len cap hs he hd, run_bytesToString w _ len cap xs hl, foldl_push_bytes]
  simp [strOfNums, ByteArray.empty, ByteArray.emptyWithCapacity]
  rfl

theorem present_nil (w : World) : Calls Trym.prog 17 #[.slice none 0 0] w fun e w' => e = .returned (.bool false) ∧ w' = w := by
  have hne := run_neq_slice_nil_any (P := Trym.prog) w 39 5 none 0 0 0 0 Trym.underlying39
  go_enter Trym.func17, Trym.ntmps17
  go_wp2
  go_ret
  exact ⟨rfl, rfl⟩

theorem u8_of (n : Int) (k : Nat) (hk : k < 256) (h : 0 ≤ n ∧ n ≤ 255) : UInt8.ofNat n.toNat = UInt8.ofNat k ↔ n = k := by
  rw [← UInt8.toNat_inj]
  simp only [UInt8.toNat_ofNat']
  omega

theorem null_bytes (xs : List Int) (hr : ∀ n ∈ xs, 0 ≤ n ∧ n ≤ 255) : ((strOfNums xs).toList == [110, 117, 108, 108]) = isNull xs := by
  rw [ByteArray.toList_eq, strOfNums_data]
  unfold isNull
  match xs, hr with
  | [], _ => rfl
  | [_], _ => simp
  | [_, _], _ => simp
  | [_, _, _], _ => simp
  | [a, b, c, d], hr =>
    have ha := u8_of a 110 (by decide) (hr a (by simp))
    have hb := u8_of b 117 (by decide) (hr b (by simp))
    have hc := u8_of c 108 (by decide) (hr c (by simp))
    have hd := u8_of d 108 (by decide) (hr d (by simp))
    rw [Bool.eq_iff_iff]
    simp only [List.map_cons, List.map_nil, beq_iff_eq, List.cons.injEq, and_true]
    exact and_congr ha (and_congr hb (and_congr hc hd))
  | _ :: _ :: _ :: _ :: _ :: _, _ => simp

theorem present_some (x : Addr) (len cap : Nat) (xs : List Int) (w : World) (h : Row w (some x) len xs) (hr : ∀ n ∈ xs, 0 ≤ n ∧ n ≤ 255) :
    Calls Trym.prog 17 #[.slice (some x) len cap] w fun e w' => e = .returned (.bool (!isNull xs)) ∧ w' = w := by
  have hcv := run_convert_bytes_row (P := Trym.prog) w 39 5 Trym.underlying39 Trym.underlying5 x len cap xs h.1 (h.2.2 x rfl) 9 Trym.underlying9
  have hne := run_neq_slice_nil_any (P := Trym.prog) w 39 5 (some x) len cap 0 0 Trym.underlying39
  have hnull := null_bytes xs hr
  go_enter Trym.func17, Trym.ntmps17
  go_wp2
  go_ret
  exact ⟨rfl, rfl⟩

/-! ### zzb1SameBytes -/
theorem take_same (xs ys : List Int) (k : Nat) (hx : k < xs.length) (hy : k < ys.length) (h : xs.take k = ys.take k) (e : xs.getD k 0 = ys.getD k 0) : xs.take (k + 1) = ys.take (k + 1) := by
  rw [take_snoc xs k hx, take_snoc ys k hy, h, e]
theorem not_same (xs ys : List Int) (k : Nat) (e : ¬ xs.getD k 0 = ys.getD k 0) : (xs == ys) = false := by
  rw [beq_eq_false_iff_ne]; rintro rfl; exact e rfl

set_option maxHeartbeats 1600000 in
theorem same_any (a0 a1 : Option Addr) (l0 c0 l1 c1 : Nat) (xs ys : List Int) (w : World) (b0 : l0 ≤ 1048576) (b1 : l1 ≤ 1048576) (h0 : Row w a0 l0 xs) (h1 : Row w a1 l1 ys) :
    Calls Trym.prog 18 #[.slice a0 l0 c0, .slice a1 l1 c1] w fun e w' => e = .returned (.bool (xs == ys)) ∧ ∃ n, w' = w.drewN n := by
  by_cases hl : l0 = l1
  · subst hl
    go_enter Trym.func18, Trym.ntmps18
    go_wp2
    go_loopw [5] (fun si wr => ∃ k n : Nat, k ≤ l0 ∧ si = .int .i64 k ∧ xs.take k = ys.take k ∧ wr = w.drewN n) (fun si _ => l0 - (intOf si).toNat)
    case atStart => exact ⟨0, 0, Nat.zero_le _, rfl, rfl, rfl⟩
    case round =>
      obtain ⟨k, n, hk, rfl, hsame, rfl⟩ := hrel
      have HS : Hid (xs.take k = ys.take k) := hsame
      clear hsame
      by_cases hlt : k < l0
      · obtain ⟨b, off, rfl, hb, hc⟩ := h0.place (by omega)
        obtain ⟨b', off', rfl, hb', hc'⟩ := h1.place (by omega)
        have hxl : k < xs.length := by rw [h0.1]; exact hlt
        have hyl : k < ys.length := by rw [h1.1]; exact hlt
        obtain ⟨c, hcv⟩ : ∃ c, c = xs.getD k 0 := ⟨_, rfl⟩
        obtain ⟨d, hdv⟩ : ∃ d, d = ys.getD k 0 := ⟨_, rfl⟩
        have hck : w.cell? ⟨b, off + k, none⟩ = some (.int .u8 c) := by rw [hcv]; exact hc k hxl
        have hdk : w.cell? ⟨b', off' + k, none⟩ = some (.int .u8 d) := by rw [hdv]; exact hc' k hyl
        have HC : Hid (c = xs.getD k 0) := hcv
        have HD : Hid (d = ys.getD k 0) := hdv
        have HX : Hid (k < xs.length) := hxl
        have HY : Hid (k < ys.length) := hyl
        clear hc hc' hcv hdv hxl hyl
        by_cases hcd : c = d
        · subst hcd
          go_wp2
          go_quiet (fail)
          go_wp2
          go_roundw
          case rel => exact ⟨k + 1, _, by omega, by go_num, take_same xs ys k HX.out HY.out HS.out (HC.out.symm.trans HD.out), rfl⟩
          case measure => simp [intOf]; omega
        · have hne : (c != d) = true := by simpa using hcd
          have HN : Hid ((xs == ys) = false) := not_same xs ys k (by rw [← HC.out, ← HD.out]; exact hcd)
          go_wp2
          go_quiet (fail)
          go_wp2
          go_ret
          exact ⟨by rw [HN.out]; rfl, n + nq, by rw [World.drewN_drewN]⟩
      · have e : (xs == ys) = true := by
          have h := HS.out
          rw [List.take_of_length_le (by rw [h0.1]; omega), List.take_of_length_le (by rw [h1.1]; omega)] at h
          rw [h]; exact beq_self_eq_true _
        go_wp2
        go_ret
        exact ⟨by rw [e]; rfl, _, rfl⟩
  · have e : (xs == ys) = false := by
      rw [beq_eq_false_iff_ne]; rintro rfl; exact hl (h0.1.symm.trans h1.1)
    have g : ((l0 : Int) != (l1 : Int)) = true := by simp; omega
    go_enter Trym.func18, Trym.ntmps18
    go_wp2
    go_ret
    exact ⟨by rw [e]; rfl, 0, rfl⟩

end Go.Proofs.Qxb6619007aMods.Walks
