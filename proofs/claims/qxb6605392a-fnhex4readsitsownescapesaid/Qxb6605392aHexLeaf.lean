/-
  THE LAW ON hex4: the small functions' contracts.
-/
import Derived.Test.Qxb6605392aRows
import Derived.WalkKit
import Derived.Laws.IdiomStrings
namespace Go.Proofs.Qxb6605392a
open Go.RowKit

/-- The digit's sign. -/
def hexc (v : Nat) (up : Bool) : Int := if v < 10 then 48 + v else if up = true then 55 + v else 87 + v

/-- zzBytes. -/
theorem bytes10_small (r : Int) (up : Bool) (t : ByteArray) (w : World) (h : t.size ≤ 1048576) :
    Calls Try.prog 10 #[.int .i32 r, .bool up, .string t] w fun e w' => e = .returned (.bool true) ∧ w' = w := by
  go_enter Try.func10, Try.ntmps10
  go_wp2
  go_ret
  exact ⟨rfl, rfl⟩

theorem bytes10_big (r : Int) (up : Bool) (t : ByteArray) (w : World) (h : 1048576 < t.size) :
    Calls Try.prog 10 #[.int .i32 r, .bool up, .string t] w fun e w' => e = .returned (.bool false) ∧ w' = w := by
  go_enter Try.func10, Try.ntmps10
  go_wp2
  go_ret
  exact ⟨rfl, rfl⟩

/-- hexDigitChar. -/
theorem digit_any (v : Nat) (up : Bool) (w : World) (hv : v ≤ 15) :
    Calls Try.prog 11 #[.int .i32 v, .bool up] w fun e w' => e = .returned (.int .u8 (hexc v up)) ∧ w' = w := by
  by_cases h : v < 10
  · have e : hexc v up = 48 + v := if_pos h
    rw [e]
    clear e
    go_enter Try.func11, Try.ntmps11
    go_wp2
    go_ret
    exact ⟨rfl, rfl⟩
  · cases up with
    | true =>
      have e : hexc v true = 65 + v - 10 := by rw [hexc, if_neg h, if_pos rfl]; omega
      rw [e]
      clear e
      go_enter Try.func11, Try.ntmps11
      go_wp2
      go_ret
      exact ⟨rfl, rfl⟩
    | false =>
      have e : hexc v false = 97 + v - 10 := by rw [hexc, if_neg h, if_neg (by decide)]; omega
      rw [e]
      clear e
      go_enter Try.func11, Try.ntmps11
      go_wp2
      go_ret
      exact ⟨rfl, rfl⟩

/-- What the first k digits say. -/
def val (d : Nat → Nat) : Nat → Nat
  | 0 => 0
  | k + 1 => val d k * 16 + d k

theorem val_lt (d : Nat → Nat) (hd : ∀ i, d i ≤ 15) : ∀ k, val d k < 16 ^ k
  | 0 => by simp [val]
  | k + 1 => by
    have := val_lt d hd k
    have := hd k
    simp only [val, Nat.pow_succ]
    omega

theorem i32_join (x y : Int) (hx₀ : 0 ≤ x) (hx : x % 16 = 0) (hx₁ : x < 2147483648) (h₀ : 0 ≤ y) (h₁ : y < 16) : bits .or .i32 x y = x + y :=
  bits_join .i32 31 (by decide) wraps_i32 4 x y hx₀ hx hx₁ h₀ h₁ (by omega)

theorem i32_low (x : Int) (h₀ : 0 ≤ x) (h₁ : x < 2147483648) : bits .and .i32 x 15 = x % 16 := bits_mask .i32 31 (by decide) wraps_i32 4 (by decide) x h₀ h₁

theorem or_upper (v : Nat) (h : 10 ≤ v) (h2 : v ≤ 15) : bits .or .u8 (55 + (v : Int)) 32 = 87 + v := by
  have : v = 10 ∨ v = 11 ∨ v = 12 ∨ v = 13 ∨ v = 14 ∨ v = 15 := by omega
  rcases this with rfl | rfl | rfl | rfl | rfl | rfl <;> decide

theorem or_lower (v : Nat) (h : 10 ≤ v) (h2 : v ≤ 15) : bits .or .u8 (87 + (v : Int)) 32 = 87 + v := by
  have : v = 10 ∨ v = 11 ∨ v = 12 ∨ v = 13 ∨ v = 14 ∨ v = 15 := by omega
  rcases this with rfl | rfl | rfl | rfl | rfl | rfl <;> decide

theorem conv26 (t : ByteArray) (wx : World) : (convert 9 26 (.string t)).run Try.prog wx = .ok (.slice (some ⟨wx.heap.size, 0, none⟩) t.size (grownCap wx t.size 0 5))
      (wx.drew.alloc (.cells (bytesRow t (grownCap wx t.size 0 5)) 5 ((bytesRow t (grownCap wx t.size 0 5)).size, (bytesRow t (grownCap wx t.size 0 5)).size + 1))) :=
  run_bytes_of_string wx 9 26 5 t Try.underlying9 Try.underlying26 Try.underlying5

/-- A string that begins with the four digits' escape. -/
structure IsEsc (s : ByteArray) (d : Nat → Nat) (up : Bool) : Prop where
  size : 6 ≤ s.size
  len : s.size ≤ 9223372036854775807
  i0 : ∀ wx : World, (Instr.index 9 (.string s) (.int .i64 0)).run Try.prog wx = .ok (.int .u8 92) wx
  i1 : ∀ wx : World, (Instr.index 9 (.string s) (.int .i64 1)).run Try.prog wx = .ok (.int .u8 117) wx
  dig : ∀ j (h : j < (s.extract 2 6).data.size), (((s.extract 2 6).data[j]'h).toNat : Int) = hexc (d j) up
  le : ∀ i, d i ≤ 15

theorem hex4_any (s : ByteArray) (d : Nat → Nat) (up : Bool) (h : IsEsc s d up) (w : World) :
    Calls Try.prog 17 #[.string s] w fun e w' => e = .returned (.tuple #[.int .i32 (val d 4), .bool true]) ∧ Below w.heap.size w w' := by
  have hs6 := h.size
  have hsl := h.len
  have hi0 := h.i0
  have hi1 := h.i1
  have ht : (s.extract 2 6).size = 4 := by simp [ByteArray.size_extract]; omega
  have hcell : ∀ j, j < 4 → ∀ wx : World, ∀ cap, (wx.drew.alloc (.cells (bytesRow (s.extract 2 6) cap) 5 ((bytesRow (s.extract 2 6) cap).size, (bytesRow (s.extract 2 6) cap).size + 1))).cell? ⟨wx.heap.size, j, none⟩ = some (.int .u8 (hexc (d j) up)) := by
    intro j hj wx cap
    have hj' : j < (s.extract 2 6).data.size := by show j < (s.extract 2 6).size; omega
    have e : wx.drew.heap.size = wx.heap.size := rfl
    rw [← e, World.cell?_alloc_mark, bytesRow_at _ _ _ hj', h.dig j hj']
  have hcut : ∀ wx : World, (Instr.slice 9 (.string s) (some (.int .i64 2)) (some (.int .i64 6)) none).run Try.prog wx = .ok (.string (s.extract 2 6)) wx := fun wx =>
    run_slice_string wx 9 s .i64 .i64 2 6 Try.underlying9 (by decide) (by decide) (by omega)
  have hcv := conv26 (s.extract 2 6)
  generalize s.extract 2 6 = t at *
  have hcell' : Hid (∀ j, j < 4 → ∀ wx : World, ∀ cap, (wx.drew.alloc (.cells (bytesRow t cap) 5 ((bytesRow t cap).size, (bytesRow t cap).size + 1))).cell? ⟨wx.heap.size, j, none⟩ = some (.int .u8 (hexc (d j) up))) := hcell
  clear hcell
  go_enter Try.func17, Try.ntmps17
  go_wp2
  have hb : Below w.heap.size w (w.alloc (Obj.cells (bytesRow t (grownCap w 4 0 5)) 5 ((bytesRow t (grownCap w 4 0 5)).size, (bytesRow t (grownCap w 4 0 5)).size + 1))).drew := ((Below.refl _ _).alloc (Nat.le_refl _) _).drew
  have hc : Hid (∀ j, j < 4 → (w.alloc (Obj.cells (bytesRow t (grownCap w 4 0 5)) 5 ((bytesRow t (grownCap w 4 0 5)).size, (bytesRow t (grownCap w 4 0 5)).size + 1))).drew.cell? ⟨w.heap.size, j, none⟩ = some (.int .u8 (hexc (d j) up))) := fun j hj => hcell'.out j hj w _
  generalize (w.alloc (Obj.cells (bytesRow t (grownCap w 4 0 5)) 5 ((bytesRow t (grownCap w 4 0 5)).size, (bytesRow t (grownCap w 4 0 5)).size + 1))).drew = w2 at *
  clear hcell' hcv hcut hi0 hi1 ht
  have hle := h.le
  clear h
  go_loop [4, 24] (fun rv i => ∃ k : Nat, k ≤ 4 ∧ i = .int .i64 k ∧ rv = .int .i32 (val d k)) (fun _ i => 4 - (intOf i).toNat)
  case atStart => exact ⟨0, by omega, rfl, rfl⟩
  case round =>
    obtain ⟨k, hk, rfl, rfl⟩ := hrel
    by_cases hk4 : k < 4
    · have c1 := hc.out k hk4
      have hv : val d k < 4096 := by
        have h1 := val_lt d hle k
        have h2 : 16 ^ k ≤ 16 ^ 3 := Nat.pow_le_pow_right (by decide) (by omega)
        omega
      have hD := hle k
      have hstep : Hid (val d (k + 1) = val d k * 16 + d k) := rfl
      generalize val d k = a at *
      generalize d k = v at *
      clear hle hc
      by_cases h10 : v < 10
      · rw [hexc, if_pos h10] at c1
        go_wp2
        go_round
        case rel => exact ⟨k + 1, by omega, by go_num, by rw [hstep.out, i32_join _ _ (by omega) (by omega) (by omega) (by omega) (by omega)]; congr 1; omega⟩
        case measure => simp [intOf]; omega
      · cases up with
        | true =>
          rw [hexc, if_neg h10, if_pos rfl] at c1
          have ho := or_upper v (by omega) hD
          go_wp2
          go_round
          case rel => exact ⟨k + 1, by omega, by go_num, by rw [hstep.out, i32_join _ _ (by omega) (by omega) (by omega) (by omega) (by omega)]; congr 1; omega⟩
          case measure => simp [intOf]; omega
        | false =>
          rw [hexc, if_neg h10, if_neg (by decide)] at c1
          have ho := or_lower v (by omega) hD
          go_wp2
          go_round
          case rel => exact ⟨k + 1, by omega, by go_num, by rw [hstep.out, i32_join _ _ (by omega) (by omega) (by omega) (by omega) (by omega)]; congr 1; omega⟩
          case measure => simp [intOf]; omega
    · obtain rfl : k = 4 := by omega
      clear hc hle
      go_wp2
      go_ret2
      exact ⟨rfl, hb⟩

theorem hex8_any (s : ByteArray) (d : Nat → Nat) (up : Bool) (h : IsEsc s d up) (w : World) :
    Calls Try.prog 8 #[.string s] w fun e w' => e = .returned (.tuple #[.int .i32 (val d 4), .bool true]) ∧ Below w.heap.size w w' := by
  go_enter Try.func8, Try.ntmps8
  go_wp2_with (go_at_call 17; refine (hex4_any s d up h _).mono ?_; rintro e w' ⟨rfl, hb⟩)
  go_ret2
  exact ⟨rfl, hb⟩

end Go.Proofs.Qxb6605392a
