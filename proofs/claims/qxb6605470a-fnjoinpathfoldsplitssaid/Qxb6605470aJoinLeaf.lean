/-
  THE LAWS ON joinPath: the small functions' contracts.
-/
import Derived.Test.Qxb6605470aRows
import Derived.WalkKit
namespace Go.Proofs.Qxb6605470a
open Go.RowKit

/-- No slash from a on, ahead of b. -/
def NoSl (s : ByteArray) (a b : Nat) : Prop := ∀ j, a ≤ j → j < b → ∀ h : j < s.size, ((s[j]'h).toNat : Int) ≠ 47

/-- zzBytes, where the two are small. -/
theorem bytes5_small (d n : ByteArray) (w : World) (hd : d.size ≤ 524288) (hn : n.size ≤ 524288) :
    Calls Try.prog 5 #[.string d, .string n] w fun e w' => e = .returned (.bool true) ∧ w' = w := by
  go_enter Try.func5, Try.ntmps5
  go_wp2
  go_ret
  exact ⟨rfl, rfl⟩

/-- zzBytes, whatever they are. -/
theorem bytes5_any (d n : ByteArray) (w : World) (hd : d.size ≤ 9223372036854775807) (hn : n.size ≤ 9223372036854775807) :
    Calls Try.prog 5 #[.string d, .string n] w fun e w' => (∃ b, e = .returned (.bool b)) ∧ w' = w := by
  by_cases h1 : d.size ≤ 1048576
  · by_cases h2 : n.size ≤ 1048576
    · by_cases h3 : d.size + n.size ≤ 1048576
      · go_enter Try.func5, Try.ntmps5
        go_wp2
        go_ret
        exact ⟨⟨_, rfl⟩, rfl⟩
      · go_enter Try.func5, Try.ntmps5
        go_wp2
        go_ret
        exact ⟨⟨_, rfl⟩, rfl⟩
    · go_enter Try.func5, Try.ntmps5
      go_wp2
      go_ret
      exact ⟨⟨_, rfl⟩, rfl⟩
  · go_enter Try.func5, Try.ntmps5
    go_wp2
    go_ret
    exact ⟨⟨_, rfl⟩, rfl⟩

/-- What zzHasSlash says. -/
def HasP (s : ByteArray) (e : Ending) : Prop := ∃ b, e = .returned (.bool b) ∧ (b = false → NoSl s 0 s.size)

/-- What zzLastSlash says. -/
def LastP (s : ByteArray) (e : Ending) : Prop :=
  ∃ k : Int, e = .returned (.int .i64 k) ∧ ((k = -1 ∧ NoSl s 0 s.size) ∨ ∃ (n : Nat) (h : n < s.size), k = n ∧ ((s[n]'h).toNat : Int) = 47 ∧ NoSl s (n + 1) s.size)

/-- zzHasSlash. -/
theorem hasSlash_any (s : ByteArray) (w : World) (hs : s.size ≤ 9223372036854775807) :
    Calls Try.prog 6 #[.string s] w fun e w' => HasP s e ∧ w' = w := by
  go_enter Try.func6, Try.ntmps6
  go_wp2
  go_loop [3] (fun i => ∃ k : Nat, k ≤ s.size ∧ i = .int .i64 k ∧ NoSl s 0 k) (fun i => s.size - (intOf i).toNat)
  case atStart => exact ⟨0, Nat.zero_le _, rfl, fun j _ h => absurd h (Nat.not_lt_zero _)⟩
  case round =>
    obtain ⟨k, hk, rfl, hno⟩ := hrel
    have HN : Hid (NoSl s 0 k) := hno
    clear hno
    by_cases hlt : k < s.size
    · have hb : 0 ≤ (k : Int) ∧ (k : Int) < (s.size : Int) := by omega
      by_cases hc : ((s[k]'hlt).toNat : Int) = 47
      · go_wp2
        go_ret
        exact ⟨⟨_, rfl, fun h => by cases h⟩, rfl⟩
      · go_wp2
        go_round
        case rel => exact ⟨k + 1, by omega, by go_num, fun j h1 h2 h3 => by
          rcases Nat.lt_or_ge j k with h4 | h4
          · exact HN.out j h1 h4 h3
          · obtain rfl : j = k := by omega
            exact hc⟩
        case measure => simp [intOf]; omega
    · obtain rfl : k = s.size := by omega
      go_wp2
      go_ret
      exact ⟨⟨_, rfl, fun _ => HN.out⟩, rfl⟩

/-- zzLastSlash. -/
theorem lastSlash_any (s : ByteArray) (w : World) (hs : s.size ≤ 9223372036854775807) :
    Calls Try.prog 8 #[.string s] w fun e w' => LastP s e ∧ w' = w := by
  go_enter Try.func8, Try.ntmps8
  go_wp2
  go_loop [3] (fun i => ∃ m : Nat, m ≤ s.size ∧ i = .int .i64 ((m : Int) - 1) ∧ NoSl s m s.size) (fun i => (intOf i + 1).toNat)
  case atStart => exact ⟨s.size, Nat.le_refl _, rfl, fun j h1 h2 => absurd h2 (by omega)⟩
  case round =>
    obtain ⟨m, hm, rfl, hno⟩ := hrel
    have HN : Hid (NoSl s m s.size) := hno
    clear hno
    cases m with
    | zero =>
      go_wp2
      go_ret
      exact ⟨⟨_, rfl, .inl ⟨rfl, HN.out⟩⟩, rfl⟩
    | succ k =>
      have hlt : k < s.size := hm
      have hb : 0 ≤ (k : Int) ∧ (k : Int) < (s.size : Int) := by omega
      have e1 : ((k + 1 : Nat) : Int) - 1 = k := by omega
      rw [e1]
      clear e1
      by_cases hc : ((s[k]'hlt).toNat : Int) = 47
      · go_wp2
        go_ret
        exact ⟨⟨_, rfl, .inr ⟨k, hlt, rfl, hc, HN.out⟩⟩, rfl⟩
      · go_wp2
        go_round
        case rel => exact ⟨k, by omega, by go_num, fun j h1 h2 h3 => by
          rcases Nat.lt_or_ge k j with h4 | h4
          · exact HN.out j h4 h2 h3
          · obtain rfl : j = k := by omega
            exact hc⟩
        case measure => simp [intOf]

/-- What joinPath joins. -/
def joinP (d n : ByteArray) : ByteArray := if d.size = 0 then n else d ++ ⟨#[47]⟩ ++ n

theorem empty_list {d : ByteArray} (h : d.size = 0) : d.toList = [] := by
  rw [ByteArray.toList_eq]
  exact List.length_eq_zero_iff.1 (by simpa using h)

theorem join11_any (d n : ByteArray) (w : World) (hs : d.size + 1 + n.size ≤ 9223372036854775807) :
    Calls Try.prog 11 #[.string d, .string n] w fun e w' => e = .returned (.string (joinP d n)) ∧ w' = w := by
  by_cases h : d.size = 0
  · have h1 : (d.toList == ([] : List UInt8)) = true := by rw [empty_list h]; rfl
    have h2 : joinP d n = n := if_pos h
    rw [h2]
    go_enter Try.func11, Try.ntmps11
    go_wp2
    go_ret
    exact ⟨rfl, rfl⟩
  · have h1 : (d.toList == ([] : List UInt8)) = false := by
      rw [ByteArray.toList_eq]
      have : d.data.toList.length ≠ 0 := by simpa using h
      cases hd : d.data.toList with
      | nil => rw [hd] at this; exact absurd rfl this
      | cons x xs => rfl
    have h2 : joinP d n = d ++ ⟨#[47]⟩ ++ n := if_neg h
    rw [h2]
    clear h2
    go_enter Try.func11, Try.ntmps11
    go_wp2
    go_ret
    exact ⟨rfl, rfl⟩

theorem join7_any (d n : ByteArray) (w : World) (hs : d.size + 1 + n.size ≤ 9223372036854775807) :
    Calls Try.prog 7 #[.string d, .string n] w fun e w' => e = .returned (.string (joinP d n)) ∧ w' = w := by
  go_enter Try.func7, Try.ntmps7
  go_wp2_with (go_at_call 11; refine (join11_any _ _ _ hs).mono ?_; rintro e w' ⟨rfl, rfl⟩)
  go_ret
  exact ⟨rfl, rfl⟩

end Go.Proofs.Qxb6605470a
