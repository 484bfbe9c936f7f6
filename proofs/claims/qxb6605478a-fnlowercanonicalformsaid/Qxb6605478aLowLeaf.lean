/-
  THE LAW ON Lower: the small functions' contracts.
-/
import Derived.Test.Qxb6605478aRows
import Derived.WalkKit
import Derived.Laws.IdiomStrings
namespace Go.Proofs.Qxb6605478a
open Go.RowKit

def upB (n : Int) : Bool := decide (65 ≤ n) && decide (n ≤ 90)

/-- One byte in lower case. -/
def lowB (b : UInt8) : UInt8 := if upB (b.toNat : Int) = true then UInt8.ofNat (b.toNat + 32) else b

/-- A string in lower case. -/
def lowS (s : ByteArray) : ByteArray := ⟨s.data.map lowB⟩

theorem lowS_size (s : ByteArray) : (lowS s).size = s.size := by
  show (s.data.map lowB).size = s.data.size
  simp

theorem lowS_at (s : ByteArray) (j : Nat) (h : j < s.size) (h' : j < (lowS s).size) : (lowS s)[j]'h' = lowB (s[j]'h) := by
  show (s.data.map lowB)[j]'(by simpa using h) = lowB (s.data[j]'h)
  simp

theorem upB_iff (n : Int) : upB n = true ↔ 65 ≤ n ∧ n ≤ 90 := by simp [upB]

theorem lowB_up {b : UInt8} (h : upB (b.toNat : Int) = true) : ((lowB b).toNat : Int) = b.toNat + 32 := by
  have h2 := (upB_iff _).1 h
  rw [lowB, if_pos h, UInt8.toNat_ofNat']
  omega

theorem lowB_not {b : UInt8} (h : upB (b.toNat : Int) = false) : lowB b = b := by
  rw [lowB, if_neg (by rw [h]; decide)]

theorem lowB_never (b : UInt8) : upB ((lowB b).toNat : Int) = false := by
  cases h : upB (b.toNat : Int) with
  | true =>
    rw [lowB_up h]
    have h2 := (upB_iff _).1 h
    cases h3 : upB ((b.toNat : Int) + 32) with
    | false => rfl
    | true => have h4 := (upB_iff _).1 h3; omega
  | false => rw [lowB_not h]; exact h

theorem lowS_twice (s : ByteArray) : lowS (lowS s) = lowS s := by
  unfold lowS
  congr 1
  simp only [Array.map_map]
  congr 1
  funext b
  exact lowB_not (lowB_never b)

/-- zzBytes. -/
theorem bytes5_small (s : ByteArray) (w : World) (h : s.size ≤ 1048576) :
    Calls Try.prog 5 #[.string s] w fun e w' => e = .returned (.bool true) ∧ w' = w := by
  go_enter Try.func5, Try.ntmps5
  go_wp2
  go_ret
  exact ⟨rfl, rfl⟩

theorem bytes5_big (s : ByteArray) (w : World) (h : 1048576 < s.size) :
    Calls Try.prog 5 #[.string s] w fun e w' => e = .returned (.bool false) ∧ w' = w := by
  go_enter Try.func5, Try.ntmps5
  go_wp2
  go_ret
  exact ⟨rfl, rfl⟩

/-- isUpperASCII. -/
theorem upper_any (n : Int) (w : World) : Calls Try.prog 9 #[.int .u8 n] w fun e w' => e = .returned (.bool (upB n)) ∧ w' = w := by
  by_cases h1 : 65 ≤ n
  · by_cases h2 : n ≤ 90
    · have : upB n = true := (upB_iff n).2 ⟨h1, h2⟩
      rw [this]
      clear this
      go_enter Try.func9, Try.ntmps9
      go_wp2
      go_ret
      exact ⟨rfl, rfl⟩
    · have : upB n = false := by simp [upB]; omega
      rw [this]
      clear this
      go_enter Try.func9, Try.ntmps9
      go_wp2
      go_ret
      exact ⟨rfl, rfl⟩
  · have : upB n = false := by simp [upB]; omega
    rw [this]
    clear this
    go_enter Try.func9, Try.ntmps9
    go_wp2
    go_ret
    exact ⟨rfl, rfl⟩

/-- ZZNameOf. -/
theorem nameOf_any (s : ByteArray) (w : World) : Calls Try.prog 6 #[.string s] w fun e w' => e = .returned (.agg #[.string s]) ∧ Below w.heap.size w w' := by
  go_enter Try.func6, Try.ntmps6
  go_wp2
  refine bodyPost_ret (v := .agg #[.string s]) (by simp [results, Try.results6, go_sem]) rfl ⟨rfl, ?_⟩
  exact (Below.refl _ _).alloc (Nat.le_refl _) _

/-- ZZWire. -/
theorem wire_any (s : ByteArray) (w : World) : Calls Try.prog 8 #[.agg #[.string s]] w fun e w' => e = .returned (.string s) ∧ Below w.heap.size w w' := by
  go_enter Try.func8, Try.ntmps8
  go_wp2
  go_ret
  refine ⟨rfl, ?_⟩
  exact (Below.refl _ _).alloc (Nat.le_refl _) _

end Go.Proofs.Qxb6605478a
