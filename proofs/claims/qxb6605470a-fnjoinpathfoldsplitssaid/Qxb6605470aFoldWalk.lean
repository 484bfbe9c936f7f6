/-
  THE SECOND LAW ON joinPath: zzBytes, and the walk of the law itself.
-/
import Derived.Test.Qxb6605470aFoldSplit
import Derived.Deep.OwnRows
import Derived.BigQuiet
namespace Go.Proofs.Qxb6605470a
open Go.RowKit

/-- What zzBytes says. -/
def BytesP (S : Nat → ByteArray) (len : Nat) (e : Ending) : Prop := ∃ b, e = .returned (.bool b) ∧ (b = true → ∀ i, i < len → (S i).size ≤ 1048576)

theorem bytes9_zero (a : Option Addr) (cap : Nat) (w : World) : Calls Try.prog 9 #[.slice a 0 cap] w fun e w' => e = .returned (.bool true) ∧ w' = w := by
  go_enter Try.func9, Try.ntmps9
  go_wp2
  go_loop [4] (fun i => i = .int .i64 0) (fun _ => 0)
  case atStart => rfl
  case round =>
    subst hrel
    go_wp2
    go_ret
    exact ⟨rfl, rfl⟩

theorem bytes9_pos (S : Nat → ByteArray) (b off len cap : Nat) (w : World) (hl : len ≤ 9223372036854775807) (hc : ∀ i, i < len → w.cell? ⟨b, off + i, none⟩ = some (.string (S i))) (hs : ∀ i, i < len → (S i).size ≤ 9223372036854775807) :
    Calls Try.prog 9 #[.slice (some ⟨b, off, none⟩) len cap] w fun e w' => BytesP S len e ∧ w' = w := by
  by_cases h1 : len ≤ 1048576
  · have HC : Hid (∀ i, i < len → w.cell? ⟨b, off + i, none⟩ = some (.string (S i))) := hc
    have HS : Hid (∀ i, i < len → (S i).size ≤ 9223372036854775807) := hs
    clear hc hs
    go_enter Try.func9, Try.ntmps9
    go_wp2
    go_loop [3, 4] (fun z i => ∃ k n : Nat, k ≤ len ∧ n ≤ 1048576 ∧ i = .int .i64 k ∧ z = .int .i64 n ∧ Hid (∀ i, i < k → (S i).size ≤ 1048576)) (fun _ i => len - (intOf i).toNat)
    case atStart => exact ⟨0, len, Nat.zero_le _, h1, rfl, rfl, fun i h => absurd h (Nat.not_lt_zero _)⟩
    case round =>
      obtain ⟨k, n, hk, hn, rfl, rfl, HK⟩ := hrel
      by_cases hlt : k < len
      · have c1 := HC.out k hlt
        have s1 := HS.out k hlt
        by_cases h2 : (S k).size ≤ 1048576
        · by_cases h3 : n + (S k).size ≤ 1048576
          · go_wp2
            go_round
            case rel => exact ⟨k + 1, n + (S k).size, by omega, h3, by go_num, by go_num, fun i hi => by
              rcases Nat.lt_or_ge i k with h4 | h4
              · exact HK.out i h4
              · obtain rfl : i = k := by omega
                exact h2⟩
            case measure => simp [intOf]; omega
          · go_wp2
            go_ret
            exact ⟨⟨_, rfl, fun h => by cases h⟩, rfl⟩
        · go_wp2
          go_ret
          exact ⟨⟨_, rfl, fun h => by cases h⟩, rfl⟩
      · obtain rfl : k = len := by omega
        go_wp2
        go_ret
        exact ⟨⟨_, rfl, fun _ => HK.out⟩, rfl⟩
  · clear hc hs
    go_enter Try.func9, Try.ntmps9
    go_wp2
    go_ret
    exact ⟨⟨_, rfl, fun h => by cases h⟩, rfl⟩

theorem fold_zero (a : Option Addr) (cap : Nat) (w : World) : Calls Try.prog 4 #[.slice a 0 cap] w fun e w' => e = .returned (.bool true) ∧ w' = w := by
  go_enter Try.func4, Try.ntmps4
  go_wp2_with (go_at_call 9; refine (bytes9_zero _ _ _).mono ?_; rintro e w' ⟨rfl, rfl⟩)
  go_loop [4] (fun i => i = .int .i64 0) (fun _ => 0)
  case atStart => rfl
  case round =>
    subst hrel
    go_wp2
    go_ret
    exact ⟨rfl, rfl⟩

theorem fold_long (S : Nat → ByteArray) (b off len cap : Nat) (w : World) (hl : len ≤ 9223372036854775807) (h : 256 < len) (hc : ∀ i, i < len → w.cell? ⟨b, off + i, none⟩ = some (.string (S i))) (hs : ∀ i, i < len → (S i).size ≤ 9223372036854775807) :
    Calls Try.prog 4 #[.slice (some ⟨b, off, none⟩) len cap] w fun e w' => e = .returned (.bool true) ∧ w' = w := by
  have H9 : Hid (Calls Try.prog 9 #[.slice (some ⟨b, off, none⟩) len cap] w fun e w' => BytesP S len e ∧ w' = w) := bytes9_pos S b off len cap w hl hc hs
  clear hc hs
  go_enter Try.func4, Try.ntmps4
  go_wp2_with (go_at_call 9; refine H9.out.mono ?_; rintro e w' ⟨⟨b, rfl, hb⟩, rfl⟩; clear hb H9; cases b)
  · go_ret
    exact ⟨rfl, rfl⟩
  · go_ret
    exact ⟨rfl, rfl⟩

/-- What the law's own first loop sums. -/
def tot (S : Nat → ByteArray) : Nat → Nat
  | 0 => 0
  | k + 1 => tot S k + (16 + (S k).size)

theorem pos_tot (S : Nat → ByteArray) : ∀ k, pos S k ≤ tot S k
  | 0 => Nat.le_refl _
  | k + 1 => by have := pos_tot S k; simp only [pos, tot]; omega

theorem tot_le (S : Nat → ByteArray) {q r : Nat} (h : q ≤ r) : tot S q ≤ tot S r := by
  induction h with
  | refl => exact Nat.le_refl _
  | step _ ih => exact Nat.le_trans ih (by simp only [tot]; omega)

end Go.Proofs.Qxb6605470a
