/-
  THE SECOND LAW ON joinPath: the plain part: joining names, and where each lies in what was joined.
-/
import Derived.Test.Qxb6605470aJoinLaw
namespace Go.Proofs.Qxb6605470a
open Go.RowKit

/-- The names from m on, c of them, joined. -/
def JR (S : Nat → ByteArray) (m : Nat) : Nat → ByteArray
  | 0 => ⟨#[]⟩
  | 1 => S m
  | c + 2 => JR S m (c + 1) ++ ⟨#[47]⟩ ++ S (m + (c + 1))

/-- One more ahead. -/
theorem JR_ahead (S : Nat → ByteArray) (m : Nat) : ∀ c, S m ++ ⟨#[47]⟩ ++ JR S (m + 1) (c + 1) = JR S m (c + 2)
  | 0 => rfl
  | c + 1 => by
    have ih := JR_ahead S m c
    show S m ++ ⟨#[47]⟩ ++ (JR S (m + 1) (c + 1) ++ ⟨#[47]⟩ ++ S (m + 1 + (c + 1))) = JR S m (c + 2) ++ ⟨#[47]⟩ ++ S (m + (c + 2))
    rw [← ih, show m + 1 + (c + 1) = m + (c + 2) by omega]
    simp only [ByteArray.append_assoc]

/-- Where name q begins. -/
def pos (S : Nat → ByteArray) : Nat → Nat
  | 0 => 0
  | q + 1 => pos S q + (S q).size + 1

theorem pos_le (S : Nat → ByteArray) {q r : Nat} (h : q ≤ r) : pos S q ≤ pos S r := by
  induction h with
  | refl => exact Nat.le_refl _
  | step _ ih => exact Nat.le_trans ih (by simp only [pos]; omega)

theorem pos_lt (S : Nat → ByteArray) {q r : Nat} (h : q < r) : pos S q + (S q).size + 1 ≤ pos S r := pos_le S (q := q + 1) h

theorem JR_size (S : Nat → ByteArray) : ∀ k, (JR S 0 (k + 1)).size + 1 = pos S (k + 1)
  | 0 => by simp [JR, pos]
  | k + 1 => by
    have ih := JR_size S k
    show (JR S 0 (k + 1) ++ ⟨#[47]⟩ ++ S (0 + (k + 1))).size + 1 = pos S (k + 1) + (S (k + 1)).size + 1
    rw [cat_size, Nat.zero_add]
    omega

theorem at_left (d n : ByteArray) {i : Nat} (h : i < d.size) : (d ++ ⟨#[47]⟩ ++ n).data[i]? = d.data[i]? := by
  rw [cat_data, Array.append_assoc, Array.getElem?_append_left h]
theorem at_mid (d n : ByteArray) : (d ++ ⟨#[47]⟩ ++ n).data[d.size]? = some 47 := by
  rw [cat_data]
  show (d.data ++ #[47] ++ n.data)[d.data.size]? = some 47
  rw [Array.append_assoc, Array.getElem?_append_right (Nat.le_refl _), Array.getElem?_append_left (by simp)]
  simp
theorem at_right (d n : ByteArray) (j : Nat) : (d ++ ⟨#[47]⟩ ++ n).data[d.size + 1 + j]? = n.data[j]? := by
  rw [cat_data]
  show (d.data ++ #[47] ++ n.data)[d.data.size + 1 + j]? = n.data[j]?
  rw [Array.getElem?_append_right (by simp)]
  simp

theorem JR_at (S : Nat → ByteArray) (q j : Nat) (hj : j < (S q).size) : ∀ k, q < k → (JR S 0 k).data[pos S q + j]? = (S q).data[j]?
  | 0, h => absurd h (Nat.not_lt_zero _)
  | 1, h => by
    obtain rfl : q = 0 := by omega
    simp [JR, pos]
  | k + 2, h => by
    have hz := JR_size S k
    show (JR S 0 (k + 1) ++ ⟨#[47]⟩ ++ S (0 + (k + 1))).data[pos S q + j]? = _
    rw [Nat.zero_add]
    rcases Nat.lt_or_ge q (k + 1) with h1 | h1
    · have h2 := pos_lt S h1
      rw [at_left _ _ (by omega)]
      exact JR_at S q j hj (k + 1) h1
    · obtain rfl : q = k + 1 := by omega
      rw [show pos S (k + 1) + j = (JR S 0 (k + 1)).size + 1 + j by omega, at_right]

theorem JR_slash (S : Nat → ByteArray) (q : Nat) : ∀ k, q + 1 < k → (JR S 0 k).data[pos S q + (S q).size]? = some 47
  | 0, h => absurd h (Nat.not_lt_zero _)
  | 1, h => by omega
  | k + 2, h => by
    have hz := JR_size S k
    show (JR S 0 (k + 1) ++ ⟨#[47]⟩ ++ S (0 + (k + 1))).data[pos S q + (S q).size]? = _
    rcases Nat.lt_or_ge (q + 1) (k + 1) with h1 | h1
    · have h2 := pos_lt S h1
      have h3 : pos S (q + 1) = pos S q + (S q).size + 1 := rfl
      rw [at_left _ _ (by omega)]
      exact JR_slash S q (k + 1) h1
    · obtain rfl : q = k := by omega
      have h3 : pos S (q + 1) = pos S q + (S q).size + 1 := rfl
      rw [show pos S q + (S q).size = (JR S 0 (q + 1)).size by omega, at_mid]

theorem JR_cut (S : Nat → ByteArray) (q n : Nat) (h : q < n) : (JR S 0 n).extract (pos S q) (pos S q + (S q).size) = S q := by
  have hlen : pos S q + (S q).size ≤ (JR S 0 n).size := by
    obtain ⟨k, rfl⟩ : ∃ k, n = k + 1 := ⟨n - 1, by omega⟩
    have := JR_size S k
    have := pos_lt S h
    omega
  apply ByteArray.ext
  rw [ByteArray.data_extract]
  apply Array.ext'
  apply List.ext_getElem?
  intro j
  rw [Array.getElem?_toList, Array.getElem?_toList, Array.getElem?_extract]
  have hlen' : pos S q + (S q).data.size ≤ (JR S 0 n).data.size := hlen
  split
  · rename_i hj
    have hj' : j < min (pos S q + (S q).data.size) (JR S 0 n).data.size - pos S q := hj
    exact JR_at S q j (by show j < (S q).data.size; omega) n h
  · rename_i hj
    have : (S q).data.size ≤ j := by
      have hj' : ¬ j < min (pos S q + (S q).data.size) (JR S 0 n).data.size - pos S q := hj
      omega
    rw [Array.getElem?_eq_none this]

/-- i lies in name q, or at its end. -/
structure InAt (S : Nat → ByteArray) (n q i : Nat) : Prop where
  lt : q < n
  lo : pos S q ≤ i
  hi : i ≤ pos S q + (S q).size

theorem InAt.start (S : Nat → ByteArray) (n : Nat) (h : 0 < n) : InAt S n 0 0 := ⟨h, by simp [pos], Nat.zero_le _⟩

theorem JR_size_at {S : Nat → ByteArray} {n q : Nat} (h : q < n) : pos S q + (S q).size ≤ (JR S 0 n).size ∧ (q + 1 < n → pos S q + (S q).size < (JR S 0 n).size) ∧ (q + 1 = n → pos S q + (S q).size = (JR S 0 n).size) := by
  obtain ⟨k, rfl⟩ : ∃ k, n = k + 1 := ⟨n - 1, by omega⟩
  have h1 := JR_size S k
  have h2 := pos_lt S h
  refine ⟨by omega, fun h3 => ?_, fun h3 => ?_⟩
  · have h4 := pos_lt S h3
    have h5 : pos S (q + 1) = pos S q + (S q).size + 1 := rfl
    omega
  · obtain rfl : q = k := by omega
    have h5 : pos S (q + 1) = pos S q + (S q).size + 1 := rfl
    omega

theorem InAt.last {S : Nat → ByteArray} {n q : Nat} (h : InAt S n q (JR S 0 n).size) : q + 1 = n := by
  have h1 := JR_size_at (S := S) h.lt
  have h2 := h.hi
  rcases Nat.lt_or_ge (q + 1) n with h3 | h3
  · have := h1.2.1 h3; omega
  · have := h.lt; omega

/-- What the byte at i says. -/
theorem InAt.step {S : Nat → ByteArray} {n q i : Nat} (hno : ∀ j, j < n → NoSl (S j) 0 (S j).size) (h : InAt S n q i) (hi : i < (JR S 0 n).size) :
    (∃ b : Int, (b == 47) = false ∧ (∀ wx : World, (Instr.index 9 (.string (JR S 0 n)) (.int .i64 i)).run Try.prog wx = .ok (.int .u8 b) wx) ∧ InAt S n q (i + 1)) ∨
    ((∀ wx : World, (Instr.index 9 (.string (JR S 0 n)) (.int .i64 i)).run Try.prog wx = .ok (.int .u8 47) wx) ∧ i = pos S q + (S q).size ∧ q + 1 < n ∧ InAt S n (q + 1) (i + 1) ∧ pos S (q + 1) = i + 1) := by
  have hz := JR_size_at (S := S) h.lt
  have hlo := h.lo
  have hhi := h.hi
  have hidx : ∀ (b : UInt8), (JR S 0 n).data[i]? = some b → ∀ wx : World, (Instr.index 9 (.string (JR S 0 n)) (.int .i64 i)).run Try.prog wx = .ok (.int .u8 (b.toNat : Int)) wx := by
    intro b hb wx
    rw [run_index_string wx 9 _ _ _ Try.underlying9, dif_pos (by omega)]
    obtain ⟨h1, h2⟩ := Array.getElem?_eq_some_iff.1 hb
    have e : (JR S 0 n)[(i : Int).toNat]'(by simpa using hi) = b := h2
    rw [e]
  rcases Nat.lt_or_ge i (pos S q + (S q).size) with h1 | h1
  · left
    obtain ⟨j, rfl⟩ : ∃ j, i = pos S q + j := ⟨i - pos S q, by omega⟩
    have hj : j < (S q).size := by omega
    have hat := JR_at S q j hj n h.lt
    have hb : (S q).data[j]? = some ((S q)[j]'hj) := Array.getElem?_eq_getElem hj
    refine ⟨_, ?_, hidx _ (hat.trans hb), ⟨h.lt, by omega, by omega⟩⟩
    have := hno q h.lt j (Nat.zero_le _) hj hj
    simpa using this
  · right
    have hie : i = pos S q + (S q).size := by omega
    have hq : q + 1 < n := by
      rcases Nat.lt_or_ge (q + 1) n with h3 | h3
      · exact h3
      · have := hz.2.2 (by have := h.lt; omega); omega
    have h5 : pos S (q + 1) = pos S q + (S q).size + 1 := rfl
    refine ⟨?_, hie, hq, ⟨hq, by omega, by omega⟩, by omega⟩
    have := hidx 47 (by rw [hie]; exact JR_slash S q n hq)
    exact this

end Go.Proofs.Qxb6605470a
