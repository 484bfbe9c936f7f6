/-
  THE LAWS ON joinPath: the plain law on the last slash.
-/
import Derived.Test.Qxb6605470aJoinLeaf
namespace Go.Proofs.Qxb6605470a
open Go.RowKit

theorem joinP_empty {d : ByteArray} (n : ByteArray) (h : d.size = 0) : joinP d n = n := if_pos h
theorem joinP_some {d : ByteArray} (n : ByteArray) (h : d.size ≠ 0) : joinP d n = d ++ ⟨#[47]⟩ ++ n := if_neg h

theorem cat_data (d n : ByteArray) : (d ++ ⟨#[47]⟩ ++ n).data = d.data ++ #[47] ++ n.data := by simp [ByteArray.data_append]

theorem cat_size (d n : ByteArray) : (d ++ ⟨#[47]⟩ ++ n).size = d.size + 1 + n.size := by
  show (d ++ ⟨#[47]⟩ ++ n).data.size = _
  rw [cat_data]; simp

theorem cat_slash (d n : ByteArray) (h : d.size < (d ++ ⟨#[47]⟩ ++ n).size) : (d ++ ⟨#[47]⟩ ++ n)[d.size]'h = 47 := by
  show (d ++ ⟨#[47]⟩ ++ n).data[d.size] = 47
  have e := cat_data d n
  have : (d ++ ⟨#[47]⟩ ++ n).data[d.size]? = some 47 := by
    rw [e]
    show (d.data ++ #[47] ++ n.data)[d.data.size]? = some 47
    rw [Array.append_assoc, Array.getElem?_append_right (Nat.le_refl _), Array.getElem?_append_left (by simp)]
    simp
  obtain ⟨_, h2⟩ := Array.getElem?_eq_some_iff.1 this
  exact h2

theorem cat_right (d n : ByteArray) (j : Nat) (hj : j < n.size) (h : d.size + 1 + j < (d ++ ⟨#[47]⟩ ++ n).size) : (d ++ ⟨#[47]⟩ ++ n)[d.size + 1 + j]'h = n[j]'hj := by
  show (d ++ ⟨#[47]⟩ ++ n).data[d.size + 1 + j] = n.data[j]
  have e := cat_data d n
  have : (d ++ ⟨#[47]⟩ ++ n).data[d.size + 1 + j]? = some n.data[j] := by
    rw [e]
    show (d.data ++ #[47] ++ n.data)[d.data.size + 1 + j]? = some n.data[j]
    rw [Array.getElem?_append_right (by simp)]
    simp
  obtain ⟨_, h2⟩ := Array.getElem?_eq_some_iff.1 this
  exact h2

theorem cat_left (d n : ByteArray) : (((d ++ ⟨#[47]⟩ ++ n).extract 0 d.size).toList == d.toList) = true := by
  have : (d ++ ⟨#[47]⟩ ++ n).extract 0 d.size = d := by
    apply ByteArray.ext
    rw [ByteArray.data_extract, cat_data]
    show (d.data ++ #[47] ++ n.data).extract 0 d.data.size = d.data
    rw [Array.append_assoc]
    simp
  rw [this]; simp

theorem cat_rest (d n : ByteArray) : (((d ++ ⟨#[47]⟩ ++ n).extract (d.size + 1) (d.size + 1 + n.size)).toList == n.toList) = true := by
  have : (d ++ ⟨#[47]⟩ ++ n).extract (d.size + 1) (d.size + 1 + n.size) = n := by
    apply ByteArray.ext
    rw [ByteArray.data_extract, cat_data]
    have e1 : d.size + 1 = (d.data ++ #[47]).size := by simp
    have e2 : d.size + 1 + n.size = (d.data ++ #[47]).size + n.data.size := by simp
    rw [e2, e1]
    have e3 : (d.data ++ #[47]).extract (d.data ++ #[47]).size ((d.data ++ #[47]).size + n.data.size) = #[] := Array.extract_empty_of_size_le_start (Nat.le_refl _)
    rw [Array.extract_append, e3]
    simp
  rw [this]; simp

theorem last_cat {d n : ByteArray} {e : Ending} (hn : NoSl n 0 n.size) (h : LastP (d ++ ⟨#[47]⟩ ++ n) e) : e = .returned (.int .i64 d.size) := by
  have hsz := cat_size d n
  have hsl := cat_slash d n (by omega)
  obtain ⟨k, rfl, ⟨rfl, h1⟩ | ⟨m, hm, rfl, h1, h2⟩⟩ := h
  · exact absurd (by rw [hsl]; rfl) (h1 d.size (Nat.zero_le _) (by omega) (by omega))
  · rcases Nat.lt_trichotomy m d.size with h3 | h3 | h3
    · exact absurd (by rw [hsl]; rfl) (h2 d.size h3 (by omega) (by omega))
    · rw [h3]
    · obtain ⟨j, rfl⟩ : ∃ j, m = d.size + 1 + j := ⟨m - (d.size + 1), by omega⟩
      rw [cat_right d n j (by omega) hm] at h1
      exact absurd h1 (hn j (Nat.zero_le _) (by omega) (by omega))

theorem last_none {n : ByteArray} {e : Ending} (hn : NoSl n 0 n.size) (h : LastP n e) : e = .returned (.int .i64 (-1)) := by
  obtain ⟨k, rfl, ⟨rfl, _⟩ | ⟨m, hm, rfl, h1, _⟩⟩ := h
  · rfl
  · exact absurd h1 (hn m (Nat.zero_le _) hm hm)

theorem full_list {d : ByteArray} (h : d.size ≠ 0) : (d.toList == ([] : List UInt8)) = false := by
  rw [ByteArray.toList_eq]
  have : d.data.toList.length ≠ 0 := by simpa using h
  cases hd : d.data.toList with
  | nil => rw [hd] at this; exact absurd rfl this
  | cons x xs => rfl

/-- The walk of the first law. -/
theorem splits_walk (d n : ByteArray) (hd : d.size ≤ maxLen) (hn : n.size ≤ maxLen) (w : World) :
    Calls Try.prog 3 #[.string d, .string n] w fun e w' => e = .returned (.bool true) ∧ w' = w := by
  unfold maxLen at hd hn
  by_cases h1 : d.size ≤ 524288
  · by_cases h2 : n.size ≤ 524288
    · by_cases h0 : d.size = 0
      · have he : (d.toList == ([] : List UInt8)) = true := by rw [empty_list h0]; rfl
        have hj := joinP_empty n h0
        go_enter Try.func3, Try.ntmps3
        go_wp2_with (first
          | (go_at_call 5; refine (bytes5_small _ _ _ h1 h2).mono ?_; rintro e w' ⟨rfl, rfl⟩)
          | (go_at_call 6; refine (hasSlash_any _ _ hn).mono ?_; rintro e w' ⟨⟨b, rfl, hb⟩, rfl⟩; have HB : Hid (b = false → NoSl n 0 n.size) := hb; clear hb; cases b)
          | (go_at_call 7; refine (join7_any _ _ _ (by omega)).mono ?_; rintro e w' ⟨rfl, rfl⟩; rw [hj])
          | (go_at_call 8; refine (lastSlash_any _ _ hn).mono ?_; rintro e w' ⟨hl, rfl⟩; obtain rfl := last_none (HB.out (by trivial)) hl; clear hl))
        · go_ret
          exact ⟨rfl, rfl⟩
        · go_ret
          exact ⟨rfl, rfl⟩
      · have he := full_list h0
        have hj := joinP_some n h0
        have hsz := cat_size d n
        have hL := cat_left d n
        have hR := cat_rest d n
        have HL : ∀ e, Hid (NoSl n 0 n.size) → LastP (d ++ ⟨#[47]⟩ ++ n) e → e = .returned (.int .i64 d.size) := fun e h1 h2 => last_cat h1.out h2
        generalize d ++ ⟨#[47]⟩ ++ n = p at *
        have HJ : Hid (joinP d n = p) := hj
        have HLL : Hid (∀ e, Hid (NoSl n 0 n.size) → LastP p e → e = .returned (.int .i64 d.size)) := HL
        clear hj HL
        go_enter Try.func3, Try.ntmps3
        go_wp2_with (first
          | (go_at_call 5; refine (bytes5_small _ _ _ h1 h2).mono ?_; rintro e w' ⟨rfl, rfl⟩)
          | (go_at_call 6; refine (hasSlash_any _ _ hn).mono ?_; rintro e w' ⟨⟨b, rfl, hb⟩, rfl⟩; have HB : Hid (b = false → NoSl n 0 n.size) := hb; clear hb; cases b)
          | (go_at_call 7; refine (join7_any _ _ _ (by omega)).mono ?_; rintro e w' ⟨rfl, rfl⟩; rw [HJ.out])
          | (go_at_call 8; refine (lastSlash_any _ _ (by omega)).mono ?_; rintro e w' ⟨hl, rfl⟩; obtain rfl := HLL.out _ (HB.out (by trivial)) hl; clear hl))
        · go_ret
          exact ⟨rfl, rfl⟩
        · go_ret
          exact ⟨rfl, rfl⟩
    · go_enter Try.func3, Try.ntmps3
      go_wp2_with (go_at_call 5; refine (bytes5_any _ _ _ hd hn).mono ?_; rintro e w' ⟨⟨b, rfl⟩, rfl⟩; cases b)
      all_goals
        go_ret
        exact ⟨rfl, rfl⟩
  · go_enter Try.func3, Try.ntmps3
    go_wp2_with (go_at_call 5; refine (bytes5_any _ _ _ hd hn).mono ?_; rintro e w' ⟨⟨b, rfl⟩, rfl⟩; cases b)
    all_goals
      go_ret
      exact ⟨rfl, rfl⟩

end Go.Proofs.Qxb6605470a
