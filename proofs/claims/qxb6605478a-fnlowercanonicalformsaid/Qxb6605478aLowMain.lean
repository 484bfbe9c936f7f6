/-
  THE LAW ON Lower: the walk of the law itself.
-/
import Derived.Test.Qxb6605478aLowWalk
import Derived.Deep.RegionWith
namespace Go.Proofs.Qxb6605478a
open Go.RowKit

theorem f24 : (Try.prog.fieldsOf 24).toList.map (fun f => (f.name, f.type, f.offset)) = [("wire", 9, 0)] := by kernel_rfl
theorem part9 (a : ByteArray) (wx : World) : (part 9 #[.string a] 0).run Try.prog wx = .ok (.string a) wx := by kernel_rfl
theorem eql24 (a : ByteArray) (wx : World) : (binOp .eql 24 (.agg #[.string a]) (.agg #[.string a])).run Try.prog wx = .ok (.bool true) wx := by
  rw [run_eql_struct, run_equalIn_agg wx 9999 24 #[.string a] #[.string a] (by kernel_rfl) (by kernel_rfl)]
  have h := f24
  generalize (Try.prog.fieldsOf 24).toList = fs at h
  cases fs with
  | nil => cases h
  | cons f fs =>
    cases fs with
    | cons g gs => simp at h
    | nil =>
      simp only [List.map_cons, List.map_nil, List.cons.injEq, Prod.mk.injEq, and_true] at h
      obtain ⟨h0, h1, h2⟩ := h
      simp [Op.eqFields, h0, h1, h2, part9, run_equalIn_string wx 9998 9 a a Try.underlying9]

/-- One byte of the two strings. -/
theorem byte_at (s : ByteArray) (k : Nat) (h : k < s.size) : ∃ c d : Int,
    (∀ wx : World, (Instr.index 9 (.string s) (.int .i64 k)).run Try.prog wx = .ok (.int .u8 c) wx) ∧ (∀ wx : World, (Instr.index 9 (.string (lowS s)) (.int .i64 k)).run Try.prog wx = .ok (.int .u8 d) wx) ∧
    Hid (upB d = false) ∧ ((Hid (upB c = true) ∧ d = c + 32 ∧ 65 ≤ c ∧ c ≤ 90) ∨ (Hid (upB c = false) ∧ d = c)) := by
  have h2 : k < (lowS s).size := by rw [lowS_size]; exact h
  have e := lowS_at s k h h2
  refine ⟨((s[k]'h).toNat : Int), (((lowS s)[k]'h2).toNat : Int), fun wx => ?_, fun wx => ?_, ?_, ?_⟩
  · rw [run_index_string wx 9 _ _ _ Try.underlying9, dif_pos (by omega)]; rfl
  · rw [run_index_string wx 9 _ _ _ Try.underlying9, dif_pos (by omega)]; rfl
  · rw [e]; exact lowB_never _
  · rw [e]
    cases hu : upB ((s[k]'h).toNat : Int) with
    | true => exact .inl ⟨rfl, lowB_up hu, (upB_iff _).1 hu⟩
    | false => exact .inr ⟨rfl, by rw [lowB_not hu]⟩

set_option maxRecDepth 100000 in
theorem low_small (s : ByteArray) (hs : s.size ≤ 1048576) (w : World) : Calls Try.prog 3 #[.string s] w fun e w' => e = .returned (.bool true) ∧ Below w.heap.size w w' := by
  have hz := lowS_size s
  go_enter Try.func3, Try.ntmps3
  go_wp2_with (first
    | (go_at_call 5; refine (bytes5_small _ _ hs).mono ?_; rintro e w' ⟨rfl, rfl⟩)
    | (go_at_call 6; refine (nameOf_any _ _).mono ?_; rintro e w1 ⟨rfl, b1⟩)
    | (go_at_call 7; refine (lower_any _ _ hs).mono ?_; rintro e w2 ⟨rfl, b2⟩)
    | (go_at_call 8; refine (wire_any _ _).mono ?_; rintro e w3 ⟨rfl, b3⟩))
  have hq : w'.heap.size ≤ w2.heap.size := Nat.le_trans b1.size b2.size
  have hB : Below w'.heap.size w' w3 := (b1.trans (b2.mono b1.size)).trans (((Below.refl w'.heap.size w2).alloc hq _).trans (b3.mono (Nat.le_trans hq ((Below.refl w2.heap.size w2).alloc (Nat.le_refl _) _).size)))
  have c3 : w3.cell? ⟨w2.heap.size, 0, none⟩ = some (.string (lowS s)) := (b3.cell (p := ⟨w2.heap.size, 0, none⟩) (by simp [go_sem])).trans (World.cell?_alloc_new (w := w2) _ _ _)
  have hq3 : w2.heap.size < w3.heap.size := World.block_lt_of_cell? _ _ c3
  generalize w2.heap.size = q at *
  clear b1 b2 b3
  go_loop [5] (fun i => ∃ k : Nat, k ≤ s.size ∧ i = .int .i64 k) (fun i => s.size - (intOf i).toNat)
  case atStart => exact ⟨0, Nat.zero_le _, rfl⟩
  case round =>
    obtain ⟨k, hk, rfl⟩ := hrel
    by_cases hlt : k < s.size
    · obtain ⟨c, d, hic, hid, HD, hc⟩ := byte_at s k hlt
      rcases hc with ⟨HC, rfl, hc1, hc2⟩ | ⟨HC, rfl⟩
      · go_wp2_with (go_at_call 9; refine (upper_any _ _).mono ?_; rintro e w' ⟨rfl, rfl⟩; first | rw [HD.out] | rw [HC.out])
        go_round
        case rel => exact ⟨k + 1, by omega, by go_num⟩
        case measure => simp [intOf]; omega
      · go_wp2_with (go_at_call 9; refine (upper_any _ _).mono ?_; rintro e w' ⟨rfl, rfl⟩; first | rw [HD.out] | rw [HC.out])
        go_round
        case rel => exact ⟨k + 1, by omega, by go_num⟩
        case measure => simp [intOf]; omega
    · have he := eql24 (lowS s)
      have c3d : w3.drew.cell? ⟨q, 0, none⟩ = some (.string (lowS s)) := c3
      go_wp2_with fail
      go_region_with (go_at_call 7; refine (lower_any (lowS s) _ (by omega)).mono ?_; rintro e w4 ⟨rfl, b4⟩; rw [lowS_twice]; have c4 := (b4.cell (p := ⟨q, 0, none⟩) hq3).trans c3d)
      all_goals
        go_wp2
        go_ret
        exact ⟨rfl, hB.drew.trans (b4.mono hB.size)⟩

theorem low_walk (s : ByteArray) (hm : s.size ≤ maxLen) (w : World) : Calls Try.prog 3 #[.string s] w fun e w' => e = .returned (.bool true) ∧ Below w.heap.size w w' := by
  unfold maxLen at hm
  by_cases hs : s.size ≤ 1048576
  · exact low_small s hs w
  · have hs' : 1048576 < s.size := by omega
    go_enter Try.func3, Try.ntmps3
    go_wp2_with (go_at_call 5; refine (bytes5_big _ _ hs').mono ?_; rintro e w' ⟨rfl, rfl⟩)
    go_ret
    exact ⟨rfl, Below.refl _ _⟩

end Go.Proofs.Qxb6605478a
