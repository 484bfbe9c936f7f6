/-
  THE LAW ON Insert: the walk.
-/
import Derived.Test.Qxb6003857aInsertInv
import Derived.Deep.RegionWith
namespace Go.Proofs.Qxb6003857a
open Go.RowKit Go.Maps Go.WideMaps

theorem ins_big (a0 : Option Addr) (len0 cap0 : Nat) (w : World) (h : 64 < len0) (hm : len0 ≤ maxLen) :
    Calls Try.prog 3 #[.slice a0 len0 cap0] w fun e w' => e = .returned (.bool true) ∧ Below w.heap.size w w' := by
  unfold maxLen at hm
  by_cases h2 : len0 ≤ 1048576
  · go_enter Try.func3, Try.ntmps3
    go_wp2
    go_ret
    exact ⟨rfl, Below.refl _ _⟩
  · go_enter Try.func3, Try.ntmps3
    go_wp2
    go_ret
    exact ⟨rfl, Below.refl _ _⟩

theorem size5 (w : World) : (sizeOf 5).run Try.prog w = .ok 1 w := by kernel_rfl

theorem index22 (b k len : Nat) (hk : k < len) (wx : World) : (Instr.indexAt 22 (.slice (some ⟨b, 0, none⟩) len len) (.int .i64 k)).run Try.prog wx = .ok (.pointer (some ⟨b, k, none⟩)) wx := by
  have e : Try.prog.elem 22 = 5 := by simp [Program.elem, Try.underlying22]
  rw [run_indexAt_slice wx 22 _ _ _ _ _ (by rw [e]; exact Try.underlying22), if_pos (by omega), e, size5]
  simp [Result.andThen, Addr.add]
  omega

set_option maxHeartbeats 4000000 in
theorem ins_small (a0 : Option Addr) (len0 cap0 : Nat) (z0 : List Int) (w : World) (h : len0 ≤ 64) (w0 : IsRow .u8 w a0 len0 cap0 z0) :
    Calls Try.prog 3 #[.slice a0 len0 cap0] w fun e w' => e = .returned (.bool true) ∧ Below w.heap.size w w' := by
  have W0 : Hid (IsRow .u8 w a0 len0 cap0 z0) := w0
  clear w0
  go_enter Try.func3, Try.ntmps3
  go_wp2_with (first
    | (go_at_call 7; refine (clone_any _ _ _ _ _ W0.out h).mono ?_; rintro e w1 ⟨a1, b1, rfl, hb1, hc1⟩)
    | (go_at_call 8; refine (newScope_any _ _).mono ?_; rintro e w' ⟨rfl, rfl⟩)
    | (go_at_call 6; go_in))
  go_loopw [7] (fun i wr => ∃ k : Nat, ∃ p c : Nat → Option Addr, k ≤ len0 ∧ i = .int .i64 k ∧ Inv w1 wr k p c) (fun i _ => len0 - (intOf i).toNat)
  case atStart => exact ⟨0, _, _, Nat.zero_le _, rfl, Inv.start w1⟩
  case round =>
    obtain ⟨k, p, c, hk, rfl, hI⟩ := hrel
    by_cases hlt : k < len0
    · obtain ⟨ha1, hb, o, ho, hco⟩ := hc1 k hlt
      have hcr : wr.cell? ⟨b1, k, none⟩ = some (.int .u8 o) := (hI.below.cell (p := ⟨b1, k, none⟩) hb).trans hco
      have hix : ∀ wx : World, (Instr.indexAt 22 (.slice a1 len0 len0) (.int .i64 k)).run Try.prog wx = .ok (.pointer (some ⟨b1, k, none⟩)) wx := by
        intro wx
        rw [ha1]
        exact index22 b1 k len0 hlt wx
      clear ha1 hc1 hco W0
      go_wp2_with fail
      obtain ⟨j, hj, hj6⟩ : ∃ j : Nat, (o : Int) / 2 % 6 = j ∧ j < 6 := ⟨o / 2 % 6, by omega, by omega⟩
      rw [hj]
      clear hj
      refine (name_any j _ hj6).mono ?_
      rintro e w' ⟨rfl, rfl⟩
      go_wp2_with fail
      · have hI2 : Inv w1 (w'.alloc (Obj.cells #[Value.string (nm j), Value.nilIface, Value.bool false, Value.bool false] 34)) k p c := hI.keep ((Below.refl _ _).alloc (Nat.le_refl _) _)
        generalize w'.alloc (Obj.cells #[Value.string (nm j), Value.nilIface, Value.bool false, Value.bool false] 34) = w2 at hI2 ⊢
        generalize w'.heap.size = q
        have hI3 : Inv w1 w2.drew k p c := hI2.keep (Below.refl _ _).drew
        have c1 : w2.drew.cell? ⟨w1.heap.size + 1 + 1 + 1, 1, none⟩ = some (.map (some (w1.heap.size + 1 + 1))) := by simpa using hI3.cS.cell (i := 1) (by omega)
        have c2 : w2.drew.cell? ⟨w1.heap.size + 1 + 1 + 1 + 1 + 1, j, none⟩ = some (.pointer (c j)) := by simpa using hI3.cA.cell hj6
        have f2 : w2.drew.frozen? ⟨w1.heap.size + 1 + 1 + 1 + 1 + 1, j, none⟩ = false := hI3.cA.frozen j
        clear hI hcr
        go_region_with (first
          | (go_at_call 11; refine (insert_tab j _ _ hj6 (by omega) c1 hI3.cM).mono ?_; rintro e w3 ⟨rfl, hT, hturn⟩; have c3 := turned_cell hturn c2 (by show w1.heap.size + 1 + 1 + 1 + 1 + 1 ≠ w1.heap.size + 1 + 1; omega); have f3 := (hturn.frozen _).trans f2)
          | (go_at_call 10; refine (entityIs_any _ _).mono ?_; rintro e w' ⟨rfl, rfl⟩))
        all_goals
          clear c1 c2 f2
          cases hcj : c j with
          | none =>
            have hJ := hI3.child_new hturn hT hcj
            rw [hcj] at c3
            clear hcj hI2 hI3 hT hturn
            go_wp2
            go_roundw
            case rel => exact ⟨k + 1, p, _, by omega, by go_num, hJ⟩
            case measure => simp [intOf]; omega
          | some u =>
            have hJ := hI3.child_old hturn hT hcj
            rw [hcj] at c3
            clear hcj hI2 hI3 hT hturn
            go_wp2
            go_roundw
            case rel => exact ⟨k + 1, p, _, by omega, by go_num, hJ⟩
            case measure => simp [intOf]; omega
      · have hI2 : Inv w1 (w'.alloc (Obj.cells #[Value.string (nm j), Value.nilIface, Value.bool false, Value.bool false] 34)) k p c := hI.keep ((Below.refl _ _).alloc (Nat.le_refl _) _)
        generalize w'.alloc (Obj.cells #[Value.string (nm j), Value.nilIface, Value.bool false, Value.bool false] 34) = w2 at hI2 ⊢
        generalize w'.heap.size = q
        have hI3 : Inv w1 w2.drew k p c := hI2.keep (Below.refl _ _).drew
        have c1 : w2.drew.cell? ⟨w1.heap.size + 1, 1, none⟩ = some (.map (some w1.heap.size)) := by simpa using hI3.pS.cell (i := 1) (by omega)
        have c2 : w2.drew.cell? ⟨w1.heap.size + 1 + 1 + 1 + 1, j, none⟩ = some (.pointer (p j)) := by simpa using hI3.pA.cell hj6
        have f2 : w2.drew.frozen? ⟨w1.heap.size + 1 + 1 + 1 + 1, j, none⟩ = false := hI3.pA.frozen j
        clear hI hcr
        go_region_with (first
          | (go_at_call 11; refine (insert_tab j _ _ hj6 (by omega) c1 hI3.pM).mono ?_; rintro e w3 ⟨rfl, hT, hturn⟩; have c3 := turned_cell hturn c2 (by show w1.heap.size + 1 + 1 + 1 + 1 ≠ w1.heap.size; omega); have f3 := (hturn.frozen _).trans f2)
          | (go_at_call 10; refine (entityIs_any _ _).mono ?_; rintro e w' ⟨rfl, rfl⟩))
        all_goals
          clear c1 c2 f2
          cases hcj : p j with
          | none =>
            have hJ := hI3.parent_new hturn hT hcj
            rw [hcj] at c3
            clear hcj hI2 hI3 hT hturn
            go_wp2
            go_roundw
            case rel => exact ⟨k + 1, _, c, by omega, by go_num, hJ⟩
            case measure => simp [intOf]; omega
          | some u =>
            have hJ := hI3.parent_old hturn hT hcj
            rw [hcj] at c3
            clear hcj hI2 hI3 hT hturn
            go_wp2
            go_roundw
            case rel => exact ⟨k + 1, _, c, by omega, by go_num, hJ⟩
            case measure => simp [intOf]; omega
    · clear hc1 W0
      go_wp2
      go_loopw [12] (fun i wr => ∃ q : Nat, q ≤ 6 ∧ i = .int .i64 q ∧ Inv w1 wr k p c) (fun i _ => 6 - (intOf i).toNat)
      case atStart => exact ⟨0, by omega, rfl, hI⟩
      case round =>
        clear hI
        obtain ⟨q, hq, rfl, hI⟩ := hrel
        by_cases hq6 : q < 6
        · have c1 : wr.cell? ⟨w1.heap.size + 1 + 1 + 1 + 1 + 1, q, none⟩ = some (.pointer (c q)) := hI.cA.cell hq6
          have c2 : wr.cell? ⟨w1.heap.size + 1 + 1 + 1 + 1, q, none⟩ = some (.pointer (p q)) := hI.pA.cell hq6
          have hI2 : Inv w1 wr.drew k p c := hI.keep (Below.refl _ _).drew
          cases hcq : c q with
          | none =>
            rw [hcq] at c1
            have HC : Hid (c q = none) := hcq
            clear hcq
            go_wp2_with (first
              | (go_at_call 9; refine (name_any q _ hq6).mono ?_; rintro e w' ⟨rfl, rfl⟩)
              | (go_at_call 12; refine (hI.look_none hq6 HC.out).mono ?_; rintro e w' ⟨rfl, rfl⟩)
              | (go_at_call 10; refine (entityIs_any (p q) _).mono ?_; rintro e w' ⟨rfl, rfl⟩))
            clear HC c1 hI
            go_region_with (first
              | (go_at_call 12; refine (hI2.look_parent hq6).mono ?_; rintro e w' ⟨rfl, rfl⟩)
              | (go_at_call 10; refine (entityIs_any (p q) _).mono ?_; rintro e w' ⟨rfl, rfl⟩))
            all_goals
              go_wp2
              go_roundw
              case rel => exact ⟨q + 1, by omega, by go_num, hI2⟩
              case measure => simp [intOf]; omega
          | some u =>
            rw [hcq] at c1
            have HC : Hid (c q = some u) := hcq
            clear hcq
            go_wp2_with (first
              | (go_at_call 9; refine (name_any q _ hq6).mono ?_; rintro e w' ⟨rfl, rfl⟩)
              | (go_at_call 12; refine (hI.look_some hq6 HC.out).mono ?_; rintro e w' ⟨rfl, rfl⟩)
              | (go_at_call 10; refine (entityIs_any (some u) _).mono ?_; rintro e w' ⟨rfl, rfl⟩))
            clear HC c1 hI
            go_region_with (first
              | (go_at_call 12; refine (hI2.look_parent hq6).mono ?_; rintro e w' ⟨rfl, rfl⟩)
              | (go_at_call 10; refine (entityIs_any (p q) _).mono ?_; rintro e w' ⟨rfl, rfl⟩))
            all_goals
              go_wp2
              go_roundw
              case rel => exact ⟨q + 1, by omega, by go_num, hI2⟩
              case measure => simp [intOf]; omega
        · have hsz := hb1.size
          go_wp2
          go_ret
          exact ⟨rfl, hb1.trans (hI.below.mono hsz)⟩

end Go.Proofs.Qxb6003857a
