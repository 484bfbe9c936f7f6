/-
  THE SECOND LAW ON joinPath: the walk of the law itself, at lists of 1 to 256 names.
-/
import Derived.Test.Qxb6605470aFoldWalk
namespace Go.Proofs.Qxb6605470a
open Go.RowKit

theorem JR_le (S : Nat → ByteArray) (m : Nat) : ∀ c, (JR S m c).size ≤ tot S (m + c)
  | 0 => Nat.zero_le _
  | 1 => by show (S m).size ≤ tot S m + (16 + (S m).size); omega
  | c + 2 => by
    have ih := JR_le S m (c + 1)
    show (JR S m (c + 1) ++ ⟨#[47]⟩ ++ S (m + (c + 1))).size ≤ tot S (m + (c + 1)) + (16 + (S (m + (c + 1))).size)
    rw [cat_size]
    omega

theorem join_on (S : Nat → ByteArray) (k : Nat) (h : 0 < k → (S 0).size ≠ 0) : joinP (JR S 0 k) (S k) = JR S 0 (k + 1) := by
  match k, h with
  | 0, _ => exact joinP_empty _ rfl
  | k + 1, h =>
    have h0 := h (by omega)
    have hz := JR_size S k
    have h2 := pos_lt S (q := 0) (r := k + 1) (by omega)
    have : pos S 0 = 0 := rfl
    rw [joinP_some _ (by omega)]
    show _ = JR S 0 (k + 1) ++ ⟨#[47]⟩ ++ S (0 + (k + 1))
    rw [Nat.zero_add]

theorem join_ahead (S : Nat → ByteArray) (m n : Nat) (h : m + 1 < n) (h0 : (S m).size ≠ 0) : joinP (S m) (JR S (m + 1) (n - (m + 1))) = JR S m (n - m) := by
  obtain ⟨c, rfl⟩ : ∃ c, n = m + 2 + c := ⟨n - (m + 2), by omega⟩
  rw [joinP_some _ h0, show m + 2 + c - (m + 1) = c + 1 by omega, show m + 2 + c - m = c + 2 by omega, JR_ahead]

/-- Both lists lie there. -/
structure Both (S : Nat → ByteArray) (n : Nat) (w wr : World) (g : Nat) : Prop where
  below : Below w.heap.size w wr
  mine : ∀ i, i < n → wr.cell? ⟨w.heap.size, i, none⟩ = some (.string (S i))
  parts : ∀ i, i < n → wr.cell? ⟨g, i, none⟩ = some (.string (S i))

theorem Both.drewN {S : Nat → ByteArray} {n : Nat} {w wr : World} {g : Nat} (h : Both S n w wr g) (m : Nat) : Both S n w (wr.drewN m) g :=
  ⟨h.below.trans ⟨rfl, rfl, rfl, Nat.le_refl _, fun _ _ => rfl⟩, h.mine, h.parts⟩

set_option maxRecDepth 100000 in
set_option maxHeartbeats 4000000 in
theorem fold_short (S : Nat → ByteArray) (b off len cap : Nat) (w : World) (hp : 0 < len) (h : len ≤ 256) (hc : ∀ i, i < len → w.cell? ⟨b, off + i, none⟩ = some (.string (S i))) (hs : ∀ i, i < len → (S i).size ≤ 9223372036854775807) :
    Calls Try.prog 4 #[.slice (some ⟨b, off, none⟩) len cap] w fun e w' => e = .returned (.bool true) ∧ Below w.heap.size w w' := by
  have H9 : Hid (Calls Try.prog 9 #[.slice (some ⟨b, off, none⟩) len cap] w fun e w' => BytesP S len e ∧ w' = w) := bytes9_pos S b off len cap w (by omega) hc hs
  have HC : Hid (∀ i, i < len → w.cell? ⟨b, off + i, none⟩ = some (.string (S i))) := hc
  have hbw : b < w.heap.size := World.block_lt_of_cell? _ _ (hc 0 hp)
  have hmk := run_make_row' (P := Try.prog) 26 9 (.string ⟨#[]⟩) 16 Try.underlying26 Try.info9 rfl .i64 .i64 len (by omega) (by omega)
  clear hc hs
  go_enter Try.func4, Try.ntmps4
  go_wp2_with (go_at_call 9; refine H9.out.mono ?_; rintro e w' ⟨⟨bb, rfl, hb⟩, hw⟩; obtain rfl := hw.symm; have HB : Hid (bb = true → ∀ i, i < len → (S i).size ≤ 1048576) := hb; clear hb H9 hw; cases bb)
  · go_ret
    exact ⟨rfl, Below.refl _ _⟩
  · have HS : Hid (∀ i, i < len → (S i).size ≤ 1048576) := HB.out (by trivial)
    clear HB
    go_loop [3, 4] (fun t i => ∃ k : Nat, k ≤ len ∧ i = .int .i64 k ∧ t = .int .i64 (tot S k : Nat) ∧ tot S k ≤ 65536) (fun _ i => len - (intOf i).toNat)
    case atStart => exact ⟨0, Nat.zero_le _, rfl, rfl, Nat.zero_le _⟩
    case round =>
      obtain ⟨k, hk, rfl, rfl, ht⟩ := hrel
      by_cases hlt : k < len
      · have c1 := HC.out k hlt
        have s1 := HS.out k hlt
        have hT : Hid (tot S (k + 1) = tot S k + (16 + (S k).size)) := rfl
        by_cases h3 : tot S k + (16 + (S k).size) ≤ 65536
        · go_wp2
          go_round
          case rel => exact ⟨k + 1, by omega, by go_num, by rw [hT.out]; go_num, by rw [hT.out]; exact h3⟩
          case measure => simp [intOf]; omega
        · go_wp2
          go_ret
          exact ⟨rfl, Below.refl _ _⟩
      · have e1 : len = k := by omega
        subst e1
        clear hlt hk
        go_wp2
        go_loop [5] (fun i => ∃ k : Nat, k ≤ len ∧ i = .int .i64 k ∧ Hid (∀ j, j < k → (S j).size ≠ 0 ∧ NoSl (S j) 0 (S j).size)) (fun i => len - (intOf i).toNat)
        case atStart => exact ⟨0, Nat.zero_le _, rfl, fun j h => absurd h (Nat.not_lt_zero _)⟩
        case round =>
          obtain ⟨k, hk, rfl, HK⟩ := hrel
          by_cases hlt : k < len
          · have c1 := HC.out k hlt
            have s1 := HS.out k hlt
            by_cases h0 : (S k).size = 0
            · have he : ((S k).toList == ([] : List UInt8)) = true := by rw [empty_list h0]; rfl
              clear h0
              go_wp2
              go_ret
              exact ⟨rfl, Below.refl _ _⟩
            · have he := full_list h0
              have H0 : Hid ((S k).size ≠ 0) := h0
              clear h0
              go_wp2_with (go_at_call 6; refine (hasSlash_any _ _ (by omega)).mono ?_; rintro e w' ⟨⟨bb, rfl, hb⟩, hw⟩; obtain rfl := hw.symm; have HB : Hid (bb = false → NoSl (S k) 0 (S k).size) := hb; clear hb hw; cases bb)
              · go_round
                case rel =>
                  exact ⟨k + 1, by omega, by go_num, fun j hj => by
                    rcases Nat.lt_or_ge j k with h4 | h4
                    · exact HK.out j h4
                    · obtain rfl : j = k := by omega
                      exact ⟨H0.out, HB.out (by trivial)⟩⟩
                case measure => simp [intOf]; omega
              · go_ret
                exact ⟨rfl, Below.refl _ _⟩
          · have e1 : len = k := by omega
            subst e1
            clear hlt hk HS
            go_wp2
            go_loopw [7] (fun i wr => ∃ k : Nat, k ≤ len ∧ i = .int .i64 k ∧ Below w.heap.size w wr ∧ wr.rowIs w.heap.size 9 len (fun i => if i < k then .string (S i) else .string ⟨#[]⟩)) (fun i _ => len - (intOf i).toNat)
            case atStart => exact ⟨0, Nat.zero_le _, rfl, (Below.refl _ _).alloc (Nat.le_refl _) _, (World.rowIs_made w (.string ⟨#[]⟩) len 9).congr (fun i _ => by simp)⟩
            case round =>
              clear hmk
              obtain ⟨k, hk, rfl, hbl, hrow⟩ := hrel
              by_cases hlt : k < len
              · have c1 : wr.cell? ⟨b, off + k, none⟩ = some (.string (S k)) := (hbl.cell (p := ⟨b, off + k, none⟩) hbw).trans (HC.out k hlt)
                have c2 : wr.cell? ⟨w.heap.size, k, none⟩ = some (.string ⟨#[]⟩) := by simpa using hrow.cell hlt
                have f2 := hrow.frozen k
                have hrow2 := hrow.set k (.string (S k))
                have hbl2 := hbl.setCell (p := ⟨w.heap.size, k, none⟩) (Nat.le_refl _) (.string (S k))
                go_wp2
                go_roundw
                case rel =>
                  refine ⟨k + 1, by omega, by go_num, hbl2, hrow2.congr (fun i _ => ?_)⟩
                  by_cases e : i = k
                  · subst e; simp
                  · have : (i < k + 1) = (i < k) := by simp; omega
                    simp [e, this]
                case measure => simp [intOf]; omega
              · have e1 : len = k := by omega
                subst e1
                have HR : Hid (∀ i, i < len → wr.cell? ⟨w.heap.size, i, none⟩ = some (.string (S i))) := fun i hi => by
                  rw [hrow.cell hi, if_pos hi]
                have hgt : w.heap.size < wr.heap.size := hrow.lt
                clear hrow hk hlt HC
                go_wp2
                go_loop [8, 9] (fun l i => ∃ k : Nat, k ≤ len ∧ i = .int .i64 k ∧ l = .string (JR S 0 k)) (fun _ i => len - (intOf i).toNat)
                case atStart => exact ⟨0, Nat.zero_le _, rfl, rfl⟩
                case round =>
                  obtain ⟨k, hk, rfl, rfl⟩ := hrel
                  by_cases hlt : k < len
                  · have c1 := HR.out k hlt
                    have HJ : Hid (joinP (JR S 0 k) (S k) = JR S 0 (k + 1)) := join_on S k (fun _ => (HK.out 0 hp).1)
                    have HZ : Hid ((JR S 0 k).size + 1 + (S k).size ≤ 9223372036854775807) := by
                      have h1 := JR_le S 0 k
                      have h2 : tot S (k + 1) = tot S k + (16 + (S k).size) := rfl
                      have h3 := tot_le S (q := k + 1) (r := len) hlt
                      rw [Nat.zero_add] at h1
                      show _ ≤ _
                      omega
                    go_wp2_with (go_at_call 7; refine (join7_any _ _ _ HZ.out).mono ?_; rintro e w' ⟨rfl, hw⟩; obtain rfl := hw.symm; clear hw; rw [HJ.out])
                    go_round
                    case rel => exact ⟨k + 1, by omega, by go_num, rfl⟩
                    case measure => simp [intOf]; omega
                  · have e1 : len = k := by omega
                    subst e1
                    have c1 := HR.out (len - 1) (by omega)
                    clear hk hlt
                    go_wp2
                    go_loop [10, 11] (fun r i => ∃ m : Nat, m + 1 ≤ len ∧ i = .int .i64 ((m : Int) - 1) ∧ r = .string (JR S m (len - m))) (fun _ i => (intOf i + 1).toNat)
                    case atStart => exact ⟨len - 1, by omega, by go_num, by rw [show len - (len - 1) = 1 by omega]; rfl⟩
                    case round =>
                      clear c1
                      obtain ⟨m, hm, rfl, rfl⟩ := hrel
                      cases m with
                      | succ m =>
                        have e1 : ((m + 1 : Nat) : Int) - 1 = m := by omega
                        rw [e1]
                        clear e1
                        have c1 := HR.out m (by omega)
                        have HJ : Hid (joinP (S m) (JR S (m + 1) (len - (m + 1))) = JR S m (len - m)) := join_ahead S m len hm (HK.out m (by omega)).1
                        have HZ : Hid ((S m).size + 1 + (JR S (m + 1) (len - (m + 1))).size ≤ 9223372036854775807) := by
                          have h1 := JR_le S (m + 1) (len - (m + 1))
                          have h2 : tot S (m + 1) = tot S m + (16 + (S m).size) := rfl
                          have h3 := tot_le S (q := m + 1) (r := len) (by omega)
                          rw [show m + 1 + (len - (m + 1)) = len by omega] at h1
                          show _ ≤ _
                          omega
                        go_wp2_with (go_at_call 7; refine (join7_any _ _ _ HZ.out).mono ?_; rintro e w' ⟨rfl, hw⟩; obtain rfl := hw.symm; clear hw; rw [HJ.out])
                        go_round
                        case rel => exact ⟨m, by omega, by go_num, rfl⟩
                        case measure => simp [intOf]
                      | zero =>
                        have HSP : Hid (Calls Try.prog 10 #[.string (JR S 0 len)] wr fun e w' => e = .returned (.slice (some ⟨wr.heap.size, 0, none⟩) len len) ∧ Below wr.heap.size wr w' ∧ ∀ i, i < len → w'.cell? ⟨wr.heap.size, i, none⟩ = some (.string (S i))) :=
                          split_any S len hp h (Nat.le_trans (pos_tot S len) ht) (fun j hj => (HK.out j hj).2) wr
                        rw [Nat.sub_zero]
                        go_wp2_with (go_at_call 10; refine HSP.out.mono ?_; rintro e w5 ⟨rfl, hb5, hc5⟩; have HB : Both S len w w5 wr.heap.size := ⟨hbl.trans (hb5.mono (Nat.le_of_lt hgt)), fun i hi => (hb5.cell (p := ⟨w.heap.size, i, none⟩) hgt).trans (HR.out i hi), hc5⟩; clear hb5 hc5 HSP)
                        generalize wr.heap.size = g at HB ⊢
                        clear HR HK hgt hbl
                        go_loopw [13] (fun i w6 => ∃ k : Nat, k ≤ len ∧ i = .int .i64 k ∧ Both S len w w6 g) (fun i _ => len - (intOf i).toNat)
                        case atStart => exact ⟨0, Nat.zero_le _, rfl, HB⟩
                        case round =>
                          clear HB
                          obtain ⟨k, hk, rfl, HB⟩ := hrel
                          by_cases hlt : k < len
                          · have c1 := HB.mine k hlt
                            have c2 := HB.parts k hlt
                            have hlt' : (k : Int) < (len : Int) := by omega
                            go_wp2
                            go_quiet (fail)
                            go_wp2
                            go_roundw
                            case rel => exact ⟨k + 1, by omega, by go_num, HB.drewN _⟩
                            case measure => simp [intOf]; omega
                          · go_wp2
                            go_ret
                            exact ⟨rfl, HB.below⟩

end Go.Proofs.Qxb6605470a
