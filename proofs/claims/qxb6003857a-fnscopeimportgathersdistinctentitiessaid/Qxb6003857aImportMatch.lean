/-
  zzBindingMatches.
-/
import Derived.Test.Qxb6003857aImportModel
import Derived.Deep.RegionHeldLaw
import Derived.Deep.QuietTactic
import Derived.BigQuiet
namespace Go.Proofs.Qxb6003857a
open Go.RowKit Go.Maps Go.WideMaps

/-- zzEntityIs: not where the entity is an Ambiguous and the variable is one of the pool's. -/
theorem entityIs_amb (u : Value) (a : Addr) (w : World) : Calls Try.prog 10 #[.iface 48 u, .pointer (some a)] w fun e w' => e = .returned (.bool false) ∧ w' = w := by
  have q := eql48_27
  go_enter Try.func10, Try.ntmps10
  go_wp2
  go_ret
  exact ⟨rfl, rfl⟩

section
variable {lb lo pb p0 : Nat} (s : ByteArray) (w : World)

theorem match_nil (pl : Value) (pp : Value) : Calls Try.prog 17 #[.nilIface, .string s, pl, .int .i64 0, pp] w fun e w' => e = .returned (.bool true) ∧ w' = w := by
  go_enter Try.func17, Try.ntmps17
  go_wp2
  go_ret
  exact ⟨rfl, rfl⟩

theorem match_one (j : Nat) (hj : j < 4) (c1 : w.cell? ⟨lb, lo, none⟩ = some (.int .i64 j)) (c2 : w.cell? ⟨pb, j, none⟩ = some (.pointer (some ⟨p0 + j, 0, none⟩))) :
    Calls Try.prog 17 #[pv p0 j, .string s, .pointer (some ⟨lb, lo, none⟩), .int .i64 1, .pointer (some ⟨pb, 0, none⟩)] w fun e w' => e = .returned (.bool true) ∧ Below w.heap.size w w' := by
  rw [pv_def]
  go_enter Try.func17, Try.ntmps17
  go_wp2
  go_quiet ((go_at_call 10; exact Calls.quiet_of_same (entityIs_any (some ⟨p0 + j, 0, none⟩) _)))
  go_wp2
  go_ret
  exact ⟨rfl, below_drewN (Below.refl _ _) _⟩

theorem Wf.lt {L : List Nat} (h : Wf L) : ∀ x ∈ L, x < 4 := h.2
theorem Wf.nd {L : List Nat} (h : Wf L) : L.Nodup := h.1

theorem kept_below {w wr : World} (h : Below w.heap.size w wr) : Kept w wr := fun k _ _ hk _ => h.block k (Array.getElem?_eq_some_iff.1 hk).1

set_option maxHeartbeats 2000000 in
theorem match_many {q : Nat} (k : Nat) (L : List Nat) (hk : k < 3) (hW : Wf L) (h2 : 2 ≤ L.length) (hA : Amb w q p0 L) (hp : PoolIs w p0)
    (hc : ∀ i, i < L.length → w.cell? ⟨lb, lo + i, none⟩ = some (.int .i64 (L.getD i 0))) (hpa : w.rowIs pb 40 4 (fun j => .pointer (some ⟨p0 + j, 0, none⟩))) :
    Calls Try.prog 17 #[.iface 48 (.pointer (some ⟨q, 0, none⟩)), .string (nmI k), .pointer (some ⟨lb, lo, none⟩), .int .i64 L.length, .pointer (some ⟨pb, 0, none⟩)] w fun e w' => e = .returned (.bool true) ∧ Below w.heap.size w w' := by
  have hl := hW.length
  have hpc : ∀ j, j < 4 → w.cell? ⟨pb, j, none⟩ = some (.pointer (some ⟨p0 + j, 0, none⟩)) := fun j hj => hpa.cell hj
  have q0 : ((L.length : Int) == 0) = false := beq_eq_false_iff_ne.2 (by omega)
  have q1 : ((L.length : Int) == 1) = false := beq_eq_false_iff_ne.2 (by omega)
  have HA : Hid (Amb w q p0 L) := hA
  have HP : Hid (PoolIs w p0) := hp
  have HW : Hid (Wf L) := hW
  have HC : Hid (∀ i, i < L.length → w.cell? ⟨lb, lo + i, none⟩ = some (.int .i64 (L.getD i 0))) := hc
  have HPC : Hid (∀ j, j < 4 → w.cell? ⟨pb, j, none⟩ = some (.pointer (some ⟨p0 + j, 0, none⟩))) := hpc
  clear hA hp hW hc hpc hpa
  go_enter Try.func17, Try.ntmps17
  go_wp2
  go_loop [11] (fun i => ∃ t : Nat, t ≤ 4 ∧ i = .int .i64 t) (fun i => 4 - (intOf i).toNat)
  case atStart => exact ⟨0, by omega, rfl⟩
  case round =>
    obtain ⟨t, ht, rfl⟩ := hrel
    by_cases hlt : t < 4
    · have c1 := HPC.out t hlt
      go_wp2_with (go_at_call 10; refine (entityIs_amb _ _ _).mono ?_; rintro e w' ⟨rfl, rfl⟩)
      go_round
      case rel => exact ⟨t + 1, by omega, by go_num⟩
      case measure => simp [intOf]; omega
    · go_wp2
      go_loopw [12] (fun i wr => ∃ j : Nat, j ≤ 4 ∧ i = .int .i64 j ∧ Below w.heap.size w wr) (fun i _ => 4 - (intOf i).toNat)
      case atStart => exact ⟨0, by omega, rfl, Below.refl _ _⟩
      case round =>
        obtain ⟨j, hj, rfl, hb⟩ := hrel
        by_cases hj4 : j < 4
        · have hc : ∀ i, i < L.length → wr.cell? ⟨lb, lo + i, none⟩ = some (.int .i64 (L.getD i 0)) := fun i hi => cell_later hb (HC.out i hi)
          have c1 := cell_later hb (HPC.out j hj4)
          go_wp2
          go_loop [13, 14] (fun u i => ∃ t : Nat, t ≤ L.length ∧ i = .int .i64 t ∧ u = .bool (decide (j ∈ L.take t))) (fun _ i => L.length - (intOf i).toNat)
          case atStart => exact ⟨0, by omega, rfl, by simp⟩
          case round =>
            obtain ⟨t, ht, rfl, rfl⟩ := hrel
            by_cases hlt : t < L.length
            · have c2 := hc t hlt
              have HS : Hid (L.take (t + 1) = L.take t ++ [L.getD t 0]) := by
                show L.take (t + 1) = L.take t ++ [L.getD t 0]
                rw [List.take_succ_eq_append_getElem hlt]
                simp [List.getD, hlt]
              clear hc
              by_cases e : L.getD t 0 = j
              · have q2 : (((L.getD t 0 : Nat) : Int) == (j : Int)) = true := beq_iff_eq.2 (by omega)
                have E : Hid (L.getD t 0 = j) := e
                clear e
                generalize L.getD t 0 = x at c2 HS E q2
                go_wp2
                go_round
                case rel => exact ⟨t + 1, by omega, by go_num, by rw [HS.out, decide_eq_true (by rw [E.out]; simp)]⟩
                case measure => simp [intOf]; omega
              · have q2 : (((L.getD t 0 : Nat) : Int) == (j : Int)) = false := beq_eq_false_iff_ne.2 (by omega)
                have E : Hid (¬ L.getD t 0 = j) := e
                clear e
                generalize L.getD t 0 = x at c2 HS E q2
                go_wp2
                go_round
                case rel =>
                  refine ⟨t + 1, by omega, by go_num, ?_⟩
                  rw [HS.out]
                  have : (j ∈ L.take t ++ [x]) ↔ j ∈ L.take t := by
                    rw [List.mem_append, List.mem_singleton]
                    exact ⟨fun h => h.elim id (fun h => absurd h.symm E.out), Or.inl⟩
                  rw [decide_eq_decide.2 this]
                case measure => simp [intOf]; omega
            · have et : L.take t = L := List.take_of_length_le (by omega)
              rw [et]
              clear hc et
              have hnm : Names ((wr.alloc (.map #[] 0)).alloc (.cells #[.pointer none, .map (some wr.heap.size)] 86)) wr.heap.size 0 p0 (fun _ => []) := ⟨fun _ => none, (MapIs.made wr).alloc _, fun i _ => Or.inl ⟨rfl, rfl⟩⟩
              have hb2 : Below wr.heap.size wr ((wr.alloc (.map #[] 0)).alloc (.cells #[.pointer none, .map (some wr.heap.size)] 86)) := ((Below.refl _ _).alloc (Nat.le_refl _) _).alloc (by simp) _
              have d1 : ((wr.alloc (.map #[] 0)).alloc (.cells #[.pointer none, .map (some wr.heap.size)] 86)).cell? ⟨wr.heap.size + 1, 1, none⟩ = some (.map (some wr.heap.size)) := by go_simp
              have hb3 := hb.trans (hb2.mono hb.size)
              have hA2 := Amb.kept HA.out (kept_below hb3)
              have hp2 : PoolIs ((wr.alloc (.map #[] 0)).alloc (.cells #[.pointer none, .map (some wr.heap.size)] 86)) p0 := PoolIs.block HP.out (fun i hi => hb3.block _ (by obtain ⟨cs, h⟩ := HP.out i hi; exact (Array.getElem?_eq_some_iff.1 h).1))
              go_wp2_with (go_at_call 8; refine (newScope_any _ _).mono ?_; rintro e w' ⟨rfl, rfl⟩)
              generalize (wr.alloc (.map #[] 0)).alloc (.cells #[.pointer none, .map (some wr.heap.size)] 86) = W2 at hnm hb2 d1 hb3 hA2 hp2 ⊢
              refine (import_amb k _ hk (by omega) d1 hp2 hnm wf_nil (Wf.lt HW.out) hl hA2).mono ?_
              rintro e w3 ⟨rfl, hN3, hg3⟩
              have c3 : w3.cell? ⟨pb, j, none⟩ = some (.pointer (some ⟨p0 + j, 0, none⟩)) := by
                have h1 := cell_later hb2 c1
                exact (hg3.cell_far _ (World.block_lt_of_cell? _ _ h1) (by have := World.block_lt_of_cell? _ _ c1; simp only at this; simp; omega)).trans h1
              have d3 : w3.cell? ⟨wr.heap.size + 1, 1, none⟩ = some (.map (some wr.heap.size)) := (hg3.cell_far _ (World.block_lt_of_cell? _ _ d1) (by simp)).trans d1
              have hp3 : PoolIs w3 p0 := by obtain ⟨m, hm, _⟩ := hnm; exact pool_grown hp2 hm hg3
              have eL : upds (fun _ => []) k L k = L := by rw [upds_at, adds_self (Wf.nd HW.out)]
              have hI := import_one k j w3 hk hj4 (by unfold maxLen; omega) d3 hp3 hN3 (by rw [eL]; exact HW.out)
              rw [eL] at hI
              have HI : Hid _ := hI
              have hb4 : Below wr.heap.size wr w3 := hb2.trans ⟨hg3.os, hg3.tape, hg3.output, hg3.size, fun i hi => hg3.block i (by have := hb2.size; omega) (by simp; omega)⟩
              clear hI eL hp3 hN3 hg3 hp2 hA2 hb3 d1 hb2 hnm c1
              by_cases hjL : j ∈ L
              · rw [decide_eq_true hjL] at HI ⊢
                clear hjL
                go_wp2_with (go_at_call 16; refine Calls.mono HI.out ?_; rintro e w4 ⟨rfl, hN4, hg4⟩)
                go_roundw
                case rel => exact ⟨j + 1, by omega, by go_num, hb.trans ((hb4.trans ⟨hg4.os, hg4.tape, hg4.output, hg4.size, fun i hi => hg4.block i (by have := hb4.size; omega) (by simp; omega)⟩).mono hb.size)⟩
                case measure => simp [intOf]; omega
              · rw [decide_eq_false hjL] at HI ⊢
                clear hjL
                go_wp2_with (go_at_call 16; refine Calls.mono HI.out ?_; rintro e w4 ⟨rfl, hN4, hg4⟩)
                go_roundw
                case rel => exact ⟨j + 1, by omega, by go_num, hb.trans ((hb4.trans ⟨hg4.os, hg4.tape, hg4.output, hg4.size, fun i hi => hg4.block i (by have := hb4.size; omega) (by simp; omega)⟩).mono hb.size)⟩
                case measure => simp [intOf]; omega
        · go_wp2
          go_ret
          exact ⟨rfl, hb⟩

/-- Whatever the list. -/
theorem match_any {x : Option Value} (k : Nat) (L : List Nat) (hk : k < 3) (hW : Wf L) (hH : Holds w p0 L x) (hp : PoolIs w p0)
    (hc : ∀ i, i < L.length → w.cell? ⟨lb, lo + i, none⟩ = some (.int .i64 (L.getD i 0))) (hpa : w.rowIs pb 40 4 (fun j => .pointer (some ⟨p0 + j, 0, none⟩))) :
    Calls Try.prog 17 #[x.getD .nilIface, .string (nmI k), .pointer (some ⟨lb, lo, none⟩), .int .i64 L.length, .pointer (some ⟨pb, 0, none⟩)] w fun e w' => e = .returned (.bool true) ∧ Below w.heap.size w w' := by
  rcases hH with ⟨rfl, rfl⟩ | ⟨j, rfl, rfl⟩ | ⟨h2, q, rfl, hA⟩
  · exact (match_nil (nmI k) w _ _).mono fun e w' ⟨he, hw⟩ => ⟨he, by rw [hw]; exact Below.refl _ _⟩
  · have hj : j < 4 := hW.2 j (by simp)
    exact match_one (nmI k) w j hj (by simpa using hc 0 (by simp)) (hpa.cell hj)
  · exact match_many w k L hk hW h2 hA hp hc hpa

end
end Go.Proofs.Qxb6003857a
