/-
  THE LAW ON Import: the small functions' contracts.
-/
import Derived.Test.Qxb6003857aScope
import Derived.Deep.OwnRows
import Derived.Deep.AppendLies
namespace Go.Proofs.Qxb6003857a
open Go.RowKit Go.Maps Go.WideMaps

def nmI (k : Nat) : ByteArray := if k = 0 then ⟨#[120]⟩ else if k = 1 then ⟨#[95, 121]⟩ else ⟨#[]⟩

theorem nmI_size (k : Nat) : (nmI k).size ≤ maxLen := by
  unfold nmI maxLen
  repeat' split
  all_goals decide

theorem nmI_inj (k j : Nat) (hk : k < 3) (hj : j < 3) (h : (nmI k).data.toList = (nmI j).data.toList) : k = j := by
  have h1 : k = 0 ∨ k = 1 ∨ k = 2 := by omega
  have h2 : j = 0 ∨ j = 1 ∨ j = 2 := by omega
  rcases h1 with rfl | rfl | rfl <;> rcases h2 with rfl | rfl | rfl <;> first | rfl | (exact absurd h (by decide))

set_option maxHeartbeats 400000 in
theorem importName_any (k : Nat) (w : World) (hk : k < 3) :
    Calls Try.prog 14 #[.int .i64 k] w fun e w' => e = .returned (.string (nmI k)) ∧ w' = w := by
  have : k = 0 ∨ k = 1 ∨ k = 2 := by omega
  rcases this with rfl | rfl | rfl <;>
  · go_enter Try.func14, Try.ntmps14
    go_wp2
    go_ret
    exact ⟨rfl, rfl⟩

/-- The pool's variables, as entities. -/
def pv (p0 : Nat) (j : Nat) : Value := .iface 27 (.pointer (some ⟨p0 + j, 0, none⟩))

/-- The four variables of the pool lie in four blocks. -/
def PoolIs (w : World) (p0 : Nat) : Prop := ∀ j, j < 4 → ∃ cs, w.heap[p0 + j]? = some (.cells cs 34 (0, 0))

theorem PoolIs.block {w w' : World} {p0 : Nat} (h : PoolIs w p0) (hb : ∀ j, j < 4 → w'.heap[p0 + j]? = w.heap[p0 + j]?) : PoolIs w' p0 := fun j hj => by
  obtain ⟨cs, hc⟩ := h j hj
  exact ⟨cs, (hb j hj).trans hc⟩

theorem pv_eql {w : World} {p0 : Nat} (h : PoolIs w p0) (i j : Nat) (hi : i < 4) (hj : j < 4) : (binOp .eql 37 (pv p0 i) (pv p0 j)).run Try.prog w = .ok (.bool (decide (i = j))) w := by
  by_cases e : i = j
  · subst e
    rw [decide_eq_true rfl]
    exact eql_same _ w
  · rw [decide_eq_false e]
    obtain ⟨ci, hci⟩ := h i hi
    obtain ⟨cj, hcj⟩ := h j hj
    obtain ⟨t, ht, hcmp⟩ := Option.map_eq_some_iff.1 comp27
    obtain ⟨u, hu, hus⟩ := Option.map_eq_some_iff.1 size34
    exact run_eql_iface_ptr_other (P := Try.prog) w Try.underlying37 Try.underlying27 ht hcmp hu (by rw [hus]; decide) (a := ⟨p0 + i, 0, none⟩) (b := ⟨p0 + j, 0, none⟩) (by intro h; injection h; omega) hci hcj

/-- slices.Clip. -/
theorem clip_any (b off n cap : Nat) (w : World) (hn : n ≤ cap) : Calls Try.prog 29 #[.slice (some ⟨b, off, none⟩) n cap] w fun e w' => e = .returned (.slice (some ⟨b, off, none⟩) n n) ∧ w' = w := by
  go_enter Try.func29, Try.ntmps29
  go_wp2
  go_ret
  exact ⟨rfl, rfl⟩

theorem pv_guard (p0 i j : Nat) (x y : Operand) (w : World) : (eqGuard .eql 37 x y (pv p0 i) (pv p0 j)).run Try.prog w = .ok () w := rfl

theorem pv_def (p0 j : Nat) : pv p0 j = .iface 27 (.pointer (some ⟨p0 + j, 0, none⟩)) := rfl

set_option maxHeartbeats 400000 in
/-- slices.Index. -/
theorem index_any (g cap p0 : Nat) (L : List Nat) (j : Nat) (w : World) (hp : PoolIs w p0) (hj : j < 4) (hL : ∀ x ∈ L, x < 4) (hl : L.length ≤ 4) (hc : ∀ i, i < L.length → w.cell? ⟨g, i, none⟩ = some (pv p0 (L.getD i 0))) :
    Calls Try.prog 33 #[.slice (some ⟨g, 0, none⟩) L.length cap, pv p0 j] w fun e w' => ∃ r : Int, e = .returned (.int .i64 r) ∧ (0 ≤ r ↔ j ∈ L) ∧ w' = w := by
  have qg := pv_guard p0
  go_enter Try.func33, Try.ntmps33
  go_wp2
  go_loop [8] (fun i => ∃ k : Nat, k ≤ L.length ∧ i = .int .i64 k ∧ j ∉ L.take k) (fun i => L.length - (intOf i).toNat)
  case atStart => exact ⟨0, Nat.zero_le _, rfl, by simp⟩
  case round =>
    obtain ⟨k, hk, rfl, hn⟩ := hrel
    by_cases hlt : k < L.length
    · have c1 := hc k hlt
      have hgd : L.getD k 0 = L[k] := by simp [List.getD, hlt]
      have q := pv_eql hp j (L.getD k 0) hj (by rw [hgd]; exact hL _ (List.getElem_mem hlt))
      have HN : Hid (j ∉ L.take k) := hn
      have HG : Hid (L.getD k 0 = L[k]) := hgd
      clear hc hn hgd
      by_cases e : j = L.getD k 0
      · rw [decide_eq_true e] at q
        have E : Hid (j = L.getD k 0) := e
        clear e
        generalize L.getD k 0 = x at c1 q E HG
        go_wp2
        go_ret
        exact ⟨k, rfl, ⟨fun _ => by rw [E.out, HG.out]; exact List.getElem_mem hlt, fun _ => by omega⟩, rfl⟩
      · rw [decide_eq_false e] at q
        have E : Hid (¬ j = L.getD k 0) := e
        clear e
        generalize L.getD k 0 = x at c1 q E HG
        go_wp2
        go_round
        case rel =>
          refine ⟨k + 1, by omega, by go_num, ?_⟩
          rw [List.take_succ_eq_append_getElem hlt, List.mem_append]
          intro h
          rcases h with h | h
          · exact HN.out h
          · rw [List.mem_singleton] at h
            exact E.out (by rw [HG.out]; exact h)
        case measure => simp [intOf]; omega
    · go_wp2
      go_ret
      refine ⟨-1, rfl, ⟨fun h => by omega, fun h => ?_⟩, rfl⟩
      rw [List.take_of_length_le (by omega)] at hn
      exact absurd h hn

/-- slices.Contains. -/
theorem contains_any (g cap p0 : Nat) (L : List Nat) (j : Nat) (w : World) (hp : PoolIs w p0) (hj : j < 4) (hL : ∀ x ∈ L, x < 4) (hl : L.length ≤ 4) (hc : ∀ i, i < L.length → w.cell? ⟨g, i, none⟩ = some (pv p0 (L.getD i 0))) :
    Calls Try.prog 28 #[.slice (some ⟨g, 0, none⟩) L.length cap, pv p0 j] w fun e w' => e = .returned (.bool (decide (j ∈ L))) ∧ w' = w := by
  go_enter Try.func28, Try.ntmps28
  go_wp2_with (go_at_call 33; refine (index_any g cap p0 L j _ hp hj hL hl hc).mono ?_; rintro e w' ⟨r, rfl, hr, rfl⟩)
  go_ret
  exact ⟨rfl, rfl⟩

end Go.Proofs.Qxb6003857a
