/-
  THE LAW ON Declare: the small functions' contracts.
-/
import Derived.Test.Qxb6003857aMapIs
import Derived.Deep.RegionWith
namespace Go.Proofs.Qxb6003857a
open Go.RowKit Go.Maps Go.WideMaps

/-- The six names. -/
def nmM (k : Nat) : ByteArray :=
  if k = 0 then ⟨#[98]⟩ else if k = 1 then ⟨#[95, 97]⟩ else if k = 2 then ⟨#[97]⟩ else if k = 3 then ⟨#[97, 98]⟩ else if k = 4 then ⟨#[]⟩ else ⟨#[90]⟩

theorem nmM_size (k : Nat) : (nmM k).size ≤ maxLen := by
  unfold nmM maxLen
  repeat' split
  all_goals decide

theorem nmM_inj (k j : Nat) (hk : k < 6) (hj : j < 6) (h : (nmM k).data.toList = (nmM j).data.toList) : k = j := by
  have h1 : k = 0 ∨ k = 1 ∨ k = 2 ∨ k = 3 ∨ k = 4 ∨ k = 5 := by omega
  have h2 : j = 0 ∨ j = 1 ∨ j = 2 ∨ j = 3 ∨ j = 4 ∨ j = 5 := by omega
  rcases h1 with rfl | rfl | rfl | rfl | rfl | rfl <;> rcases h2 with rfl | rfl | rfl | rfl | rfl | rfl <;> first | rfl | (exact absurd h (by decide))

set_option maxHeartbeats 400000 in
/-- zzMemberName. -/
theorem memberName_any (k : Nat) (w : World) (hk : k < 6) :
    Calls Try.prog 20 #[.int .i64 k] w fun e w' => e = .returned (.string (nmM k)) ∧ w' = w := by
  have : k = 0 ∨ k = 1 ∨ k = 2 ∨ k = 3 ∨ k = 4 ∨ k = 5 := by omega
  rcases this with rfl | rfl | rfl | rfl | rfl | rfl <;>
  · go_enter Try.func20, Try.ntmps20
    go_wp2
    go_ret
    exact ⟨rfl, rfl⟩

theorem zero66 (w : World) : (zeroValue 66).run Try.prog w = .ok (.pointer none) w := by kernel_rfl
theorem zero68 (w : World) : (zeroValue 68).run Try.prog w = .ok (.pointer none) w := by kernel_rfl

/-- A lookup without the second answer. -/
theorem MapIs.look1 {w : World} {b n : Nat} {m : List UInt8 → Option Value} (h : MapIs w b n m) {t e : TypeId} {z : Value} (ht : Try.prog.underlying t = some (.map 9 e)) (hz : (zeroValue e).run Try.prog w = .ok z w) {s : ByteArray} (hs : s.size ≤ maxLen) :
    (Instr.lookup t (.map (some b)) (.string s) false).run Try.prog w = .ok ((m s.data.toList).getD z) w := by
  obtain ⟨D, h1, h2⟩ := h
  obtain ⟨v, ps, hrun, hv⟩ := h1.lookup law9 ht hz (zd := .held z) (zp := []) rfl (keyOf_string_mk Try.underlying9 hs)
  obtain ⟨h3, h4⟩ := h2 s.data.toList
  rw [hrun]
  have e1 : v = (m s.data.toList).getD z := by
    have hv' : DataW.held v = D.atKey (.string s.data.toList) (.held z) := by
      simp only [heldElem, Option.some.injEq, Prod.mk.injEq] at hv
      exact hv.1
    cases hm : m s.data.toList with
    | none =>
      rw [hm] at h3
      rw [Maps.atKey_of_not_has h3] at hv'
      cases hv'; rfl
    | some u =>
      rw [h4 u hm] at hv'
      cases hv'; rfl
  rw [e1]

/-- NewClass. -/
theorem newClass_any (s : ByteArray) (w : World) :
    Calls Try.prog 19 #[.string s] w fun e w' => e = .returned (.pointer (some ⟨w.heap.size + 1 + 1, 0, none⟩)) ∧
      w' = ((w.alloc (.map #[] 0)).alloc (.map #[] 0)).alloc (.cells #[.string s, .pointer none, .bool false, .slice none 0 0, .pointer none, .slice none 0 0, .bool false, .pointer none, .map (some w.heap.size), .map (some (w.heap.size + 1))] 65) := by
  have hmm := @run_makeMap Try.prog
  go_enter Try.func19, Try.ntmps19
  go_wp2
  go_ret
  exact ⟨rfl, rfl⟩


/-- Declare, where the name stands. -/
theorem declare21_old {n b cb mb : Nat} {m : List UInt8 → Option Value} (s : ByteArray) (v : Value) (w : World) (hs : s.size ≤ maxLen) (c1 : w.cell? ⟨cb, 8, none⟩ = some (.map (some b))) (c2 : w.cell? ⟨mb, 0, none⟩ = some (.string s)) (hm : MapIs w b n m) (hv : m s.data.toList = some v) :
    Calls Try.prog 21 #[.pointer (some ⟨cb, 0, none⟩), .pointer (some ⟨mb, 0, none⟩)] w fun e' w' => e' = .returned v ∧ w' = w.drew := by
  have hl := hm.drew.look Try.underlying62 (zero66 w.drew) hs
  rw [hv] at hl
  simp only [Option.getD_some, Option.isSome_some] at hl
  clear hm hv
  go_enter Try.func21, Try.ntmps21
  go_wp2
  go_region
  all_goals
    go_wp2
    go_ret
    exact ⟨rfl, rfl⟩

/-- Declare, where it does not. -/
theorem declare21_new {n b cb mb : Nat} {m : List UInt8 → Option Value} (s : ByteArray) (w : World) (hs : s.size ≤ maxLen) (hn : n < maxLen) (c1 : w.cell? ⟨cb, 8, none⟩ = some (.map (some b))) (c2 : w.cell? ⟨mb, 0, none⟩ = some (.string s)) (hm : MapIs w b n m) (hv : m s.data.toList = none) :
    Calls Try.prog 21 #[.pointer (some ⟨cb, 0, none⟩), .pointer (some ⟨mb, 0, none⟩)] w fun e' w' => e' = .returned (.pointer none) ∧ MapIs w' b (n + 1) (put m s.data.toList (.pointer (some ⟨mb, 0, none⟩))) ∧ w.drew.drew.mapTurned w' b := by
  have hl := hm.drew.look Try.underlying62 (zero66 w.drew) hs
  rw [hv] at hl
  simp only [Option.getD_none, Option.isSome_none] at hl
  obtain ⟨w1, hst, hm1, ht⟩ := hm.drew.drew.store Try.underlying62 hn hs (.pointer (some ⟨mb, 0, none⟩))
  clear hm hv
  go_enter Try.func21, Try.ntmps21
  go_wp2
  go_region
  all_goals
    go_wp2
    go_region
    all_goals
      go_wp2
      go_ret
      exact ⟨rfl, hm1, ht⟩

/-- DeclareConstructor, where the name stands. -/
theorem declare22_old {n b cb mb : Nat} {m : List UInt8 → Option Value} (s : ByteArray) (v : Value) (w : World) (hs : s.size ≤ maxLen) (c1 : w.cell? ⟨cb, 9, none⟩ = some (.map (some b))) (c2 : w.cell? ⟨mb, 0, none⟩ = some (.string s)) (hm : MapIs w b n m) (hv : m s.data.toList = some v) :
    Calls Try.prog 22 #[.pointer (some ⟨cb, 0, none⟩), .pointer (some ⟨mb, 0, none⟩)] w fun e' w' => e' = .returned v ∧ w' = w.drew := by
  have hl := hm.drew.look Try.underlying63 (zero68 w.drew) hs
  rw [hv] at hl
  simp only [Option.getD_some, Option.isSome_some] at hl
  clear hm hv
  go_enter Try.func22, Try.ntmps22
  go_wp2
  go_region
  all_goals
    go_wp2
    go_ret
    exact ⟨rfl, rfl⟩

/-- DeclareConstructor, where it does not. -/
theorem declare22_new {n b cb mb : Nat} {m : List UInt8 → Option Value} (s : ByteArray) (w : World) (hs : s.size ≤ maxLen) (hn : n < maxLen) (c1 : w.cell? ⟨cb, 9, none⟩ = some (.map (some b))) (c2 : w.cell? ⟨mb, 0, none⟩ = some (.string s)) (hm : MapIs w b n m) (hv : m s.data.toList = none) :
    Calls Try.prog 22 #[.pointer (some ⟨cb, 0, none⟩), .pointer (some ⟨mb, 0, none⟩)] w fun e' w' => e' = .returned (.pointer none) ∧ MapIs w' b (n + 1) (put m s.data.toList (.pointer (some ⟨mb, 0, none⟩))) ∧ w.drew.drew.mapTurned w' b := by
  have hl := hm.drew.look Try.underlying63 (zero68 w.drew) hs
  rw [hv] at hl
  simp only [Option.getD_none, Option.isSome_none] at hl
  obtain ⟨w1, hst, hm1, ht⟩ := hm.drew.drew.store Try.underlying63 hn hs (.pointer (some ⟨mb, 0, none⟩))
  clear hm hv
  go_enter Try.func22, Try.ntmps22
  go_wp2
  go_region
  all_goals
    go_wp2
    go_region
    all_goals
      go_wp2
      go_ret
      exact ⟨rfl, hm1, ht⟩

end Go.Proofs.Qxb6003857a
