/-
  THE SCOPE's SMALL FUNCTIONS: contracts.
-/
import Derived.Test.Qxb6003857aMapIs
import Derived.LaidEql
import Derived.Stop.IfaceNil
import Derived.Stop.Asserts
namespace Go.Proofs.Qxb6003857a
open Go.RowKit Go.Maps Go.WideMaps

/-- An entity: nothing, or a pointer to a variable. -/
def ent : Option Addr → Value
  | none => .nilIface
  | some a => .iface 27 (.pointer (some a))

def nm (k : Nat) : ByteArray :=
  if k = 0 then ⟨#[97]⟩ else if k = 1 then ⟨#[95, 112]⟩ else if k = 2 then ⟨#[76, 105, 115, 116]⟩ else if k = 3 then ⟨#[]⟩ else if k = 4 then ⟨#[97, 50]⟩ else ⟨#[90]⟩

theorem nm_size (k : Nat) : (nm k).size ≤ maxLen := by
  unfold nm maxLen
  repeat' split
  all_goals decide

theorem nm_inj (k j : Nat) (hk : k < 6) (hj : j < 6) (h : (nm k).data.toList = (nm j).data.toList) : k = j := by
  have h1 : k = 0 ∨ k = 1 ∨ k = 2 ∨ k = 3 ∨ k = 4 ∨ k = 5 := by omega
  have h2 : j = 0 ∨ j = 1 ∨ j = 2 ∨ j = 3 ∨ j = 4 ∨ j = 5 := by omega
  rcases h1 with rfl | rfl | rfl | rfl | rfl | rfl <;> rcases h2 with rfl | rfl | rfl | rfl | rfl | rfl <;> first | rfl | (exact absurd h (by decide))

set_option maxHeartbeats 400000 in
theorem name_any (k : Nat) (w : World) (hk : k < 6) :
    Calls Try.prog 9 #[.int .i64 k] w fun e w' => e = .returned (.string (nm k)) ∧ w' = w := by
  have : k = 0 ∨ k = 1 ∨ k = 2 ∨ k = 3 ∨ k = 4 ∨ k = 5 := by omega
  rcases this with rfl | rfl | rfl | rfl | rfl | rfl <;>
  · go_enter Try.func9, Try.ntmps9
    go_wp2
    go_ret
    exact ⟨rfl, rfl⟩

theorem comp27 : (Try.prog.info? 27).map (·.comparable) = some true := by kernel_rfl
theorem size34 : (Try.prog.info? 34).map (·.size) = some 4 := by kernel_rfl

theorem eql_same (a : Addr) (w : World) : (binOp .eql 37 (.iface 27 (.pointer (some a))) (.iface 27 (.pointer (some a)))).run Try.prog w = .ok (.bool true) w := by
  obtain ⟨i, hi, hcmp⟩ := Option.map_eq_some_iff.1 comp27
  obtain ⟨j, hj, hjs⟩ := Option.map_eq_some_iff.1 size34
  exact run_eql_iface_ptr_same (P := Try.prog) w a Try.underlying37 Try.underlying27 hi hcmp hj

set_option maxHeartbeats 400000 in
theorem entityIs_any (x : Option Addr) (w : World) :
    Calls Try.prog 10 #[ent x, .pointer x] w fun e w' => e = .returned (.bool true) ∧ w' = w := by
  cases x with
  | none =>
    show Calls Try.prog 10 #[.nilIface, .pointer none] w _
    go_enter Try.func10, Try.ntmps10
    go_wp2
    go_ret
    exact ⟨rfl, rfl⟩
  | some a =>
    show Calls Try.prog 10 #[.iface 27 (.pointer (some a)), .pointer (some a)] w _
    have h1 := eql_same a
    go_enter Try.func10, Try.ntmps10
    go_wp2
    go_ret
    exact ⟨rfl, rfl⟩

/-- Insert, where the name stands. -/
theorem insert_old {n b sb : Nat} {m : List UInt8 → Option Value} (s : ByteArray) (e v : Value) (w : World) (hs : s.size ≤ maxLen) (c1 : w.cell? ⟨sb, 1, none⟩ = some (.map (some b))) (hm : MapIs w b n m) (hv : m s.data.toList = some v) :
    Calls Try.prog 11 #[.pointer (some ⟨sb, 0, none⟩), .string s, e] w fun e' w' => e' = .returned v ∧ w' = w := by
  have hl := hm.look Try.underlying84 (zero37 w) hs
  rw [hv] at hl
  simp only [Option.getD_some, Option.isSome_some] at hl
  clear hm hv
  go_enter Try.func11, Try.ntmps11
  go_wp2
  go_ret
  exact ⟨rfl, rfl⟩

/-- Insert, where it does not. -/
theorem insert_new {n b sb : Nat} {m : List UInt8 → Option Value} (s : ByteArray) (e : Value) (w : World) (hs : s.size ≤ maxLen) (hn : n < maxLen) (c1 : w.cell? ⟨sb, 1, none⟩ = some (.map (some b))) (hm : MapIs w b n m) (hv : m s.data.toList = none) :
    Calls Try.prog 11 #[.pointer (some ⟨sb, 0, none⟩), .string s, e] w fun e' w' => e' = .returned .nilIface ∧ MapIs w' b (n + 1) (put m s.data.toList e) ∧ w.mapTurned w' b := by
  have hl := hm.look Try.underlying84 (zero37 w) hs
  rw [hv] at hl
  simp only [Option.getD_none, Option.isSome_none] at hl
  obtain ⟨w1, hst, hm1, ht⟩ := hm.store Try.underlying84 hn hs e
  clear hm hv
  go_enter Try.func11, Try.ntmps11
  go_wp2
  go_ret
  exact ⟨rfl, hm1, ht⟩

/-- NewScope. -/
theorem newScope_any (p : Option Addr) (w : World) :
    Calls Try.prog 8 #[.pointer p] w fun e w' => e = .returned (.pointer (some ⟨w.heap.size + 1, 0, none⟩)) ∧ w' = (w.alloc (.map #[] 0)).alloc (.cells #[.pointer p, .map (some w.heap.size)] 86) := by
  have hmm := @run_makeMap Try.prog
  go_enter Try.func8, Try.ntmps8
  go_wp2
  go_ret
  exact ⟨rfl, rfl⟩

/-- Lookup in a scope without a parent. -/
theorem lookup_root {n b sb : Nat} {m : List UInt8 → Option Value} (s : ByteArray) (w : World) (hs : s.size ≤ maxLen) (c0 : w.cell? ⟨sb, 0, none⟩ = some (.pointer none)) (c1 : w.cell? ⟨sb, 1, none⟩ = some (.map (some b))) (hm : MapIs w b n m) :
    Calls Try.prog 12 #[.pointer (some ⟨sb, 0, none⟩), .string s] w fun e' w' => e' = .returned ((m s.data.toList).getD .nilIface) ∧ w' = w := by
  have hl := hm.look Try.underlying84 (zero37 w) hs
  clear hm
  cases hv : m s.data.toList with
  | none =>
    rw [hv] at hl
    simp only [Option.getD_none, Option.isSome_none] at hl ⊢
    clear hv
    go_enter Try.func12, Try.ntmps12
    go_wp2
    refine wp_loop_rounds 2 ?_
    rw [rounds_succ]
    go_wp2
    rw [rounds_succ]
    go_wp2
    go_ret
    exact ⟨rfl, rfl⟩
  | some v =>
    rw [hv] at hl
    simp only [Option.getD_some, Option.isSome_some] at hl ⊢
    clear hv
    go_enter Try.func12, Try.ntmps12
    go_wp2
    refine wp_loop_rounds 1 ?_
    rw [rounds_succ]
    go_wp2
    go_ret
    exact ⟨rfl, rfl⟩

/-- Lookup in a scope with a parent that has none. -/
theorem lookup_child {n b sb n' b' pb : Nat} {m m' : List UInt8 → Option Value} (s : ByteArray) (w : World) (hs : s.size ≤ maxLen) (c0 : w.cell? ⟨sb, 0, none⟩ = some (.pointer (some ⟨pb, 0, none⟩))) (c1 : w.cell? ⟨sb, 1, none⟩ = some (.map (some b))) (hm : MapIs w b n m)
    (d0 : w.cell? ⟨pb, 0, none⟩ = some (.pointer none)) (d1 : w.cell? ⟨pb, 1, none⟩ = some (.map (some b'))) (hm' : MapIs w b' n' m') :
    Calls Try.prog 12 #[.pointer (some ⟨sb, 0, none⟩), .string s] w fun e' w' => e' = .returned ((m s.data.toList).getD ((m' s.data.toList).getD .nilIface)) ∧ w' = w := by
  have hl := hm.look Try.underlying84 (zero37 w) hs
  have hl' := hm'.look Try.underlying84 (zero37 w) hs
  clear hm hm'
  cases hv : m s.data.toList with
  | none =>
    rw [hv] at hl
    simp only [Option.getD_none, Option.isSome_none] at hl ⊢
    clear hv
    cases hv' : m' s.data.toList with
    | none =>
      rw [hv'] at hl'
      simp only [Option.getD_none, Option.isSome_none] at hl' ⊢
      clear hv'
      go_enter Try.func12, Try.ntmps12
      go_wp2
      refine wp_loop_rounds 3 ?_
      rw [rounds_succ]
      go_wp2
      rw [rounds_succ]
      go_wp2
      rw [rounds_succ]
      go_wp2
      go_ret
      exact ⟨rfl, rfl⟩
    | some v =>
      rw [hv'] at hl'
      simp only [Option.getD_some, Option.isSome_some] at hl' ⊢
      clear hv'
      go_enter Try.func12, Try.ntmps12
      go_wp2
      refine wp_loop_rounds 2 ?_
      rw [rounds_succ]
      go_wp2
      rw [rounds_succ]
      go_wp2
      go_ret
      exact ⟨rfl, rfl⟩
  | some v =>
    rw [hv] at hl
    simp only [Option.getD_some, Option.isSome_some] at hl ⊢
    clear hv hl'
    go_enter Try.func12, Try.ntmps12
    go_wp2
    refine wp_loop_rounds 1 ?_
    rw [rounds_succ]
    go_wp2
    go_ret
    exact ⟨rfl, rfl⟩

end Go.Proofs.Qxb6003857a
