/-
  zzCloneBytes: a copy of a slice of bytes.
-/
import Derived.Test.Qxb6003857aRows
import Derived.WalkKit
import Derived.WalkSpells
import Derived.WalkLawsBesides
import Derived.Below
import Derived.Deep.OwnRows
import Derived.Deep.LoopGhost
import Derived.OpenShut
namespace Go.Proofs.Qxb6003857a
open Go.RowKit

theorem info5 : (Try.prog.info? 5).map (fun i => (i.zero, i.size, i.bytes)) = some (some (.int .u8 0), 1, 1) := by kernel_rfl

/-- nil stays nil. -/
theorem clone_nil (w : World) : Calls Try.prog 7 #[.slice none 0 0] w fun e w' => e = .returned (.slice none 0 0) ∧ w' = w := by
  have q := fun (w : World) (a : Option Addr) (n c : Nat) => Lib.run_eql_slice_nil (P := Try.prog) w 22 5 a n c 0 0 Try.underlying22
  go_enter Try.func7, Try.ntmps7
  go_wp2
  go_ret
  exact ⟨rfl, rfl⟩

theorem clone_zero (x : Addr) (cap : Nat) (w : World) : Calls Try.prog 7 #[.slice (some x) 0 cap] w fun e w' => e = .returned (.slice (some ⟨w.heap.size, 0, none⟩) 0 0) ∧ Below w.heap.size w w' ∧ w.heap.size < w'.heap.size := by
  have q := fun (w : World) (a : Option Addr) (n c : Nat) => Lib.run_eql_slice_nil (P := Try.prog) w 22 5 a n c 0 0 Try.underlying22
  have hmk := run_make_row' (P := Try.prog) 22 5 (.int .u8 0) 1 Try.underlying22 info5 rfl .i64 .i64 0 (by omega) (by omega)
  simp only [Int.ofNat_zero] at hmk
  go_enter Try.func7, Try.ntmps7
  go_wp2
  refine wp_loop_rounds 1 ?_
  rw [rounds_succ]
  go_wp2
  go_ret
  exact ⟨rfl, (Below.refl _ _).alloc (Nat.le_refl _) _, by simp⟩

theorem clone_pos (b off len cap : Nat) (z : Nat → Int) (w : World) (hl : len ≤ 64) (hc : ∀ i, i < len → w.cell? ⟨b, off + i, none⟩ = some (.int .u8 (z i))) (hp : 0 < len) :
    Calls Try.prog 7 #[.slice (some ⟨b, off, none⟩) len cap] w fun e w' => e = .returned (.slice (some ⟨w.heap.size, 0, none⟩) len len) ∧ Below w.heap.size w w' ∧ w.heap.size < w'.heap.size ∧ w'.rowIs w.heap.size 5 len (fun i => .int .u8 (z i)) := by
  have q := fun (w : World) (a : Option Addr) (n c : Nat) => Lib.run_eql_slice_nil (P := Try.prog) w 22 5 a n c 0 0 Try.underlying22
  have hmk := run_make_row' (P := Try.prog) 22 5 (.int .u8 0) 1 Try.underlying22 info5 rfl .i64 .i64 len (by omega) (by omega)
  have hb : b < w.heap.size := by
    have := World.block_lt_of_cell? _ _ (hc 0 hp)
    exact this
  go_enter Try.func7, Try.ntmps7
  go_wp2
  go_loopw [4] (fun i wr => ∃ k : Nat, k ≤ len ∧ i = .int .i64 k ∧ Below w.heap.size w wr ∧ wr.rowIs w.heap.size 5 len (fun i => if i < k then .int .u8 (z i) else .int .u8 0)) (fun i _ => len - (intOf i).toNat)
  case atStart => exact ⟨0, Nat.zero_le _, rfl, (Below.refl _ _).alloc (Nat.le_refl _) _, (World.rowIs_made w (.int .u8 0) len 5).congr (fun i _ => by simp)⟩
  case round =>
    obtain ⟨k, hk, rfl, hbl, hrow⟩ := hrel
    clear hmk q
    by_cases hlt : k < len
    · have c1 : wr.cell? ⟨b, off + k, none⟩ = some (.int .u8 (z k)) := (hbl.cell (p := ⟨b, off + k, none⟩) hb).trans (hc k hlt)
      have c2 : wr.cell? ⟨w.heap.size, k, none⟩ = some (.int .u8 0) := by simpa using hrow.cell hlt
      have f2 := hrow.frozen k
      have hrow2 := hrow.set k (.int .u8 (z k))
      have hbl2 := hbl.setCell (p := ⟨w.heap.size, k, none⟩) (Nat.le_refl _) (.int .u8 (z k))
      clear hc
      go_wp2
      go_roundw
      case rel =>
        refine ⟨k + 1, by omega, by go_num, hbl2, hrow2.congr (fun i _ => ?_)⟩
        by_cases e : i = k
        · subst e; simp
        · have : (i < k + 1) = (i < k) := by simp; omega
          simp [e, this]
      case measure => simp [intOf]; omega
    · have hkl : k = len := by omega
      go_wp2
      go_ret
      refine ⟨rfl, hbl, Nat.lt_of_lt_of_le (by simp) hrow.lt, hrow.congr (fun i hi => by rw [if_pos (by omega)])⟩

/-- WHAT THE WALK IS TOLD OF A SLICE OF INTEGERS THAT CAME IN: it is nil; or it leads to a row of 'cap' cells, the numbers 'zs' (the first 'len' are its elements, the rest its spare room), each fitting its kind. -/
def IsRow (k : IntKind) (w : World) (a : Option Addr) (len cap : Nat) (zs : List Int) : Prop :=
  (a = none ∧ len = 0 ∧ cap = 0 ∧ zs = []) ∨
  ∃ x, a = some x ∧ len ≤ cap ∧ cap ≤ maxLen ∧ zs.length = cap ∧ (∀ i, i < zs.length → w.cell? (x.add i) = some (.int k (zs.getD i 0))) ∧ ∀ n ∈ zs, (Lit.int k n).wf = true

/-- The copy, whatever came in: its elements, and how it is indexed. -/
theorem clone_any (a : Option Addr) (len cap : Nat) (zs : List Int) (w : World) (h : IsRow .u8 w a len cap zs) (hl : len ≤ 64) :
    Calls Try.prog 7 #[.slice a len cap] w fun e w' => ∃ a' : Option Addr, ∃ b : Nat, e = .returned (.slice a' len len) ∧ Below w.heap.size w w' ∧
      ∀ k, k < len → a' = some ⟨b, 0, none⟩ ∧ b < w'.heap.size ∧ ∃ o : Nat, o < 256 ∧ w'.cell? ⟨b, k, none⟩ = some (.int .u8 o) := by
  rcases h with ⟨rfl, rfl, rfl, rfl⟩ | ⟨x, rfl, hlc, _, hz, hc, hwf⟩
  · refine (clone_nil w).mono fun e w' ⟨he, hw⟩ => ?_
    subst he hw
    exact ⟨none, 0, rfl, Below.refl _ _, fun k hk => by omega⟩
  · rcases Nat.eq_zero_or_pos len with h0 | hp
    · subst h0
      refine (clone_zero x cap w).mono fun e w' ⟨he, hb, hs⟩ => ?_
      exact ⟨_, 0, he, hb, fun k hk => by omega⟩
    · obtain ⟨b, off, rfl, hc'⟩ := ints_at hc (by omega)
      refine (clone_pos b off len cap (fun i => zs.getD i 0) w hl (fun i hi => hc' i (by omega)) hp).mono fun e w' ⟨he, hb, hs, hrow⟩ => ?_
      refine ⟨_, w.heap.size, he, hb, fun k hk => ⟨rfl, hs, ?_⟩⟩
      have hbd := range_u8 hwf k
      rw [← List.getD_eq_getElem?_getD] at hbd
      refine ⟨(zs.getD k 0).toNat, by omega, ?_⟩
      rw [hrow.cell hk, Int.toNat_of_nonneg hbd.1]

end Go.Proofs.Qxb6003857a
