/-
  posGen: step, peek, next.
-/
import Derived.Test.Qxb6003857aGreatRows
import Derived.WalkKit
import Derived.WalkSpells
import Derived.WalkLawsBesides
import Derived.Below
import Derived.Deep.OwnRows
import Derived.Deep.QuietTactic
import Derived.BigQuiet
namespace Go.Proofs.Qxb6003857aGreat
open Go.RowKit

/-- The generator in block G: its script (a copy of the given bytes), how many steps it has made, where it stands. -/
structure GenIs (w : World) (G : Nat) (a : Option Addr) (len : Nat) (d : Nat → Nat) (i : Nat) (cur : Int) : Prop where
  row : w.rowIs G 28 3 (fun k => if k = 0 then .slice a len len else if k = 1 then .int .i64 i else .int .i64 cur)
  seq : len = 0 ∨ ∃ b, a = some ⟨b, 0, none⟩ ∧ w.rowIs b 5 len (fun k => .int .u8 (d k))
  hd : ∀ k, d k < 256
  hl : len ≤ 65536

def st (len : Nat) (d : Nat → Nat) (i : Nat) : Int := if len = 0 then 1 else 1 + d (i % len)

theorem st_bd (len : Nat) (d : Nat → Nat) (i : Nat) (hd : ∀ k, d k < 256) : 1 ≤ st len d i ∧ st len d i ≤ 256 := by
  unfold st
  split
  · omega
  · have := hd (i % len); omega

set_option maxHeartbeats 1000000 in
theorem step_any {G len i : Nat} {a : Option Addr} {d : Nat → Nat} {cur : Int} (w : World) (h : GenIs w G a len d i cur) (hi : i < 100000) :
    Calls Tryz.prog 22 #[.pointer (some ⟨G, 0, none⟩)] w fun e w' => e = .returned (.int .i64 (st len d i)) ∧ ∃ n, w' = w.drewN n := by
  have c0 : w.cell? ⟨G, 0, none⟩ = some (.slice a len len) := h.row.cell (i := 0) (by omega)
  have c1 : w.cell? ⟨G, 1, none⟩ = some (.int .i64 i) := by simpa using h.row.cell (i := 1) (by omega)
  rcases h.seq with h0 | ⟨b, rfl, hr⟩
  · subst h0
    go_enter Tryz.func22, Tryz.ntmps22
    go_wp2
    go_ret
    exact ⟨rfl, 0, rfl⟩
  · rcases Nat.eq_zero_or_pos len with h0 | hp
    · subst h0
      go_enter Tryz.func22, Tryz.ntmps22
      go_wp2
      go_ret
      exact ⟨rfl, 0, rfl⟩
    · have hl := h.hl
      have c2 : w.cell? ⟨b, i % len, none⟩ = some (.int .u8 (d (i % len))) := hr.cell (Nat.mod_lt _ hp)
      have hd := h.hd (i % len)
      have hm : i % len < len := Nat.mod_lt _ hp
      have hS : st len d i = 1 + d (i % len) := by unfold st; rw [if_neg (by omega)]
      rw [hS]
      have hmi : (i : Int) % (len : Int) = ((i % len : Nat) : Int) := by omega
      have hne : ((len : Int) == 0) = false := beq_eq_false_iff_ne.2 (by omega)
      clear h hr hS
      generalize i % len = m at c2 hd hm hmi ⊢
      go_enter Tryz.func22, Tryz.ntmps22
      go_wp2
      go_quiet (fail)
      go_wp2
      go_ret
      exact ⟨rfl, _, rfl⟩

set_option maxHeartbeats 1000000 in
theorem peek_any {G len i : Nat} {a : Option Addr} {d : Nat → Nat} {cur : Int} (w : World) (h : GenIs w G a len d i cur) (hi : i < 100000) (hc : 0 ≤ cur) (hc2 : cur ≤ 1000000000) :
    Calls Tryz.prog 20 #[.pointer (some ⟨G, 0, none⟩)] w fun e w' => e = .returned (.int .i64 (cur + st len d i)) ∧ ∃ n, w' = w.drewN n := by
  have c2 : w.cell? ⟨G, 2, none⟩ = some (.int .i64 cur) := by simpa using h.row.cell (i := 2) (by omega)
  have hs := st_bd len d i h.hd
  have hst := fun n => step_any (w.drewN n) (G := G) (a := a) (len := len) (d := d) (i := i) (cur := cur) ⟨h.row, h.seq, h.hd, h.hl⟩ hi
  have HS : Hid (∀ n, Calls Tryz.prog 22 #[.pointer (some ⟨G, 0, none⟩)] (w.drewN n) fun e w' => e = .returned (.int .i64 (st len d i)) ∧ ∃ m, w' = (w.drewN n).drewN m) := hst
  clear hst h
  generalize st len d i = s at hs HS ⊢
  go_enter Tryz.func20, Tryz.ntmps20
  go_wp2
  go_quiet ((go_at_call 22; exact Calls.quiet_of (HS.out _)))
  go_wp2
  go_ret
  exact ⟨rfl, _, rfl⟩

set_option maxHeartbeats 1000000 in
/-- next: the place it lays; the generator behind it; nothing else has turned. -/
theorem next_any {G len i : Nat} {a : Option Addr} {d : Nat → Nat} {cur : Int} (w : World) (h : GenIs w G a len d i cur) (hi : i < 100000) (hc : 0 ≤ cur) (hc2 : cur ≤ 1000000000) :
    Calls Tryz.prog 9 #[.pointer (some ⟨G, 0, none⟩)] w fun e w' => e = .returned (.int .i64 (cur + st len d i)) ∧ GenIs w' G a len d (i + 1) (cur + st len d i) ∧
      w'.os = w.os ∧ w'.tape = w.tape ∧ w'.output = w.output ∧ w'.heap.size = w.heap.size ∧ ∀ k, k ≠ G → w'.heap[k]? = w.heap[k]? := by
  have c1 : ∀ n, (w.drewN n).cell? ⟨G, 1, none⟩ = some (.int .i64 i) := fun n => by simpa using h.row.cell (i := 1) (by omega)
  have c2 : ∀ n, (w.drewN n).cell? ⟨G, 2, none⟩ = some (.int .i64 cur) := fun n => by simpa using h.row.cell (i := 2) (by omega)
  have f1 : ∀ n, (w.drewN n).frozen? ⟨G, 1, none⟩ = false := fun n => h.row.frozen 1
  have f2 : ∀ n, (w.drewN n).frozen? ⟨G, 2, none⟩ = false := fun n => h.row.frozen 2
  have HG : Hid (GenIs w G a len d i cur) := h
  have hs := st_bd len d i h.hd
  clear h
  go_enter Tryz.func9, Tryz.ntmps9
  go_wp2_with (go_at_call 20; refine (peek_any _ HG.out hi hc hc2).mono ?_; rintro e w' ⟨rfl, n, rfl⟩)
  go_ret
  have hg := HG.out
  have h1 := (World.rowIs.set (World.rowIs.set (w := w.drewN n) hg.row 2 (.int .i64 (cur + st len d i))) 1 (.int .i64 ((i : Int) + 1)))
  refine ⟨rfl, ⟨h1.congr fun k hk => ?_, ?_, hg.hd, hg.hl⟩, rfl, rfl, rfl, by simp [World.setCell], fun k hk => ?_⟩
  · have : k = 0 ∨ k = 1 ∨ k = 2 := by omega
    rcases this with rfl | rfl | rfl <;> simp
  · rcases hg.seq with h0 | ⟨b, rfl, hr⟩
    · exact Or.inl h0
    · refine Or.inr ⟨b, rfl, ?_⟩
      have hne : b ≠ G := by
        obtain ⟨c1, e1, _⟩ := hr
        obtain ⟨c2, e2, _⟩ := hg.row
        intro e
        rw [e, e2] at e1
        cases e1
      exact World.rowIs.setOther (World.rowIs.setOther (w := w.drewN n) hr (a := ⟨G, 2, none⟩) hne _) (a := ⟨G, 1, none⟩) hne _
  · exact (Below.heap_setCell _ _ _ _ hk).trans (Below.heap_setCell _ _ _ _ hk)

end Go.Proofs.Qxb6003857aGreat
