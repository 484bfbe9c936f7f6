/-
  WHILE A NODE IS BUILT: what holds of memory; visit and the makers of children.
-/
import Derived.Test.Qxb6003857aGreatGen
import Derived.Deep.AppendLies
namespace Go.Proofs.Qxb6003857aGreat
open Go.RowKit

/-- Whatever block is neither a row of ints, nor the generator, nor a variable of type []int, is as it was. -/
structure Stay (w w' : World) : Prop where
  size : w.heap.size ≤ w'.heap.size
  block : ∀ (k : Nat) (c : Array Value) (t : TypeId) (m : Nat × Nat), w.heap[k]? = some (Obj.cells c t m) → t ≠ 3 → t ≠ 28 → t ≠ 29 → w'.heap[k]? = w.heap[k]?

theorem Stay.refl (w : World) : Stay w w := ⟨Nat.le_refl _, fun _ _ _ _ _ _ _ _ => rfl⟩

theorem Stay.trans {w w1 w2 : World} (h : Stay w w1) (h' : Stay w1 w2) : Stay w w2 :=
  ⟨Nat.le_trans h.size h'.size, fun k c t m hk h1 h2 h3 => (h'.block k c t m ((h.block k c t m hk h1 h2 h3).trans hk) h1 h2 h3).trans (h.block k c t m hk h1 h2 h3)⟩

theorem Stay.alloc {w w1 : World} (h : Stay w w1) (o : Obj) : Stay w (w1.alloc o) :=
  h.trans ⟨by simp, fun k c t m hk _ _ _ => Below.heap_alloc _ _ _ (Array.getElem?_eq_some_iff.1 hk).1⟩

theorem Stay.of_below {w w1 : World} (h : Below w.heap.size w w1) : Stay w w1 := ⟨h.size, fun k _ _ _ hk _ _ _ => h.block k (Array.getElem?_eq_some_iff.1 hk).1⟩

/-- A block that is known whole stays. -/
theorem Stay.at_ {w w1 : World} (h : Stay w w1) {k : Nat} {c : Array Value} {t : TypeId} {m : Nat × Nat} (hk : w.heap[k]? = some (.cells c t m)) (h1 : t ≠ 3) (h2 : t ≠ 28) (h3 : t ≠ 29) : w1.heap[k]? = some (.cells c t m) :=
  (h.block k c t m hk h1 h2 h3).trans hk

/-- w1: the world when the node's making began. xs: the places that were laid for direct children. -/
structure Bld (w1 : World) (G E : Nat) (a : Option Addr) (len : Nat) (d : Nat → Nat) (w : World) (i : Nat) (cur : Int) (xs : List Int) : Prop where
  below : Below w1.heap.size w1 w
  hG : w1.heap.size ≤ G
  hGE : G < E
  gen : GenIs w G a len d i cur
  expv : ∃ v, w.rowIs E 29 1 (fun _ => v) ∧ w.ownsRow (E + 1) 3 1 v xs.length (xs.map (fun x => Value.int .i64 x))
  inc : xs.Pairwise (· < ·)
  top : ∀ x ∈ xs, x ≤ cur
  bd : 0 ≤ cur ∧ cur ≤ 1048576 + 256 * i

section
variable {w1 w w2 : World} {G E len i : Nat} {a : Option Addr} {d : Nat → Nat} {cur : Int} {xs : List Int}

theorem Bld.alloc (h : Bld w1 G E a len d w i cur xs) (o : Obj) : Bld w1 G E a len d (w.alloc o) i cur xs where
  below := h.below.alloc h.below.size o
  hG := h.hG
  hGE := h.hGE
  gen := ⟨h.gen.row.alloc o, by rcases h.gen.seq with h0 | ⟨b, hb, hr⟩; exact Or.inl h0; exact Or.inr ⟨b, hb, hr.alloc o⟩, h.gen.hd, h.gen.hl⟩
  expv := by obtain ⟨v, h1, h2⟩ := h.expv; exact ⟨v, h1.alloc o, h2.alloc o⟩
  inc := h.inc
  top := h.top
  bd := h.bd

/-- Behind a call of 'next'. -/
theorem Bld.next (h : Bld w1 G E a len d w i cur xs) (hg : GenIs w2 G a len d (i + 1) (cur + st len d i)) (ho : w2.os = w.os ∧ w2.tape = w.tape ∧ w2.output = w.output ∧ w2.heap.size = w.heap.size) (hk : ∀ k, k ≠ G → w2.heap[k]? = w.heap[k]?) :
    Bld w1 G E a len d w2 (i + 1) (cur + st len d i) xs ∧ Stay w w2 := by
  have hs := st_bd len d i h.gen.hd
  have hGE := h.hGE
  have hG := h.hG
  refine ⟨{ below := h.below.trans ⟨ho.1, ho.2.1, ho.2.2.1, by omega, fun k hk' => hk k (by omega)⟩, hG := h.hG, hGE := h.hGE, gen := hg, expv := ?_, inc := h.inc, top := fun x hx => by have := h.top x hx; omega, bd := by have := h.bd; omega }, ⟨by omega, fun k c t m hc h1 h2 h3 => hk k ?_⟩⟩
  · obtain ⟨v, h1, h2, h3 | ⟨g, cap, cur', hv, hbase, hgg, r⟩⟩ := h.expv
    · exact ⟨v, h1.of_block (hk _ (by omega)), h2, Or.inl h3⟩
    · exact ⟨v, h1.of_block (hk _ (by omega)), h2, Or.inr ⟨g, cap, cur', hv, hbase, (hk _ (by omega)).trans hgg, r⟩⟩
  · intro e
    obtain ⟨c', e1, _⟩ := h.gen.row
    rw [e, e1] at hc
    cases hc
    exact h2 rfl

/-- next, in these words. -/
theorem bnext (h : Bld w1 G E a len d w i cur xs) (hi : i < 1000) :
    Calls Tryz.prog 9 #[.pointer (some ⟨G, 0, none⟩)] w fun e w' => ∃ p, e = .returned (.int .i64 p) ∧ cur < p ∧ Bld w1 G E a len d w' (i + 1) p xs ∧ Stay w w' := by
  have hs := st_bd len d i h.gen.hd
  have hb := h.bd
  refine (next_any w h.gen (by omega) hb.1 (by omega)).mono fun e w' ⟨he, hg, o1, o2, o3, o4, hk⟩ => ?_
  obtain ⟨h1, h2⟩ := h.next hg ⟨o1, o2, o3, o4⟩ hk
  exact ⟨_, he, by omega, h1, h2⟩

end

theorem info3 : (Tryz.prog.info? 3).map (fun i => (i.zero, i.size, i.bytes)) = some (some (.int .i64 0), 1, 8) := by kernel_rfl

/-- The variable's cell behind an append that has gone to another block. -/
theorem var_after {w2 w3 : World} {E : Nat} {v : Value} {O : Obj} (hR : w2.rowIs E 29 1 (fun _ => v)) (hnb : some E ≠ v.ownBlock) (hg : (w2.alloc O).grownBy w3 v.ownBlock) : w3.rowIs E 29 1 (fun _ => v) :=
  hR.of_block ((hg.block E (by have := hR.lt; simp; omega) hnb).trans (Below.heap_alloc _ _ _ hR.lt))

/-- Behind the append and the store into the variable. -/
theorem Bld.push {w1 w2 w3 : World} {G E len i g cap : Nat} {a : Option Addr} {d : Nat → Nat} {p : Int} {xs : List Int} {v : Value} {O : Obj} (h : Bld w1 G E a len d w2 i p xs) (hx : ∀ x ∈ xs, x < p) (hR : w2.rowIs E 29 1 (fun _ => v)) (hown : w2.ownsRow (E + 1) 3 1 v xs.length (xs.map (fun x => Value.int .i64 x)))
    (hown3 : w3.ownsRow (E + 1) 3 1 (.slice (some ⟨g, 0, none⟩) (xs.length + 1) cap) (xs.length + 1) (xs.map (fun x => Value.int .i64 x) ++ [.int .i64 p])) (hg : (w2.alloc O).grownBy w3 v.ownBlock) :
    Bld w1 G E a len d (w3.setCell ⟨E, 0, none⟩ (.slice (some ⟨g, 0, none⟩) (xs.length + 1) cap)) i p (xs ++ [p]) ∧ Stay w2 (w3.setCell ⟨E, 0, none⟩ (.slice (some ⟨g, 0, none⟩) (xs.length + 1) cap)) := by
  have hvb : ∀ b, v.ownBlock = some b → E + 1 ≤ b ∧ ∃ c, w2.heap[b]? = some (.cells c 3 (0, 0)) := by
    intro b hb
    rcases hown.2 with ⟨e1, _⟩ | ⟨g, cap, cur', e1, h1, h2, _⟩
    · rw [e1] at hb; cases hb
    · rw [e1] at hb; cases hb; exact ⟨h1, _, h2⟩
  have hgs := hg.size
  simp at hgs
  have hE := hR.lt
  have hG := h.hG
  have hGE := h.hGE
  have hblk : ∀ k, k < w2.heap.size → k ≠ E → some k ≠ v.ownBlock → (w3.setCell ⟨E, 0, none⟩ (.slice (some ⟨g, 0, none⟩) (xs.length + 1) cap)).heap[k]? = w2.heap[k]? := fun k h1 h2 h3 => by
    rw [Below.heap_setCell _ _ _ _ h2]
    exact (hg.block k (by simp; omega) h3).trans (Below.heap_alloc _ _ _ h1)
  have hlow : ∀ k, k < E → (w3.setCell ⟨E, 0, none⟩ (.slice (some ⟨g, 0, none⟩) (xs.length + 1) cap)).heap[k]? = w2.heap[k]? := fun k hk => hblk k (by omega) (by omega) (fun e => by have := (hvb k e.symm).1; omega)
  have hst : Stay w2 (w3.setCell ⟨E, 0, none⟩ (.slice (some ⟨g, 0, none⟩) (xs.length + 1) cap)) := ⟨by simp; omega, fun k c t m hk h1 h2 h3 => hblk k (Array.getElem?_eq_some_iff.1 hk).1
    (fun e => by obtain ⟨c', e1, _⟩ := hR; rw [e, e1] at hk; cases hk; exact h3 rfl)
    (fun e => by obtain ⟨_, c', e1⟩ := hvb k e.symm; rw [e1] at hk; cases hk; exact h1 rfl)⟩
  refine ⟨{ below := h.below.trans ⟨hg.os, hg.tape, hg.output, hst.size, fun k hk => hlow k (by omega)⟩, hG := hG, hGE := hGE, gen := ⟨h.gen.row.of_block (hlow _ hGE), ?_, h.gen.hd, h.gen.hl⟩, expv := ?_, inc := ?_, top := ?_, bd := h.bd }, hst⟩
  · rcases h.gen.seq with h0 | ⟨b, hb, hr⟩
    · exact Or.inl h0
    · refine Or.inr ⟨b, hb, ?_⟩
      obtain ⟨c, e1, r⟩ := hr
      exact ⟨c, hst.at_ e1 (by decide) (by decide) (by decide), r⟩
  · refine ⟨.slice (some ⟨g, 0, none⟩) (xs.length + 1) cap, ?_, ?_⟩
    · have h3 : w3.rowIs E 29 1 (fun _ => v) := var_after hR (fun e => by have := (hvb E e.symm).1; omega) hg
      exact (h3.set 0 _).congr (fun k hk => by rw [if_pos (by omega)])
    · obtain ⟨h1, h2 | ⟨g', cap', cur, hv', hbase, hgg, r1, r2, r3, r4⟩⟩ := hown3
      · exact absurd h2.1 (by simp)
      · cases hv'
        refine ⟨by simp, Or.inr ⟨g, cap, cur, by simp, hbase, ?_, by simpa using r1, r2, r3, by simpa using r4⟩⟩
        rw [Below.heap_setCell _ _ _ _ (by simp only; omega)]
        exact hgg
  · rw [List.pairwise_append]
    exact ⟨h.inc, by simp, fun x hx' y hy => by rw [List.mem_singleton] at hy; rw [hy]; exact hx x hx'⟩
  · intro x hx'
    rcases List.mem_append.1 hx' with h1 | h1
    · exact h.top x h1
    · rw [List.mem_singleton] at h1; omega

set_option maxHeartbeats 1000000 in
/-- visit. -/
theorem bvisit {w1 w : World} {G E len i : Nat} {a : Option Addr} {d : Nat → Nat} {cur : Int} {xs : List Int} (h : Bld w1 G E a len d w i cur xs) (hi : i < 1000) (hx : xs.length ≤ 1000) :
    Calls Tryz.prog 16 #[.pointer (some ⟨G, 0, none⟩), .pointer (some ⟨E, 0, none⟩)] w fun e w' => ∃ p, e = .returned (.int .i64 p) ∧ Bld w1 G E a len d w' (i + 1) p (xs ++ [p]) ∧ Stay w w' := by
  obtain ⟨i0, hi0, hz0, hz1, hz2⟩ := info_parts info3
  have HB : Hid (Bld w1 G E a len d w i cur xs) := h
  clear h
  go_enter Tryz.func16, Tryz.ntmps16
  go_wp2_with fail
  refine (bnext HB.out hi).mono ?_
  rintro e w2 ⟨p, rfl, hp, hB, hS⟩
  obtain ⟨v, hE, hown⟩ := hB.expv
  have c1 : w2.cell? ⟨E, 0, none⟩ = some v := hE.cell (i := 0) (by omega)
  have HB2 : Hid (Bld w1 G E a len d w2 (i + 1) p xs) := hB
  have HS : Hid (Stay w w2) := hS
  have HR : Hid (w2.rowIs E 29 1 (fun _ => v)) := hE
  have hlt := hE.lt
  have hvb : ∀ b, v.ownBlock = some b → E + 1 ≤ b := by
    intro b hb
    rcases hown.2 with ⟨e1, _⟩ | ⟨g, cap, cur', e1, h1, _⟩
    · rw [e1] at hb; cases hb
    · rw [e1] at hb; cases hb; exact h1
  have hnb : some E ≠ v.ownBlock := fun e => by have := hvb _ e.symm; omega
  clear hB hS hE
  go_wp2_with (at_builtin; go_must (refine wpList_append_lies _ rfl (.tmp 11) (.tmp 13) 29 rfl (E + 1) 3 i0 (.int .i64 0) 1 8 Tryz.underlying29 hi0 hz0 hz1 hz2 rfl (by decide) v xs.length (xs.map (fun x => Value.int .i64 x)) rfl (by exact hown.alloc _) ⟨w2.heap.size, 0, none⟩ 1 1 [.int .i64 p] rfl (by simp) (by exact cell_one_new _ _ _) (by simp [Value.oneCell']) (by omega) (by unfold maxLen; omega) (by omega) (by simp; omega) _ rfl ?_; intro g2 cap2 w3 hown3 hgrow hat hlt3; have hR3 := var_after HR.out hnb hgrow; have k1 := hR3.cell (i := 0) (by omega); have k2 := hR3.frozen 0))
  go_ret
  have hb := HB2.out.push (fun x hx => by have := HB.out.top x hx; omega) HR.out hown hown3 hgrow
  exact ⟨p, rfl, hb.1, HS.out.trans hb.2⟩

end Go.Proofs.Qxb6003857aGreat
