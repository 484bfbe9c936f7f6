/-
  The closure: it appends the place of the node that it is given.
-/
import Derived.Test.Qxb6003857aGreatKids
import Derived.Deep.RegionLaw
import Derived.Deep.RegionHeldLaw
import Derived.Handy
namespace Go.Proofs.Qxb6003857aGreat
open Go.RowKit

/-- What has been seen: the variable in block R. -/
def GotIs (w : World) (R : Nat) (ys : List Int) : Prop := ∃ v, w.rowIs R 29 1 (fun _ => v) ∧ w.ownsRow (R + 1) 3 1 v ys.length (ys.map (fun x => Value.int .i64 x))

/-- The five plain kinds: which function Pos is. -/
theorem pos38 (b : Nat) (p : Int) (w : World) (c0 : w.cell? ⟨b, 0, none⟩ = some (.int .i64 p)) : Calls Tryz.prog 38 #[.pointer (some ⟨b, 0, none⟩)] w fun e w' => e = .returned (.int .i64 p) ∧ w' = w := by
  go_enter Tryz.func38, Tryz.ntmps38
  go_wp2
  go_ret
  exact ⟨rfl, rfl⟩
theorem pos57 (b : Nat) (p : Int) (w : World) (c0 : w.cell? ⟨b, 0, none⟩ = some (.int .i64 p)) : Calls Tryz.prog 57 #[.pointer (some ⟨b, 0, none⟩)] w fun e w' => e = .returned (.int .i64 p) ∧ w' = w := by
  go_enter Tryz.func57, Tryz.ntmps57
  go_wp2
  go_ret
  exact ⟨rfl, rfl⟩
theorem pos65 (b : Nat) (p : Int) (w : World) (c0 : w.cell? ⟨b, 0, none⟩ = some (.int .i64 p)) : Calls Tryz.prog 65 #[.pointer (some ⟨b, 0, none⟩)] w fun e w' => e = .returned (.int .i64 p) ∧ w' = w := by
  go_enter Tryz.func65, Tryz.ntmps65
  go_wp2
  go_ret
  exact ⟨rfl, rfl⟩
theorem pos78 (b : Nat) (p : Int) (w : World) (c0 : w.cell? ⟨b, 0, none⟩ = some (.int .i64 p)) : Calls Tryz.prog 78 #[.pointer (some ⟨b, 0, none⟩)] w fun e w' => e = .returned (.int .i64 p) ∧ w' = w := by
  go_enter Tryz.func78, Tryz.ntmps78
  go_wp2
  go_ret
  exact ⟨rfl, rfl⟩
theorem pos109 (b : Nat) (p : Int) (w : World) (c0 : w.cell? ⟨b, 0, none⟩ = some (.int .i64 p)) : Calls Tryz.prog 109 #[.pointer (some ⟨b, 0, none⟩)] w fun e w' => e = .returned (.int .i64 p) ∧ w' = w := by
  go_enter Tryz.func109, Tryz.ntmps109
  go_wp2
  go_ret
  exact ⟨rfl, rfl⟩
theorem pos49 (b b' : Nat) (p : Int) (w : World) (c0 : w.cell? ⟨b, 0, none⟩ = some (.pointer (some ⟨b', 0, none⟩))) (c1 : w.cell? ⟨b', 0, none⟩ = some (.int .i64 p)) : Calls Tryz.prog 49 #[.pointer (some ⟨b, 0, none⟩)] w fun e w' => e = .returned (.int .i64 p) ∧ w' = w := by
  go_enter Tryz.func49, Tryz.ntmps49
  go_wp2
  go_ret
  exact ⟨rfl, rfl⟩

theorem var_later {w w3 : World} {R : Nat} {v : Value} {O : Obj} (hR : w.rowIs R 29 1 (fun _ => v)) (hnb : some R ≠ v.ownBlock) (hg : ((w.alloc O).drew).grownBy w3 v.ownBlock) : w3.rowIs R 29 1 (fun _ => v) :=
  hR.of_block ((hg.block R (by have := hR.lt; simp; omega) hnb).trans (Below.heap_alloc _ _ _ hR.lt))

/-- Behind the append and the store. -/
theorem got_push {w w3 : World} {R g cap : Nat} {p : Int} {ys : List Int} {v : Value} {O : Obj} (hR : w.rowIs R 29 1 (fun _ => v)) (hown : w.ownsRow (R + 1) 3 1 v ys.length (ys.map (fun x => Value.int .i64 x)))
    (hown3 : w3.ownsRow (R + 1) 3 1 (.slice (some ⟨g, 0, none⟩) (ys.length + 1) cap) (ys.length + 1) (ys.map (fun x => Value.int .i64 x) ++ [.int .i64 p])) (hg : ((w.alloc O).drew).grownBy w3 v.ownBlock) :
    GotIs (w3.setCell ⟨R, 0, none⟩ (.slice (some ⟨g, 0, none⟩) (ys.length + 1) cap)) R (ys ++ [p]) ∧ Below R w (w3.setCell ⟨R, 0, none⟩ (.slice (some ⟨g, 0, none⟩) (ys.length + 1) cap)) := by
  have hvb : ∀ b, v.ownBlock = some b → R + 1 ≤ b := by
    intro b hb
    rcases hown.2 with ⟨e1, _⟩ | ⟨g, cap, cur', e1, h1, _⟩
    · rw [e1] at hb; cases hb
    · rw [e1] at hb; cases hb; exact h1
  have hgs := hg.size
  simp at hgs
  have hlt := hR.lt
  constructor
  · refine ⟨.slice (some ⟨g, 0, none⟩) (ys.length + 1) cap, ?_, ?_⟩
    · exact ((var_later hR (fun e => by have := hvb R e.symm; omega) hg).set 0 _).congr (fun k hk => by rw [if_pos (by omega)])
    · obtain ⟨h1, h2 | ⟨g', cap', cur, hv', hbase, hgg, r1, r2, r3, r4⟩⟩ := hown3
      · exact absurd h2.1 (by simp)
      · cases hv'
        refine ⟨by simp, Or.inr ⟨g, cap, cur, by simp, hbase, ?_, by simpa using r1, r2, r3, by simpa using r4⟩⟩
        rw [Below.heap_setCell _ _ _ _ (by simp only; omega)]
        exact hgg
  · refine ⟨hg.os, hg.tape, hg.output, by simp; omega, fun k hk => ?_⟩
    rw [Below.heap_setCell _ _ _ _ (by simp only; omega)]
    exact (hg.block k (by simp; omega) (fun e => by have := hvb k e.symm; omega)).trans (Below.heap_alloc _ _ _ (by omega))

theorem own_ne {w : World} {R n : Nat} {v : Value} {xs : List Value} (hown : w.ownsRow (R + 1) 3 1 v n xs) : some R ≠ v.ownBlock := fun e => by
  rcases hown.2 with ⟨e1, _⟩ | ⟨g, cap, cur', e1, h1, _⟩
  · rw [e1] at e; cases e
  · rw [e1] at e
    have : R = g := by simpa [Value.ownBlock] using e
    omega

set_option maxHeartbeats 1000000 in
theorem seen41 (R b : Nat) (ys : List Int) (p : Int) (w : World) (hG : GotIs w R ys) (hy : ys.length ≤ 1000) (c0 : w.cell? ⟨b, 0, none⟩ = some (.int .i64 p)) :
    Calls Tryz.prog 8 #[.iface 41 (.pointer (some ⟨b, 0, none⟩)), .pointer (some ⟨R, 0, none⟩)] w fun e w' => e = .returned (.tuple #[]) ∧ GotIs w' R (ys ++ [p]) ∧ Below R w w' := by
  obtain ⟨i0, hi0, hz0, hz1, hz2⟩ := info_parts info3
  obtain ⟨v, hR, hown⟩ := hG
  have c1 : w.cell? ⟨R, 0, none⟩ = some v := hR.cell (i := 0) (by omega)
  have hlt := hR.lt
  have hnb := own_ne hown
  have HR : Hid (w.rowIs R 29 1 (fun _ => v)) := hR
  clear hR
  go_enter Tryz.func8, Tryz.ntmps8
  go_wp2_with fail
  go_region_law (first
    | (have _t := tokP; (refine step_append_lies _ rfl (.tmp 3) (.tmp 6) 29 rfl (R + 1) 3 i0 (.int .i64 0) 1 8 Tryz.underlying29 hi0 hz0 hz1 hz2 rfl (by decide) v ys.length (ys.map (fun x => Value.int .i64 x)) (by simp [Act.eval]) (by exact hown.alloc _) ⟨w.heap.size, 0, none⟩ 1 1 [.int .i64 p] (by simp [Act.eval]) (by simp) (by exact cell_one_new _ _ _) (by simp [Value.oneCell']) (by omega) (by unfold maxLen; omega) (by omega) (by simp; omega) _ rfl ?_; intro g2 cap2 w3 hown3 hgrow hat hlt3; have hR3 := var_later HR.out hnb hgrow; have k1 := hR3.cell (i := 0) (by omega); have k2 := hR3.frozen 0))
    | (go_simp; go_wp2_with (go_at_call 38; refine (pos38 b p _ (by exact c0)).mono ?_; rintro e w2 ⟨rfl, rfl⟩; have tokP : True := trivial)))
  all_goals
    go_wp2
    go_end0
    have hd := got_push HR.out hown hown3 hgrow
    exact ⟨rfl, hd.1, hd.2⟩

set_option maxHeartbeats 1000000 in
theorem seen79 (R b : Nat) (ys : List Int) (p : Int) (w : World) (hG : GotIs w R ys) (hy : ys.length ≤ 1000) (c0 : w.cell? ⟨b, 0, none⟩ = some (.int .i64 p)) :
    Calls Tryz.prog 8 #[.iface 79 (.pointer (some ⟨b, 0, none⟩)), .pointer (some ⟨R, 0, none⟩)] w fun e w' => e = .returned (.tuple #[]) ∧ GotIs w' R (ys ++ [p]) ∧ Below R w w' := by
  obtain ⟨i0, hi0, hz0, hz1, hz2⟩ := info_parts info3
  obtain ⟨v, hR, hown⟩ := hG
  have c1 : w.cell? ⟨R, 0, none⟩ = some v := hR.cell (i := 0) (by omega)
  have hlt := hR.lt
  have hnb := own_ne hown
  have HR : Hid (w.rowIs R 29 1 (fun _ => v)) := hR
  clear hR
  go_enter Tryz.func8, Tryz.ntmps8
  go_wp2_with fail
  go_region_law (first
    | (have _t := tokP; (refine step_append_lies _ rfl (.tmp 3) (.tmp 6) 29 rfl (R + 1) 3 i0 (.int .i64 0) 1 8 Tryz.underlying29 hi0 hz0 hz1 hz2 rfl (by decide) v ys.length (ys.map (fun x => Value.int .i64 x)) (by simp [Act.eval]) (by exact hown.alloc _) ⟨w.heap.size, 0, none⟩ 1 1 [.int .i64 p] (by simp [Act.eval]) (by simp) (by exact cell_one_new _ _ _) (by simp [Value.oneCell']) (by omega) (by unfold maxLen; omega) (by omega) (by simp; omega) _ rfl ?_; intro g2 cap2 w3 hown3 hgrow hat hlt3; have hR3 := var_later HR.out hnb hgrow; have k1 := hR3.cell (i := 0) (by omega); have k2 := hR3.frozen 0))
    | (go_simp; go_wp2_with (go_at_call 57; refine (pos57 b p _ (by exact c0)).mono ?_; rintro e w2 ⟨rfl, rfl⟩; have tokP : True := trivial)))
  all_goals
    go_wp2
    go_end0
    have hd := got_push HR.out hown hown3 hgrow
    exact ⟨rfl, hd.1, hd.2⟩

set_option maxHeartbeats 1000000 in
theorem seen103 (R b : Nat) (ys : List Int) (p : Int) (w : World) (hG : GotIs w R ys) (hy : ys.length ≤ 1000) (c0 : w.cell? ⟨b, 0, none⟩ = some (.int .i64 p)) :
    Calls Tryz.prog 8 #[.iface 103 (.pointer (some ⟨b, 0, none⟩)), .pointer (some ⟨R, 0, none⟩)] w fun e w' => e = .returned (.tuple #[]) ∧ GotIs w' R (ys ++ [p]) ∧ Below R w w' := by
  obtain ⟨i0, hi0, hz0, hz1, hz2⟩ := info_parts info3
  obtain ⟨v, hR, hown⟩ := hG
  have c1 : w.cell? ⟨R, 0, none⟩ = some v := hR.cell (i := 0) (by omega)
  have hlt := hR.lt
  have hnb := own_ne hown
  have HR : Hid (w.rowIs R 29 1 (fun _ => v)) := hR
  clear hR
  go_enter Tryz.func8, Tryz.ntmps8
  go_wp2_with fail
  go_region_law (first
    | (have _t := tokP; (refine step_append_lies _ rfl (.tmp 3) (.tmp 6) 29 rfl (R + 1) 3 i0 (.int .i64 0) 1 8 Tryz.underlying29 hi0 hz0 hz1 hz2 rfl (by decide) v ys.length (ys.map (fun x => Value.int .i64 x)) (by simp [Act.eval]) (by exact hown.alloc _) ⟨w.heap.size, 0, none⟩ 1 1 [.int .i64 p] (by simp [Act.eval]) (by simp) (by exact cell_one_new _ _ _) (by simp [Value.oneCell']) (by omega) (by unfold maxLen; omega) (by omega) (by simp; omega) _ rfl ?_; intro g2 cap2 w3 hown3 hgrow hat hlt3; have hR3 := var_later HR.out hnb hgrow; have k1 := hR3.cell (i := 0) (by omega); have k2 := hR3.frozen 0))
    | (go_simp; go_wp2_with (go_at_call 65; refine (pos65 b p _ (by exact c0)).mono ?_; rintro e w2 ⟨rfl, rfl⟩; have tokP : True := trivial)))
  all_goals
    go_wp2
    go_end0
    have hd := got_push HR.out hown hown3 hgrow
    exact ⟨rfl, hd.1, hd.2⟩

set_option maxHeartbeats 1000000 in
theorem seen129 (R b : Nat) (ys : List Int) (p : Int) (w : World) (hG : GotIs w R ys) (hy : ys.length ≤ 1000) (c0 : w.cell? ⟨b, 0, none⟩ = some (.int .i64 p)) :
    Calls Tryz.prog 8 #[.iface 129 (.pointer (some ⟨b, 0, none⟩)), .pointer (some ⟨R, 0, none⟩)] w fun e w' => e = .returned (.tuple #[]) ∧ GotIs w' R (ys ++ [p]) ∧ Below R w w' := by
  obtain ⟨i0, hi0, hz0, hz1, hz2⟩ := info_parts info3
  obtain ⟨v, hR, hown⟩ := hG
  have c1 : w.cell? ⟨R, 0, none⟩ = some v := hR.cell (i := 0) (by omega)
  have hlt := hR.lt
  have hnb := own_ne hown
  have HR : Hid (w.rowIs R 29 1 (fun _ => v)) := hR
  clear hR
  go_enter Tryz.func8, Tryz.ntmps8
  go_wp2_with fail
  go_region_law (first
    | (have _t := tokP; (refine step_append_lies _ rfl (.tmp 3) (.tmp 6) 29 rfl (R + 1) 3 i0 (.int .i64 0) 1 8 Tryz.underlying29 hi0 hz0 hz1 hz2 rfl (by decide) v ys.length (ys.map (fun x => Value.int .i64 x)) (by simp [Act.eval]) (by exact hown.alloc _) ⟨w.heap.size, 0, none⟩ 1 1 [.int .i64 p] (by simp [Act.eval]) (by simp) (by exact cell_one_new _ _ _) (by simp [Value.oneCell']) (by omega) (by unfold maxLen; omega) (by omega) (by simp; omega) _ rfl ?_; intro g2 cap2 w3 hown3 hgrow hat hlt3; have hR3 := var_later HR.out hnb hgrow; have k1 := hR3.cell (i := 0) (by omega); have k2 := hR3.frozen 0))
    | (go_simp; go_wp2_with (go_at_call 78; refine (pos78 b p _ (by exact c0)).mono ?_; rintro e w2 ⟨rfl, rfl⟩; have tokP : True := trivial)))
  all_goals
    go_wp2
    go_end0
    have hd := got_push HR.out hown hown3 hgrow
    exact ⟨rfl, hd.1, hd.2⟩

set_option maxHeartbeats 1000000 in
theorem seen177 (R b : Nat) (ys : List Int) (p : Int) (w : World) (hG : GotIs w R ys) (hy : ys.length ≤ 1000) (c0 : w.cell? ⟨b, 0, none⟩ = some (.int .i64 p)) :
    Calls Tryz.prog 8 #[.iface 177 (.pointer (some ⟨b, 0, none⟩)), .pointer (some ⟨R, 0, none⟩)] w fun e w' => e = .returned (.tuple #[]) ∧ GotIs w' R (ys ++ [p]) ∧ Below R w w' := by
  obtain ⟨i0, hi0, hz0, hz1, hz2⟩ := info_parts info3
  obtain ⟨v, hR, hown⟩ := hG
  have c1 : w.cell? ⟨R, 0, none⟩ = some v := hR.cell (i := 0) (by omega)
  have hlt := hR.lt
  have hnb := own_ne hown
  have HR : Hid (w.rowIs R 29 1 (fun _ => v)) := hR
  clear hR
  go_enter Tryz.func8, Tryz.ntmps8
  go_wp2_with fail
  go_region_law (first
    | (have _t := tokP; (refine step_append_lies _ rfl (.tmp 3) (.tmp 6) 29 rfl (R + 1) 3 i0 (.int .i64 0) 1 8 Tryz.underlying29 hi0 hz0 hz1 hz2 rfl (by decide) v ys.length (ys.map (fun x => Value.int .i64 x)) (by simp [Act.eval]) (by exact hown.alloc _) ⟨w.heap.size, 0, none⟩ 1 1 [.int .i64 p] (by simp [Act.eval]) (by simp) (by exact cell_one_new _ _ _) (by simp [Value.oneCell']) (by omega) (by unfold maxLen; omega) (by omega) (by simp; omega) _ rfl ?_; intro g2 cap2 w3 hown3 hgrow hat hlt3; have hR3 := var_later HR.out hnb hgrow; have k1 := hR3.cell (i := 0) (by omega); have k2 := hR3.frozen 0))
    | (go_simp; go_wp2_with (go_at_call 109; refine (pos109 b p _ (by exact c0)).mono ?_; rintro e w2 ⟨rfl, rfl⟩; have tokP : True := trivial)))
  all_goals
    go_wp2
    go_end0
    have hd := got_push HR.out hown hown3 hgrow
    exact ⟨rfl, hd.1, hd.2⟩

set_option maxHeartbeats 1000000 in
theorem seen62 (R b b' : Nat) (ys : List Int) (p : Int) (w : World) (hG : GotIs w R ys) (hy : ys.length ≤ 1000) (c0 : w.cell? ⟨b, 0, none⟩ = some (.pointer (some ⟨b', 0, none⟩))) (c0b : w.cell? ⟨b', 0, none⟩ = some (.int .i64 p)) :
    Calls Tryz.prog 8 #[.iface 62 (.pointer (some ⟨b, 0, none⟩)), .pointer (some ⟨R, 0, none⟩)] w fun e w' => e = .returned (.tuple #[]) ∧ GotIs w' R (ys ++ [p]) ∧ Below R w w' := by
  obtain ⟨i0, hi0, hz0, hz1, hz2⟩ := info_parts info3
  obtain ⟨v, hR, hown⟩ := hG
  have c1 : w.cell? ⟨R, 0, none⟩ = some v := hR.cell (i := 0) (by omega)
  have hlt := hR.lt
  have hnb := own_ne hown
  have HR : Hid (w.rowIs R 29 1 (fun _ => v)) := hR
  clear hR
  go_enter Tryz.func8, Tryz.ntmps8
  go_wp2_with fail
  go_region_law (first
    | (have _t := tokP; (refine step_append_lies _ rfl (.tmp 3) (.tmp 6) 29 rfl (R + 1) 3 i0 (.int .i64 0) 1 8 Tryz.underlying29 hi0 hz0 hz1 hz2 rfl (by decide) v ys.length (ys.map (fun x => Value.int .i64 x)) (by simp [Act.eval]) (by exact hown.alloc _) ⟨w.heap.size, 0, none⟩ 1 1 [.int .i64 p] (by simp [Act.eval]) (by simp) (by exact cell_one_new _ _ _) (by simp [Value.oneCell']) (by omega) (by unfold maxLen; omega) (by omega) (by simp; omega) _ rfl ?_; intro g2 cap2 w3 hown3 hgrow hat hlt3; have hR3 := var_later HR.out hnb hgrow; have k1 := hR3.cell (i := 0) (by omega); have k2 := hR3.frozen 0))
    | (go_simp; go_wp2_with (go_at_call 49; refine (pos49 b b' p _ (by exact c0) (by exact c0b)).mono ?_; rintro e w2 ⟨rfl, rfl⟩; have tokP : True := trivial)))
  all_goals
    go_wp2
    go_end0
    have hd := got_push HR.out hown hown3 hgrow
    exact ⟨rfl, hd.1, hd.2⟩

/-- The closure, at a direct child. -/
theorem seen_any (R : Nat) (ys : List Int) (c : Value) (p : Int) (w : World) (hG : GotIs w R ys) (hy : ys.length ≤ 1000) (hc : PosIs w c p) :
    Calls Tryz.prog 8 #[c, .pointer (some ⟨R, 0, none⟩)] w fun e w' => e = .returned (.tuple #[]) ∧ GotIs w' R (ys ++ [p]) ∧ Below R w w' := by
  obtain ⟨T, t, b, rfl, ⟨ht, cs, hb, h0⟩ | ⟨⟨rfl, rfl⟩, cs, cs', b', hb, h0, hb', h0'⟩⟩ := hc
  · have c0 : w.cell? ⟨b, 0, none⟩ = some (.int .i64 p) := by simp [World.cell?, hb, h0]
    rcases ht with ⟨rfl, rfl⟩ | ⟨rfl, rfl⟩ | ⟨rfl, rfl⟩ | ⟨rfl, rfl⟩ | ⟨rfl, rfl⟩
    · exact seen177 R b ys p w hG hy c0
    · exact seen129 R b ys p w hG hy c0
    · exact seen41 R b ys p w hG hy c0
    · exact seen79 R b ys p w hG hy c0
    · exact seen103 R b ys p w hG hy c0
  · exact seen62 R b b' ys p w hG hy (by simp [World.cell?, hb, h0]) (by simp [World.cell?, hb', h0'])

end Go.Proofs.Qxb6003857aGreat
