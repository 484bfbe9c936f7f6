/-
  EachChild: block. (Written by wip/gen/loops.py.)
-/
import Derived.Test.Qxb6003857aGreatEach
namespace Go.Proofs.Qxb6003857aGreat
open Go.RowKit

theorem hide {p : Prop} (h : p) : Hid p := h

set_option maxHeartbeats 4000000 in
set_option maxRecDepth 100000 in
theorem each_block {b : Nat} {z0 v : Value} {xs : List Value} {ps : List Int} (w : World) (hb : w.heap[b]? = some (.cells #[z0, v] 43 (0, 0))) (hr : RowOf w v xs) (hk : Kids w xs ps) (hn : xs.length ≤ 100) : Visits w (.iface 41 (.pointer (some ⟨b, 0, none⟩))) ps := by
  intro R ys w2 hR hB hG hy
  obtain ⟨a, cap, g, rfl, hr0⟩ := hr
  have hrow : Hid (∀ k, k < xs.length → a = some ⟨g, 0, none⟩ ∧ w.cell? ⟨g, k, none⟩ = some (xs.getD k .nilIface)) := hr0
  have HK := hide hk
  clear hr0 hk
  have d1 := node_cell hb 1 _ rfl
  have t95 := fun v w => ta_ne (T := 41) Tryz.underlying95 (fun w => by kernel_rfl) (by decide) v w
  have t110 := fun v w => ta_ne (T := 41) Tryz.underlying110 (fun w => by kernel_rfl) (by decide) v w
  have t117 := fun v w => ta_ne (T := 41) Tryz.underlying117 (fun w => by kernel_rfl) (by decide) v w
  have t120 := fun v w => ta_ne (T := 41) Tryz.underlying120 (fun w => by kernel_rfl) (by decide) v w
  have t123 := fun v w => ta_ne (T := 41) Tryz.underlying123 (fun w => by kernel_rfl) (by decide) v w
  have t41 := fun v w => ta_eq Tryz.underlying41 v w
  have HG0 : Hid (GotIs w2 R ys) := hG
  have hT0 : Below R w2 w2 := Below.refl _ _
  clear hG hb
  unfold fnR
  go_enter Tryz.func7, Tryz.ntmps7
  go_wp2
  go_loopw [156] (fun i wr => ∃ k : Nat, k ≤ xs.length ∧ i = .int .i64 k ∧ GotIs wr R (ys ++ ps.take k) ∧ Below R w2 wr) (fun i _ => xs.length - (intOf i).toNat)
  case atStart => exact ⟨0, Nat.zero_le _, rfl, by simpa using HG0.out, hT0⟩
  case round =>
    obtain ⟨k, hk, rfl, hGr, hTr⟩ := hrel
    have hLr : Below w.heap.size w wr := hB.trans (hTr.mono hR)
    by_cases hlt : k < xs.length
    · obtain ⟨ha, hcell⟩ := hrow.out k hlt
      have c1 := cell_later hLr hcell
      have ix : ∀ wx : World, (Instr.indexAt 37 (.slice a xs.length cap) (.int .i64 k)).run Tryz.prog wx = .ok (.pointer (some ⟨g, k, none⟩)) wx := fun wx => by
        rw [ha]
        exact index_row Tryz.underlying37 (fun w => by kernel_rfl) g k xs.length cap hlt wx
      have hpk := HK.out.2 k hlt
      have HP : Hid (PosIs w (xs.getD k .nilIface) (ps.getD k 0)) := hpk
      have HT : Hid (ps.take (k + 1) = ps.take k ++ [ps.getD k 0]) := take_next ps k (by have := HK.out.1; omega)
      have HGr : Hid (GotIs wr R (ys ++ ps.take k)) := hGr
      have hlen : (ps.take k).length ≤ ps.length := by rw [List.length_take]; omega
      clear ha hcell hpk hGr
      generalize xs.getD k .nilIface = x at c1 HP
      generalize ps.getD k 0 = p at HP HT
      obtain ⟨T, u, rfl⟩ := PosIs.form HP.out
      go_wp2_with (go_at_call 8; refine (seen_any R (ys ++ ps.take k) _ p _ HGr.out (by simp; omega) (PosIs.later HP.out hLr)).mono ?_; rintro e x1 ⟨rfl, hG1, hB1⟩)
      go_roundw
      case rel => exact ⟨k + 1, by omega, by go_num, by rw [HT.out, ← List.append_assoc]; exact hG1, hTr.trans hB1⟩
      case measure => simp [intOf]; omega
    · have hke : ps.take k = ps := List.take_of_length_le (by have := HK.out.1; omega)
      rw [hke] at hGr
      have HGe : Hid (GotIs wr R (ys ++ ps)) := hGr
      clear hke hGr
      go_wp2
      go_end0
      exact ⟨rfl, HGe.out, hTr⟩

end Go.Proofs.Qxb6003857aGreat
