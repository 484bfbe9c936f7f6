/-
  EachChild: call, try. (Written by wip/gen/loops.py.)
-/
import Derived.Test.Qxb6003857aGreatEachB
namespace Go.Proofs.Qxb6003857aGreat
open Go.RowKit

set_option maxHeartbeats 4000000 in
set_option maxRecDepth 100000 in
theorem each_call {b : Nat} {z1 c0 v : Value} {p0 : Int} {xs : List Value} {ps : List Int} (w : World) (hb : w.heap[b]? = some (.cells #[c0, z1, v] 67 (0, 0))) (h_c0 : PosIs w c0 p0) (hr : RowOf w v xs) (hk : Kids w xs ps) (hn : xs.length ≤ 100) : Visits w (.iface 65 (.pointer (some ⟨b, 0, none⟩))) (p0 :: ps) := by
  intro R ys w2 hR hB hG hy
  simp only [List.length_cons] at hy
  obtain ⟨a, cap, g, rfl, hr0⟩ := hr
  have hrow : Hid (∀ k, k < xs.length → a = some ⟨g, 0, none⟩ ∧ w.cell? ⟨g, k, none⟩ = some (xs.getD k .nilIface)) := hr0
  have HK := hide hk
  clear hr0 hk
  have d0 := node_cell hb 0 _ rfl
  have d2 := node_cell hb 2 _ rfl
  have H_c0 := hide h_c0
  have t95 := fun v w => ta_ne (T := 65) Tryz.underlying95 (fun w => by kernel_rfl) (by decide) v w
  have t110 := fun v w => ta_ne (T := 65) Tryz.underlying110 (fun w => by kernel_rfl) (by decide) v w
  have t117 := fun v w => ta_ne (T := 65) Tryz.underlying117 (fun w => by kernel_rfl) (by decide) v w
  have t120 := fun v w => ta_ne (T := 65) Tryz.underlying120 (fun w => by kernel_rfl) (by decide) v w
  have t123 := fun v w => ta_ne (T := 65) Tryz.underlying123 (fun w => by kernel_rfl) (by decide) v w
  have t41 := fun v w => ta_ne (T := 65) Tryz.underlying41 (fun w => by kernel_rfl) (by decide) v w
  have t79 := fun v w => ta_ne (T := 65) Tryz.underlying79 (fun w => by kernel_rfl) (by decide) v w
  have t126 := fun v w => ta_ne (T := 65) Tryz.underlying126 (fun w => by kernel_rfl) (by decide) v w
  have t129 := fun v w => ta_ne (T := 65) Tryz.underlying129 (fun w => by kernel_rfl) (by decide) v w
  have t48 := fun v w => ta_ne (T := 65) Tryz.underlying48 (fun w => by kernel_rfl) (by decide) v w
  have t83 := fun v w => ta_ne (T := 65) Tryz.underlying83 (fun w => by kernel_rfl) (by decide) v w
  have t133 := fun v w => ta_ne (T := 65) Tryz.underlying133 (fun w => by kernel_rfl) (by decide) v w
  have t138 := fun v w => ta_ne (T := 65) Tryz.underlying138 (fun w => by kernel_rfl) (by decide) v w
  have t52 := fun v w => ta_ne (T := 65) Tryz.underlying52 (fun w => by kernel_rfl) (by decide) v w
  have t106 := fun v w => ta_ne (T := 65) Tryz.underlying106 (fun w => by kernel_rfl) (by decide) v w
  have t103 := fun v w => ta_ne (T := 65) Tryz.underlying103 (fun w => by kernel_rfl) (by decide) v w
  have t141 := fun v w => ta_ne (T := 65) Tryz.underlying141 (fun w => by kernel_rfl) (by decide) v w
  have t144 := fun v w => ta_ne (T := 65) Tryz.underlying144 (fun w => by kernel_rfl) (by decide) v w
  have t147 := fun v w => ta_ne (T := 65) Tryz.underlying147 (fun w => by kernel_rfl) (by decide) v w
  have t150 := fun v w => ta_ne (T := 65) Tryz.underlying150 (fun w => by kernel_rfl) (by decide) v w
  have t153 := fun v w => ta_ne (T := 65) Tryz.underlying153 (fun w => by kernel_rfl) (by decide) v w
  have t156 := fun v w => ta_ne (T := 65) Tryz.underlying156 (fun w => by kernel_rfl) (by decide) v w
  have t73 := fun v w => ta_ne (T := 65) Tryz.underlying73 (fun w => by kernel_rfl) (by decide) v w
  have t159 := fun v w => ta_ne (T := 65) Tryz.underlying159 (fun w => by kernel_rfl) (by decide) v w
  have t162 := fun v w => ta_ne (T := 65) Tryz.underlying162 (fun w => by kernel_rfl) (by decide) v w
  have t165 := fun v w => ta_ne (T := 65) Tryz.underlying165 (fun w => by kernel_rfl) (by decide) v w
  have t168 := fun v w => ta_ne (T := 65) Tryz.underlying168 (fun w => by kernel_rfl) (by decide) v w
  have t171 := fun v w => ta_ne (T := 65) Tryz.underlying171 (fun w => by kernel_rfl) (by decide) v w
  have t174 := fun v w => ta_ne (T := 65) Tryz.underlying174 (fun w => by kernel_rfl) (by decide) v w
  have t177 := fun v w => ta_ne (T := 65) Tryz.underlying177 (fun w => by kernel_rfl) (by decide) v w
  have t180 := fun v w => ta_ne (T := 65) Tryz.underlying180 (fun w => by kernel_rfl) (by decide) v w
  have t183 := fun v w => ta_ne (T := 65) Tryz.underlying183 (fun w => by kernel_rfl) (by decide) v w
  have t186 := fun v w => ta_ne (T := 65) Tryz.underlying186 (fun w => by kernel_rfl) (by decide) v w
  have t68 := fun v w => ta_ne (T := 65) Tryz.underlying68 (fun w => by kernel_rfl) (by decide) v w
  have t189 := fun v w => ta_ne (T := 65) Tryz.underlying189 (fun w => by kernel_rfl) (by decide) v w
  have t192 := fun v w => ta_ne (T := 65) Tryz.underlying192 (fun w => by kernel_rfl) (by decide) v w
  have t195 := fun v w => ta_ne (T := 65) Tryz.underlying195 (fun w => by kernel_rfl) (by decide) v w
  have t198 := fun v w => ta_ne (T := 65) Tryz.underlying198 (fun w => by kernel_rfl) (by decide) v w
  have t201 := fun v w => ta_ne (T := 65) Tryz.underlying201 (fun w => by kernel_rfl) (by decide) v w
  have t204 := fun v w => ta_ne (T := 65) Tryz.underlying204 (fun w => by kernel_rfl) (by decide) v w
  have t65 := fun v w => ta_eq Tryz.underlying65 v w
  have HG0 : Hid (GotIs w2 R ys) := hG
  clear hG hb h_c0
  unfold fnR
  go_enter Tryz.func7, Tryz.ntmps7
  go_wp2_with fail
  refine (seen_any R (ys) _ p0 _ HG0.out (by first | omega | (simp; omega)) (PosIs.later H_c0.out hB)).mono ?_
  rintro e x1 ⟨rfl, hG1, hB1⟩
  have HG1 : Hid (GotIs x1 R (ys ++ [p0])) := hG1
  have hL1 : Below w.heap.size w x1 := hB.trans (hB1.mono hR)
  have hT1 : Below R w2 x1 := hB1
  clear hG1 hB1
  go_wp2
  go_loopw [671] (fun i wr => ∃ k : Nat, k ≤ xs.length ∧ i = .int .i64 k ∧ GotIs wr R ((ys ++ [p0]) ++ ps.take k) ∧ Below R w2 wr) (fun i _ => xs.length - (intOf i).toNat)
  case atStart => exact ⟨0, Nat.zero_le _, rfl, by simpa using HG1.out, hT1⟩
  case round =>
    obtain ⟨k, hk, rfl, hGr, hTr⟩ := hrel
    have hLr : Below w.heap.size w wr := hB.trans (hTr.mono hR)
    by_cases hlt : k < xs.length
    · obtain ⟨ha, hcell⟩ := hrow.out k hlt
      have c1 := cell_later hLr hcell
      have ix : ∀ wx : World, (Instr.indexAt 58 (.slice a xs.length cap) (.int .i64 k)).run Tryz.prog wx = .ok (.pointer (some ⟨g, k, none⟩)) wx := fun wx => by
        rw [ha]
        exact index_row Tryz.underlying58 (fun w => by kernel_rfl) g k xs.length cap hlt wx
      have hpk := HK.out.2 k hlt
      have HP : Hid (PosIs w (xs.getD k .nilIface) (ps.getD k 0)) := hpk
      have HT : Hid (ps.take (k + 1) = ps.take k ++ [ps.getD k 0]) := take_next ps k (by have := HK.out.1; omega)
      have HGr : Hid (GotIs wr R ((ys ++ [p0]) ++ ps.take k)) := hGr
      have hlen : (ps.take k).length ≤ ps.length := by rw [List.length_take]; omega
      clear ha hcell hpk hGr
      generalize xs.getD k .nilIface = x at c1 HP
      generalize ps.getD k 0 = p at HP HT
      obtain ⟨T, u, rfl⟩ := PosIs.form HP.out
      go_wp2_with (go_at_call 8; refine (seen_any R ((ys ++ [p0]) ++ ps.take k) _ p _ HGr.out (by simp; omega) (PosIs.later HP.out hLr)).mono ?_; rintro e x1 ⟨rfl, hG1, hB1⟩)
      go_roundw
      case rel => exact ⟨k + 1, by omega, by go_num, by rw [HT.out, ← List.append_assoc]; exact hG1, hTr.trans hB1⟩
      case measure => simp [intOf]; omega
    · have hke : ps.take k = ps := List.take_of_length_le (by have := HK.out.1; omega)
      rw [hke] at hGr
      have HGe : Hid (GotIs wr R ((ys ++ [p0]) ++ ps)) := hGr
      clear hke hGr
      go_wp2
      go_end0
      exact ⟨rfl, by have := HGe.out; simpa using this, hTr⟩

set_option maxHeartbeats 4000000 in
set_option maxRecDepth 100000 in
theorem each_try {b bb : Nat} {z0 v : Value} {p0 : Int} {xs : List Value} {ps : List Int} (w : World) (hb : w.heap[b]? = some (.cells #[z0, .pointer (some ⟨bb, 0, none⟩), v, .pointer none] 108 (0, 0))) (h_c0 : PosIs w (.iface 41 (.pointer (some ⟨bb, 0, none⟩))) p0) (hr : RowOf w v xs) (hk : xs.length = ps.length ∧ ∀ k, k < xs.length → PosIs w (.iface 103 (xs.getD k .nilIface)) (ps.getD k 0)) (hn : xs.length ≤ 100) : Visits w (.iface 106 (.pointer (some ⟨b, 0, none⟩))) (p0 :: ps) := by
  intro R ys w2 hR hB hG hy
  simp only [List.length_cons] at hy
  obtain ⟨a, cap, g, rfl, hr0⟩ := hr
  have hrow : Hid (∀ k, k < xs.length → a = some ⟨g, 0, none⟩ ∧ w.cell? ⟨g, k, none⟩ = some (xs.getD k .nilIface)) := hr0
  have HK := hide hk
  clear hr0 hk
  have d1 := node_cell hb 1 _ rfl
  have d2 := node_cell hb 2 _ rfl
  have d3 := node_cell hb 3 _ rfl
  have H_c0 := hide h_c0
  skip
  have t95 := fun v w => ta_ne (T := 106) Tryz.underlying95 (fun w => by kernel_rfl) (by decide) v w
  have t110 := fun v w => ta_ne (T := 106) Tryz.underlying110 (fun w => by kernel_rfl) (by decide) v w
  have t117 := fun v w => ta_ne (T := 106) Tryz.underlying117 (fun w => by kernel_rfl) (by decide) v w
  have t120 := fun v w => ta_ne (T := 106) Tryz.underlying120 (fun w => by kernel_rfl) (by decide) v w
  have t123 := fun v w => ta_ne (T := 106) Tryz.underlying123 (fun w => by kernel_rfl) (by decide) v w
  have t41 := fun v w => ta_ne (T := 106) Tryz.underlying41 (fun w => by kernel_rfl) (by decide) v w
  have t79 := fun v w => ta_ne (T := 106) Tryz.underlying79 (fun w => by kernel_rfl) (by decide) v w
  have t126 := fun v w => ta_ne (T := 106) Tryz.underlying126 (fun w => by kernel_rfl) (by decide) v w
  have t129 := fun v w => ta_ne (T := 106) Tryz.underlying129 (fun w => by kernel_rfl) (by decide) v w
  have t48 := fun v w => ta_ne (T := 106) Tryz.underlying48 (fun w => by kernel_rfl) (by decide) v w
  have t83 := fun v w => ta_ne (T := 106) Tryz.underlying83 (fun w => by kernel_rfl) (by decide) v w
  have t133 := fun v w => ta_ne (T := 106) Tryz.underlying133 (fun w => by kernel_rfl) (by decide) v w
  have t138 := fun v w => ta_ne (T := 106) Tryz.underlying138 (fun w => by kernel_rfl) (by decide) v w
  have t52 := fun v w => ta_ne (T := 106) Tryz.underlying52 (fun w => by kernel_rfl) (by decide) v w
  have t106 := fun v w => ta_eq Tryz.underlying106 v w
  have HG0 : Hid (GotIs w2 R ys) := hG
  clear hG hb h_c0
  unfold fnR
  go_enter Tryz.func7, Tryz.ntmps7
  go_wp2_with fail
  refine (seen_any R (ys) _ p0 _ HG0.out (by first | omega | (simp; omega)) (PosIs.later H_c0.out hB)).mono ?_
  rintro e x1 ⟨rfl, hG1, hB1⟩
  have HG1 : Hid (GotIs x1 R (ys ++ [p0])) := hG1
  have hL1 : Below w.heap.size w x1 := hB.trans (hB1.mono hR)
  have hT1 : Below R w2 x1 := hB1
  clear hG1 hB1
  go_wp2
  go_loopw [313] (fun i wr => ∃ k : Nat, k ≤ xs.length ∧ i = .int .i64 k ∧ GotIs wr R ((ys ++ [p0]) ++ ps.take k) ∧ Below R w2 wr) (fun i _ => xs.length - (intOf i).toNat)
  case atStart => exact ⟨0, Nat.zero_le _, rfl, by simpa using HG1.out, hT1⟩
  case round =>
    obtain ⟨k, hk, rfl, hGr, hTr⟩ := hrel
    have hLr : Below w.heap.size w wr := hB.trans (hTr.mono hR)
    by_cases hlt : k < xs.length
    · obtain ⟨ha, hcell⟩ := hrow.out k hlt
      have c1 := cell_later hLr hcell
      have ix : ∀ wx : World, (Instr.indexAt 101 (.slice a xs.length cap) (.int .i64 k)).run Tryz.prog wx = .ok (.pointer (some ⟨g, k, none⟩)) wx := fun wx => by
        rw [ha]
        exact index_row Tryz.underlying101 (fun w => by kernel_rfl) g k xs.length cap hlt wx
      have hpk := HK.out.2 k hlt
      have HP : Hid (PosIs w (.iface 103 (xs.getD k .nilIface)) (ps.getD k 0)) := hpk
      have HT : Hid (ps.take (k + 1) = ps.take k ++ [ps.getD k 0]) := take_next ps k (by have := HK.out.1; omega)
      have HGr : Hid (GotIs wr R ((ys ++ [p0]) ++ ps.take k)) := hGr
      have hlen : (ps.take k).length ≤ ps.length := by rw [List.length_take]; omega
      clear ha hcell hpk hGr
      generalize xs.getD k .nilIface = x at c1 HP
      generalize ps.getD k 0 = p at HP HT
      obtain ⟨bq, rfl⟩ : ∃ bq, x = .pointer (some ⟨bq, 0, none⟩) := by obtain ⟨_, _, bq, e, _⟩ := HP.out; injection e with _ e2; exact ⟨bq, e2⟩
      go_wp2_with (go_at_call 8; refine (seen_any R ((ys ++ [p0]) ++ ps.take k) _ p _ HGr.out (by simp; omega) (PosIs.later HP.out hLr)).mono ?_; rintro e x1 ⟨rfl, hG1, hB1⟩)
      go_roundw
      case rel => exact ⟨k + 1, by omega, by go_num, by rw [HT.out, ← List.append_assoc]; exact hG1, hTr.trans hB1⟩
      case measure => simp [intOf]; omega
    · have hke : ps.take k = ps := List.take_of_length_le (by have := HK.out.1; omega)
      rw [hke] at hGr
      have HGe : Hid (GotIs wr R ((ys ++ [p0]) ++ ps)) := hGr
      clear hke hGr
      go_wp2
      go_end0
      exact ⟨rfl, by have := HGe.out; simpa using this, hTr⟩

set_option maxHeartbeats 4000000 in
set_option maxRecDepth 100000 in
theorem each_tryfin {b bb : Nat} {z0 v : Value} {p0 : Int} {fb : Nat} {pf : Int} {xs : List Value} {ps : List Int} (w : World) (hb : w.heap[b]? = some (.cells #[z0, .pointer (some ⟨bb, 0, none⟩), v, .pointer (some ⟨fb, 0, none⟩)] 108 (0, 0))) (h_c0 : PosIs w (.iface 41 (.pointer (some ⟨bb, 0, none⟩))) p0) (h_fin : PosIs w (.iface 41 (.pointer (some ⟨fb, 0, none⟩))) pf) (hr : RowOf w v xs) (hk : xs.length = ps.length ∧ ∀ k, k < xs.length → PosIs w (.iface 103 (xs.getD k .nilIface)) (ps.getD k 0)) (hn : xs.length ≤ 100) : Visits w (.iface 106 (.pointer (some ⟨b, 0, none⟩))) (p0 :: (ps ++ [pf])) := by
  intro R ys w2 hR hB hG hy
  simp only [List.length_cons, List.length_append, List.length_nil] at hy
  obtain ⟨a, cap, g, rfl, hr0⟩ := hr
  have hrow : Hid (∀ k, k < xs.length → a = some ⟨g, 0, none⟩ ∧ w.cell? ⟨g, k, none⟩ = some (xs.getD k .nilIface)) := hr0
  have HK := hide hk
  clear hr0 hk
  have d1 := node_cell hb 1 _ rfl
  have d2 := node_cell hb 2 _ rfl
  have d3 := node_cell hb 3 _ rfl
  have H_c0 := hide h_c0
  have H_fin := hide h_fin
  have t95 := fun v w => ta_ne (T := 106) Tryz.underlying95 (fun w => by kernel_rfl) (by decide) v w
  have t110 := fun v w => ta_ne (T := 106) Tryz.underlying110 (fun w => by kernel_rfl) (by decide) v w
  have t117 := fun v w => ta_ne (T := 106) Tryz.underlying117 (fun w => by kernel_rfl) (by decide) v w
  have t120 := fun v w => ta_ne (T := 106) Tryz.underlying120 (fun w => by kernel_rfl) (by decide) v w
  have t123 := fun v w => ta_ne (T := 106) Tryz.underlying123 (fun w => by kernel_rfl) (by decide) v w
  have t41 := fun v w => ta_ne (T := 106) Tryz.underlying41 (fun w => by kernel_rfl) (by decide) v w
  have t79 := fun v w => ta_ne (T := 106) Tryz.underlying79 (fun w => by kernel_rfl) (by decide) v w
  have t126 := fun v w => ta_ne (T := 106) Tryz.underlying126 (fun w => by kernel_rfl) (by decide) v w
  have t129 := fun v w => ta_ne (T := 106) Tryz.underlying129 (fun w => by kernel_rfl) (by decide) v w
  have t48 := fun v w => ta_ne (T := 106) Tryz.underlying48 (fun w => by kernel_rfl) (by decide) v w
  have t83 := fun v w => ta_ne (T := 106) Tryz.underlying83 (fun w => by kernel_rfl) (by decide) v w
  have t133 := fun v w => ta_ne (T := 106) Tryz.underlying133 (fun w => by kernel_rfl) (by decide) v w
  have t138 := fun v w => ta_ne (T := 106) Tryz.underlying138 (fun w => by kernel_rfl) (by decide) v w
  have t52 := fun v w => ta_ne (T := 106) Tryz.underlying52 (fun w => by kernel_rfl) (by decide) v w
  have t106 := fun v w => ta_eq Tryz.underlying106 v w
  have HG0 : Hid (GotIs w2 R ys) := hG
  clear hG hb h_c0 h_fin
  unfold fnR
  go_enter Tryz.func7, Tryz.ntmps7
  go_wp2_with fail
  refine (seen_any R (ys) _ p0 _ HG0.out (by first | omega | (simp; omega)) (PosIs.later H_c0.out hB)).mono ?_
  rintro e x1 ⟨rfl, hG1, hB1⟩
  have HG1 : Hid (GotIs x1 R (ys ++ [p0])) := hG1
  have hL1 : Below w.heap.size w x1 := hB.trans (hB1.mono hR)
  have hT1 : Below R w2 x1 := hB1
  clear hG1 hB1
  go_wp2
  go_loopw [313] (fun i wr => ∃ k : Nat, k ≤ xs.length ∧ i = .int .i64 k ∧ GotIs wr R ((ys ++ [p0]) ++ ps.take k) ∧ Below R w2 wr) (fun i _ => xs.length - (intOf i).toNat)
  case atStart => exact ⟨0, Nat.zero_le _, rfl, by simpa using HG1.out, hT1⟩
  case round =>
    obtain ⟨k, hk, rfl, hGr, hTr⟩ := hrel
    have hLr : Below w.heap.size w wr := hB.trans (hTr.mono hR)
    by_cases hlt : k < xs.length
    · obtain ⟨ha, hcell⟩ := hrow.out k hlt
      have c1 := cell_later hLr hcell
      have ix : ∀ wx : World, (Instr.indexAt 101 (.slice a xs.length cap) (.int .i64 k)).run Tryz.prog wx = .ok (.pointer (some ⟨g, k, none⟩)) wx := fun wx => by
        rw [ha]
        exact index_row Tryz.underlying101 (fun w => by kernel_rfl) g k xs.length cap hlt wx
      have hpk := HK.out.2 k hlt
      have HP : Hid (PosIs w (.iface 103 (xs.getD k .nilIface)) (ps.getD k 0)) := hpk
      have HT : Hid (ps.take (k + 1) = ps.take k ++ [ps.getD k 0]) := take_next ps k (by have := HK.out.1; omega)
      have HGr : Hid (GotIs wr R ((ys ++ [p0]) ++ ps.take k)) := hGr
      have hlen : (ps.take k).length ≤ ps.length := by rw [List.length_take]; omega
      clear ha hcell hpk hGr
      generalize xs.getD k .nilIface = x at c1 HP
      generalize ps.getD k 0 = p at HP HT
      obtain ⟨bq, rfl⟩ : ∃ bq, x = .pointer (some ⟨bq, 0, none⟩) := by obtain ⟨_, _, bq, e, _⟩ := HP.out; injection e with _ e2; exact ⟨bq, e2⟩
      go_wp2_with (go_at_call 8; refine (seen_any R ((ys ++ [p0]) ++ ps.take k) _ p _ HGr.out (by simp; omega) (PosIs.later HP.out hLr)).mono ?_; rintro e x1 ⟨rfl, hG1, hB1⟩)
      go_roundw
      case rel => exact ⟨k + 1, by omega, by go_num, by rw [HT.out, ← List.append_assoc]; exact hG1, hTr.trans hB1⟩
      case measure => simp [intOf]; omega
    · have hke : ps.take k = ps := List.take_of_length_le (by have := HK.out.1; omega)
      rw [hke] at hGr
      have HGe : Hid (GotIs wr R ((ys ++ [p0]) ++ ps)) := hGr
      clear hke hGr
      go_wp2_with (go_at_call 8; refine (seen_any R (ys ++ [p0] ++ ps) _ pf _ HGe.out (by simp; omega) (PosIs.later H_fin.out hLr)).mono ?_; rintro e x2 ⟨rfl, hG2, hB2⟩)
      go_end0
      exact ⟨rfl, by have := hG2; simpa using this, hTr.trans hB2⟩

end Go.Proofs.Qxb6003857aGreat
