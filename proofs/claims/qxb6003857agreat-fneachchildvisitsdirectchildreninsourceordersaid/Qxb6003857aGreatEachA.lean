/-
  EachChild: the kinds without a loop: if, do, is, map entry. (Written by wip/gen/each.py.)
-/
import Derived.Test.Qxb6003857aGreatEach
namespace Go.Proofs.Qxb6003857aGreat
open Go.RowKit

set_option maxHeartbeats 4000000 in
set_option maxRecDepth 100000 in
theorem each_if {b : Nat} {z0 : Value} {c1 : Value} {p1 : Int} {c2 : Value} {p2 : Int} (w : World) (hb : w.heap[b]? = some (.cells #[z0, c1, c2, .nilIface] 50 (0, 0))) (h_c1 : PosIs w c1 p1) (h_c2 : PosIs w c2 p2) : Visits w (.iface 48 (.pointer (some ⟨b, 0, none⟩))) [p1, p2] := by
  intro R ys w2 hR hB hG hy
  simp only [List.length_cons, List.length_nil] at hy
  have d0 := node_cell hb 0 _ rfl
  have d1 := node_cell hb 1 _ rfl
  have d2 := node_cell hb 2 _ rfl
  have d3 := node_cell hb 3 _ rfl
  have t95 := fun v w => ta_ne (T := 48) Tryz.underlying95 (fun w => by kernel_rfl) (by decide) v w
  have t110 := fun v w => ta_ne (T := 48) Tryz.underlying110 (fun w => by kernel_rfl) (by decide) v w
  have t117 := fun v w => ta_ne (T := 48) Tryz.underlying117 (fun w => by kernel_rfl) (by decide) v w
  have t120 := fun v w => ta_ne (T := 48) Tryz.underlying120 (fun w => by kernel_rfl) (by decide) v w
  have t123 := fun v w => ta_ne (T := 48) Tryz.underlying123 (fun w => by kernel_rfl) (by decide) v w
  have t41 := fun v w => ta_ne (T := 48) Tryz.underlying41 (fun w => by kernel_rfl) (by decide) v w
  have t79 := fun v w => ta_ne (T := 48) Tryz.underlying79 (fun w => by kernel_rfl) (by decide) v w
  have t126 := fun v w => ta_ne (T := 48) Tryz.underlying126 (fun w => by kernel_rfl) (by decide) v w
  have t129 := fun v w => ta_ne (T := 48) Tryz.underlying129 (fun w => by kernel_rfl) (by decide) v w
  have t48 := fun v w => ta_eq Tryz.underlying48 v w
  have H_c1 : Hid (PosIs w c1 p1) := h_c1
  clear h_c1
  have H_c2 : Hid (PosIs w c2 p2) := h_c2
  clear h_c2
  have HG0 : Hid (GotIs w2 R ys) := hG
  clear hG hb
  unfold fnR
  go_enter Tryz.func7, Tryz.ntmps7
  go_wp2_with fail
  refine (seen_any R (ys) _ p1 _ HG0.out (by first | omega | (simp; omega)) (PosIs.later H_c1.out hB)).mono ?_
  rintro e x1 ⟨rfl, hG1, hB1⟩
  have HG1 : Hid (GotIs x1 R (ys ++ [p1])) := hG1
  have hL1 : Below w.heap.size w x1 := hB.trans (hB1.mono hR)
  have hT1 : Below R w2 x1 := hB1
  clear hG1 hB1
  go_wp2_with fail
  refine (seen_any R (ys ++ [p1]) _ p2 _ HG1.out (by first | omega | (simp; omega)) (PosIs.later H_c2.out hL1)).mono ?_
  rintro e x2 ⟨rfl, hG2, hB2⟩
  have HG2 : Hid (GotIs x2 R (ys ++ [p1] ++ [p2])) := hG2
  have hL2 : Below w.heap.size w x2 := hL1.trans (hB2.mono hR)
  have hT2 : Below R w2 x2 := hT1.trans hB2
  clear hG2 hB2
  go_wp2
  go_end0
  exact ⟨rfl, by have := HG2.out; simpa using this, hT2⟩

set_option maxHeartbeats 4000000 in
set_option maxRecDepth 100000 in
theorem each_ifelse {b : Nat} {z0 : Value} {c1 : Value} {p1 : Int} {c2 : Value} {p2 : Int} {c3 : Value} {p3 : Int} (w : World) (hb : w.heap[b]? = some (.cells #[z0, c1, c2, c3] 50 (0, 0))) (h_c1 : PosIs w c1 p1) (h_c2 : PosIs w c2 p2) (h_c3 : PosIs w c3 p3) : Visits w (.iface 48 (.pointer (some ⟨b, 0, none⟩))) [p1, p2, p3] := by
  intro R ys w2 hR hB hG hy
  simp only [List.length_cons, List.length_nil] at hy
  obtain ⟨T_c3, v_c3, rfl⟩ := h_c3.form
  have d0 := node_cell hb 0 _ rfl
  have d1 := node_cell hb 1 _ rfl
  have d2 := node_cell hb 2 _ rfl
  have d3 := node_cell hb 3 _ rfl
  have t95 := fun v w => ta_ne (T := 48) Tryz.underlying95 (fun w => by kernel_rfl) (by decide) v w
  have t110 := fun v w => ta_ne (T := 48) Tryz.underlying110 (fun w => by kernel_rfl) (by decide) v w
  have t117 := fun v w => ta_ne (T := 48) Tryz.underlying117 (fun w => by kernel_rfl) (by decide) v w
  have t120 := fun v w => ta_ne (T := 48) Tryz.underlying120 (fun w => by kernel_rfl) (by decide) v w
  have t123 := fun v w => ta_ne (T := 48) Tryz.underlying123 (fun w => by kernel_rfl) (by decide) v w
  have t41 := fun v w => ta_ne (T := 48) Tryz.underlying41 (fun w => by kernel_rfl) (by decide) v w
  have t79 := fun v w => ta_ne (T := 48) Tryz.underlying79 (fun w => by kernel_rfl) (by decide) v w
  have t126 := fun v w => ta_ne (T := 48) Tryz.underlying126 (fun w => by kernel_rfl) (by decide) v w
  have t129 := fun v w => ta_ne (T := 48) Tryz.underlying129 (fun w => by kernel_rfl) (by decide) v w
  have t48 := fun v w => ta_eq Tryz.underlying48 v w
  have H_c1 : Hid (PosIs w c1 p1) := h_c1
  clear h_c1
  have H_c2 : Hid (PosIs w c2 p2) := h_c2
  clear h_c2
  have H_c3 : Hid (PosIs w (.iface T_c3 v_c3) p3) := h_c3
  clear h_c3
  have HG0 : Hid (GotIs w2 R ys) := hG
  clear hG hb
  unfold fnR
  go_enter Tryz.func7, Tryz.ntmps7
  go_wp2_with fail
  refine (seen_any R (ys) _ p1 _ HG0.out (by first | omega | (simp; omega)) (PosIs.later H_c1.out hB)).mono ?_
  rintro e x1 ⟨rfl, hG1, hB1⟩
  have HG1 : Hid (GotIs x1 R (ys ++ [p1])) := hG1
  have hL1 : Below w.heap.size w x1 := hB.trans (hB1.mono hR)
  have hT1 : Below R w2 x1 := hB1
  clear hG1 hB1
  go_wp2_with fail
  refine (seen_any R (ys ++ [p1]) _ p2 _ HG1.out (by first | omega | (simp; omega)) (PosIs.later H_c2.out hL1)).mono ?_
  rintro e x2 ⟨rfl, hG2, hB2⟩
  have HG2 : Hid (GotIs x2 R (ys ++ [p1] ++ [p2])) := hG2
  have hL2 : Below w.heap.size w x2 := hL1.trans (hB2.mono hR)
  have hT2 : Below R w2 x2 := hT1.trans hB2
  clear hG2 hB2
  go_wp2_with fail
  refine (seen_any R (ys ++ [p1] ++ [p2]) _ p3 _ HG2.out (by first | omega | (simp; omega)) (PosIs.later H_c3.out hL2)).mono ?_
  rintro e x3 ⟨rfl, hG3, hB3⟩
  have HG3 : Hid (GotIs x3 R (ys ++ [p1] ++ [p2] ++ [p3])) := hG3
  have hL3 : Below w.heap.size w x3 := hL2.trans (hB3.mono hR)
  have hT3 : Below R w2 x3 := hT2.trans hB3
  clear hG3 hB3
  go_wp2
  go_end0
  exact ⟨rfl, by have := HG3.out; simpa using this, hT3⟩

set_option maxHeartbeats 4000000 in
set_option maxRecDepth 100000 in
theorem each_do {b : Nat} {z0 : Value} {c1 : Value} {p1 : Int} {c2 : Value} {p2 : Int} (w : World) (hb : w.heap[b]? = some (.cells #[z0, c1, c2] 54 (0, 0))) (h_c1 : PosIs w c1 p1) (h_c2 : PosIs w c2 p2) : Visits w (.iface 52 (.pointer (some ⟨b, 0, none⟩))) [p1, p2] := by
  intro R ys w2 hR hB hG hy
  simp only [List.length_cons, List.length_nil] at hy
  have d0 := node_cell hb 0 _ rfl
  have d1 := node_cell hb 1 _ rfl
  have d2 := node_cell hb 2 _ rfl
  have t95 := fun v w => ta_ne (T := 52) Tryz.underlying95 (fun w => by kernel_rfl) (by decide) v w
  have t110 := fun v w => ta_ne (T := 52) Tryz.underlying110 (fun w => by kernel_rfl) (by decide) v w
  have t117 := fun v w => ta_ne (T := 52) Tryz.underlying117 (fun w => by kernel_rfl) (by decide) v w
  have t120 := fun v w => ta_ne (T := 52) Tryz.underlying120 (fun w => by kernel_rfl) (by decide) v w
  have t123 := fun v w => ta_ne (T := 52) Tryz.underlying123 (fun w => by kernel_rfl) (by decide) v w
  have t41 := fun v w => ta_ne (T := 52) Tryz.underlying41 (fun w => by kernel_rfl) (by decide) v w
  have t79 := fun v w => ta_ne (T := 52) Tryz.underlying79 (fun w => by kernel_rfl) (by decide) v w
  have t126 := fun v w => ta_ne (T := 52) Tryz.underlying126 (fun w => by kernel_rfl) (by decide) v w
  have t129 := fun v w => ta_ne (T := 52) Tryz.underlying129 (fun w => by kernel_rfl) (by decide) v w
  have t48 := fun v w => ta_ne (T := 52) Tryz.underlying48 (fun w => by kernel_rfl) (by decide) v w
  have t83 := fun v w => ta_ne (T := 52) Tryz.underlying83 (fun w => by kernel_rfl) (by decide) v w
  have t133 := fun v w => ta_ne (T := 52) Tryz.underlying133 (fun w => by kernel_rfl) (by decide) v w
  have t138 := fun v w => ta_ne (T := 52) Tryz.underlying138 (fun w => by kernel_rfl) (by decide) v w
  have t52 := fun v w => ta_eq Tryz.underlying52 v w
  have H_c1 : Hid (PosIs w c1 p1) := h_c1
  clear h_c1
  have H_c2 : Hid (PosIs w c2 p2) := h_c2
  clear h_c2
  have HG0 : Hid (GotIs w2 R ys) := hG
  clear hG hb
  unfold fnR
  go_enter Tryz.func7, Tryz.ntmps7
  go_wp2_with fail
  refine (seen_any R (ys) _ p1 _ HG0.out (by first | omega | (simp; omega)) (PosIs.later H_c1.out hB)).mono ?_
  rintro e x1 ⟨rfl, hG1, hB1⟩
  have HG1 : Hid (GotIs x1 R (ys ++ [p1])) := hG1
  have hL1 : Below w.heap.size w x1 := hB.trans (hB1.mono hR)
  have hT1 : Below R w2 x1 := hB1
  clear hG1 hB1
  go_wp2_with fail
  refine (seen_any R (ys ++ [p1]) _ p2 _ HG1.out (by first | omega | (simp; omega)) (PosIs.later H_c2.out hL1)).mono ?_
  rintro e x2 ⟨rfl, hG2, hB2⟩
  have HG2 : Hid (GotIs x2 R (ys ++ [p1] ++ [p2])) := hG2
  have hL2 : Below w.heap.size w x2 := hL1.trans (hB2.mono hR)
  have hT2 : Below R w2 x2 := hT1.trans hB2
  clear hG2 hB2
  go_wp2
  go_end0
  exact ⟨rfl, by have := HG2.out; simpa using this, hT2⟩

set_option maxHeartbeats 4000000 in
set_option maxRecDepth 100000 in
theorem each_is {b : Nat} {z1 : Value} {z2 : Value} {z3 : Value} {c1 : Value} {p1 : Int} (w : World) (hb : w.heap[b]? = some (.cells #[c1, z1, z2, z3] 72 (0, 0))) (h_c1 : PosIs w c1 p1) : Visits w (.iface 68 (.pointer (some ⟨b, 0, none⟩))) [p1] := by
  intro R ys w2 hR hB hG hy
  simp only [List.length_cons, List.length_nil] at hy
  have d0 := node_cell hb 0 _ rfl
  have d1 := node_cell hb 1 _ rfl
  have d2 := node_cell hb 2 _ rfl
  have d3 := node_cell hb 3 _ rfl
  have t95 := fun v w => ta_ne (T := 68) Tryz.underlying95 (fun w => by kernel_rfl) (by decide) v w
  have t110 := fun v w => ta_ne (T := 68) Tryz.underlying110 (fun w => by kernel_rfl) (by decide) v w
  have t117 := fun v w => ta_ne (T := 68) Tryz.underlying117 (fun w => by kernel_rfl) (by decide) v w
  have t120 := fun v w => ta_ne (T := 68) Tryz.underlying120 (fun w => by kernel_rfl) (by decide) v w
  have t123 := fun v w => ta_ne (T := 68) Tryz.underlying123 (fun w => by kernel_rfl) (by decide) v w
  have t41 := fun v w => ta_ne (T := 68) Tryz.underlying41 (fun w => by kernel_rfl) (by decide) v w
  have t79 := fun v w => ta_ne (T := 68) Tryz.underlying79 (fun w => by kernel_rfl) (by decide) v w
  have t126 := fun v w => ta_ne (T := 68) Tryz.underlying126 (fun w => by kernel_rfl) (by decide) v w
  have t129 := fun v w => ta_ne (T := 68) Tryz.underlying129 (fun w => by kernel_rfl) (by decide) v w
  have t48 := fun v w => ta_ne (T := 68) Tryz.underlying48 (fun w => by kernel_rfl) (by decide) v w
  have t83 := fun v w => ta_ne (T := 68) Tryz.underlying83 (fun w => by kernel_rfl) (by decide) v w
  have t133 := fun v w => ta_ne (T := 68) Tryz.underlying133 (fun w => by kernel_rfl) (by decide) v w
  have t138 := fun v w => ta_ne (T := 68) Tryz.underlying138 (fun w => by kernel_rfl) (by decide) v w
  have t52 := fun v w => ta_ne (T := 68) Tryz.underlying52 (fun w => by kernel_rfl) (by decide) v w
  have t106 := fun v w => ta_ne (T := 68) Tryz.underlying106 (fun w => by kernel_rfl) (by decide) v w
  have t103 := fun v w => ta_ne (T := 68) Tryz.underlying103 (fun w => by kernel_rfl) (by decide) v w
  have t141 := fun v w => ta_ne (T := 68) Tryz.underlying141 (fun w => by kernel_rfl) (by decide) v w
  have t144 := fun v w => ta_ne (T := 68) Tryz.underlying144 (fun w => by kernel_rfl) (by decide) v w
  have t147 := fun v w => ta_ne (T := 68) Tryz.underlying147 (fun w => by kernel_rfl) (by decide) v w
  have t150 := fun v w => ta_ne (T := 68) Tryz.underlying150 (fun w => by kernel_rfl) (by decide) v w
  have t153 := fun v w => ta_ne (T := 68) Tryz.underlying153 (fun w => by kernel_rfl) (by decide) v w
  have t156 := fun v w => ta_ne (T := 68) Tryz.underlying156 (fun w => by kernel_rfl) (by decide) v w
  have t73 := fun v w => ta_ne (T := 68) Tryz.underlying73 (fun w => by kernel_rfl) (by decide) v w
  have t159 := fun v w => ta_ne (T := 68) Tryz.underlying159 (fun w => by kernel_rfl) (by decide) v w
  have t162 := fun v w => ta_ne (T := 68) Tryz.underlying162 (fun w => by kernel_rfl) (by decide) v w
  have t165 := fun v w => ta_ne (T := 68) Tryz.underlying165 (fun w => by kernel_rfl) (by decide) v w
  have t168 := fun v w => ta_ne (T := 68) Tryz.underlying168 (fun w => by kernel_rfl) (by decide) v w
  have t171 := fun v w => ta_ne (T := 68) Tryz.underlying171 (fun w => by kernel_rfl) (by decide) v w
  have t174 := fun v w => ta_ne (T := 68) Tryz.underlying174 (fun w => by kernel_rfl) (by decide) v w
  have t177 := fun v w => ta_ne (T := 68) Tryz.underlying177 (fun w => by kernel_rfl) (by decide) v w
  have t180 := fun v w => ta_ne (T := 68) Tryz.underlying180 (fun w => by kernel_rfl) (by decide) v w
  have t183 := fun v w => ta_ne (T := 68) Tryz.underlying183 (fun w => by kernel_rfl) (by decide) v w
  have t186 := fun v w => ta_ne (T := 68) Tryz.underlying186 (fun w => by kernel_rfl) (by decide) v w
  have t68 := fun v w => ta_eq Tryz.underlying68 v w
  have H_c1 : Hid (PosIs w c1 p1) := h_c1
  clear h_c1
  have HG0 : Hid (GotIs w2 R ys) := hG
  clear hG hb
  unfold fnR
  go_enter Tryz.func7, Tryz.ntmps7
  go_wp2_with fail
  refine (seen_any R (ys) _ p1 _ HG0.out (by first | omega | (simp; omega)) (PosIs.later H_c1.out hB)).mono ?_
  rintro e x1 ⟨rfl, hG1, hB1⟩
  have HG1 : Hid (GotIs x1 R (ys ++ [p1])) := hG1
  have hL1 : Below w.heap.size w x1 := hB.trans (hB1.mono hR)
  have hT1 : Below R w2 x1 := hB1
  clear hG1 hB1
  go_wp2
  go_end0
  exact ⟨rfl, by have := HG1.out; simpa using this, hT1⟩

set_option maxHeartbeats 4000000 in
set_option maxRecDepth 100000 in
theorem each_mapentry {b : Nat} {z0 : Value} {z2 : Value} {c1 : Value} {p1 : Int} {c2 : Value} {p2 : Int} (w : World) (hb : w.heap[b]? = some (.cells #[z0, c1, z2, c2] 75 (0, 0))) (h_c1 : PosIs w c1 p1) (h_c2 : PosIs w c2 p2) : Visits w (.iface 73 (.pointer (some ⟨b, 0, none⟩))) [p1, p2] := by
  intro R ys w2 hR hB hG hy
  simp only [List.length_cons, List.length_nil] at hy
  have d0 := node_cell hb 0 _ rfl
  have d1 := node_cell hb 1 _ rfl
  have d2 := node_cell hb 2 _ rfl
  have d3 := node_cell hb 3 _ rfl
  have t95 := fun v w => ta_ne (T := 73) Tryz.underlying95 (fun w => by kernel_rfl) (by decide) v w
  have t110 := fun v w => ta_ne (T := 73) Tryz.underlying110 (fun w => by kernel_rfl) (by decide) v w
  have t117 := fun v w => ta_ne (T := 73) Tryz.underlying117 (fun w => by kernel_rfl) (by decide) v w
  have t120 := fun v w => ta_ne (T := 73) Tryz.underlying120 (fun w => by kernel_rfl) (by decide) v w
  have t123 := fun v w => ta_ne (T := 73) Tryz.underlying123 (fun w => by kernel_rfl) (by decide) v w
  have t41 := fun v w => ta_ne (T := 73) Tryz.underlying41 (fun w => by kernel_rfl) (by decide) v w
  have t79 := fun v w => ta_ne (T := 73) Tryz.underlying79 (fun w => by kernel_rfl) (by decide) v w
  have t126 := fun v w => ta_ne (T := 73) Tryz.underlying126 (fun w => by kernel_rfl) (by decide) v w
  have t129 := fun v w => ta_ne (T := 73) Tryz.underlying129 (fun w => by kernel_rfl) (by decide) v w
  have t48 := fun v w => ta_ne (T := 73) Tryz.underlying48 (fun w => by kernel_rfl) (by decide) v w
  have t83 := fun v w => ta_ne (T := 73) Tryz.underlying83 (fun w => by kernel_rfl) (by decide) v w
  have t133 := fun v w => ta_ne (T := 73) Tryz.underlying133 (fun w => by kernel_rfl) (by decide) v w
  have t138 := fun v w => ta_ne (T := 73) Tryz.underlying138 (fun w => by kernel_rfl) (by decide) v w
  have t52 := fun v w => ta_ne (T := 73) Tryz.underlying52 (fun w => by kernel_rfl) (by decide) v w
  have t106 := fun v w => ta_ne (T := 73) Tryz.underlying106 (fun w => by kernel_rfl) (by decide) v w
  have t103 := fun v w => ta_ne (T := 73) Tryz.underlying103 (fun w => by kernel_rfl) (by decide) v w
  have t141 := fun v w => ta_ne (T := 73) Tryz.underlying141 (fun w => by kernel_rfl) (by decide) v w
  have t144 := fun v w => ta_ne (T := 73) Tryz.underlying144 (fun w => by kernel_rfl) (by decide) v w
  have t147 := fun v w => ta_ne (T := 73) Tryz.underlying147 (fun w => by kernel_rfl) (by decide) v w
  have t150 := fun v w => ta_ne (T := 73) Tryz.underlying150 (fun w => by kernel_rfl) (by decide) v w
  have t153 := fun v w => ta_ne (T := 73) Tryz.underlying153 (fun w => by kernel_rfl) (by decide) v w
  have t156 := fun v w => ta_ne (T := 73) Tryz.underlying156 (fun w => by kernel_rfl) (by decide) v w
  have t73 := fun v w => ta_eq Tryz.underlying73 v w
  have H_c1 : Hid (PosIs w c1 p1) := h_c1
  clear h_c1
  have H_c2 : Hid (PosIs w c2 p2) := h_c2
  clear h_c2
  have HG0 : Hid (GotIs w2 R ys) := hG
  clear hG hb
  unfold fnR
  go_enter Tryz.func7, Tryz.ntmps7
  go_wp2_with fail
  refine (seen_any R (ys) _ p1 _ HG0.out (by first | omega | (simp; omega)) (PosIs.later H_c1.out hB)).mono ?_
  rintro e x1 ⟨rfl, hG1, hB1⟩
  have HG1 : Hid (GotIs x1 R (ys ++ [p1])) := hG1
  have hL1 : Below w.heap.size w x1 := hB.trans (hB1.mono hR)
  have hT1 : Below R w2 x1 := hB1
  clear hG1 hB1
  go_wp2_with fail
  refine (seen_any R (ys ++ [p1]) _ p2 _ HG1.out (by first | omega | (simp; omega)) (PosIs.later H_c2.out hL1)).mono ?_
  rintro e x2 ⟨rfl, hG2, hB2⟩
  have HG2 : Hid (GotIs x2 R (ys ++ [p1] ++ [p2])) := hG2
  have hL2 : Below w.heap.size w x2 := hL1.trans (hB2.mono hR)
  have hT2 : Below R w2 x2 := hT1.trans hB2
  clear hG2 hB2
  go_wp2
  go_end0
  exact ⟨rfl, by have := HG2.out; simpa using this, hT2⟩

end Go.Proofs.Qxb6003857aGreat
