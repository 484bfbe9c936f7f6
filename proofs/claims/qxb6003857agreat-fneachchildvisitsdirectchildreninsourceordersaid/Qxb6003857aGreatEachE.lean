/-
  EachChild: for. (Written by wip/gen/opts.py.)
-/
import Derived.Test.Qxb6003857aGreatEachB
namespace Go.Proofs.Qxb6003857aGreat
open Go.RowKit

set_option maxHeartbeats 4000000 in
set_option maxRecDepth 100000 in
theorem each_parts {b R : Nat} {v : Value} {xs : List Value} {ps ys : List Int} (w w2 : World) (d1 : ∀ wx : World, Below w.heap.size w wx → wx.cell? ⟨b, 1, none⟩ = some .nilIface) (d2 : ∀ wx : World, Below w.heap.size w wx → wx.cell? ⟨b, 1 + 1, none⟩ = some .nilIface) (d3 : ∀ wx : World, Below w.heap.size w wx → wx.cell? ⟨b, 1 + 2, none⟩ = some v) (hr : RowOf w v xs) (hk : Kids w xs ps) (hn : xs.length ≤ 100) (hR : w.heap.size ≤ R) (hB : Below w.heap.size w w2) (hG : GotIs w2 R ys) (hy : ys.length + ps.length + 0 ≤ 999) :
    Calls Tryz.prog 19 #[.pointer (some ⟨b, 1, none⟩), fnR R] w2 fun e w3 => e = .returned (.tuple #[]) ∧ GotIs w3 R (ys ++ [] ++ ps) ∧ Below R w2 w3 := by
  obtain ⟨a, cap, g, rfl, hr0⟩ := hr
  have hrow : Hid (∀ k, k < xs.length → a = some ⟨g, 0, none⟩ ∧ w.cell? ⟨g, k, none⟩ = some (xs.getD k .nilIface)) := hr0
  have HK := hide hk
  clear hr0 hk
  have HG0 : Hid (GotIs w2 R ys) := hG
  have hT0 : Below R w2 w2 := Below.refl _ _
  clear hG
  unfold fnR
  go_enter Tryz.func19, Tryz.ntmps19
  go_wp2
  go_loopw [33] (fun i wr => ∃ k : Nat, k ≤ xs.length ∧ i = .int .i64 k ∧ GotIs wr R (ys ++ ps.take k) ∧ Below R w2 wr) (fun i _ => xs.length - (intOf i).toNat)
  case atStart => exact ⟨0, Nat.zero_le _, rfl, by simpa using HG0.out, hT0⟩
  case round =>
    obtain ⟨k, hk, rfl, hGr, hTr⟩ := hrel
    have hLr : Below w.heap.size w wr := hB.trans (hTr.mono hR)
    by_cases hlt : k < xs.length
    · obtain ⟨ha, hcell⟩ := hrow.out k hlt
      have c1 := cell_later hLr hcell
      have ix : ∀ wx : World, (Instr.indexAt 58 (.slice a xs.length cap) (.int .i64 k)).run Tryz.prog wx = .ok (.pointer (some ⟨g, k, none⟩)) wx := fun wx => by
        rw [ha]
        exact index_row Tryz.underlying58 (fun w => by kernel_rfl) g k xs.length cap hlt wx
      have hpk := HK.out.2 k hlt
      have HP : Hid (PosIs w (xs.getD k .nilIface) (ps.getD k 0)) := hpk
      have HT : Hid (ps.take (k + 1) = ps.take k ++ [ps.getD k 0]) := take_next ps k (by have := HK.out.1; omega)
      have HGr : Hid (GotIs wr R (ys ++ ps.take k)) := hGr
      have hlen : (ps.take k).length ≤ ps.length := by rw [List.length_take]; omega
      clear ha hcell hpk hGr
      generalize xs.getD k .nilIface = x at c1 HP
      generalize ps.getD k 0 = p at HP HT
      obtain ⟨T, u, rfl⟩ := PosIs.form HP.out
      go_wp2_with (go_at_call 8; refine (seen_any R (ys ++ ps.take k) _ p _ HGr.out (by simp; omega) (PosIs.later HP.out hLr)).mono ?_; rintro e x1 ⟨rfl, hG1, hB1⟩)
      go_roundw
      case rel => exact ⟨k + 1, by omega, by go_num, by rw [HT.out, ← List.append_assoc]; exact hG1, hTr.trans hB1⟩
      case measure => simp [intOf]; omega
    · have hke : ps.take k = ps := List.take_of_length_le (by have := HK.out.1; omega)
      rw [hke] at hGr
      have HGe : Hid (GotIs wr R (ys ++ ps)) := hGr
      clear hke hGr
      go_wp2
      go_end0
      exact ⟨rfl, by have := HGe.out; simpa using this, hTr⟩

set_option maxHeartbeats 4000000 in
set_option maxRecDepth 100000 in
theorem each_partsC {b R : Nat} {v : Value} {c2 : Value} {p2 : Int} {xs : List Value} {ps ys : List Int} (w w2 : World) (d1 : ∀ wx : World, Below w.heap.size w wx → wx.cell? ⟨b, 1, none⟩ = some .nilIface) (d2 : ∀ wx : World, Below w.heap.size w wx → wx.cell? ⟨b, 1 + 1, none⟩ = some c2) (d3 : ∀ wx : World, Below w.heap.size w wx → wx.cell? ⟨b, 1 + 2, none⟩ = some v) (h_c2 : PosIs w c2 p2) (hr : RowOf w v xs) (hk : Kids w xs ps) (hn : xs.length ≤ 100) (hR : w.heap.size ≤ R) (hB : Below w.heap.size w w2) (hG : GotIs w2 R ys) (hy : ys.length + ps.length + 1 ≤ 999) :
    Calls Tryz.prog 19 #[.pointer (some ⟨b, 1, none⟩), fnR R] w2 fun e w3 => e = .returned (.tuple #[]) ∧ GotIs w3 R (ys ++ [p2] ++ ps) ∧ Below R w2 w3 := by
  obtain ⟨a, cap, g, rfl, hr0⟩ := hr
  have hrow : Hid (∀ k, k < xs.length → a = some ⟨g, 0, none⟩ ∧ w.cell? ⟨g, k, none⟩ = some (xs.getD k .nilIface)) := hr0
  have HK := hide hk
  clear hr0 hk
  obtain ⟨T2, u2, rfl⟩ := h_c2.form
  have H_c2 := hide h_c2
  clear h_c2
  have HG0 : Hid (GotIs w2 R ys) := hG
  have hT0 : Below R w2 w2 := Below.refl _ _
  clear hG
  unfold fnR
  go_enter Tryz.func19, Tryz.ntmps19
  go_wp2_with fail
  refine (seen_any R (ys) _ p2 _ HG0.out (by first | omega | (simp; omega)) (PosIs.later H_c2.out hB)).mono ?_
  rintro e x1 ⟨rfl, hG1, hB1⟩
  have HG1 : Hid (GotIs x1 R (ys ++ [p2])) := hG1
  have hL1 : Below w.heap.size w x1 := hB.trans (hB1.mono hR)
  have hT1 : Below R w2 x1 := hB1
  clear hG1 hB1
  go_wp2
  go_loopw [33] (fun i wr => ∃ k : Nat, k ≤ xs.length ∧ i = .int .i64 k ∧ GotIs wr R ((ys ++ [p2]) ++ ps.take k) ∧ Below R w2 wr) (fun i _ => xs.length - (intOf i).toNat)
  case atStart => exact ⟨0, Nat.zero_le _, rfl, by simpa using HG1.out, hT1⟩
  case round =>
    obtain ⟨k, hk, rfl, hGr, hTr⟩ := hrel
    have hLr : Below w.heap.size w wr := hB.trans (hTr.mono hR)
    by_cases hlt : k < xs.length
    · obtain ⟨ha, hcell⟩ := hrow.out k hlt
      have c1 := cell_later hLr hcell
      have ix : ∀ wx : World, (Instr.indexAt 58 (.slice a xs.length cap) (.int .i64 k)).run Tryz.prog wx = .ok (.pointer (some ⟨g, k, none⟩)) wx := fun wx => by
        rw [ha]
        exact index_row Tryz.underlying58 (fun w => by kernel_rfl) g k xs.length cap hlt wx
      have hpk := HK.out.2 k hlt
      have HP : Hid (PosIs w (xs.getD k .nilIface) (ps.getD k 0)) := hpk
      have HT : Hid (ps.take (k + 1) = ps.take k ++ [ps.getD k 0]) := take_next ps k (by have := HK.out.1; omega)
      have HGr : Hid (GotIs wr R ((ys ++ [p2]) ++ ps.take k)) := hGr
      have hlen : (ps.take k).length ≤ ps.length := by rw [List.length_take]; omega
      clear ha hcell hpk hGr
      generalize xs.getD k .nilIface = x at c1 HP
      generalize ps.getD k 0 = p at HP HT
      obtain ⟨T, u, rfl⟩ := PosIs.form HP.out
      go_wp2_with (go_at_call 8; refine (seen_any R ((ys ++ [p2]) ++ ps.take k) _ p _ HGr.out (by simp; omega) (PosIs.later HP.out hLr)).mono ?_; rintro e x1 ⟨rfl, hG1, hB1⟩)
      go_roundw
      case rel => exact ⟨k + 1, by omega, by go_num, by rw [HT.out, ← List.append_assoc]; exact hG1, hTr.trans hB1⟩
      case measure => simp [intOf]; omega
    · have hke : ps.take k = ps := List.take_of_length_le (by have := HK.out.1; omega)
      rw [hke] at hGr
      have HGe : Hid (GotIs wr R ((ys ++ [p2]) ++ ps)) := hGr
      clear hke hGr
      go_wp2
      go_end0
      exact ⟨rfl, by have := HGe.out; simpa using this, hTr⟩

set_option maxHeartbeats 4000000 in
set_option maxRecDepth 100000 in
theorem each_partsI {b R : Nat} {v : Value} {c1 : Value} {p1 : Int} {xs : List Value} {ps ys : List Int} (w w2 : World) (d1 : ∀ wx : World, Below w.heap.size w wx → wx.cell? ⟨b, 1, none⟩ = some c1) (d2 : ∀ wx : World, Below w.heap.size w wx → wx.cell? ⟨b, 1 + 1, none⟩ = some .nilIface) (d3 : ∀ wx : World, Below w.heap.size w wx → wx.cell? ⟨b, 1 + 2, none⟩ = some v) (h_c1 : PosIs w c1 p1) (hr : RowOf w v xs) (hk : Kids w xs ps) (hn : xs.length ≤ 100) (hR : w.heap.size ≤ R) (hB : Below w.heap.size w w2) (hG : GotIs w2 R ys) (hy : ys.length + ps.length + 1 ≤ 999) :
    Calls Tryz.prog 19 #[.pointer (some ⟨b, 1, none⟩), fnR R] w2 fun e w3 => e = .returned (.tuple #[]) ∧ GotIs w3 R (ys ++ [p1] ++ ps) ∧ Below R w2 w3 := by
  obtain ⟨a, cap, g, rfl, hr0⟩ := hr
  have hrow : Hid (∀ k, k < xs.length → a = some ⟨g, 0, none⟩ ∧ w.cell? ⟨g, k, none⟩ = some (xs.getD k .nilIface)) := hr0
  have HK := hide hk
  clear hr0 hk
  obtain ⟨T1, u1, rfl⟩ := h_c1.form
  have H_c1 := hide h_c1
  clear h_c1
  have HG0 : Hid (GotIs w2 R ys) := hG
  have hT0 : Below R w2 w2 := Below.refl _ _
  clear hG
  unfold fnR
  go_enter Tryz.func19, Tryz.ntmps19
  go_wp2_with fail
  refine (seen_any R (ys) _ p1 _ HG0.out (by first | omega | (simp; omega)) (PosIs.later H_c1.out hB)).mono ?_
  rintro e x1 ⟨rfl, hG1, hB1⟩
  have HG1 : Hid (GotIs x1 R (ys ++ [p1])) := hG1
  have hL1 : Below w.heap.size w x1 := hB.trans (hB1.mono hR)
  have hT1 : Below R w2 x1 := hB1
  clear hG1 hB1
  go_wp2
  go_loopw [33] (fun i wr => ∃ k : Nat, k ≤ xs.length ∧ i = .int .i64 k ∧ GotIs wr R ((ys ++ [p1]) ++ ps.take k) ∧ Below R w2 wr) (fun i _ => xs.length - (intOf i).toNat)
  case atStart => exact ⟨0, Nat.zero_le _, rfl, by simpa using HG1.out, hT1⟩
  case round =>
    obtain ⟨k, hk, rfl, hGr, hTr⟩ := hrel
    have hLr : Below w.heap.size w wr := hB.trans (hTr.mono hR)
    by_cases hlt : k < xs.length
    · obtain ⟨ha, hcell⟩ := hrow.out k hlt
      have c1 := cell_later hLr hcell
      have ix : ∀ wx : World, (Instr.indexAt 58 (.slice a xs.length cap) (.int .i64 k)).run Tryz.prog wx = .ok (.pointer (some ⟨g, k, none⟩)) wx := fun wx => by
        rw [ha]
        exact index_row Tryz.underlying58 (fun w => by kernel_rfl) g k xs.length cap hlt wx
      have hpk := HK.out.2 k hlt
      have HP : Hid (PosIs w (xs.getD k .nilIface) (ps.getD k 0)) := hpk
      have HT : Hid (ps.take (k + 1) = ps.take k ++ [ps.getD k 0]) := take_next ps k (by have := HK.out.1; omega)
      have HGr : Hid (GotIs wr R ((ys ++ [p1]) ++ ps.take k)) := hGr
      have hlen : (ps.take k).length ≤ ps.length := by rw [List.length_take]; omega
      clear ha hcell hpk hGr
      generalize xs.getD k .nilIface = x at c1 HP
      generalize ps.getD k 0 = p at HP HT
      obtain ⟨T, u, rfl⟩ := PosIs.form HP.out
      go_wp2_with (go_at_call 8; refine (seen_any R ((ys ++ [p1]) ++ ps.take k) _ p _ HGr.out (by simp; omega) (PosIs.later HP.out hLr)).mono ?_; rintro e x1 ⟨rfl, hG1, hB1⟩)
      go_roundw
      case rel => exact ⟨k + 1, by omega, by go_num, by rw [HT.out, ← List.append_assoc]; exact hG1, hTr.trans hB1⟩
      case measure => simp [intOf]; omega
    · have hke : ps.take k = ps := List.take_of_length_le (by have := HK.out.1; omega)
      rw [hke] at hGr
      have HGe : Hid (GotIs wr R ((ys ++ [p1]) ++ ps)) := hGr
      clear hke hGr
      go_wp2
      go_end0
      exact ⟨rfl, by have := HGe.out; simpa using this, hTr⟩

set_option maxHeartbeats 4000000 in
set_option maxRecDepth 100000 in
theorem each_partsIC {b R : Nat} {v : Value} {c1 : Value} {p1 : Int} {c2 : Value} {p2 : Int} {xs : List Value} {ps ys : List Int} (w w2 : World) (d1 : ∀ wx : World, Below w.heap.size w wx → wx.cell? ⟨b, 1, none⟩ = some c1) (d2 : ∀ wx : World, Below w.heap.size w wx → wx.cell? ⟨b, 1 + 1, none⟩ = some c2) (d3 : ∀ wx : World, Below w.heap.size w wx → wx.cell? ⟨b, 1 + 2, none⟩ = some v) (h_c1 : PosIs w c1 p1) (h_c2 : PosIs w c2 p2) (hr : RowOf w v xs) (hk : Kids w xs ps) (hn : xs.length ≤ 100) (hR : w.heap.size ≤ R) (hB : Below w.heap.size w w2) (hG : GotIs w2 R ys) (hy : ys.length + ps.length + 2 ≤ 999) :
    Calls Tryz.prog 19 #[.pointer (some ⟨b, 1, none⟩), fnR R] w2 fun e w3 => e = .returned (.tuple #[]) ∧ GotIs w3 R (ys ++ [p1, p2] ++ ps) ∧ Below R w2 w3 := by
  obtain ⟨a, cap, g, rfl, hr0⟩ := hr
  have hrow : Hid (∀ k, k < xs.length → a = some ⟨g, 0, none⟩ ∧ w.cell? ⟨g, k, none⟩ = some (xs.getD k .nilIface)) := hr0
  have HK := hide hk
  clear hr0 hk
  obtain ⟨T1, u1, rfl⟩ := h_c1.form
  have H_c1 := hide h_c1
  clear h_c1
  obtain ⟨T2, u2, rfl⟩ := h_c2.form
  have H_c2 := hide h_c2
  clear h_c2
  have HG0 : Hid (GotIs w2 R ys) := hG
  have hT0 : Below R w2 w2 := Below.refl _ _
  clear hG
  unfold fnR
  go_enter Tryz.func19, Tryz.ntmps19
  go_wp2_with fail
  refine (seen_any R (ys) _ p1 _ HG0.out (by first | omega | (simp; omega)) (PosIs.later H_c1.out hB)).mono ?_
  rintro e x1 ⟨rfl, hG1, hB1⟩
  have HG1 : Hid (GotIs x1 R (ys ++ [p1])) := hG1
  have hL1 : Below w.heap.size w x1 := hB.trans (hB1.mono hR)
  have hT1 : Below R w2 x1 := hB1
  clear hG1 hB1
  go_wp2_with fail
  refine (seen_any R (ys ++ [p1]) _ p2 _ HG1.out (by first | omega | (simp; omega)) (PosIs.later H_c2.out hL1)).mono ?_
  rintro e x2 ⟨rfl, hG2, hB2⟩
  have HG2 : Hid (GotIs x2 R (ys ++ [p1] ++ [p2])) := hG2
  have hL2 : Below w.heap.size w x2 := hL1.trans (hB2.mono hR)
  have hT2 : Below R w2 x2 := hT1.trans hB2
  clear hG2 hB2
  go_wp2
  go_loopw [33] (fun i wr => ∃ k : Nat, k ≤ xs.length ∧ i = .int .i64 k ∧ GotIs wr R ((ys ++ [p1] ++ [p2]) ++ ps.take k) ∧ Below R w2 wr) (fun i _ => xs.length - (intOf i).toNat)
  case atStart => exact ⟨0, Nat.zero_le _, rfl, by simpa using HG2.out, hT2⟩
  case round =>
    obtain ⟨k, hk, rfl, hGr, hTr⟩ := hrel
    have hLr : Below w.heap.size w wr := hB.trans (hTr.mono hR)
    by_cases hlt : k < xs.length
    · obtain ⟨ha, hcell⟩ := hrow.out k hlt
      have c1 := cell_later hLr hcell
      have ix : ∀ wx : World, (Instr.indexAt 58 (.slice a xs.length cap) (.int .i64 k)).run Tryz.prog wx = .ok (.pointer (some ⟨g, k, none⟩)) wx := fun wx => by
        rw [ha]
        exact index_row Tryz.underlying58 (fun w => by kernel_rfl) g k xs.length cap hlt wx
      have hpk := HK.out.2 k hlt
      have HP : Hid (PosIs w (xs.getD k .nilIface) (ps.getD k 0)) := hpk
      have HT : Hid (ps.take (k + 1) = ps.take k ++ [ps.getD k 0]) := take_next ps k (by have := HK.out.1; omega)
      have HGr : Hid (GotIs wr R ((ys ++ [p1] ++ [p2]) ++ ps.take k)) := hGr
      have hlen : (ps.take k).length ≤ ps.length := by rw [List.length_take]; omega
      clear ha hcell hpk hGr
      generalize xs.getD k .nilIface = x at c1 HP
      generalize ps.getD k 0 = p at HP HT
      obtain ⟨T, u, rfl⟩ := PosIs.form HP.out
      go_wp2_with (go_at_call 8; refine (seen_any R ((ys ++ [p1] ++ [p2]) ++ ps.take k) _ p _ HGr.out (by simp; omega) (PosIs.later HP.out hLr)).mono ?_; rintro e x1 ⟨rfl, hG1, hB1⟩)
      go_roundw
      case rel => exact ⟨k + 1, by omega, by go_num, by rw [HT.out, ← List.append_assoc]; exact hG1, hTr.trans hB1⟩
      case measure => simp [intOf]; omega
    · have hke : ps.take k = ps := List.take_of_length_le (by have := HK.out.1; omega)
      rw [hke] at hGr
      have HGe : Hid (GotIs wr R ((ys ++ [p1] ++ [p2]) ++ ps)) := hGr
      clear hke hGr
      go_wp2
      go_end0
      exact ⟨rfl, by have := HGe.out; simpa using this, hTr⟩

set_option maxHeartbeats 4000000 in
set_option maxRecDepth 100000 in
theorem each_for {b : Nat} {z0 v c0 : Value} {p0 : Int} {xs : List Value} {ps : List Int} (w : World) (hb : w.heap[b]? = some (.cells #[z0, .nilIface, .nilIface, v, c0] 87 (0, 0))) (h_c0 : PosIs w c0 p0) (hr : RowOf w v xs) (hk : Kids w xs ps) (hn : xs.length ≤ 100) : Visits w (.iface 83 (.pointer (some ⟨b, 0, none⟩))) ([] ++ ps ++ [p0]) := by
  intro R ys w2 hR hB hG hy
  simp only [List.length_append, List.length_cons, List.length_nil] at hy
  have d1 := node_cell hb 1 _ rfl
  have d2 := node_cell hb 2 _ rfl
  have d3 := node_cell hb 3 _ rfl
  have d4 := node_cell hb 4 _ rfl
  have hparts := each_parts w w2 d1 d2 d3 hr hk hn hR hB hG (by omega)
  have HPt := hide hparts
  have H_c0 := hide h_c0
  clear hparts hG hb h_c0 d1 d2 d3 hr hk
  have t95 := fun v w => ta_ne (T := 83) Tryz.underlying95 (fun w => by kernel_rfl) (by decide) v w
  have t110 := fun v w => ta_ne (T := 83) Tryz.underlying110 (fun w => by kernel_rfl) (by decide) v w
  have t117 := fun v w => ta_ne (T := 83) Tryz.underlying117 (fun w => by kernel_rfl) (by decide) v w
  have t120 := fun v w => ta_ne (T := 83) Tryz.underlying120 (fun w => by kernel_rfl) (by decide) v w
  have t123 := fun v w => ta_ne (T := 83) Tryz.underlying123 (fun w => by kernel_rfl) (by decide) v w
  have t41 := fun v w => ta_ne (T := 83) Tryz.underlying41 (fun w => by kernel_rfl) (by decide) v w
  have t79 := fun v w => ta_ne (T := 83) Tryz.underlying79 (fun w => by kernel_rfl) (by decide) v w
  have t126 := fun v w => ta_ne (T := 83) Tryz.underlying126 (fun w => by kernel_rfl) (by decide) v w
  have t129 := fun v w => ta_ne (T := 83) Tryz.underlying129 (fun w => by kernel_rfl) (by decide) v w
  have t48 := fun v w => ta_ne (T := 83) Tryz.underlying48 (fun w => by kernel_rfl) (by decide) v w
  have t83 := fun v w => ta_eq Tryz.underlying83 v w
  unfold fnR at *
  go_enter Tryz.func7, Tryz.ntmps7
  go_wp2_with fail
  refine Calls.mono HPt.out ?_
  rintro e x1 ⟨rfl, hG1, hB1⟩
  have HG1 := hide hG1
  have hL1 : Below w.heap.size w x1 := hB.trans (hB1.mono hR)
  clear hG1
  go_wp2_with fail
  refine (seen_any R _ _ p0 _ HG1.out (by simp; omega) (PosIs.later H_c0.out hL1)).mono ?_
  rintro e x2 ⟨rfl, hG2, hB2⟩
  go_wp2
  go_end0
  exact ⟨rfl, by have := hG2; simpa using this, hB1.trans hB2⟩

set_option maxHeartbeats 4000000 in
set_option maxRecDepth 100000 in
theorem each_forC {b : Nat} {z0 v c0 : Value} {p0 : Int} {c2 : Value} {p2 : Int} {xs : List Value} {ps : List Int} (w : World) (hb : w.heap[b]? = some (.cells #[z0, .nilIface, c2, v, c0] 87 (0, 0))) (h_c0 : PosIs w c0 p0) (h_c2 : PosIs w c2 p2) (hr : RowOf w v xs) (hk : Kids w xs ps) (hn : xs.length ≤ 100) : Visits w (.iface 83 (.pointer (some ⟨b, 0, none⟩))) ([p2] ++ ps ++ [p0]) := by
  intro R ys w2 hR hB hG hy
  simp only [List.length_append, List.length_cons, List.length_nil] at hy
  have d1 := node_cell hb 1 _ rfl
  have d2 := node_cell hb 2 _ rfl
  have d3 := node_cell hb 3 _ rfl
  have d4 := node_cell hb 4 _ rfl
  have hparts := each_partsC w w2 d1 d2 d3 h_c2 hr hk hn hR hB hG (by omega)
  have HPt := hide hparts
  have H_c0 := hide h_c0
  clear hparts hG hb h_c0 d1 d2 d3 hr hk h_c2
  have t95 := fun v w => ta_ne (T := 83) Tryz.underlying95 (fun w => by kernel_rfl) (by decide) v w
  have t110 := fun v w => ta_ne (T := 83) Tryz.underlying110 (fun w => by kernel_rfl) (by decide) v w
  have t117 := fun v w => ta_ne (T := 83) Tryz.underlying117 (fun w => by kernel_rfl) (by decide) v w
  have t120 := fun v w => ta_ne (T := 83) Tryz.underlying120 (fun w => by kernel_rfl) (by decide) v w
  have t123 := fun v w => ta_ne (T := 83) Tryz.underlying123 (fun w => by kernel_rfl) (by decide) v w
  have t41 := fun v w => ta_ne (T := 83) Tryz.underlying41 (fun w => by kernel_rfl) (by decide) v w
  have t79 := fun v w => ta_ne (T := 83) Tryz.underlying79 (fun w => by kernel_rfl) (by decide) v w
  have t126 := fun v w => ta_ne (T := 83) Tryz.underlying126 (fun w => by kernel_rfl) (by decide) v w
  have t129 := fun v w => ta_ne (T := 83) Tryz.underlying129 (fun w => by kernel_rfl) (by decide) v w
  have t48 := fun v w => ta_ne (T := 83) Tryz.underlying48 (fun w => by kernel_rfl) (by decide) v w
  have t83 := fun v w => ta_eq Tryz.underlying83 v w
  unfold fnR at *
  go_enter Tryz.func7, Tryz.ntmps7
  go_wp2_with fail
  refine Calls.mono HPt.out ?_
  rintro e x1 ⟨rfl, hG1, hB1⟩
  have HG1 := hide hG1
  have hL1 : Below w.heap.size w x1 := hB.trans (hB1.mono hR)
  clear hG1
  go_wp2_with fail
  refine (seen_any R _ _ p0 _ HG1.out (by simp; omega) (PosIs.later H_c0.out hL1)).mono ?_
  rintro e x2 ⟨rfl, hG2, hB2⟩
  go_wp2
  go_end0
  exact ⟨rfl, by have := hG2; simpa using this, hB1.trans hB2⟩

set_option maxHeartbeats 4000000 in
set_option maxRecDepth 100000 in
theorem each_forI {b : Nat} {z0 v c0 : Value} {p0 : Int} {c1 : Value} {p1 : Int} {xs : List Value} {ps : List Int} (w : World) (hb : w.heap[b]? = some (.cells #[z0, c1, .nilIface, v, c0] 87 (0, 0))) (h_c0 : PosIs w c0 p0) (h_c1 : PosIs w c1 p1) (hr : RowOf w v xs) (hk : Kids w xs ps) (hn : xs.length ≤ 100) : Visits w (.iface 83 (.pointer (some ⟨b, 0, none⟩))) ([p1] ++ ps ++ [p0]) := by
  intro R ys w2 hR hB hG hy
  simp only [List.length_append, List.length_cons, List.length_nil] at hy
  have d1 := node_cell hb 1 _ rfl
  have d2 := node_cell hb 2 _ rfl
  have d3 := node_cell hb 3 _ rfl
  have d4 := node_cell hb 4 _ rfl
  have hparts := each_partsI w w2 d1 d2 d3 h_c1 hr hk hn hR hB hG (by omega)
  have HPt := hide hparts
  have H_c0 := hide h_c0
  clear hparts hG hb h_c0 d1 d2 d3 hr hk h_c1
  have t95 := fun v w => ta_ne (T := 83) Tryz.underlying95 (fun w => by kernel_rfl) (by decide) v w
  have t110 := fun v w => ta_ne (T := 83) Tryz.underlying110 (fun w => by kernel_rfl) (by decide) v w
  have t117 := fun v w => ta_ne (T := 83) Tryz.underlying117 (fun w => by kernel_rfl) (by decide) v w
  have t120 := fun v w => ta_ne (T := 83) Tryz.underlying120 (fun w => by kernel_rfl) (by decide) v w
  have t123 := fun v w => ta_ne (T := 83) Tryz.underlying123 (fun w => by kernel_rfl) (by decide) v w
  have t41 := fun v w => ta_ne (T := 83) Tryz.underlying41 (fun w => by kernel_rfl) (by decide) v w
  have t79 := fun v w => ta_ne (T := 83) Tryz.underlying79 (fun w => by kernel_rfl) (by decide) v w
  have t126 := fun v w => ta_ne (T := 83) Tryz.underlying126 (fun w => by kernel_rfl) (by decide) v w
  have t129 := fun v w => ta_ne (T := 83) Tryz.underlying129 (fun w => by kernel_rfl) (by decide) v w
  have t48 := fun v w => ta_ne (T := 83) Tryz.underlying48 (fun w => by kernel_rfl) (by decide) v w
  have t83 := fun v w => ta_eq Tryz.underlying83 v w
  unfold fnR at *
  go_enter Tryz.func7, Tryz.ntmps7
  go_wp2_with fail
  refine Calls.mono HPt.out ?_
  rintro e x1 ⟨rfl, hG1, hB1⟩
  have HG1 := hide hG1
  have hL1 : Below w.heap.size w x1 := hB.trans (hB1.mono hR)
  clear hG1
  go_wp2_with fail
  refine (seen_any R _ _ p0 _ HG1.out (by simp; omega) (PosIs.later H_c0.out hL1)).mono ?_
  rintro e x2 ⟨rfl, hG2, hB2⟩
  go_wp2
  go_end0
  exact ⟨rfl, by have := hG2; simpa using this, hB1.trans hB2⟩

set_option maxHeartbeats 4000000 in
set_option maxRecDepth 100000 in
theorem each_forIC {b : Nat} {z0 v c0 : Value} {p0 : Int} {c1 : Value} {p1 : Int} {c2 : Value} {p2 : Int} {xs : List Value} {ps : List Int} (w : World) (hb : w.heap[b]? = some (.cells #[z0, c1, c2, v, c0] 87 (0, 0))) (h_c0 : PosIs w c0 p0) (h_c1 : PosIs w c1 p1) (h_c2 : PosIs w c2 p2) (hr : RowOf w v xs) (hk : Kids w xs ps) (hn : xs.length ≤ 100) : Visits w (.iface 83 (.pointer (some ⟨b, 0, none⟩))) ([p1, p2] ++ ps ++ [p0]) := by
  intro R ys w2 hR hB hG hy
  simp only [List.length_append, List.length_cons, List.length_nil] at hy
  have d1 := node_cell hb 1 _ rfl
  have d2 := node_cell hb 2 _ rfl
  have d3 := node_cell hb 3 _ rfl
  have d4 := node_cell hb 4 _ rfl
  have hparts := each_partsIC w w2 d1 d2 d3 h_c1 h_c2 hr hk hn hR hB hG (by omega)
  have HPt := hide hparts
  have H_c0 := hide h_c0
  clear hparts hG hb h_c0 d1 d2 d3 hr hk h_c1 h_c2
  have t95 := fun v w => ta_ne (T := 83) Tryz.underlying95 (fun w => by kernel_rfl) (by decide) v w
  have t110 := fun v w => ta_ne (T := 83) Tryz.underlying110 (fun w => by kernel_rfl) (by decide) v w
  have t117 := fun v w => ta_ne (T := 83) Tryz.underlying117 (fun w => by kernel_rfl) (by decide) v w
  have t120 := fun v w => ta_ne (T := 83) Tryz.underlying120 (fun w => by kernel_rfl) (by decide) v w
  have t123 := fun v w => ta_ne (T := 83) Tryz.underlying123 (fun w => by kernel_rfl) (by decide) v w
  have t41 := fun v w => ta_ne (T := 83) Tryz.underlying41 (fun w => by kernel_rfl) (by decide) v w
  have t79 := fun v w => ta_ne (T := 83) Tryz.underlying79 (fun w => by kernel_rfl) (by decide) v w
  have t126 := fun v w => ta_ne (T := 83) Tryz.underlying126 (fun w => by kernel_rfl) (by decide) v w
  have t129 := fun v w => ta_ne (T := 83) Tryz.underlying129 (fun w => by kernel_rfl) (by decide) v w
  have t48 := fun v w => ta_ne (T := 83) Tryz.underlying48 (fun w => by kernel_rfl) (by decide) v w
  have t83 := fun v w => ta_eq Tryz.underlying83 v w
  unfold fnR at *
  go_enter Tryz.func7, Tryz.ntmps7
  go_wp2_with fail
  refine Calls.mono HPt.out ?_
  rintro e x1 ⟨rfl, hG1, hB1⟩
  have HG1 := hide hG1
  have hL1 : Below w.heap.size w x1 := hB.trans (hB1.mono hR)
  clear hG1
  go_wp2_with fail
  refine (seen_any R _ _ p0 _ HG1.out (by simp; omega) (PosIs.later H_c0.out hL1)).mono ?_
  rintro e x2 ⟨rfl, hG2, hB2⟩
  go_wp2
  go_end0
  exact ⟨rfl, by have := hG2; simpa using this, hB1.trans hB2⟩

end Go.Proofs.Qxb6003857aGreat
