/-
  EachChild: variable declaration, function declaration. (Written by wip/gen/opts.py.)
-/
import Derived.Test.Qxb6003857aGreatEachB
namespace Go.Proofs.Qxb6003857aGreat
open Go.RowKit

/-- A struct behind a pointer, with an optional child in one field. -/
def SpecIs (tag fld : Nat) (w : World) (x : Value) (q : Option Int) : Prop :=
  ∃ b cs c, x = .pointer (some ⟨b, 0, none⟩) ∧ w.heap[b]? = some (.cells cs tag (0, 0)) ∧ cs[fld]? = some c ∧ ((q = none ∧ c = .nilIface) ∨ ∃ p, q = some p ∧ PosIs w c p)

def Specs (tag fld : Nat) (w : World) (xs : List Value) (qs : List (Option Int)) : Prop := xs.length = qs.length ∧ ∀ k, k < xs.length → SpecIs tag fld w (xs.getD k .nilIface) (qs.getD k none)

def places (qs : List (Option Int)) : List Int := qs.filterMap id

theorem places_le (qs : List (Option Int)) (k : Nat) : (places (qs.take k)).length ≤ (places qs).length :=
  ((List.take_sublist k qs).filterMap id).length_le

theorem places_next (qs : List (Option Int)) (k : Nat) (h : k < qs.length) : places (qs.take (k + 1)) = places (qs.take k) ++ (qs.getD k none).toList := by
  unfold places
  rw [List.take_succ_eq_append_getElem h, List.filterMap_append]
  congr 1
  simp only [List.getD, List.getElem?_eq_getElem h, Option.getD_some]
  cases qs[k] <;> rfl

set_option maxHeartbeats 4000000 in
set_option maxRecDepth 100000 in
theorem each_vardecl {b : Nat} {z0 z1 z2 z3 z4 v : Value} {xs : List Value} {qs : List (Option Int)} (w : World) (hb : w.heap[b]? = some (.cells #[z0, z1, z2, z3, z4, v] 82 (0, 0))) (hr : RowOf w v xs) (hk : Specs 78 1 w xs qs) (hn : xs.length ≤ 100) : Visits w (.iface 79 (.pointer (some ⟨b, 0, none⟩))) (places qs) := by
  intro R ys w2 hR hB hG hy
  obtain ⟨a, cap, g, rfl, hr0⟩ := hr
  have hrow : Hid (∀ k, k < xs.length → a = some ⟨g, 0, none⟩ ∧ w.cell? ⟨g, k, none⟩ = some (xs.getD k .nilIface)) := hr0
  have HK := hide hk
  clear hr0 hk
  have d5 := node_cell hb 5 _ rfl
  have t95 := fun v w => ta_ne (T := 79) Tryz.underlying95 (fun w => by kernel_rfl) (by decide) v w
  have t110 := fun v w => ta_ne (T := 79) Tryz.underlying110 (fun w => by kernel_rfl) (by decide) v w
  have t117 := fun v w => ta_ne (T := 79) Tryz.underlying117 (fun w => by kernel_rfl) (by decide) v w
  have t120 := fun v w => ta_ne (T := 79) Tryz.underlying120 (fun w => by kernel_rfl) (by decide) v w
  have t123 := fun v w => ta_ne (T := 79) Tryz.underlying123 (fun w => by kernel_rfl) (by decide) v w
  have t41 := fun v w => ta_ne (T := 79) Tryz.underlying41 (fun w => by kernel_rfl) (by decide) v w
  have t79 := fun v w => ta_eq Tryz.underlying79 v w
  have HG0 : Hid (GotIs w2 R ys) := hG
  have hT0 : Below R w2 w2 := Below.refl _ _
  clear hG hb
  unfold fnR
  go_enter Tryz.func7, Tryz.ntmps7
  go_wp2
  go_loopw [172] (fun i wr => ∃ k : Nat, k ≤ xs.length ∧ i = .int .i64 k ∧ GotIs wr R (ys ++ places (qs.take k)) ∧ Below R w2 wr) (fun i _ => xs.length - (intOf i).toNat)
  case atStart => exact ⟨0, Nat.zero_le _, rfl, by have := HG0.out; simpa [places] using this, hT0⟩
  case round =>
    obtain ⟨k, hk, rfl, hGr, hTr⟩ := hrel
    have hLr : Below w.heap.size w wr := hB.trans (hTr.mono hR)
    by_cases hlt : k < xs.length
    · obtain ⟨ha, hcell⟩ := hrow.out k hlt
      have c1 := cell_later hLr hcell
      have ix : ∀ wx : World, (Instr.indexAt 80 (.slice a xs.length cap) (.int .i64 k)).run Tryz.prog wx = .ok (.pointer (some ⟨g, k, none⟩)) wx := fun wx => by
        rw [ha]
        exact index_row Tryz.underlying80 (fun w => by kernel_rfl) g k xs.length cap hlt wx
      have hpk := HK.out.2 k hlt
      have HT : Hid (places (qs.take (k + 1)) = places (qs.take k) ++ (qs.getD k none).toList) := places_next qs k (by have := HK.out.1; omega)
      have HGr : Hid (GotIs wr R (ys ++ places (qs.take k))) := hGr
      have hpl := places_le qs k
      clear ha hcell hGr
      generalize xs.getD k .nilIface = x at c1 hpk
      generalize qs.getD k none = q at hpk HT
      obtain ⟨bx, cs, c, rfl, hbx, hfld, hq⟩ := hpk
      have c2 := node_cell hbx 1 _ hfld
      clear hbx hfld
      rcases hq with ⟨rfl, rfl⟩ | ⟨p, rfl, hp⟩
      · go_wp2
        go_roundw
        case rel => exact ⟨k + 1, by omega, by go_num, by rw [HT.out]; simpa using HGr.out, hTr⟩
        case measure => simp [intOf]; omega
      · have HP := hide hp
        clear hp
        obtain ⟨T, u, rfl⟩ := PosIs.form HP.out
        go_wp2_with (go_at_call 8; refine (seen_any R (ys ++ places (qs.take k)) _ p _ HGr.out (by simp; omega) (PosIs.later HP.out hLr)).mono ?_; rintro e x1 ⟨rfl, hG1, hB1⟩)
        go_roundw
        case rel => exact ⟨k + 1, by omega, by go_num, by rw [HT.out]; simpa using hG1, hTr.trans hB1⟩
        case measure => simp [intOf]; omega
    · have hke : qs.take k = qs := List.take_of_length_le (by have := HK.out.1; omega)
      rw [hke] at hGr
      have HGe : Hid (GotIs wr R (ys ++ places qs)) := hGr
      clear hke hGr
      go_wp2
      go_end0
      exact ⟨rfl, HGe.out, hTr⟩

set_option maxHeartbeats 4000000 in
set_option maxRecDepth 100000 in
/-- eachParamDefault. -/
theorem each_params {a : Option Addr} {cap g R : Nat} {xs : List Value} {qs : List (Option Int)} {ys : List Int} (w w2 : World) (hr0 : ∀ k, k < xs.length → a = some ⟨g, 0, none⟩ ∧ w.cell? ⟨g, k, none⟩ = some (xs.getD k .nilIface)) (hk : Specs 92 6 w xs qs) (hn : xs.length ≤ 100) (hR : w.heap.size ≤ R) (hB : Below w.heap.size w w2) (hG : GotIs w2 R ys) (hy : ys.length + (places qs).length ≤ 1000) :
    Calls Tryz.prog 18 #[.slice a xs.length cap, fnR R] w2 fun e w3 => e = .returned (.tuple #[]) ∧ GotIs w3 R (ys ++ places qs) ∧ Below R w2 w3 := by
  have hrow := hide hr0
  have HK := hide hk
  have HG0 : Hid (GotIs w2 R ys) := hG
  have hT0 : Below R w2 w2 := Below.refl _ _
  clear hG hr0 hk
  unfold fnR
  go_enter Tryz.func18, Tryz.ntmps18
  go_wp2
  go_loopw [8] (fun i wr => ∃ k : Nat, k ≤ xs.length ∧ i = .int .i64 k ∧ GotIs wr R (ys ++ places (qs.take k)) ∧ Below R w2 wr) (fun i _ => xs.length - (intOf i).toNat)
  case atStart => exact ⟨0, Nat.zero_le _, rfl, by have := HG0.out; simpa [places] using this, hT0⟩
  case round =>
    obtain ⟨k, hk, rfl, hGr, hTr⟩ := hrel
    have hLr : Below w.heap.size w wr := hB.trans (hTr.mono hR)
    by_cases hlt : k < xs.length
    · obtain ⟨ha, hcell⟩ := hrow.out k hlt
      have c1 := cell_later hLr hcell
      have ix : ∀ wx : World, (Instr.indexAt 88 (.slice a xs.length cap) (.int .i64 k)).run Tryz.prog wx = .ok (.pointer (some ⟨g, k, none⟩)) wx := fun wx => by
        rw [ha]
        exact index_row Tryz.underlying88 (fun w => by kernel_rfl) g k xs.length cap hlt wx
      have hpk := HK.out.2 k hlt
      have HT : Hid (places (qs.take (k + 1)) = places (qs.take k) ++ (qs.getD k none).toList) := places_next qs k (by have := HK.out.1; omega)
      have HGr : Hid (GotIs wr R (ys ++ places (qs.take k))) := hGr
      have hpl := places_le qs k
      clear ha hcell hGr
      generalize xs.getD k .nilIface = x at c1 hpk
      generalize qs.getD k none = q at hpk HT
      obtain ⟨bx, cs, c, rfl, hbx, hfld, hq⟩ := hpk
      have c2 := node_cell hbx 6 _ hfld
      clear hbx hfld
      rcases hq with ⟨rfl, rfl⟩ | ⟨p, rfl, hp⟩
      · go_wp2
        go_roundw
        case rel => exact ⟨k + 1, by omega, by go_num, by rw [HT.out]; simpa using HGr.out, hTr⟩
        case measure => simp [intOf]; omega
      · have HP := hide hp
        clear hp
        obtain ⟨T, u, rfl⟩ := PosIs.form HP.out
        go_wp2_with (go_at_call 8; refine (seen_any R (ys ++ places (qs.take k)) _ p _ HGr.out (by simp; omega) (PosIs.later HP.out hLr)).mono ?_; rintro e x1 ⟨rfl, hG1, hB1⟩)
        go_roundw
        case rel => exact ⟨k + 1, by omega, by go_num, by rw [HT.out]; simpa using hG1, hTr.trans hB1⟩
        case measure => simp [intOf]; omega
    · have hke : qs.take k = qs := List.take_of_length_le (by have := HK.out.1; omega)
      rw [hke] at hGr
      have HGe : Hid (GotIs wr R (ys ++ places qs)) := hGr
      clear hke hGr
      go_wp2
      go_end0
      exact ⟨rfl, HGe.out, hTr⟩

set_option maxHeartbeats 4000000 in
set_option maxRecDepth 100000 in
theorem each_fdecl {b : Nat} {z0 z1 z2 z3 z4 z5 z6 z7 z9 v : Value} {xs : List Value} {qs : List (Option Int)} (w : World) (hb : w.heap[b]? = some (.cells #[z0, z1, z2, z3, z4, z5, z6, z7, v, z9, .nilIface] 100 (0, 0))) (hr : RowOf w v xs) (hk : Specs 92 6 w xs qs) (hn : xs.length ≤ 100) : Visits w (.iface 95 (.pointer (some ⟨b, 0, none⟩))) (places qs) := by
  intro R ys w2 hR hB hG hy
  skip
  obtain ⟨a, cap, g, rfl, hr0⟩ := hr
  have hrow := hide hr0
  have HK := hide hk
  clear hr0 hk
  have d8 := node_cell hb 8 _ rfl
  have d10 := node_cell hb 10 _ rfl
  have t95 := fun v w => ta_eq Tryz.underlying95 v w
  have HG0 : Hid (GotIs w2 R ys) := hG
  clear hG hb
  unfold fnR
  go_enter Tryz.func7, Tryz.ntmps7
  go_wp2_with fail
  refine (each_params (cap := cap) w w2 hrow.out HK.out hn hR hB HG0.out (by omega)).mono ?_
  rintro e x1 ⟨rfl, hG1, hB1⟩
  have HG1 := hide hG1
  have hL1 : Below w.heap.size w x1 := hB.trans (hB1.mono hR)
  clear hG1
  go_wp2
  go_end0
  exact ⟨rfl, HG1.out, hB1⟩

set_option maxHeartbeats 4000000 in
set_option maxRecDepth 100000 in
theorem each_fdeclbody {b : Nat} {z0 z1 z2 z3 z4 z5 z6 z7 z9 v : Value} {c1 : Value} {p1 : Int} {xs : List Value} {qs : List (Option Int)} (w : World) (hb : w.heap[b]? = some (.cells #[z0, z1, z2, z3, z4, z5, z6, z7, v, z9, c1] 100 (0, 0))) (h_c1 : PosIs w c1 p1) (hr : RowOf w v xs) (hk : Specs 92 6 w xs qs) (hn : xs.length ≤ 100) : Visits w (.iface 95 (.pointer (some ⟨b, 0, none⟩))) (places qs ++ [p1]) := by
  intro R ys w2 hR hB hG hy
  simp only [List.length_append, List.length_cons, List.length_nil] at hy
  obtain ⟨a, cap, g, rfl, hr0⟩ := hr
  have hrow := hide hr0
  have HK := hide hk
  clear hr0 hk
  obtain ⟨T, u, rfl⟩ := h_c1.form
  have H_c1 := hide h_c1
  clear h_c1
  have d8 := node_cell hb 8 _ rfl
  have d10 := node_cell hb 10 _ rfl
  have t95 := fun v w => ta_eq Tryz.underlying95 v w
  have HG0 : Hid (GotIs w2 R ys) := hG
  clear hG hb
  unfold fnR
  go_enter Tryz.func7, Tryz.ntmps7
  go_wp2_with fail
  refine (each_params (cap := cap) w w2 hrow.out HK.out hn hR hB HG0.out (by omega)).mono ?_
  rintro e x1 ⟨rfl, hG1, hB1⟩
  have HG1 := hide hG1
  have hL1 : Below w.heap.size w x1 := hB.trans (hB1.mono hR)
  clear hG1
  go_wp2_with fail
  refine (seen_any R (ys ++ places qs) _ p1 _ HG1.out (by simp; omega) (PosIs.later H_c1.out hL1)).mono ?_
  rintro e x2 ⟨rfl, hG2, hB2⟩
  go_wp2
  go_end0
  exact ⟨rfl, by have := hG2; simpa using this, hB1.trans hB2⟩

end Go.Proofs.Qxb6003857aGreat
