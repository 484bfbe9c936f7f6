/-
  THE LAW ON Declare: Members.
-/
import Derived.Test.Qxb6003857aClassTab
import Derived.Test.Qxb6003857aIter
import Derived.OwnWalk
import Derived.Maps.AppendAt
import Derived.Deep.LoopGhost
namespace Go.Proofs.Qxb6003857a
open Go.RowKit Go.Maps Go.WideMaps

theorem info66 : (Try.prog.info? 66).map (fun i => (i.zero, i.size, i.bytes)) = some (some (.pointer none), 1, 8) := by kernel_rfl
theorem size9 (w : World) : (sizeOf 9).run Try.prog w = .ok 1 w := by kernel_rfl

theorem index93 (g k len cap : Nat) (hk : k < len) (wx : World) : (Instr.indexAt 93 (.slice (some ⟨g, 0, none⟩) len cap) (.int .i64 k)).run Try.prog wx = .ok (.pointer (some ⟨g, k, none⟩)) wx := by
  have e : Try.prog.elem 93 = 9 := by simp [Program.elem, Try.underlying93]
  rw [run_indexAt_slice wx 93 _ _ _ _ _ (by rw [e]; exact Try.underlying93), if_pos (by omega), e, size9]
  simp [Result.andThen, Addr.add]
  omega

theorem encStr_bytesM (k : Nat) : encStr (bytesM k) = .string (nmM k) := by simp [encStr, bytesM]

/-- The sorted keys, cell by cell. -/
theorem sorted_row {w2 : World} {base : Nat} {v : Value} {ss : List (List UInt8)} {tab : Nat → Option Addr} (hrow : w2.ownsRow base 9 1 v ss.length ((ss.mergeSort (fun x y => decide (x ≤ y))).map encStr)) (hs : ss.mergeSort leB = (presM tab).map bytesM) :
    ∃ (ka : Option Addr) (kc kb : Nat), v = .slice ka (presM tab).length kc ∧ ∀ i, i < (presM tab).length → ka = some ⟨kb, 0, none⟩ ∧ base ≤ kb ∧ kb < w2.heap.size ∧ w2.cell? ⟨kb, i, none⟩ = some (.string (nmM ((presM tab).getD i 0))) := by
  have hl : ss.length = (presM tab).length := by
    have := congrArg List.length hs
    simpa using this
  have hs' : (ss.mergeSort (fun x y => decide (x ≤ y))).map encStr = ((presM tab).map bytesM).map encStr := congrArg (List.map encStr) hs
  rw [hs', hl] at hrow
  obtain ⟨_, ⟨rfl, h0⟩ | ⟨g, cap, cur, rfl, hg, hb, hc1, hc2, hc3, hc4⟩⟩ := hrow
  · exact ⟨none, 0, 0, by rw [h0], fun i hi => by omega⟩
  · refine ⟨_, cap, g, rfl, fun i hi => ⟨rfl, hg, ?_, ?_⟩⟩
    · exact (Array.getElem?_eq_some_iff.1 hb).1
    · have h1 : (cur.toList.take ((presM tab).length * 1))[i]? = (((presM tab).map bytesM).map encStr)[i]? := by rw [hc4]
      rw [List.getElem?_take_of_lt (by omega)] at h1
      simp only [World.cell?, hb, Array.getElem?_toList] at h1 ⊢
      have h2 : cur[i]? = some (.string (nmM ((presM tab).getD i 0))) := by
        rw [h1]
        simp [hi, encStr_bytesM, List.getD]
      simpa using h2

set_option maxHeartbeats 2000000 in
theorem members_any {n b cb : Nat} {tab : Nat → Option Addr} (w : World) (c1 : w.cell? ⟨cb, 8, none⟩ = some (.map (some b))) (hT : TabM w b n tab) :
    Calls Try.prog 23 #[.pointer (some ⟨cb, 0, none⟩)] w fun e w' => ∃ g, e = .returned (.slice (some ⟨g, 0, none⟩) (presM tab).length (presM tab).length) ∧ Below w.heap.size w w' ∧
      ∀ i, i < (presM tab).length → w'.cell? ⟨g, i, none⟩ = some (.pointer (tab ((presM tab).getD i 0))) := by
  obtain ⟨D, m, hD, hM, hm, hperm, hsz⟩ := hT.keys
  have hcb : cb < w.heap.size := World.block_lt_of_cell? _ _ c1
  have hbl := hD.lt
  have hle : (presM tab).length ≤ 6 := List.length_filter_le _ _
  have hlen := hD.len Try.underlying62
  rw [hsz] at hlen
  obtain ⟨i0, hi, hii⟩ := Option.map_eq_some_iff.1 info66
  have hz0 : i0.zero = some (.pointer none) := congrArg (·.1) hii
  have hz1 : i0.size = 1 := congrArg (·.2.1) hii
  have hz2 : i0.bytes = 8 := congrArg (·.2.2) hii
  have HT : Hid (TabM w b n tab) := hT
  have HD : Hid (w.ownsMap Try.prog 9 heldElem b n D) := hD
  have HM : Hid (MapIs w b n m) := hM
  have Hm : Hid (∀ k, k < 6 → m (bytesM k) = (tab k).map ptrV) := hm
  have Hs : Hid (Maps.size D = (presM tab).length) := hsz
  clear hT hD hM hm hsz hii
  go_enter Try.func23, Try.ntmps23
  go_wp2_with (at_make; refine wpList_make_own _ rfl _ _ 78 rfl w.heap.size 66 i0 (.pointer none) 1 Try.underlying78 hi hz0 hz1 _ _ _ (presM tab).length rfl rfl rfl (by rw [hz2]; omega) (by unfold maxLen; omega) (Nat.le_refl _) ?_)
  intro w1 hown1 hgrow1
  have c2 : w1.cell? ⟨cb, 8, none⟩ = some (.map (some b)) := (World.cell?_of_block (w := w) (hgrow1.block _ hcb (by simp))).trans c1
  have HD1 : Hid (w1.ownsMap Try.prog 9 heldElem b n D) := HD.out.kept hgrow1 (by simp)
  have Hp : Hid (((presM tab).map bytesM).Perm (strKeys D)) := hperm
  have HO1 : Hid (w1.ownsRow w.heap.size 66 1 (.slice (some ⟨w.heap.size, 0, none⟩) 0 (presM tab).length) 0 []) := hown1
  have HG1 : Hid (w.grownBy w1 none) := hgrow1
  have Hmx : Hid (Maps.size D ≤ maxLen ∧ Maps.size D * 16 ≤ 140737488355328) := by
    have := Hs.out
    unfold maxLen
    constructor <;> omega
  clear hperm hown1 hgrow1
  go_wp2_with (first
    | (go_at_call 31; refine (callsIn_wide.1 (Try.maps_Keys_31 _ _)).mono ?_; rintro e w' ⟨rfl, rfl⟩)
    | (go_at_call 30; refine (callsIn_wide.1 (Try.slices_Sorted_keys_30_31 b n D heldElem w1 HD1.out Hmx.out.1 Hmx.out.2)).mono ?_; rintro e w2 ⟨v, ss, rfl, hS, hrow, hnil, hb2⟩; obtain ⟨ka, kc, kb, rfl, hkeys⟩ := sorted_row hrow (presM_sorted hS Hp.out)))
  have hs1 := HG1.out.size
  have hw2 := hb2.size
  simp only [World.size_alloc] at hw2
  have HB2 : Hid (Below w.heap.size w w2) := by
    refine ((((Below.refl _ w).grown HG1.out (Nat.le_refl _) (by simp)).alloc hs1 _).trans (hb2.mono ?_))
    simp only [World.size_alloc]
    omega
  have HO2 : Hid (w2.ownsRow w.heap.size 66 1 (.slice (some ⟨w.heap.size, 0, none⟩) 0 (presM tab).length) 0 []) := by
    have h1 := HO1.out
    refine ⟨h1.1, ?_⟩
    obtain ⟨_, ⟨h2, _⟩ | ⟨g, cap, cur, hv, hg, hb, r⟩⟩ := h1
    · cases h2
    · refine .inr ⟨g, cap, cur, hv, hg, ?_, r⟩
      have hlt := (Array.getElem?_eq_some_iff.1 hb).1
      rw [hb2.block g (by simp only [World.size_alloc]; omega), Below.heap_alloc _ _ _ hlt]
      exact hb
  have hwlt : w.heap.size < w1.heap.size := by
    obtain ⟨_, ⟨h2, _⟩ | ⟨g, cap, cur, hv, hg, hb, r⟩⟩ := HO1.out
    · cases h2
    · cases hv; exact (Array.getElem?_eq_some_iff.1 hb).1
  have HK : Hid (∀ i, i < (presM tab).length → ka = some ⟨kb, 0, none⟩ ∧ w.heap.size < kb ∧ kb < w2.heap.size ∧ w2.cell? ⟨kb, i, none⟩ = some (.string (nmM ((presM tab).getD i 0)))) := fun i hi => by
    obtain ⟨h1, h2, h3, h4⟩ := hkeys i hi
    simp only [World.size_alloc] at h2
    exact ⟨h1, by omega, h3, h4⟩
  have HC : Hid (w.cell? ⟨cb, 8, none⟩ = some (.map (some b))) := c1
  clear hkeys hrow hnil hb2 c1 c2 hlen hS hz0 hz2
  go_loopw [3, 19] (fun sv iv wr => ∃ k : Nat, k ≤ (presM tab).length ∧ iv = .int .i64 k ∧ sv = .slice (some ⟨w.heap.size, 0, none⟩) k (presM tab).length ∧
      wr.ownsRow w.heap.size 66 1 (.slice (some ⟨w.heap.size, 0, none⟩) k (presM tab).length) k (((presM tab).take k).map (fun j => .pointer (tab j))) ∧ Below w.heap.size w wr ∧ w2.heap.size ≤ wr.heap.size ∧ ∀ i, i < w2.heap.size → i ≠ w.heap.size → wr.heap[i]? = w2.heap[i]?) (fun _ iv _ => (presM tab).length - (intOf iv).toNat)
  case atStart => exact ⟨0, Nat.zero_le _, rfl, rfl, HO2.out, HB2.out, Nat.le_refl _, fun i _ _ => rfl⟩
  case round =>
    obtain ⟨k, hk, rfl, rfl, hown, hbl2, hsz2, hst⟩ := hrel
    have hss := hbl2.size
    by_cases hlt : k < (presM tab).length
    · obtain ⟨hka, hk1, hk2, hk3⟩ := HK.out k hlt
      obtain ⟨j, hj, hj6, hj7⟩ : ∃ j, (presM tab).getD k 0 = j ∧ j < 6 ∧ Hid ((presM tab)[k]? = some j) := by
        refine ⟨_, rfl, ?_, ?_⟩
        · have : (presM tab).getD k 0 ∈ presM tab := by simp [List.getD, hlt]
          exact (presM_mem this).1
        · show _ = _
          simp [List.getD, hlt]
      rw [hj] at hk3
      have c2 : wr.cell? ⟨kb, k, none⟩ = some (.string (nmM j)) := (World.cell?_of_block (w := w2) (hst kb hk2 (by omega))).trans hk3
      have c1 : wr.cell? ⟨cb, 8, none⟩ = some (.map (some b)) := (hbl2.cell (p := ⟨cb, 8, none⟩) hcb).trans HC.out
      have hlk := (HM.out.block (hbl2.block b hbl)).look1 Try.underlying62 (zero66 wr) (nmM_size j)
      rw [show m (nmM j).data.toList = (tab j).map ptrV from Hm.out j hj6, ptrV_eq] at hlk
      have hix : ∀ wx : World, (Instr.indexAt 93 (.slice ka (presM tab).length kc) (.int .i64 k)).run Try.prog wx = .ok (.pointer (some ⟨kb, k, none⟩)) wx := by
        intro wx
        rw [hka]
        exact index93 kb k _ kc hlt wx
      have HS : Hid (∀ i, i < w2.heap.size → i ≠ w.heap.size → wr.heap[i]? = w2.heap[i]?) := hst
      have HO : Hid (wr.ownsRow w.heap.size 66 1 (.slice (some ⟨w.heap.size, 0, none⟩) k (presM tab).length) k (((presM tab).take k).map (fun j => .pointer (tab j)))) := hown
      clear hka hk3 hst hj hown
      go_wp2_with (at_builtin; refine wpList_append_fits _ rfl (.tmp 23) (.tmp 30) 78 rfl w.heap.size 66 i0 1 Try.underlying78 hi hz1 w.heap.size k (presM tab).length _ rfl (HO.out.alloc _) ⟨wr.heap.size, 0, none⟩ 1 1 [.pointer (tab j)] rfl rfl (cell_one_new _ _ _) (by intro u hu; cases hu with | head => rfl | tail _ h => cases h) (by omega) ?_; intro w4 hown4 hgrow4)
      go_roundw
      case rel =>
        have hg4 := hgrow4.size
        simp only [World.size_alloc] at hg4
        refine ⟨k + 1, by omega, by go_num, rfl, ?_, ?_, by omega, fun i h1 h2 => ?_⟩
        · have e1 : ((presM tab).take (k + 1)).map (fun j => Value.pointer (tab j)) = ((presM tab).take k).map (fun j => Value.pointer (tab j)) ++ [.pointer (tab j)] := by
            rw [List.take_add_one, hj7.out]; simp
          rw [e1]; exact hown4
        · exact ((hbl2.alloc (by omega) _).grown hgrow4 (by simp; omega) (fun q hq => by cases hq; omega))
        · rw [hgrow4.block i (by simp only [World.size_alloc]; omega) (by simp; omega), Below.heap_alloc _ _ _ (by omega)]
          exact HS.out i h1 h2
      case measure => simp [intOf]; omega
    · have hkl : k = (presM tab).length := by omega
      have HO : Hid (wr.ownsRow w.heap.size 66 1 (.slice (some ⟨w.heap.size, 0, none⟩) k (presM tab).length) k (((presM tab).take k).map (fun j => .pointer (tab j)))) := hown
      have HKL : Hid (k = (presM tab).length) := hkl
      clear hown hst hkl
      go_wp2
      go_ret
      have hkl := HKL.out
      have hown := HO.out
      rw [hkl] at hown ⊢
      refine ⟨w.heap.size, rfl, hbl2, fun i hi => ?_⟩
      rw [List.take_of_length_le (Nat.le_refl _)] at hown
      obtain ⟨_, ⟨h2, _⟩ | ⟨g, cap, cur, hv, hg, hb, hc1, hc2, hc3, hc4⟩⟩ := hown
      · cases h2
      · cases hv
        have h1 : (cur.toList.take ((presM tab).length * 1))[i]? = ((presM tab).map (fun j => Value.pointer (tab j)))[i]? := by rw [hc4]
        rw [List.getElem?_take_of_lt (by omega)] at h1
        simp only [World.cell?, hb, Array.getElem?_toList] at h1 ⊢
        have h2 : cur[i]? = some (.pointer (tab ((presM tab).getD i 0))) := by
          rw [h1]
          simp [hi, List.getD]
        simpa using h2

end Go.Proofs.Qxb6003857a
