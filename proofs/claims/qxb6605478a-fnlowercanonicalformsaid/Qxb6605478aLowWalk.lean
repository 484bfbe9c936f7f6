/-
  THE LAW ON Lower: its own walk.
-/
import Derived.Test.Qxb6605478aLowLeaf
namespace Go.Proofs.Qxb6605478a
open Go.RowKit

structure LowInv (s : ByteArray) (w wr : World) (k : Nat) : Prop where
  below : Below w.heap.size w wr
  cells : ∀ j (h : j < s.size), wr.cell? ⟨w.heap.size + 1 + 1, j, none⟩ = some (.int .u8 ((if j < k then lowB (s[j]'h) else s[j]'h).toNat : Int))
  warm : ∀ j, j < s.size → wr.frozen? ⟨w.heap.size + 1 + 1, j, none⟩ = false
  out : wr.cell? ⟨w.heap.size + 1, 0, none⟩ = some (.string ⟨#[]⟩)
  outw : wr.frozen? ⟨w.heap.size + 1, 0, none⟩ = false

theorem LowInv.skip {s : ByteArray} {w wr : World} {k : Nat} (h : LowInv s w wr k) (hk : k < s.size) (hu : upB ((s[k]'hk).toNat : Int) = false) : LowInv s w wr (k + 1) :=
  ⟨h.below, fun j hj => by
      rw [h.cells j hj]
      rcases Nat.lt_trichotomy j k with h1 | h1 | h1
      · rw [if_pos h1, if_pos (by omega)]
      · subst h1
        rw [if_neg (by omega), if_pos (by omega), lowB_not hu]
      · rw [if_neg (by omega), if_neg (by omega)], h.warm, h.out, h.outw⟩

theorem LowInv.put {s : ByteArray} {w wr : World} {k : Nat} {n : Int} (h : LowInv s w wr k) (hk : k < s.size) (hu : upB ((s[k]'hk).toNat : Int) = true) (hn : n = ((s[k]'hk).toNat : Int) + 32) :
    LowInv s w (wr.setCell ⟨w.heap.size + 1 + 1, k, none⟩ (.int .u8 n)) (k + 1) := by
  refine { below := h.below.setCell (by show w.heap.size ≤ w.heap.size + 1 + 1; omega) _, cells := fun j hj => ?_, warm := fun j hj => ?_, out := ?_, outw := ?_ }
  · rcases Nat.lt_trichotomy j k with h1 | h1 | h1
    · rw [World.cell?_setCell_other (h := by intro e; cases e; omega), h.cells j hj, if_pos h1, if_pos (by omega)]
    · subst h1
      rw [World.cell?_setCell_same (h := h.cells j hj), if_pos (by omega), lowB_up hu, hn]
    · rw [World.cell?_setCell_other (h := by intro e; cases e; omega), h.cells j hj, if_neg (by omega), if_neg (by omega)]
  · rw [World.frozen?_setCell]; exact h.warm j hj
  · rw [World.cell?_setCell_other (h := by intro e; injection e with e1; omega)]; exact h.out
  · rw [World.frozen?_setCell]; exact h.outw

theorem cells30 (s : ByteArray) (wx : World) : (convert 9 30 (.string s)).run Try.prog wx = .ok (.slice (some ⟨wx.heap.size, 0, none⟩) s.size (grownCap wx s.size 0 5))
      (wx.drew.alloc (.cells (bytesRow s (grownCap wx s.size 0 5)) 5 ((bytesRow s (grownCap wx s.size 0 5)).size, (bytesRow s (grownCap wx s.size 0 5)).size + 1))) :=
  run_bytes_of_string wx 9 30 5 s Try.underlying9 Try.underlying30 Try.underlying5

theorem bytesRow_size (s : ByteArray) (cap : Nat) : s.size ≤ (bytesRow s cap).size := by
  unfold bytesRow
  simp

theorem LowInv.start (s : ByteArray) (w : World) (cap : Nat) :
    LowInv s w (((w.alloc (.cells #[.string s] 24)).alloc (.cells #[.string ⟨#[]⟩] 24)).drew.alloc (.cells (bytesRow s cap) 5 ((bytesRow s cap).size, (bytesRow s cap).size + 1))) 0 := by
  have hB : ((w.alloc (.cells #[.string s] 24)).alloc (.cells #[.string ⟨#[]⟩] 24)).drew.heap.size = w.heap.size + 1 + 1 := by simp [go_sem]
  refine { below := ?_, cells := fun j hj => ?_, warm := fun j hj => ?_, out := ?_, outw := ?_ }
  · refine Below.alloc (Below.drew (Below.alloc (Below.alloc (Below.refl _ _) (Nat.le_refl _) _) ?_ _)) ?_ _
    · simp [go_sem]
    · rw [hB]; omega
  · rw [← hB, World.cell?_alloc_mark, bytesRow_at s cap j hj, if_neg (by omega)]
    rfl
  · rw [← hB, World.frozen?_alloc_mark]
    have := bytesRow_size s cap
    simp; omega
  · rw [World.cell?_alloc_old (h := by rw [hB]; show w.heap.size + 1 ≠ _; omega)]
    simp [go_sem]
  · rw [World.frozen?_alloc_old (h := by rw [hB]; show w.heap.size + 1 ≠ _; omega)]
    simp [go_sem]

theorem back30 {s : ByteArray} {w wr : World} (h : LowInv s w wr s.size) (cap : Nat) :
    (convert 30 9 (.slice (some ⟨w.heap.size + 1 + 1, 0, none⟩) s.size cap)).run Try.prog wr = .ok (.string (lowS s)) wr := by
  have hl : (lowS s).data.toList.length = s.size := by simp [lowS]
  have := run_convert_bytes_back (P := Try.prog) wr 30 9 5 ⟨w.heap.size + 1 + 1, 0, none⟩ cap (lowS s).data.toList Try.underlying30 Try.underlying5 Try.underlying9 (fun j hj => by
    have hj' : j < s.size := by omega
    have := h.cells j hj'
    rw [if_pos hj'] at this
    have e : (lowS s).data.toList[j] = lowB (s[j]'hj') := by
      simp only [lowS, Array.toList_map, List.getElem_map, Array.getElem_toList]
      rfl
    rw [e]
    have e2 : (⟨w.heap.size + 1 + 1, 0, none⟩ : Addr).add j = ⟨w.heap.size + 1 + 1, j, none⟩ := by
      simp only [Addr.add]
      split
      · subst_vars; rfl
      · simp
    rw [e2]
    exact this)
  rw [hl] at this
  exact this

set_option maxRecDepth 100000 in
theorem lower_any (s : ByteArray) (w : World) (hs : s.size ≤ 1048576) : Calls Try.prog 7 #[.agg #[.string s]] w fun e w' => e = .returned (.agg #[.string (lowS s)]) ∧ Below w.heap.size w w' := by
  have hcv := cells30 s
  go_enter Try.func7, Try.ntmps7
  go_wp2
  go_loopw [11] (fun i wr => ∃ k : Nat, k ≤ s.size ∧ i = .int .i64 k ∧ LowInv s w wr k) (fun i _ => s.size - (intOf i).toNat)
  case atStart => exact ⟨0, Nat.zero_le _, rfl, LowInv.start s w _⟩
  case round =>
    obtain ⟨k, hk, rfl, hI⟩ := hrel
    by_cases hlt : k < s.size
    · have c1 := hI.cells k hlt
      rw [if_neg (Nat.lt_irrefl k)] at c1
      have f1 := hI.warm k hlt
      cases hu : upB ((s[k]'hlt).toNat : Int) with
      | true =>
        have hu2 := (upB_iff _).1 hu
        have HU : Hid (upB ((s[k]'hlt).toNat : Int) = true) := hu
        clear hu
        go_wp2
        go_roundw
        case rel => exact ⟨k + 1, by omega, by go_num, hI.put hlt HU.out (by omega)⟩
        case measure => simp [intOf]; omega
      | false =>
        have HU : Hid (upB ((s[k]'hlt).toNat : Int) = false) := hu
        by_cases h1 : (65 : Int) ≤ ((s[k]'hlt).toNat : Int)
        · have h2 : ¬ ((s[k]'hlt).toNat : Int) ≤ 90 := fun h2 => by
            have := (upB_iff _).2 ⟨h1, h2⟩
            rw [this] at hu; cases hu
          clear hu
          go_wp2
          go_roundw
          case rel => exact ⟨k + 1, by omega, by go_num, hI.skip hlt HU.out⟩
          case measure => simp [intOf]; omega
        · clear hu
          go_wp2
          go_roundw
          case rel => exact ⟨k + 1, by omega, by go_num, hI.skip hlt HU.out⟩
          case measure => simp [intOf]; omega
    · obtain rfl : k = s.size := by omega
      have co := hI.out
      have fo := hI.outw
      have hbk := back30 hI
      have hb := hI.below
      clear hI hcv
      go_wp2
      refine bodyPost_ret (v := .agg #[.string (lowS s)]) (by simp [results, Try.results7, go_sem, World.cell?_setCell_same (h := co)]) rfl ⟨rfl, ?_⟩
      exact hb.setCell (by show w.heap.size ≤ w.heap.size + 1; omega) _

end Go.Proofs.Qxb6605478a
