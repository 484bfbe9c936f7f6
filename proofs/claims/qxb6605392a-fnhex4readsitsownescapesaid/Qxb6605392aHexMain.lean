/-
  THE LAW ON hex4: the walk of the law itself.
-/
import Derived.Test.Qxb6605392aHexLeaf
import Derived.Room.AppendFits
namespace Go.Proofs.Qxb6605392a
open Go.RowKit

/-- The four digits. -/
def dg (n i : Nat) : Nat := n / 16 ^ (3 - i) % 16

theorem dg_le (n i : Nat) : dg n i ≤ 15 := by unfold dg; omega

theorem val_dg (n : Nat) (h : n ≤ 65535) : val (dg n) 4 = n := by
  simp only [val, dg]
  omega

theorem e0 (n : Nat) (h : n ≤ 65535) : bits .and .i32 ((n : Int) / 4096) 15 = ((dg n 0 : Nat) : Int) := by
  rw [i32_low _ (by omega) (by omega)]; simp only [dg]; omega
theorem e1 (n : Nat) (h : n ≤ 65535) : bits .and .i32 ((n : Int) / 256) 15 = ((dg n 1 : Nat) : Int) := by
  rw [i32_low _ (by omega) (by omega)]; simp only [dg]; omega
theorem e2 (n : Nat) (h : n ≤ 65535) : bits .and .i32 ((n : Int) / 16) 15 = ((dg n 2 : Nat) : Int) := by
  rw [i32_low _ (by omega) (by omega)]; simp only [dg]; omega
theorem e3 (n : Nat) (h : n ≤ 65535) : bits .and .i32 (n : Int) 15 = ((dg n 3 : Nat) : Int) := by
  rw [i32_low _ (by omega) (by omega)]; simp only [dg]; omega

def hexb (v : Nat) (up : Bool) : UInt8 := UInt8.ofNat (hexc v up).toNat

theorem hexb_toNat (v : Nat) (up : Bool) (h : v ≤ 15) : ((hexb v up).toNat : Int) = hexc v up := by
  unfold hexb
  rw [UInt8.toNat_ofNat']
  unfold hexc
  split
  · omega
  · split <;> omega

/-- The escape, and what follows it. -/
def escL (n : Nat) (up : Bool) (t : ByteArray) : List UInt8 := [92, 117, hexb (dg n 0) up, hexb (dg n 1) up, hexb (dg n 2) up, hexb (dg n 3) up] ++ t.data.toList

theorem isEsc (n : Nat) (up : Bool) (t : ByteArray) (ht : t.size ≤ 1048576) : IsEsc ⟨(escL n up t).toArray⟩ (dg n) up := by
  have hz : (ByteArray.mk (escL n up t).toArray).size = 6 + t.size := by
    show (escL n up t).toArray.size = 6 + t.data.size
    simp [escL]; omega
  refine { size := by omega, len := by omega, i0 := fun wx => ?_, i1 := fun wx => ?_, dig := fun j hj => ?_, le := fun i => dg_le n i }
  · rw [run_index_string wx 9 _ _ _ Try.underlying9, dif_pos (by omega)]; rfl
  · rw [run_index_string wx 9 _ _ _ Try.underlying9, dif_pos (by omega)]; rfl
  · have hj4 : j < 4 := by
      have : (ByteArray.extract ⟨(escL n up t).toArray⟩ 2 6).size ≤ 4 := by rw [ByteArray.size_extract]; omega
      exact Nat.lt_of_lt_of_le hj this
    have e : ((ByteArray.extract ⟨(escL n up t).toArray⟩ 2 6).data[j]'hj) = hexb (dg n j) up := by
      have : (ByteArray.extract ⟨(escL n up t).toArray⟩ 2 6).data[j]? = some (hexb (dg n j) up) := by
        rw [ByteArray.extract_mk]
        have : j = 0 ∨ j = 1 ∨ j = 2 ∨ j = 3 := by omega
        rcases this with rfl | rfl | rfl | rfl <;> simp [escL]
      obtain ⟨_, h⟩ := Array.getElem?_eq_some_iff.1 this
      exact h
    rw [e]
    exact hexb_toNat _ _ (dg_le n j)

theorem cells_new (w : World) (vs : List Value) (t : TypeId) : ∀ j u, vs[j]? = some u → (w.alloc (.cells vs.toArray t)).cell? ((⟨w.heap.size, 0, none⟩ : Addr).add j) = some u := by
  intro j u h
  have e2 : (⟨w.heap.size, 0, none⟩ : Addr).add j = ⟨w.heap.size, j, none⟩ := by
    simp only [Addr.add]
    split
    · subst_vars; rfl
    · simp
  rw [e2, World.cell?_alloc_new]
  simpa using h

theorem esc_back {wr : World} {base g cap n : Nat} {up : Bool} {t : ByteArray} (h : wr.ownsRow base 5 1 (.slice (some ⟨g, 0, none⟩) (6 + t.size) cap) (6 + t.size)
      (.int .u8 92 :: .int .u8 117 :: .int .u8 (hexc (dg n 0) up) :: .int .u8 (hexc (dg n 1) up) :: .int .u8 (hexc (dg n 2) up) :: .int .u8 (hexc (dg n 3) up) :: Lib.strCells t)) :
    (convert 26 9 (.slice (some ⟨g, 0, none⟩) (6 + t.size) cap)).run Try.prog wr = .ok (.string ⟨(escL n up t).toArray⟩) wr := by
  have hl : (escL n up t).length = 6 + t.size := by
    show (escL n up t).length = 6 + t.data.size
    simp [escL]; omega
  have hx : (escL n up t).map (fun b => Value.int .u8 (b.toNat : Int)) = (.int .u8 92 :: .int .u8 117 :: .int .u8 (hexc (dg n 0) up) :: .int .u8 (hexc (dg n 1) up) :: .int .u8 (hexc (dg n 2) up) :: .int .u8 (hexc (dg n 3) up) :: Lib.strCells t) := by
    simp only [escL, List.map_cons, List.cons_append, List.nil_append, hexb_toNat _ _ (dg_le n _), Lib.strCells]
    rfl
  have := run_convert_bytes_back (P := Try.prog) wr 26 9 5 ⟨g, 0, none⟩ cap (escL n up t) Try.underlying26 Try.underlying5 Try.underlying9 (fun j hj => by
    have hj' : j < (6 + t.size) * 1 := by omega
    have h1 := h.cellAt j hj'
    rw [← hx] at h1
    have e2 : (⟨g, 0, none⟩ : Addr).add j = ⟨g, j, none⟩ := by
      simp only [Addr.add]
      split
      · subst_vars; rfl
      · simp
    rw [e2, h1]
    simp [List.getElem?_eq_getElem hj])
  rw [hl] at this
  exact this

theorem Try.info5 : (Try.prog.info? 5).map (fun i => (i.zero, i.size, i.bytes)) = some (some (.int .u8 0), 1, 1) := by kernel_rfl

set_option maxRecDepth 100000 in
theorem hex_small (n : Nat) (up : Bool) (t : ByteArray) (w : World) (hn : n ≤ 65535) (ht : t.size ≤ 1048576) :
    Calls Try.prog 4 #[.int .i32 n, .bool up, .string t] w fun e w' => e = .returned (.bool true) ∧ Below w.heap.size w w' := by
  obtain ⟨i0, hi, hz0, hz1, hz2⟩ := info_parts Try.info5
  have E0 := e0 n hn
  have E1 := e1 n hn
  have E2 := e2 n hn
  have E3 := e3 n hn
  go_enter Try.func4, Try.ntmps4
  go_wp2_with (first
    | (go_at_call 10; refine (bytes10_small _ _ _ _ ht).mono ?_; rintro e w' ⟨rfl, hw⟩; obtain rfl := hw.symm)
    | (at_make; refine wpList_make_own _ rfl _ _ 26 rfl w.heap.size 5 i0 (.int .u8 0) 1 Try.underlying26 hi hz0 hz1 _ _ _ (6 + t.size) rfl rfl (by omega) (by rw [hz2]; omega) (by unfold maxLen; omega) (Nat.le_refl _) ?_; intro w1 hown1 hg1; clear hw)
    | (at_builtin; refine wpList_append_fits _ rfl (.tmp 28) (.tmp 29) 26 rfl w.heap.size 5 i0 1 Try.underlying26 hi hz1 w.heap.size 0 (6 + t.size) _ rfl (hown1.alloc _) ⟨w1.heap.size, 0, none⟩ 2 2 [.int .u8 92, .int .u8 117] rfl rfl (cells_new _ _ _) (by intro u hu; simp at hu; rcases hu with rfl | rfl <;> rfl) (by omega) ?_; intro w2 hown2 hg2; simp only [Nat.zero_add, List.nil_append] at hown2)
    | (at_builtin; refine wpList_append_fits _ rfl (.tmp 31) (.tmp 37) 26 rfl w.heap.size 5 i0 1 Try.underlying26 hi hz1 w.heap.size 2 (6 + t.size) _ rfl (hown2.alloc _) ⟨w2.heap.size, 0, none⟩ 1 1 [.int .u8 (hexc (dg n 0) up)] rfl rfl (cells_new _ _ _) (by intro u hu; simp at hu; subst hu; rfl) (by omega) ?_; intro w3 hown3 hg3; simp only [Nat.reduceAdd, List.nil_append, List.cons_append] at hown3)
    | (go_at_call 11; refine (digit_any _ up _ (dg_le n _)).mono ?_; rintro e w' ⟨rfl, hw⟩; obtain rfl := hw.symm; clear hw)
    | (at_builtin; refine wpList_append_fits _ rfl (.tmp 39) (.tmp 45) 26 rfl w.heap.size 5 i0 1 Try.underlying26 hi hz1 w.heap.size 3 (6 + t.size) _ rfl (hown3.alloc _) ⟨w3.heap.size, 0, none⟩ 1 1 [.int .u8 (hexc (dg n 1) up)] rfl rfl (cells_new _ _ _) (by intro u hu; simp at hu; subst hu; rfl) (by omega) ?_; intro w4 hown4 hg4; simp only [Nat.reduceAdd, List.nil_append, List.cons_append] at hown4)
    | (at_builtin; refine wpList_append_fits _ rfl (.tmp 47) (.tmp 53) 26 rfl w.heap.size 5 i0 1 Try.underlying26 hi hz1 w.heap.size 4 (6 + t.size) _ rfl (hown4.alloc _) ⟨w4.heap.size, 0, none⟩ 1 1 [.int .u8 (hexc (dg n 2) up)] rfl rfl (cells_new _ _ _) (by intro u hu; simp at hu; subst hu; rfl) (by omega) ?_; intro w5 hown5 hg5; simp only [Nat.reduceAdd, List.nil_append, List.cons_append] at hown5)
    | (at_builtin; refine wpList_append_fits _ rfl (.tmp 55) (.tmp 60) 26 rfl w.heap.size 5 i0 1 Try.underlying26 hi hz1 w.heap.size 5 (6 + t.size) _ rfl (hown5.alloc _) ⟨w5.heap.size, 0, none⟩ 1 1 [.int .u8 (hexc (dg n 3) up)] rfl rfl (cells_new _ _ _) (by intro u hu; simp at hu; subst hu; rfl) (by omega) ?_; intro w6 hown6 hg6; simp only [Nat.reduceAdd, List.nil_append, List.cons_append] at hown6)
    | (at_builtin; refine Lib.wpList_append_fits_string _ rfl (.tmp 62) (.tmp 63) 26 9 rfl w.heap.size 5 i0 Try.underlying26 Try.underlying9 hi hz1 _ 6 (6 + t.size) _ rfl hown6 t rfl (by omega) (by omega) ?_; intro w7 hown7 hg7; simp only [List.nil_append, List.cons_append] at hown7; have hbk := esc_back hown7)
    | (go_at_call 8; refine (hex8_any _ (dg n) up (isEsc n up t ht) _).mono ?_; rintro e w8 ⟨rfl, hb8⟩; rw [val_dg n hn]))
  go_ret
  refine ⟨rfl, ?_⟩
  have hB : ∀ k, some w.heap.size = some k → w.heap.size ≤ k := fun k e => by cases e; exact Nat.le_refl _
  have b1 : Below w.heap.size w w1 := (Below.refl _ _).grown hg1 (Nat.le_refl _) (fun k e => by cases e)
  have b2 : Below w.heap.size w w2 := (b1.alloc b1.size _).grown hg2 (b1.alloc b1.size _).size hB
  have b3 : Below w.heap.size w w3 := (b2.alloc b2.size _).grown hg3 (b2.alloc b2.size _).size hB
  have b4 : Below w.heap.size w w4 := (b3.alloc b3.size _).grown hg4 (b3.alloc b3.size _).size hB
  have b5 : Below w.heap.size w w5 := (b4.alloc b4.size _).grown hg5 (b4.alloc b4.size _).size hB
  have b6 : Below w.heap.size w w6 := (b5.alloc b5.size _).grown hg6 (b5.alloc b5.size _).size hB
  have b7 : Below w.heap.size w w7 := b6.grown hg7 b6.size hB
  exact b7.trans (hb8.mono b7.size)

theorem hex_walk (r : Int) (up : Bool) (t : ByteArray) (hm : t.size ≤ maxLen) (w : World) :
    Calls Try.prog 4 #[.int .i32 r, .bool up, .string t] w fun e w' => e = .returned (.bool true) ∧ Below w.heap.size w w' := by
  unfold maxLen at hm
  by_cases ht : t.size ≤ 1048576
  · by_cases h0 : r < 0
    · go_enter Try.func4, Try.ntmps4
      go_wp2_with (go_at_call 10; refine (bytes10_small _ _ _ _ ht).mono ?_; rintro e w' ⟨rfl, rfl⟩)
      go_ret
      exact ⟨rfl, Below.refl _ _⟩
    · by_cases h1 : r ≤ 65535
      · obtain ⟨n, rfl⟩ := Int.eq_ofNat_of_zero_le (Int.not_lt.1 h0)
        exact hex_small n up t w (by omega) ht
      · go_enter Try.func4, Try.ntmps4
        go_wp2_with (go_at_call 10; refine (bytes10_small _ _ _ _ ht).mono ?_; rintro e w' ⟨rfl, rfl⟩)
        go_ret
        exact ⟨rfl, Below.refl _ _⟩
  · have ht' : 1048576 < t.size := by omega
    go_enter Try.func4, Try.ntmps4
    go_wp2_with (go_at_call 10; refine (bytes10_big _ _ _ _ ht').mono ?_; rintro e w' ⟨rfl, rfl⟩)
    go_ret
    exact ⟨rfl, Below.refl _ _⟩

end Go.Proofs.Qxb6605392a
