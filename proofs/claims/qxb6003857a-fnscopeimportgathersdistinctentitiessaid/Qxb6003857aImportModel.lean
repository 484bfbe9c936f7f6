/-
  zzModelAdd, zzBindingMatches.
-/
import Derived.Test.Qxb6003857aImportNames
import Derived.RegionTactic
namespace Go.Proofs.Qxb6003857a
open Go.RowKit Go.Maps Go.WideMaps

/-- The row k of 'seen' and the cell k of 'count' say the list L. -/
def SeenAt (f g : Nat → Value) (k : Nat) (L : List Nat) : Prop := g k = .int .i64 L.length ∧ ∀ i, i < L.length → f (4 * k + i) = .int .i64 (L.getD i 0)

set_option maxHeartbeats 400000 in
theorem modelAdd_old (sb cb k j : Nat) (f g : Nat → Value) (L : List Nat) (w : World) (hk : k < 3) (hf : w.rowIs sb 42 12 f) (hg : w.rowIs cb 43 3 g) (hs : SeenAt f g k L) (hW : Wf L) (hin : j ∈ L) :
    Calls Try.prog 15 #[.pointer (some ⟨sb, 4 * k, none⟩), .pointer (some ⟨cb, k, none⟩), .int .i64 j] w fun e w' => e = .returned (.bool false) ∧ w' = w := by
  have hl := hW.length
  have c1 : w.cell? ⟨cb, k, none⟩ = some (.int .i64 L.length) := by rw [hg.cell hk, hs.1]
  have hc : ∀ i, i < L.length → w.cell? ⟨sb, 4 * k + i, none⟩ = some (.int .i64 (L.getD i 0)) := fun i hi => by rw [hf.cell (by omega), hs.2 i hi]
  have HI : Hid (j ∈ L) := hin
  clear hf hg hs hW hin
  go_enter Try.func15, Try.ntmps15
  go_wp2
  go_loop [7] (fun i => ∃ t : Nat, t ≤ L.length ∧ i = .int .i64 t ∧ j ∉ L.take t) (fun i => L.length - (intOf i).toNat)
  case atStart => exact ⟨0, Nat.zero_le _, rfl, by simp⟩
  case round =>
    obtain ⟨t, ht, rfl, hn⟩ := hrel
    by_cases hlt : t < L.length
    · have c2 := hc t hlt
      have HN : Hid (j ∉ L.take t) := hn
      have HG : Hid (L.getD t 0 = L[t]) := by show L.getD t 0 = L[t]; simp [List.getD, hlt]
      clear hc hn
      by_cases e : L.getD t 0 = j
      · have q : ((L.getD t 0 : Nat) : Int) = (j : Int) := by omega
        generalize L.getD t 0 = x at c2 HG e q
        subst e
        clear q
        go_wp2
        go_ret
        exact ⟨rfl, rfl⟩
      · have E : Hid (¬ L.getD t 0 = j) := e
        have q : (((L.getD t 0 : Nat) : Int) == (j : Int)) = false := by simpa using (by omega : ¬ ((L.getD t 0 : Nat) : Int) = (j : Int))
        clear e
        generalize L.getD t 0 = x at c2 HG E q
        go_wp2
        go_round
        case rel =>
          refine ⟨t + 1, by omega, by go_num, ?_⟩
          rw [List.take_succ_eq_append_getElem hlt, List.mem_append]
          intro h
          rcases h with h | h
          · exact HN.out h
          · rw [List.mem_singleton] at h
            exact E.out (by rw [HG.out]; exact h.symm)
        case measure => simp [intOf]; omega
    · exfalso
      rw [List.take_of_length_le (by omega)] at hn
      exact hn HI.out

/-- w' is w but for two blocks. -/
structure But (w w' : World) (sb cb : Nat) : Prop where
  os : w'.os = w.os
  tape : w'.tape = w.tape
  output : w'.output = w.output
  size : w'.heap.size = w.heap.size
  block : ∀ k, k ≠ sb → k ≠ cb → w'.heap[k]? = w.heap[k]?

set_option maxHeartbeats 400000 in
theorem modelAdd_new (sb cb k j : Nat) (f g : Nat → Value) (L : List Nat) (w : World) (hne : sb ≠ cb) (hk : k < 3) (hf : w.rowIs sb 42 12 f) (hg : w.rowIs cb 43 3 g) (hs : SeenAt f g k L) (hl : L.length < 4) (hin : j ∉ L) :
    Calls Try.prog 15 #[.pointer (some ⟨sb, 4 * k, none⟩), .pointer (some ⟨cb, k, none⟩), .int .i64 j] w fun e w' => e = .returned (.bool true) ∧
      w'.rowIs sb 42 12 (fun i => if i = 4 * k + L.length then .int .i64 j else f i) ∧ w'.rowIs cb 43 3 (fun i => if i = k then .int .i64 ((L.length + 1 : Nat) : Int) else g i) ∧ But w w' sb cb := by
  have c1 : w.cell? ⟨cb, k, none⟩ = some (.int .i64 L.length) := by rw [hg.cell hk, hs.1]
  have f1 := hg.frozen k
  have hc : ∀ i, i < L.length → w.cell? ⟨sb, 4 * k + i, none⟩ = some (.int .i64 (L.getD i 0)) := fun i hi => by rw [hf.cell (by omega), hs.2 i hi]
  have c2 : w.cell? ⟨sb, 4 * k + L.length, none⟩ = some (f (4 * k + L.length)) := hf.cell (by omega)
  have f2 := hf.frozen (4 * k + L.length)
  have HI : Hid (j ∉ L) := hin
  have HF : Hid (w.rowIs sb 42 12 f) := hf
  have HG0 : Hid (w.rowIs cb 43 3 g) := hg
  clear hf hg hs hin
  generalize f (4 * k + L.length) = old at c2
  go_enter Try.func15, Try.ntmps15
  go_wp2
  go_loop [7] (fun i => ∃ t : Nat, t ≤ L.length ∧ i = .int .i64 t) (fun i => L.length - (intOf i).toNat)
  case atStart => exact ⟨0, Nat.zero_le _, rfl⟩
  case round =>
    obtain ⟨t, ht, rfl⟩ := hrel
    by_cases hlt : t < L.length
    · have c3 := hc t hlt
      have q : (((L.getD t 0 : Nat) : Int) == (j : Int)) = false := by
        have : ¬ L.getD t 0 = j := fun e => HI.out (by rw [← e]; simp [List.getD, hlt])
        simpa using (by omega : ¬ ((L.getD t 0 : Nat) : Int) = (j : Int))
      clear hc c2 f1 f2
      generalize L.getD t 0 = x at c3 q
      go_wp2
      go_round
      case rel => exact ⟨t + 1, by omega, by go_num⟩
      case measure => simp [intOf]; omega
    · clear hc
      go_wp2
      go_region
      all_goals
        go_wp2
        go_ret
        have h1 := (World.rowIs.set (World.rowIs.drew HF.out) (4 * k + L.length) (.int .i64 j)).setOther (a := ⟨cb, k, none⟩) hne (.int .i64 ((L.length : Int) + 1))
        have h2 := World.rowIs.set (World.rowIs.setOther (World.rowIs.drew HG0.out) (a := ⟨sb, 4 * k + L.length, none⟩) (fun e => hne e.symm) (.int .i64 j)) k (.int .i64 ((L.length : Int) + 1))
        exact ⟨rfl, h1, h2, ⟨rfl, rfl, rfl, by simp, fun b hb1 hb2 => by exact (Below.heap_setCell _ _ _ _ hb2).trans (Below.heap_setCell _ _ _ _ hb1)⟩⟩

/-- 'seen' and 'count' say the three lists. -/
def SeenIs (w : World) (sb cb : Nat) (Ls : Nat → List Nat) : Prop := ∃ f g, w.rowIs sb 42 12 f ∧ w.rowIs cb 43 3 g ∧ ∀ k, k < 3 → SeenAt f g k (Ls k)

theorem SeenIs.block {w w' : World} {sb cb : Nat} {Ls : Nat → List Nat} (h : SeenIs w sb cb Ls) (h1 : w'.heap[sb]? = w.heap[sb]?) (h2 : w'.heap[cb]? = w.heap[cb]?) : SeenIs w' sb cb Ls :=
  let ⟨f, g, a, b, c⟩ := h; ⟨f, g, a.of_block h1, b.of_block h2, c⟩

theorem But.refl (w : World) (sb cb : Nat) : But w w sb cb := ⟨rfl, rfl, rfl, rfl, fun _ _ _ => rfl⟩

theorem modelAdd_any {sb cb : Nat} {Ls : Nat → List Nat} (k j : Nat) (w : World) (hne : sb ≠ cb) (hk : k < 3) (hj : j < 4) (hs : SeenIs w sb cb Ls) (hW : ∀ i, i < 3 → Wf (Ls i)) :
    Calls Try.prog 15 #[.pointer (some ⟨sb, 4 * k, none⟩), .pointer (some ⟨cb, k, none⟩), .int .i64 j] w fun e w' => e = .returned (.bool (!decide (j ∈ Ls k))) ∧ SeenIs w' sb cb (upds Ls k [j]) ∧ But w w' sb cb := by
  obtain ⟨f, g, hf, hg, hS⟩ := hs
  by_cases hin : j ∈ Ls k
  · refine (modelAdd_old sb cb k j f g (Ls k) w hk hf hg (hS k hk) (hW k hk) hin).mono fun e w' ⟨he, hw⟩ => ?_
    subst hw
    have e1 : upds Ls k [j] = Ls := by
      funext i
      unfold upds
      split
      · rename_i h; rw [h]; simp [adds, addC, add, hin]
      · rfl
    rw [e1]
    exact ⟨by rw [he, decide_eq_true hin]; rfl, ⟨f, g, hf, hg, hS⟩, But.refl _ _ _⟩
  · have hroom := (hW k hk).room hj hin
    refine (modelAdd_new sb cb k j f g (Ls k) w hne hk hf hg (hS k hk) hroom hin).mono fun e w' ⟨he, h1, h2, h3⟩ => ?_
    refine ⟨by rw [he, decide_eq_false hin]; rfl, ⟨_, _, h1, h2, fun i hi => ?_⟩, h3⟩
    have hi4 := (hW i hi).length
    by_cases e : i = k
    · subst e
      have e2 : upds Ls i [j] i = Ls i ++ [j] := by simp [upds, adds, addC, add, hin]
      rw [e2]
      refine ⟨by simp, fun t ht => ?_⟩
      simp only [List.length_append, List.length_singleton] at ht
      by_cases e3 : t = (Ls i).length
      · subst e3; simp
      · have e4 : t < (Ls i).length := by omega
        have e5 : (Ls i ++ [j]).getD t 0 = (Ls i).getD t 0 := by simp only [List.getD]; rw [List.getElem?_append_left e4]
        rw [e5]
        simp only
        rw [if_neg (by omega)]
        exact (hS i hi).2 t e4
    · have e2 : upds Ls k [j] i = Ls i := by simp [upds, e]
      rw [e2]
      refine ⟨by simp only [e, if_false]; exact (hS i hi).1, fun t ht => ?_⟩
      simp only
      rw [if_neg (by omega)]
      exact (hS i hi).2 t ht

end Go.Proofs.Qxb6003857a
