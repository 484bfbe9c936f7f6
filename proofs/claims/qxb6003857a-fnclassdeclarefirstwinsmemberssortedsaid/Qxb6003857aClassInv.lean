/-
  THE LAW ON Declare: WHAT HOLDS OF MEMORY AT EACH ROUND.
-/
import Derived.Test.Qxb6003857aClassMembers
import Derived.Test.Qxb6003857aClone
namespace Go.Proofs.Qxb6003857a
open Go.RowKit Go.Maps Go.WideMaps

/-- The members that the table names: each lies in a block of its own make, and bears its name. -/
def Named (w : World) (lo : Nat) (p : Nat → Option Addr) : Prop := ∀ k, k < 6 → ∀ a, p k = some a → ∃ q, a = ⟨q, 0, none⟩ ∧ lo ≤ q ∧ w.cell? ⟨q, 0, none⟩ = some (.string (nmM k))

theorem Named.block {w w' : World} {lo : Nat} {p : Nat → Option Addr} (h : Named w lo p) (hb : ∀ q, lo ≤ q → q < w.heap.size → w'.heap[q]? = w.heap[q]?) : Named w' lo p := fun k hk a ha => by
  obtain ⟨q, h1, h2, h3⟩ := h k hk a ha
  exact ⟨q, h1, h2, (World.cell?_of_block (w := w) (hb q h2 (World.block_lt_of_cell? _ _ h3))).trans h3⟩

theorem Named.upd {w : World} {lo k q : Nat} {p : Nat → Option Addr} (h : Named w lo p) (hq : lo ≤ q) (hc : w.cell? ⟨q, 0, none⟩ = some (.string (nmM k))) : Named w lo (updM p k ⟨q, 0, none⟩) := fun j hj a ha => by
  unfold updM at ha
  by_cases e : j = k
  · subst e
    rw [if_pos rfl] at ha
    cases hp : p j with
    | none => rw [hp] at ha; cases ha; exact ⟨q, rfl, hq, hc⟩
    | some u => rw [hp] at ha; cases ha; exact h j hj u hp
  · rw [if_neg e] at ha
    exact h j hj a ha

/-- What holds of memory when n declarations are done: w1 the world behind the script's copy. -/
structure InvC (w1 wr : World) (n : Nat) (p c : Nat → Option Addr) : Prop where
  below : Below w1.heap.size w1 wr
  size : w1.heap.size + 7 ≤ wr.heap.size
  lib : LibIs wr w1.heap.size
  oth : LibIs wr (w1.heap.size + 1)
  k1 : wr.cell? ⟨w1.heap.size + 1 + 1 + 1 + 1, 1, none⟩ = some (.pointer (some ⟨w1.heap.size, 0, none⟩))
  k8 : wr.cell? ⟨w1.heap.size + 1 + 1 + 1 + 1, 8, none⟩ = some (.map (some (w1.heap.size + 1 + 1)))
  k9 : wr.cell? ⟨w1.heap.size + 1 + 1 + 1 + 1, 9, none⟩ = some (.map (some (w1.heap.size + 1 + 1 + 1)))
  pA : wr.rowIs (w1.heap.size + 1 + 1 + 1 + 1 + 1) 67 6 (fun k => .pointer (p k))
  cA : wr.rowIs (w1.heap.size + 1 + 1 + 1 + 1 + 1 + 1) 69 6 (fun k => .pointer (c k))
  pM : TabM wr (w1.heap.size + 1 + 1) n p
  cM : TabM wr (w1.heap.size + 1 + 1 + 1) n c
  nm : Named wr (w1.heap.size + 7) p

theorem cell_block {w w' : World} {a : Addr} {v : Value} (h : w.cell? a = some v) (hb : w'.heap[a.block]? = w.heap[a.block]?) : w'.cell? a = some v :=
  (World.cell?_of_block (w := w) hb).trans h

/-- Whoever keeps the blocks below the heap's end keeps all of it. -/
theorem InvC.keep {w1 wr w2 : World} {n : Nat} {p c : Nat → Option Addr} (h : InvC w1 wr n p c) (hb : Below wr.heap.size wr w2) : InvC w1 w2 n p c := by
  have hs := h.size
  exact {
  below := h.below.trans (hb.mono (by omega))
  size := Nat.le_trans h.size hb.size
  lib := h.lib.block (hb.block _ (by omega))
  oth := h.oth.block (hb.block _ (by omega))
  k1 := cell_block h.k1 (hb.block _ (by show w1.heap.size + 1 + 1 + 1 + 1 < _; omega))
  k8 := cell_block h.k8 (hb.block _ (by show w1.heap.size + 1 + 1 + 1 + 1 < _; omega))
  k9 := cell_block h.k9 (hb.block _ (by show w1.heap.size + 1 + 1 + 1 + 1 < _; omega))
  pA := h.pA.of_block (hb.block _ h.pA.lt)
  cA := h.cA.of_block (hb.block _ h.cA.lt)
  pM := h.pM.block (hb.block _ h.pM.lt)
  cM := h.cM.block (hb.block _ h.cM.lt)
  nm := h.nm.block (fun q _ hq => hb.block q hq) }

theorem InvC.mem {w1 wr w2 w3 : World} {n : Nat} {p c p' : Nat → Option Addr} (h : InvC w1 wr n p c) (ht : Turned wr w2 (w1.heap.size + 1 + 1)) (hM : TabM w2 (w1.heap.size + 1 + 1) (n + 1) p')
    (hA : w3.rowIs (w1.heap.size + 1 + 1 + 1 + 1 + 1) 67 6 (fun k => .pointer (p' k))) (hk : ∀ k, k ≠ w1.heap.size + 1 + 1 + 1 + 1 + 1 → w3.heap[k]? = w2.heap[k]?) (hs : w2.heap.size ≤ w3.heap.size) (ho : w3.os = w2.os ∧ w3.tape = w2.tape ∧ w3.output = w2.output) (hN : Named wr (w1.heap.size + 7) p') :
    InvC w1 w3 (n + 1) p' c := by
  have hb : ∀ k, k < wr.heap.size → k ≠ w1.heap.size + 1 + 1 → k ≠ w1.heap.size + 1 + 1 + 1 + 1 + 1 → w3.heap[k]? = wr.heap[k]? := fun k k1 k2 k3 => (hk k k3).trans (ht.block k k1 k2)
  have hsz := h.size
  have := ht.size
  obtain ⟨o1, o2, o3⟩ := ht.rest
  exact {
    below := h.below.trans ⟨ho.1.trans o1, ho.2.1.trans o2, ho.2.2.trans o3, by omega, fun k hk' => hb k (by omega) (by omega) (by omega)⟩
    size := by omega
    lib := h.lib.block (hb _ (by omega) (by omega) (by omega))
    oth := h.oth.block (hb _ (by omega) (by omega) (by omega))
    k1 := cell_block h.k1 (hb _ (by show w1.heap.size + 1 + 1 + 1 + 1 < _; omega) (by show w1.heap.size + 1 + 1 + 1 + 1 ≠ _; omega) (by show w1.heap.size + 1 + 1 + 1 + 1 ≠ _; omega))
    k8 := cell_block h.k8 (hb _ (by show w1.heap.size + 1 + 1 + 1 + 1 < _; omega) (by show w1.heap.size + 1 + 1 + 1 + 1 ≠ _; omega) (by show w1.heap.size + 1 + 1 + 1 + 1 ≠ _; omega))
    k9 := cell_block h.k9 (hb _ (by show w1.heap.size + 1 + 1 + 1 + 1 < _; omega) (by show w1.heap.size + 1 + 1 + 1 + 1 ≠ _; omega) (by show w1.heap.size + 1 + 1 + 1 + 1 ≠ _; omega))
    pA := hA
    cA := h.cA.of_block (hb _ (by omega) (by omega) (by omega))
    pM := hM.block (hk _ (by omega))
    cM := (h.cM.block (hb _ (by omega) (by omega) (by omega))).mono (by omega)
    nm := (hN).block (fun q q1 q2 => hb q q2 (by omega) (by omega)) }

theorem InvC.mem_new {w1 wr w2 : World} {n k q : Nat} {p c : Nat → Option Addr} (h : InvC w1 wr n p c) (ht : Turned wr w2 (w1.heap.size + 1 + 1)) (hM : TabM w2 (w1.heap.size + 1 + 1) (n + 1) (updM p k ⟨q, 0, none⟩)) (hc : p k = none) (hq : w1.heap.size + 7 ≤ q) (hn : wr.cell? ⟨q, 0, none⟩ = some (.string (nmM k))) :
    InvC w1 (w2.setCell ⟨w1.heap.size + 1 + 1 + 1 + 1 + 1, k, none⟩ (.pointer (some ⟨q, 0, none⟩))) (n + 1) (updM p k ⟨q, 0, none⟩) c := by
  refine h.mem ht hM (((h.pA.of_block (ht.block _ h.pA.lt (by omega))).set k (.pointer (some ⟨q, 0, none⟩))).congr fun i _ => ?_) (fun i hi => Below.heap_setCell _ _ _ _ hi) (by simp [World.setCell]) ⟨rfl, rfl, rfl⟩ (h.nm.upd hq hn)
  unfold updM
  by_cases e : i = k
  · subst e; simp [hc]
  · simp [e]

theorem InvC.mem_old {w1 wr w2 : World} {n k q : Nat} {p c : Nat → Option Addr} {u : Addr} (h : InvC w1 wr n p c) (ht : Turned wr w2 (w1.heap.size + 1 + 1)) (hM : TabM w2 (w1.heap.size + 1 + 1) (n + 1) (updM p k ⟨q, 0, none⟩)) (hc : p k = some u) (hq : w1.heap.size + 7 ≤ q) (hn : wr.cell? ⟨q, 0, none⟩ = some (.string (nmM k))) :
    InvC w1 w2 (n + 1) (updM p k ⟨q, 0, none⟩) c := by
  refine h.mem ht hM ((h.pA.of_block (ht.block _ h.pA.lt (by omega))).congr fun i _ => ?_) (fun i hi => rfl) (Nat.le_refl _) ⟨rfl, rfl, rfl⟩ (h.nm.upd hq hn)
  unfold updM
  by_cases e : i = k
  · subst e; simp [hc]
  · simp [e]

theorem InvC.ctor {w1 wr w2 w3 : World} {n : Nat} {p c c' : Nat → Option Addr} (h : InvC w1 wr n p c) (ht : Turned wr w2 (w1.heap.size + 1 + 1 + 1)) (hM : TabM w2 (w1.heap.size + 1 + 1 + 1) (n + 1) c')
    (hA : w3.rowIs (w1.heap.size + 1 + 1 + 1 + 1 + 1 + 1) 69 6 (fun k => .pointer (c' k))) (hk : ∀ k, k ≠ w1.heap.size + 1 + 1 + 1 + 1 + 1 + 1 → w3.heap[k]? = w2.heap[k]?) (hs : w2.heap.size ≤ w3.heap.size) (ho : w3.os = w2.os ∧ w3.tape = w2.tape ∧ w3.output = w2.output) :
    InvC w1 w3 (n + 1) p c' := by
  have hb : ∀ k, k < wr.heap.size → k ≠ w1.heap.size + 1 + 1 + 1 → k ≠ w1.heap.size + 1 + 1 + 1 + 1 + 1 + 1 → w3.heap[k]? = wr.heap[k]? := fun k k1 k2 k3 => (hk k k3).trans (ht.block k k1 k2)
  have hsz := h.size
  have := ht.size
  obtain ⟨o1, o2, o3⟩ := ht.rest
  exact {
    below := h.below.trans ⟨ho.1.trans o1, ho.2.1.trans o2, ho.2.2.trans o3, by omega, fun k hk' => hb k (by omega) (by omega) (by omega)⟩
    size := by omega
    lib := h.lib.block (hb _ (by omega) (by omega) (by omega))
    oth := h.oth.block (hb _ (by omega) (by omega) (by omega))
    k1 := cell_block h.k1 (hb _ (by show w1.heap.size + 1 + 1 + 1 + 1 < _; omega) (by show w1.heap.size + 1 + 1 + 1 + 1 ≠ _; omega) (by show w1.heap.size + 1 + 1 + 1 + 1 ≠ _; omega))
    k8 := cell_block h.k8 (hb _ (by show w1.heap.size + 1 + 1 + 1 + 1 < _; omega) (by show w1.heap.size + 1 + 1 + 1 + 1 ≠ _; omega) (by show w1.heap.size + 1 + 1 + 1 + 1 ≠ _; omega))
    k9 := cell_block h.k9 (hb _ (by show w1.heap.size + 1 + 1 + 1 + 1 < _; omega) (by show w1.heap.size + 1 + 1 + 1 + 1 ≠ _; omega) (by show w1.heap.size + 1 + 1 + 1 + 1 ≠ _; omega))
    cA := hA
    pA := h.pA.of_block (hb _ (by omega) (by omega) (by omega))
    cM := hM.block (hk _ (by omega))
    pM := (h.pM.block (hb _ (by omega) (by omega) (by omega))).mono (by omega)
    nm := (h.nm).block (fun q q1 q2 => hb q q2 (by omega) (by omega)) }

theorem InvC.ctor_new {w1 wr w2 : World} {n k q : Nat} {p c : Nat → Option Addr} (h : InvC w1 wr n p c) (ht : Turned wr w2 (w1.heap.size + 1 + 1 + 1)) (hM : TabM w2 (w1.heap.size + 1 + 1 + 1) (n + 1) (updM c k ⟨q, 0, none⟩)) (hc : c k = none) :
    InvC w1 (w2.setCell ⟨w1.heap.size + 1 + 1 + 1 + 1 + 1 + 1, k, none⟩ (.pointer (some ⟨q, 0, none⟩))) (n + 1) p (updM c k ⟨q, 0, none⟩) := by
  refine h.ctor ht hM (((h.cA.of_block (ht.block _ h.cA.lt (by omega))).set k (.pointer (some ⟨q, 0, none⟩))).congr fun i _ => ?_) (fun i hi => Below.heap_setCell _ _ _ _ hi) (by simp [World.setCell]) ⟨rfl, rfl, rfl⟩
  unfold updM
  by_cases e : i = k
  · subst e; simp [hc]
  · simp [e]

theorem InvC.ctor_old {w1 wr w2 : World} {n k q : Nat} {p c : Nat → Option Addr} {u : Addr} (h : InvC w1 wr n p c) (ht : Turned wr w2 (w1.heap.size + 1 + 1 + 1)) (hM : TabM w2 (w1.heap.size + 1 + 1 + 1) (n + 1) (updM c k ⟨q, 0, none⟩)) (hc : c k = some u) :
    InvC w1 w2 (n + 1) p (updM c k ⟨q, 0, none⟩) := by
  refine h.ctor ht hM ((h.cA.of_block (ht.block _ h.cA.lt (by omega))).congr fun i _ => ?_) (fun i hi => rfl) (Nat.le_refl _) ⟨rfl, rfl, rfl⟩
  unfold updM
  by_cases e : i = k
  · subst e; simp [hc]
  · simp [e]

/-- Where it begins. -/
abbrev cls0 (w1 : World) : Array Value := #[.string ⟨#[67]⟩, .pointer (some ⟨w1.heap.size, 0, none⟩), .bool false, .slice none 0 0, .pointer none, .slice none 0 0, .bool false, .pointer none, .map (some (w1.heap.size + 1 + 1)), .map (some (w1.heap.size + 1 + 1 + 1))]
abbrev six0 : Array Value := #[.pointer none, .pointer none, .pointer none, .pointer none, .pointer none, .pointer none]
abbrev wA (w1 : World) : World := (w1.alloc (.cells #[.bool false] 56)).alloc (.cells #[.bool false] 56)
abbrev wB (w1 : World) : World := ((wA w1).alloc (.map #[] 0)).alloc (.map #[] 0)
abbrev wC (w1 : World) : World := (wB w1).alloc (.cells (cls0 w1) 65)
abbrev wD (w1 : World) : World := ((wC w1).alloc (.cells six0 67)).alloc (.cells six0 69)

theorem InvC.start (w1 : World) : InvC w1 (wD w1) 0 (fun _ => none) (fun _ => none) := by
  have hcls := World.rowIs_alloc (wB w1) (cls0 w1) 65 (fun i => (cls0 w1).getD i (.bool false)) (fun i hi => by
    rw [Array.getElem?_eq_getElem hi, Array.getD_eq_getD_getElem?, Array.getElem?_eq_getElem hi]
    rfl)
  have hlib := World.rowIs_alloc w1 #[.bool false] 56 (fun _ => .bool false) (fun i hi => by
    have : i = 0 := by simp at hi; omega
    subst this; rfl)
  have hoth := World.rowIs_alloc (w1.alloc (.cells #[.bool false] 56)) #[.bool false] 56 (fun _ => .bool false) (fun i hi => by
    have : i = 0 := by simp at hi; omega
    subst this; rfl)
  have h6 := World.rowIs_alloc (wC w1) six0 67 (fun _ => .pointer none) (fun i hi => by
    have : i = 0 ∨ i = 1 ∨ i = 2 ∨ i = 3 ∨ i = 4 ∨ i = 5 := by simp at hi; omega
    rcases this with rfl | rfl | rfl | rfl | rfl | rfl <;> rfl)
  have h7 := World.rowIs_alloc ((wC w1).alloc (.cells six0 67)) six0 69 (fun _ => .pointer none) (fun i hi => by
    have : i = 0 ∨ i = 1 ∨ i = 2 ∨ i = 3 ∨ i = 4 ∨ i = 5 := by simp at hi; omega
    rcases this with rfl | rfl | rfl | rfl | rfl | rfl <;> rfl)
  have m1 := MapIs.made (wA w1)
  have m2 := MapIs.made ((wA w1).alloc (.map #[] 0))
  simp only [World.size_alloc] at hcls hlib hoth h6 h7 m1 m2
  have hcls' := (hcls.alloc (.cells six0 67)).alloc (.cells six0 69)
  have hlib' := ((((((hlib.alloc (.cells #[.bool false] 56)).alloc (.map #[] 0)).alloc (.map #[] 0)).alloc (.cells (cls0 w1) 65)).alloc (.cells six0 67)).alloc (.cells six0 69))
  have hoth' := (((((hoth.alloc (.map #[] 0)).alloc (.map #[] 0)).alloc (.cells (cls0 w1) 65)).alloc (.cells six0 67)).alloc (.cells six0 69))
  exact {
    below := (((((((Below.refl _ _).alloc (Nat.le_refl _) _).alloc (by simp only [World.size_alloc]; omega) _).alloc (by simp only [World.size_alloc]; omega) _).alloc (by simp only [World.size_alloc]; omega) _).alloc (by simp only [World.size_alloc]; omega) _).alloc (by simp only [World.size_alloc]; omega) _).alloc (by simp only [World.size_alloc]; omega) _
    size := by simp
    lib := by obtain ⟨cs, hc, _⟩ := hlib'; exact ⟨cs, hc⟩
    oth := by obtain ⟨cs, hc, _⟩ := hoth'; exact ⟨cs, hc⟩
    k1 := hcls'.cell (i := 1) (by simp)
    k8 := hcls'.cell (i := 8) (by simp)
    k9 := hcls'.cell (i := 9) (by simp)
    pA := h6.alloc _
    cA := h7
    pM := ⟨fun _ => none, ((((m1.alloc _).alloc _).alloc _).alloc _), fun k _ => rfl, fun s v h => by cases h⟩
    cM := ⟨fun _ => none, (((m2.alloc _).alloc _).alloc _), fun k _ => rfl, fun s v h => by cases h⟩
    nm := fun k _ a ha => by cases ha }

end Go.Proofs.Qxb6003857a
