/-
  THE LAW ON Insert: WHAT HOLDS OF MEMORY AT EACH ROUND.
-/
import Derived.Test.Qxb6003857aScope
import Derived.Test.Qxb6003857aClone
namespace Go.Proofs.Qxb6003857a
open Go.RowKit Go.Maps Go.WideMaps

def entV (a : Addr) : Value := .iface 27 (.pointer (some a))
theorem ent_eq (x : Option Addr) : (x.map entV).getD .nilIface = ent x := by cases x <;> rfl

/-- The map in block b holds, at the six names, just the table's variables. -/
def TabIs (w : World) (b n : Nat) (tab : Nat → Option Addr) : Prop := ∃ m, MapIs w b n m ∧ ∀ k, k < 6 → m (nm k).data.toList = (tab k).map entV

theorem TabIs.block {w w' : World} {b n : Nat} {tab : Nat → Option Addr} (h : TabIs w b n tab) (hb : w'.heap[b]? = w.heap[b]?) : TabIs w' b n tab :=
  let ⟨m, h1, h2⟩ := h; ⟨m, h1.block hb, h2⟩

theorem TabIs.mono {w : World} {b n n' : Nat} {tab : Nat → Option Addr} (h : TabIs w b n tab) (hn : n ≤ n') : TabIs w b n' tab :=
  let ⟨m, h1, h2⟩ := h; ⟨m, h1.mono hn, h2⟩

theorem TabIs.lt {w : World} {b n : Nat} {tab : Nat → Option Addr} (h : TabIs w b n tab) : b < w.heap.size :=
  let ⟨_, h1, _⟩ := h; h1.lt

/-- The first one bound to a name stays. -/
def upd (tab : Nat → Option Addr) (k : Nat) (a : Addr) : Nat → Option Addr := fun j => if j = k then some ((tab k).getD a) else tab j

theorem insert_tab {b sb n : Nat} {tab : Nat → Option Addr} (k : Nat) (a : Addr) (w : World) (hk : k < 6) (hn : n < 64) (c1 : w.cell? ⟨sb, 1, none⟩ = some (.map (some b))) (h : TabIs w b n tab) :
    Calls Try.prog 11 #[.pointer (some ⟨sb, 0, none⟩), .string (nm k), .iface 27 (.pointer (some a))] w fun e w' => e = .returned (ent (tab k)) ∧ TabIs w' b (n + 1) (upd tab k a) ∧ w.mapTurned w' b := by
  obtain ⟨m, h1, h2⟩ := h
  have hk2 := h2 k hk
  cases ht : tab k with
  | none =>
    rw [ht] at hk2
    refine (insert_new (nm k) (entV a) w (nm_size k) (by unfold maxLen; omega) c1 h1 hk2).mono fun e w' ⟨he, hm, hw⟩ => ⟨he, ⟨_, hm, fun j hj => ?_⟩, hw⟩
    unfold put upd
    by_cases e1 : j = k
    · subst e1; rw [if_pos rfl, if_pos rfl, ht]; rfl
    · rw [if_neg (fun e2 => e1 (nm_inj j k hj hk e2)), if_neg e1]; exact h2 j hj
  | some v =>
    rw [ht] at hk2
    refine (insert_old (nm k) (entV a) (entV v) w (nm_size k) c1 h1 hk2).mono fun e w' ⟨he, hw⟩ => ?_
    subst hw
    refine ⟨he, ⟨m, h1.mono (by omega), fun j hj => ?_⟩, ?_⟩
    · unfold upd
      by_cases e1 : j = k
      · subst e1; rw [if_pos rfl, ht]; exact hk2
      · rw [if_neg e1]; exact h2 j hj
    · obtain ⟨D, hD, _⟩ := h1
      exact hD.turned_refl

/-- What holds of memory when n inserts are done: N the first block behind the copied script; p, c: what the parent's and the child's names are bound to. -/
structure Inv (w1 wr : World) (n : Nat) (p c : Nat → Option Addr) : Prop where
  below : Below w1.heap.size w1 wr
  size : w1.heap.size + 6 ≤ wr.heap.size
  pS : wr.rowIs (w1.heap.size + 1) 86 2 (fun i => if i = 0 then .pointer none else .map (some w1.heap.size))
  cS : wr.rowIs (w1.heap.size + 1 + 1 + 1) 86 2 (fun i => if i = 0 then .pointer (some ⟨w1.heap.size + 1, 0, none⟩) else .map (some (w1.heap.size + 1 + 1)))
  pA : wr.rowIs (w1.heap.size + 1 + 1 + 1 + 1) 28 6 (fun k => .pointer (p k))
  cA : wr.rowIs (w1.heap.size + 1 + 1 + 1 + 1 + 1) 28 6 (fun k => .pointer (c k))
  pM : TabIs wr w1.heap.size n p
  cM : TabIs wr (w1.heap.size + 1 + 1) n c

/-- Whoever keeps the blocks below the heap's end keeps all of it. -/
theorem Inv.keep {w1 wr w2 : World} {n : Nat} {p c : Nat → Option Addr} (h : Inv w1 wr n p c) (hb : Below wr.heap.size wr w2) : Inv w1 w2 n p c where
  below := h.below.trans (hb.mono (by have := h.size; omega))
  size := Nat.le_trans h.size hb.size
  pS := h.pS.of_block (hb.block _ h.pS.lt)
  cS := h.cS.of_block (hb.block _ h.cS.lt)
  pA := h.pA.of_block (hb.block _ h.pA.lt)
  cA := h.cA.of_block (hb.block _ h.cA.lt)
  pM := h.pM.block (hb.block _ h.pM.lt)
  cM := h.cM.block (hb.block _ h.cM.lt)

/-- Both maps' blocks, and how they stand to the others, under one store into the child's map and one into its array. -/
theorem Inv.child {w1 wr w2 w3 : World} {n : Nat} {p c c' : Nat → Option Addr} (h : Inv w1 wr n p c) (ht : wr.mapTurned w2 (w1.heap.size + 1 + 1)) (hM : TabIs w2 (w1.heap.size + 1 + 1) (n + 1) c')
    (hA : w3.rowIs (w1.heap.size + 1 + 1 + 1 + 1 + 1) 28 6 (fun k => .pointer (c' k))) (hk : ∀ k, k ≠ w1.heap.size + 1 + 1 + 1 + 1 + 1 → w3.heap[k]? = w2.heap[k]?) (hs : w2.heap.size ≤ w3.heap.size) (ho : w3.os = w2.os ∧ w3.tape = w2.tape ∧ w3.output = w2.output) :
    Inv w1 w3 (n + 1) p c' := by
  have hg := ht.grown
  have hb : ∀ k, k < wr.heap.size → k ≠ w1.heap.size + 1 + 1 → k ≠ w1.heap.size + 1 + 1 + 1 + 1 + 1 → w3.heap[k]? = wr.heap[k]? := fun k k1 k2 k3 => (hk k k3).trans (hg.block k k1 (fun e => k2 (by simpa using e)))
  have hsz := h.size
  have := hg.size
  exact {
    below := h.below.trans ⟨ho.1.trans hg.os, ho.2.1.trans hg.tape, ho.2.2.trans hg.output, by omega, fun k hk' => hb k (by omega) (by omega) (by omega)⟩
    size := by omega
    pS := h.pS.of_block (hb _ (by omega) (by omega) (by omega))
    cS := h.cS.of_block (hb _ (by omega) (by omega) (by omega))
    pA := h.pA.of_block (hb _ (by omega) (by omega) (by omega))
    cA := hA
    pM := (h.pM.block (hb _ (by omega) (by omega) (by omega))).mono (by omega)
    cM := hM.block (hk _ (by omega)) }

theorem Inv.parent {w1 wr w2 w3 : World} {n : Nat} {p c p' : Nat → Option Addr} (h : Inv w1 wr n p c) (ht : wr.mapTurned w2 w1.heap.size) (hM : TabIs w2 w1.heap.size (n + 1) p')
    (hA : w3.rowIs (w1.heap.size + 1 + 1 + 1 + 1) 28 6 (fun k => .pointer (p' k))) (hk : ∀ k, k ≠ w1.heap.size + 1 + 1 + 1 + 1 → w3.heap[k]? = w2.heap[k]?) (hs : w2.heap.size ≤ w3.heap.size) (ho : w3.os = w2.os ∧ w3.tape = w2.tape ∧ w3.output = w2.output) :
    Inv w1 w3 (n + 1) p' c := by
  have hg := ht.grown
  have hb : ∀ k, k < wr.heap.size → k ≠ w1.heap.size → k ≠ w1.heap.size + 1 + 1 + 1 + 1 → w3.heap[k]? = wr.heap[k]? := fun k k1 k2 k3 => (hk k k3).trans (hg.block k k1 (fun e => k2 (by simpa using e)))
  have hsz := h.size
  have := hg.size
  exact {
    below := h.below.trans ⟨ho.1.trans hg.os, ho.2.1.trans hg.tape, ho.2.2.trans hg.output, by omega, fun k hk' => hb k (by omega) (by omega) (by omega)⟩
    size := by omega
    pS := h.pS.of_block (hb _ (by omega) (by omega) (by omega))
    cS := h.cS.of_block (hb _ (by omega) (by omega) (by omega))
    cA := h.cA.of_block (hb _ (by omega) (by omega) (by omega))
    pA := hA
    cM := (h.cM.block (hb _ (by omega) (by omega) (by omega))).mono (by omega)
    pM := hM.block (hk _ (by omega)) }

theorem turned_cell {w w' : World} {b : Nat} {a : Addr} {v : Value} (ht : w.mapTurned w' b) (h : w.cell? a = some v) (hne : a.block ≠ b) : w'.cell? a = some v :=
  (World.cell?_of_block (w := w) (ht.grown.block _ (World.block_lt_of_cell? _ _ h) (fun e => hne (by simpa using e)))).trans h

theorem Inv.child_new {w1 wr w2 : World} {n k : Nat} {p c : Nat → Option Addr} {a : Addr} (h : Inv w1 wr n p c) (ht : wr.mapTurned w2 (w1.heap.size + 1 + 1)) (hM : TabIs w2 (w1.heap.size + 1 + 1) (n + 1) (upd c k a)) (hc : c k = none) :
    Inv w1 (w2.setCell ⟨w1.heap.size + 1 + 1 + 1 + 1 + 1, k, none⟩ (.pointer (some a))) (n + 1) p (upd c k a) := by
  refine h.child ht hM (((h.cA.of_block (ht.grown.block _ h.cA.lt (by simp; omega))).set k (.pointer (some a))).congr fun i _ => ?_) (fun i hi => Below.heap_setCell _ _ _ _ hi) (by simp [World.setCell]) ⟨rfl, rfl, rfl⟩
  unfold upd
  by_cases e : i = k
  · subst e; simp [hc]
  · simp [e]

theorem Inv.child_old {w1 wr w2 : World} {n k : Nat} {p c : Nat → Option Addr} {a u : Addr} (h : Inv w1 wr n p c) (ht : wr.mapTurned w2 (w1.heap.size + 1 + 1)) (hM : TabIs w2 (w1.heap.size + 1 + 1) (n + 1) (upd c k a)) (hc : c k = some u) :
    Inv w1 w2 (n + 1) p (upd c k a) := by
  refine h.child ht hM ((h.cA.of_block (ht.grown.block _ h.cA.lt (by simp; omega))).congr fun i _ => ?_) (fun i hi => rfl) (Nat.le_refl _) ⟨rfl, rfl, rfl⟩
  unfold upd
  by_cases e : i = k
  · subst e; simp [hc]
  · simp [e]

theorem Inv.parent_new {w1 wr w2 : World} {n k : Nat} {p c : Nat → Option Addr} {a : Addr} (h : Inv w1 wr n p c) (ht : wr.mapTurned w2 w1.heap.size) (hM : TabIs w2 w1.heap.size (n + 1) (upd p k a)) (hc : p k = none) :
    Inv w1 (w2.setCell ⟨w1.heap.size + 1 + 1 + 1 + 1, k, none⟩ (.pointer (some a))) (n + 1) (upd p k a) c := by
  refine h.parent ht hM (((h.pA.of_block (ht.grown.block _ h.pA.lt (by simp; omega))).set k (.pointer (some a))).congr fun i _ => ?_) (fun i hi => Below.heap_setCell _ _ _ _ hi) (by simp [World.setCell]) ⟨rfl, rfl, rfl⟩
  unfold upd
  by_cases e : i = k
  · subst e; simp [hc]
  · simp [e]

theorem Inv.parent_old {w1 wr w2 : World} {n k : Nat} {p c : Nat → Option Addr} {a u : Addr} (h : Inv w1 wr n p c) (ht : wr.mapTurned w2 w1.heap.size) (hM : TabIs w2 w1.heap.size (n + 1) (upd p k a)) (hc : p k = some u) :
    Inv w1 w2 (n + 1) (upd p k a) c := by
  refine h.parent ht hM ((h.pA.of_block (ht.grown.block _ h.pA.lt (by simp; omega))).congr fun i _ => ?_) (fun i hi => rfl) (Nat.le_refl _) ⟨rfl, rfl, rfl⟩
  unfold upd
  by_cases e : i = k
  · subst e; simp [hc]
  · simp [e]

/-- The parent's Lookup. -/
theorem Inv.look_parent {w1 wr : World} {n k : Nat} {p c : Nat → Option Addr} (h : Inv w1 wr n p c) (hk : k < 6) :
    Calls Try.prog 12 #[.pointer (some ⟨w1.heap.size + 1, 0, none⟩), .string (nm k)] wr fun e w' => e = .returned (ent (p k)) ∧ w' = wr := by
  obtain ⟨m, h1, h2⟩ := h.pM
  have c0 := h.pS.cell (i := 0) (by omega)
  have c1 := h.pS.cell (i := 1) (by omega)
  have := lookup_root (nm k) wr (nm_size k) c0 c1 h1
  rw [h2 k hk, ent_eq] at this
  exact this

/-- The child's. -/
theorem Inv.look_child {w1 wr : World} {n k : Nat} {p c : Nat → Option Addr} (h : Inv w1 wr n p c) (hk : k < 6) :
    Calls Try.prog 12 #[.pointer (some ⟨w1.heap.size + 1 + 1 + 1, 0, none⟩), .string (nm k)] wr fun e w' => e = .returned (ent ((c k).or (p k))) ∧ w' = wr := by
  obtain ⟨m, h1, h2⟩ := h.pM
  obtain ⟨m', h1', h2'⟩ := h.cM
  have := lookup_child (nm k) wr (nm_size k) (h.cS.cell (i := 0) (by omega)) (h.cS.cell (i := 1) (by omega)) h1' (h.pS.cell (i := 0) (by omega)) (h.pS.cell (i := 1) (by omega)) h1
  rw [h2 k hk, h2' k hk, ent_eq] at this
  cases hc : c k with
  | none => rw [hc] at this; exact this
  | some u => rw [hc] at this; exact this

theorem Inv.look_none {w1 wr : World} {n k : Nat} {p c : Nat → Option Addr} (h : Inv w1 wr n p c) (hk : k < 6) (hc : c k = none) :
    Calls Try.prog 12 #[.pointer (some ⟨w1.heap.size + 1 + 1 + 1, 0, none⟩), .string (nm k)] wr fun e w' => e = .returned (ent (p k)) ∧ w' = wr := by
  have := h.look_child hk
  rw [hc] at this
  exact this

theorem Inv.look_some {w1 wr : World} {n k : Nat} {p c : Nat → Option Addr} {u : Addr} (h : Inv w1 wr n p c) (hk : k < 6) (hc : c k = some u) :
    Calls Try.prog 12 #[.pointer (some ⟨w1.heap.size + 1 + 1 + 1, 0, none⟩), .string (nm k)] wr fun e w' => e = .returned (ent (some u)) ∧ w' = wr := by
  have := h.look_child hk
  rw [hc] at this
  exact this

/-- How it begins. -/
theorem Inv.start (w1 : World) : Inv w1 ((((((w1.alloc (.map #[] 0)).alloc (.cells #[.pointer none, .map (some w1.heap.size)] 86)).alloc (.map #[] 0)).alloc
    (.cells #[.pointer (some ⟨w1.heap.size + 1, 0, none⟩), .map (some (w1.heap.size + 1 + 1))] 86)).alloc
    (.cells #[.pointer none, .pointer none, .pointer none, .pointer none, .pointer none, .pointer none] 28)).alloc
    (.cells #[.pointer none, .pointer none, .pointer none, .pointer none, .pointer none, .pointer none] 28)) 0 (fun _ => none) (fun _ => none) where
  below := ((((((Below.refl _ _).alloc (Nat.le_refl _) _).alloc (by simp only [World.size_alloc]; omega) _).alloc (by simp only [World.size_alloc]; omega) _).alloc (by simp only [World.size_alloc]; omega) _).alloc (by simp only [World.size_alloc]; omega) _).alloc (by simp only [World.size_alloc]; omega) _
  size := by simp
  pS := by
    have h1 := World.rowIs_alloc (w1.alloc (.map #[] 0)) #[.pointer none, .map (some w1.heap.size)] 86 (fun i => if i = 0 then .pointer none else .map (some w1.heap.size)) (fun i hi => by
      have : i = 0 ∨ i = 1 := by simp at hi; omega
      rcases this with rfl | rfl <;> rfl)
    simp only [World.size_alloc] at h1
    exact (((h1.alloc _).alloc _).alloc _).alloc _
  cS := by
    have h1 := World.rowIs_alloc (((w1.alloc (.map #[] 0)).alloc (.cells #[.pointer none, .map (some w1.heap.size)] 86)).alloc (.map #[] 0)) #[.pointer (some ⟨w1.heap.size + 1, 0, none⟩), .map (some (w1.heap.size + 1 + 1))] 86 (fun i => if i = 0 then .pointer (some ⟨w1.heap.size + 1, 0, none⟩) else .map (some (w1.heap.size + 1 + 1))) (fun i hi => by
      have : i = 0 ∨ i = 1 := by simp at hi; omega
      rcases this with rfl | rfl <;> rfl)
    simp only [World.size_alloc] at h1
    exact (h1.alloc _).alloc _
  pA := by
    have h1 := World.rowIs_alloc ((((w1.alloc (.map #[] 0)).alloc (.cells #[.pointer none, .map (some w1.heap.size)] 86)).alloc (.map #[] 0)).alloc (.cells #[.pointer (some ⟨w1.heap.size + 1, 0, none⟩), .map (some (w1.heap.size + 1 + 1))] 86)) #[.pointer none, .pointer none, .pointer none, .pointer none, .pointer none, .pointer none] 28 (fun _ => .pointer none) (fun i hi => by
      have : i = 0 ∨ i = 1 ∨ i = 2 ∨ i = 3 ∨ i = 4 ∨ i = 5 := by simp at hi; omega
      rcases this with rfl | rfl | rfl | rfl | rfl | rfl <;> rfl)
    simp only [World.size_alloc] at h1
    exact h1.alloc _
  cA := by
    have h1 := World.rowIs_alloc (((((w1.alloc (.map #[] 0)).alloc (.cells #[.pointer none, .map (some w1.heap.size)] 86)).alloc (.map #[] 0)).alloc (.cells #[.pointer (some ⟨w1.heap.size + 1, 0, none⟩), .map (some (w1.heap.size + 1 + 1))] 86)).alloc (.cells #[.pointer none, .pointer none, .pointer none, .pointer none, .pointer none, .pointer none] 28)) #[.pointer none, .pointer none, .pointer none, .pointer none, .pointer none, .pointer none] 28 (fun _ => .pointer none) (fun i hi => by
      have : i = 0 ∨ i = 1 ∨ i = 2 ∨ i = 3 ∨ i = 4 ∨ i = 5 := by simp at hi; omega
      rcases this with rfl | rfl | rfl | rfl | rfl | rfl <;> rfl)
    simp only [World.size_alloc] at h1
    exact h1
  pM := ⟨fun _ => none, ((((((MapIs.made w1).alloc _).alloc _).alloc _).alloc _).alloc _), fun k _ => rfl⟩
  cM := by
    have h1 := MapIs.made ((w1.alloc (.map #[] 0)).alloc (.cells #[.pointer none, .map (some w1.heap.size)] 86))
    simp only [World.size_alloc] at h1
    exact ⟨fun _ => none, (((h1.alloc _).alloc _).alloc _), fun k _ => rfl⟩

end Go.Proofs.Qxb6003857a
