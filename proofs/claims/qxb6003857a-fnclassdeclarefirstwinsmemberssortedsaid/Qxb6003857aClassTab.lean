/-
  THE LAW ON Declare: the tables of members and of constructors.
-/
import Derived.Test.Qxb6003857aClassSees
import Derived.Sort.KeysCollected
namespace Go.Proofs.Qxb6003857a
open Go.RowKit Go.Maps Go.WideMaps

def ptrV (a : Addr) : Value := .pointer (some a)
theorem ptrV_eq (x : Option Addr) : (x.map ptrV).getD (.pointer none) = .pointer x := by cases x <;> rfl

/-- The map in block b holds, at the six names, just the table's pointers, and nothing else. -/
def TabM (w : World) (b n : Nat) (tab : Nat → Option Addr) : Prop :=
  ∃ m, MapIs w b n m ∧ (∀ k, k < 6 → m (nmM k).data.toList = (tab k).map ptrV) ∧ ∀ s v, m s = some v → ∃ k, k < 6 ∧ s = (nmM k).data.toList

theorem TabM.block {w w' : World} {b n : Nat} {tab : Nat → Option Addr} (h : TabM w b n tab) (hb : w'.heap[b]? = w.heap[b]?) : TabM w' b n tab :=
  let ⟨m, h1, h2⟩ := h; ⟨m, h1.block hb, h2⟩

theorem TabM.mono {w : World} {b n n' : Nat} {tab : Nat → Option Addr} (h : TabM w b n tab) (hn : n ≤ n') : TabM w b n' tab :=
  let ⟨m, h1, h2⟩ := h; ⟨m, h1.mono hn, h2⟩

theorem TabM.lt {w : World} {b n : Nat} {tab : Nat → Option Addr} (h : TabM w b n tab) : b < w.heap.size :=
  let ⟨_, h1, _⟩ := h; h1.lt

/-- The first one declared stays. -/
def updM (tab : Nat → Option Addr) (k : Nat) (a : Addr) : Nat → Option Addr := fun j => if j = k then some ((tab k).getD a) else tab j

theorem TabM.put {w : World} {b n k : Nat} {m : List UInt8 → Option Value} {tab : Nat → Option Addr} {a : Addr} (hk : k < 6) (hm : MapIs w b n (put m (nmM k).data.toList (ptrV a))) (h2 : ∀ k, k < 6 → m (nmM k).data.toList = (tab k).map ptrV) (h3 : ∀ s v, m s = some v → ∃ k, k < 6 ∧ s = (nmM k).data.toList) (ht : tab k = none) : TabM w b n (updM tab k a) := by
  refine ⟨_, hm, fun j hj => ?_, fun s v hs => ?_⟩
  · unfold Qxb6003857a.put updM
    by_cases e1 : j = k
    · subst e1; rw [if_pos rfl, if_pos rfl, ht]; rfl
    · rw [if_neg (fun e2 => e1 (nmM_inj j k hj hk e2)), if_neg e1]; exact h2 j hj
  · unfold Qxb6003857a.put at hs
    by_cases e1 : s = (nmM k).data.toList
    · exact ⟨k, hk, e1⟩
    · rw [if_neg e1] at hs; exact h3 s v hs

theorem TabM.same {w : World} {b n n' k : Nat} {tab : Nat → Option Addr} {a v : Addr} (h : TabM w b n tab) (hn : n ≤ n') (ht : tab k = some v) : TabM w b n' (updM tab k a) := by
  obtain ⟨m, h1, h2, h3⟩ := h
  refine ⟨m, h1.mono hn, fun j hj => ?_, h3⟩
  unfold updM
  by_cases e1 : j = k
  · subst e1; rw [if_pos rfl, h2 j hj, ht]; rfl
  · rw [if_neg e1]; exact h2 j hj

/-- Nothing but the block b has turned, and nothing has come. -/
def Turned (w w' : World) (b : Nat) : Prop := ∃ w0 : World, (∃ n : Nat, w0 = w.drewN n) ∧ w0.mapTurned w' b

theorem Turned.block {w w' : World} {b : Nat} (h : Turned w w' b) (i : Nat) (hi : i < w.heap.size) (hb : i ≠ b) : w'.heap[i]? = w.heap[i]? := by
  obtain ⟨_, ⟨n, rfl⟩, h1⟩ := h
  exact h1.grown.block i hi (fun e => hb (by simpa using e))

theorem Turned.size {w w' : World} {b : Nat} (h : Turned w w' b) : w.heap.size ≤ w'.heap.size := by
  obtain ⟨_, ⟨n, rfl⟩, h1⟩ := h
  exact h1.grown.size

theorem Turned.rest {w w' : World} {b : Nat} (h : Turned w w' b) : w'.os = w.os ∧ w'.tape = w.tape ∧ w'.output = w.output := by
  obtain ⟨_, ⟨n, rfl⟩, h1⟩ := h
  exact ⟨h1.grown.os, h1.grown.tape, h1.grown.output⟩

section
variable {b cb mb n k : Nat} {tab : Nat → Option Addr} (w : World)

theorem declare21_tab (hk : k < 6) (hn : n < 64) (c1 : w.cell? ⟨cb, 8, none⟩ = some (.map (some b))) (c2 : w.cell? ⟨mb, 0, none⟩ = some (.string (nmM k))) (h : TabM w b n tab) :
    Calls Try.prog 21 #[.pointer (some ⟨cb, 0, none⟩), .pointer (some ⟨mb, 0, none⟩)] w fun e w' => e = .returned (.pointer (tab k)) ∧ TabM w' b (n + 1) (updM tab k ⟨mb, 0, none⟩) ∧ Turned w w' b := by
  have h0 := h
  obtain ⟨m, h1, h2, h3⟩ := h
  have hk2 := h2 k hk
  cases ht : tab k with
  | none =>
    rw [ht] at hk2
    exact (declare21_new (nmM k) w (nmM_size k) (by unfold maxLen; omega) c1 c2 h1 hk2).mono fun e w' ⟨he, hm, hw⟩ => ⟨he, TabM.put hk hm h2 h3 ht, _, ⟨2, rfl⟩, hw⟩
  | some v =>
    rw [ht] at hk2
    refine (declare21_old (nmM k) (ptrV v) w (nmM_size k) c1 c2 h1 hk2).mono fun e w' ⟨he, hw⟩ => ?_
    subst hw
    obtain ⟨D, hD, _⟩ := h1
    exact ⟨he, h0.same (w := w.drew) (by omega) ht, _, ⟨1, rfl⟩, World.ownsMap.turned_refl (w := w.drew) hD⟩

theorem declare22_tab (hk : k < 6) (hn : n < 64) (c1 : w.cell? ⟨cb, 9, none⟩ = some (.map (some b))) (c2 : w.cell? ⟨mb, 0, none⟩ = some (.string (nmM k))) (h : TabM w b n tab) :
    Calls Try.prog 22 #[.pointer (some ⟨cb, 0, none⟩), .pointer (some ⟨mb, 0, none⟩)] w fun e w' => e = .returned (.pointer (tab k)) ∧ TabM w' b (n + 1) (updM tab k ⟨mb, 0, none⟩) ∧ Turned w w' b := by
  have h0 := h
  obtain ⟨m, h1, h2, h3⟩ := h
  have hk2 := h2 k hk
  cases ht : tab k with
  | none =>
    rw [ht] at hk2
    exact (declare22_new (nmM k) w (nmM_size k) (by unfold maxLen; omega) c1 c2 h1 hk2).mono fun e w' ⟨he, hm, hw⟩ => ⟨he, TabM.put hk hm h2 h3 ht, _, ⟨2, rfl⟩, hw⟩
  | some v =>
    rw [ht] at hk2
    refine (declare22_old (nmM k) (ptrV v) w (nmM_size k) c1 c2 h1 hk2).mono fun e w' ⟨he, hw⟩ => ?_
    subst hw
    obtain ⟨D, hD, _⟩ := h1
    exact ⟨he, h0.same (w := w.drew) (by omega) ht, _, ⟨1, rfl⟩, World.ownsMap.turned_refl (w := w.drew) hD⟩

end

/-- The names' indices, in the order of bytes; those that the table holds. -/
def ordM : List Nat := [4, 5, 1, 2, 3, 0]
def presM (tab : Nat → Option Addr) : List Nat := ordM.filter (fun k => (tab k).isSome)
def bytesM (k : Nat) : List UInt8 := (nmM k).data.toList

theorem presM_mem {tab : Nat → Option Addr} {k : Nat} (h : k ∈ presM tab) : k < 6 ∧ (tab k).isSome = true := by
  obtain ⟨h1, h2⟩ := List.mem_filter.1 h
  refine ⟨?_, h2⟩
  have : ∀ j ∈ ordM, j < 6 := by decide
  exact this k h1

theorem presM_of {tab : Nat → Option Addr} {k : Nat} (hk : k < 6) (h : (tab k).isSome = true) : k ∈ presM tab := by
  refine List.mem_filter.2 ⟨?_, h⟩
  have : ∀ j, j < 6 → j ∈ ordM := by decide
  exact this k hk

theorem presM_rank (tab : Nat → Option Addr) : (presM tab).Pairwise (fun k j => rankM k < rankM j) := by
  have : ordM.Pairwise (fun k j => rankM k < rankM j) := by decide
  exact this.filter _

theorem presM_le (tab : Nat → Option Addr) : ((presM tab).map bytesM).Pairwise (fun x y => leB x y = true) := by
  refine List.pairwise_map.2 ?_
  have : ordM.Pairwise (fun k j => leB (bytesM k) (bytesM j) = true) := by decide
  exact this.filter _

theorem presM_nodup (tab : Nat → Option Addr) : ((presM tab).map bytesM).Nodup := by
  refine List.pairwise_map.2 ?_
  have : ordM.Pairwise (fun k j => bytesM k ≠ bytesM j) := by decide
  exact this.filter _

/-- What the map's reading is. -/
theorem TabM.keys {w : World} {b n : Nat} {tab : Nat → Option Addr} (h : TabM w b n tab) :
    ∃ D m, w.ownsMap Try.prog 9 heldElem b n D ∧ MapIs w b n m ∧ (∀ k, k < 6 → m (bytesM k) = (tab k).map ptrV) ∧ ((presM tab).map bytesM).Perm (strKeys D) ∧ Maps.size D = (presM tab).length := by
  obtain ⟨m, ⟨D, h1, h2⟩, h3, h4⟩ := h
  obtain ⟨es, rfl, hp, _⟩ := h1.entries law9
  obtain ⟨es', he, hk⟩ := h1.keysOf
  cases he
  have hs : ∀ p ∈ es, ∃ x, p.1 = .string x := fun p hp => by
    obtain ⟨key, hkey⟩ := hk p hp
    obtain ⟨x, _, hx, _⟩ := Maps.keyOf_str Try.underlying9 hkey
    exact ⟨x, hx⟩
  have hperm : ((presM tab).map bytesM).Perm (strKeys (.map es)) := perm_strKeys hp hs (presM_nodup tab) fun x => by
    rw [(h2 x).1, List.mem_map]
    constructor
    · rintro ⟨k, hk, rfl⟩
      obtain ⟨k1, k2⟩ := presM_mem hk
      show (m (nmM k).data.toList).isSome = true
      rw [h3 k k1]
      simpa using k2
    · intro hx
      obtain ⟨v, hv⟩ := Option.isSome_iff_exists.1 hx
      obtain ⟨k, hk, rfl⟩ := h4 x v hv
      refine ⟨k, presM_of hk ?_, rfl⟩
      have := h3 k hk
      rw [hv] at this
      cases ht : tab k with
      | none => rw [ht] at this; cases this
      | some u => rfl
  refine ⟨_, m, h1, ⟨_, h1, h2⟩, h3, hperm, ?_⟩
  have := hperm.length_eq
  simp only [List.length_map, strKeys] at this
  exact this.symm

theorem presM_sorted {tab : Nat → Option Addr} {ss : List (List UInt8)} {L : List (List UInt8)} (h : ss.Perm L) (h2 : ((presM tab).map bytesM).Perm L) : ss.mergeSort leB = (presM tab).map bytesM := by
  rw [mergeSort_of_perm (h.trans h2.symm)]
  exact List.mergeSort_of_pairwise (presM_le tab)

end Go.Proofs.Qxb6003857a
