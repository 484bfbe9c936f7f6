/-
  THE LAW ON Import, THE PLAIN SIDE: lists of distinct numbers below four. No Go in sight.
-/
import Derived.KernelRfl
namespace Go.Proofs.Qxb6003857a

def add (L : List Nat) (j : Nat) : List Nat := if j ∈ L then L else L ++ [j]
def addC (a : List Nat × Bool) (j : Nat) : List Nat × Bool := (add a.1 j, !decide (j ∈ a.1) || a.2)
def adds (L M : List Nat) : List Nat := (M.foldl addC (L, false)).1
def chg (L M : List Nat) : Bool := (M.foldl addC (L, false)).2

theorem adds_nil (L : List Nat) : adds L [] = L := rfl
theorem chg_nil (L : List Nat) : chg L [] = false := rfl
theorem adds_snoc (L M : List Nat) (j : Nat) : adds L (M ++ [j]) = add (adds L M) j := by simp [adds, addC, List.foldl_append]
theorem chg_snoc (L M : List Nat) (j : Nat) : chg L (M ++ [j]) = (!decide (j ∈ adds L M) || chg L M) := by unfold chg adds; rw [List.foldl_append]; rfl

/-- Distinct numbers below four. -/
def Wf (L : List Nat) : Prop := L.Nodup ∧ ∀ x ∈ L, x < 4

theorem wf_nil : Wf [] := ⟨List.nodup_nil, by simp⟩

theorem nodup_length : ∀ (n : Nat) (L : List Nat), L.Nodup → (∀ x ∈ L, x < n) → L.length ≤ n
  | 0, L, _, h => by
    cases L with
    | nil => exact Nat.le_refl _
    | cons a r => exact absurd (h a (by simp)) (by omega)
  | n + 1, L, hd, h => by
    have h1 := nodup_length n (L.erase n) (hd.erase n) (fun x hx => by
      have h2 := (List.Nodup.mem_erase_iff hd).1 hx
      have := h x h2.2
      omega)
    rw [List.length_erase] at h1
    split at h1 <;> omega

theorem Wf.length {L : List Nat} (h : Wf L) : L.length ≤ 4 := nodup_length 4 L h.1 h.2

theorem Wf.add {L : List Nat} (h : Wf L) {j : Nat} (hj : j < 4) : Wf (add L j) := by
  unfold Qxb6003857a.add
  split
  · exact h
  · rename_i hn
    refine ⟨?_, fun x hx => ?_⟩
    · rw [List.nodup_append]
      exact ⟨h.1, by simp, fun a ha b hb e => hn (by rw [List.mem_singleton] at hb; rw [← hb, ← e]; exact ha)⟩
    · rcases List.mem_append.1 hx with hx | hx
      · exact h.2 x hx
      · rw [List.mem_singleton] at hx; omega

/-- A number that is not there yet: there is room for it. -/
theorem Wf.room {L : List Nat} (h : Wf L) {j : Nat} (hj : j < 4) (hn : j ∉ L) : L.length < 4 := by
  have := (h.add hj).length
  unfold Qxb6003857a.add at this
  rw [if_neg hn] at this
  simp at this
  omega

theorem wf_fold : ∀ (M : List Nat) (a : List Nat × Bool), Wf a.1 → (∀ x ∈ M, x < 4) → Wf (M.foldl addC a).1
  | [], _, h, _ => h
  | j :: M, a, h, hM => wf_fold M (addC a j) (h.add (hM j (by simp))) (fun x hx => hM x (by simp [hx]))

theorem Wf.adds {L : List Nat} (h : Wf L) (M : List Nat) (hM : ∀ x ∈ M, x < 4) : Wf (adds L M) := wf_fold M (L, false) h hM

theorem fold_new : ∀ (M : List Nat) (a : List Nat × Bool), (a.1 ++ M).Nodup → (M.foldl addC a).1 = a.1 ++ M
  | [], a, _ => by simp
  | j :: M, a, h => by
    have hn : j ∉ a.1 := fun hj => by
      have := (List.nodup_append.1 h).2.2 j hj j (by simp)
      exact this rfl
    have e : (addC a j).1 = a.1 ++ [j] := by simp [addC, add, hn]
    rw [List.foldl_cons, fold_new M (addC a j) (by rw [e]; simpa using h), e]
    simp

/-- A list of distinct numbers, added to nothing, is itself. -/
theorem adds_self {L : List Nat} (h : L.Nodup) : adds [] L = L := by
  unfold adds
  rw [fold_new L ([], false) (by simpa using h)]
  rfl

end Go.Proofs.Qxb6003857a
