/-
  A MAP KEYED BY STRINGS, SAID KEY BY KEY: 'MapIs w b n m': block b of w is a map of at most n entries; at the key s (its bytes) stands the value m s, or nothing. Over the kit's 'World.ownsMap' (Derived/Maps/Own.lean), the elements read as tokens of themselves.
-/
import Derived.Test.Qxb6003857aRows
import Derived.WalkKit
import Derived.WalkSpells
import Derived.WalkLawsBesides
import Derived.Below
import Derived.Maps.OwnSet
namespace Go.Proofs.Qxb6003857a
open Go.RowKit Go.Maps Go.WideMaps

/-- An element, read as itself. -/
def heldElem (v : Value) : Option (DataW Value × List MemPlace) := some (.held v, [])

def MapIs (w : World) (b n : Nat) (m : List UInt8 → Option Value) : Prop :=
  ∃ D : DataW Value, w.ownsMap Try.prog 9 heldElem b n D ∧
    ∀ s, Maps.has D (.string s) = (m s).isSome ∧ ∀ v, m s = some v → ∀ z, D.atKey (.string s) z = .held v

theorem law9 : Keyed Try.prog 9 := string_keyed Try.underlying9

theorem MapIs.made (w : World) : MapIs (w.alloc (.map #[] 0)) w.heap.size 0 (fun _ => none) :=
  ⟨.map [], World.ownsMap_made w Try.prog 9 heldElem, fun s => ⟨rfl, fun v h => by cases h⟩⟩

theorem MapIs.mono {w : World} {b n n' : Nat} {m : List UInt8 → Option Value} (h : MapIs w b n m) (hn : n ≤ n') : MapIs w b n' m :=
  let ⟨D, h1, h2⟩ := h; ⟨D, h1.mono hn, h2⟩

theorem MapIs.lt {w : World} {b n : Nat} {m : List UInt8 → Option Value} (h : MapIs w b n m) : b < w.heap.size :=
  let ⟨_, h1, _⟩ := h; h1.lt

theorem MapIs.kept {w w' : World} {b n : Nat} {m : List UInt8 → Option Value} {row : Option Nat} (h : MapIs w b n m) (hg : w.grownBy w' row) (hne : some b ≠ row) : MapIs w' b n m :=
  let ⟨D, h1, h2⟩ := h; ⟨D, h1.kept hg hne, h2⟩

theorem MapIs.alloc {w : World} {b n : Nat} {m : List UInt8 → Option Value} (h : MapIs w b n m) (o : Obj) : MapIs (w.alloc o) b n m :=
  let ⟨D, h1, h2⟩ := h; ⟨D, h1.alloc o, h2⟩

theorem MapIs.drew {w : World} {b n : Nat} {m : List UInt8 → Option Value} (h : MapIs w b n m) : MapIs w.drew b n m := h

theorem MapIs.setCell {w : World} {b n : Nat} {m : List UInt8 → Option Value} (h : MapIs w b n m) {a : Addr} (ha : b ≠ a.block) (u : Value) : MapIs (w.setCell a u) b n m :=
  let ⟨D, h1, h2⟩ := h; ⟨D, h1.setCell ha u, h2⟩

/-- The map stands in one block: whoever keeps that block keeps the map. -/
theorem MapIs.block {w w' : World} {b n : Nat} {m : List UInt8 → Option Value} (h : MapIs w b n m) (hb : w'.heap[b]? = w.heap[b]?) : MapIs w' b n m := by
  obtain ⟨D, ⟨es, clock, h1, r⟩, h2⟩ := h
  exact ⟨D, ⟨es, clock, hb.trans h1, r⟩, h2⟩

theorem MapIs.look {w : World} {b n : Nat} {m : List UInt8 → Option Value} (h : MapIs w b n m) {t e : TypeId} {z : Value} (ht : Try.prog.underlying t = some (.map 9 e)) (hz : (zeroValue e).run Try.prog w = .ok z w) {s : ByteArray} (hs : s.size ≤ maxLen) :
    (Instr.lookup t (.map (some b)) (.string s) true).run Try.prog w = .ok (.tuple #[(m s.data.toList).getD z, .bool (m s.data.toList).isSome]) w := by
  obtain ⟨D, h1, h2⟩ := h
  obtain ⟨v, ps, hrun, hv⟩ := h1.look_ok law9 ht hz (zd := .held z) (zp := []) rfl (keyOf_string_mk Try.underlying9 hs)
  obtain ⟨h3, h4⟩ := h2 s.data.toList
  rw [hrun]
  have e1 : v = (m s.data.toList).getD z := by
    have hv' : DataW.held v = D.atKey (.string s.data.toList) (.held z) := by
      simp only [heldElem, Option.some.injEq, Prod.mk.injEq] at hv
      exact hv.1
    cases hm : m s.data.toList with
    | none =>
      rw [hm] at h3
      rw [Maps.atKey_of_not_has h3] at hv'
      cases hv'; rfl
    | some u =>
      rw [h4 u hm] at hv'
      cases hv'; rfl
  rw [e1, h3]

/-- What 'm[s] = v' makes of the table. -/
def put (m : List UInt8 → Option Value) (s : List UInt8) (v : Value) : List UInt8 → Option Value := fun t => if t = s then some v else m t

theorem MapIs.store {w : World} {b n : Nat} {m : List UInt8 → Option Value} (h : MapIs w b n m) {t e : TypeId} (ht : Try.prog.underlying t = some (.map 9 e)) (hn : n < maxLen) {s : ByteArray} (hs : s.size ≤ maxLen) (v : Value) :
    ∃ w', (Instr.mapUpdate t (.map (some b)) (.string s) v).run Try.prog w = .ok () w' ∧ MapIs w' b (n + 1) (put m s.data.toList v) ∧ w.mapTurned w' b := by
  obtain ⟨D, h1, h2⟩ := h
  have hk := keyOf_string_mk Try.underlying9 hs
  obtain ⟨w', hrun, hown, hturn⟩ := h1.store law9 ht hn (d := .held v) (ps := []) hk (val := v) rfl
  refine ⟨w', hrun, ⟨_, hown, fun t => ?_⟩, hturn⟩
  unfold put
  by_cases e1 : t = s.data.toList
  · subst e1
    rw [if_pos rfl]
    refine ⟨Maps.has_put_same h1.isMap (law9.key hk) _, fun u hu z => ?_⟩
    cases hu
    exact Maps.atKey_put_same h1.isMap (law9.key hk) _ _
  · rw [if_neg e1]
    have hne : (Lit.string t) ≠ .string s.data.toList := by intro hh; cases hh; exact e1 rfl
    rw [Maps.has_put_other hne]
    refine ⟨(h2 t).1, fun u hu z => ?_⟩
    rw [Maps.atKey_put_other hne]
    exact (h2 t).2 u hu z

theorem zero37 (w : World) : (zeroValue 37).run Try.prog w = .ok .nilIface w := by kernel_rfl

end Go.Proofs.Qxb6003857a
