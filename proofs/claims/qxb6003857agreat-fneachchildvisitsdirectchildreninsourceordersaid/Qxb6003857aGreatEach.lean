/-
  EachChild: what is common to the kinds.
-/
import Derived.Test.Qxb6003857aGreatSeen
import Derived.Stop.IfaceNil
namespace Go.Proofs.Qxb6003857aGreat
open Go.RowKit

theorem ta_ne {T X e : TypeId} (hu : Tryz.prog.underlying X = some (.pointer e)) (hz : ∀ w, (zeroValue X).run Tryz.prog w = .ok (.pointer none) w) (h : T ≠ X) (v : Value) (w : World) :
    (Instr.typeAssert (.iface T v) 31 X true).run Tryz.prog w = .ok (.tuple #[.pointer none, .bool false]) w := by
  simp [Instr.typeAssert, run_underlying hu, h, hz, Result.andThen]

theorem ta_eq {X e : TypeId} (hu : Tryz.prog.underlying X = some (.pointer e)) (v : Value) (w : World) :
    (Instr.typeAssert (.iface X v) 31 X true).run Tryz.prog w = .ok (.tuple #[v, .bool true]) w := by
  simp [Instr.typeAssert, run_underlying hu, Result.andThen]

/-- The closure over the variable in block R. -/
def fnR (R : Nat) : Value := .func (Fn.func 8) #[] #[.pointer (some ⟨R, 0, none⟩)]

/-- EachChild on this node sees just these places, whatever was seen before. -/
def Visits (w : World) (node : Value) (ps : List Int) : Prop :=
  ∀ (R : Nat) (ys : List Int) (w2 : World), w.heap.size ≤ R → Below w.heap.size w w2 → GotIs w2 R ys → ys.length + ps.length ≤ 1000 →
    Calls Tryz.prog 7 #[node, fnR R] w2 fun e w3 => e = .returned (.tuple #[]) ∧ GotIs w3 R (ys ++ ps) ∧ Below R w2 w3

theorem PosIs.later {w w' : World} {c : Value} {p : Int} (h : PosIs w c p) (hs : Below w.heap.size w w') : PosIs w' c p := h.stay (Stay.of_below hs)

theorem PosIs.form {w : World} {c : Value} {p : Int} (h : PosIs w c p) : ∃ T v, c = .iface T v := by
  obtain ⟨T, t, b, rfl, _⟩ := h
  exact ⟨T, _, rfl⟩

/-- A field of the node, in whatever later world. -/
theorem node_cell {w : World} {b : Nat} {cs : Array Value} {t : TypeId} (hb : w.heap[b]? = some (.cells cs t (0, 0))) (k : Nat) (v : Value) (hk : cs[k]? = some v) : ∀ wx : World, Below w.heap.size w wx → wx.cell? ⟨b, k, none⟩ = some v := fun wx hx => by
  have h1 : wx.heap[b]? = some (.cells cs t (0, 0)) := (hx.block b (Array.getElem?_eq_some_iff.1 hb).1).trans hb
  simp [World.cell?, h1, hk]

/-- A slice, element by element. -/
def RowOf (w : World) (v : Value) (xs : List Value) : Prop := ∃ a cap g, v = .slice a xs.length cap ∧ ∀ k, k < xs.length → a = some ⟨g, 0, none⟩ ∧ w.cell? ⟨g, k, none⟩ = some (xs.getD k .nilIface)

theorem RowOf.later {w w' : World} {v : Value} {xs : List Value} (h : RowOf w v xs) (hs : Below w.heap.size w w') : RowOf w' v xs := by
  obtain ⟨a, cap, g, hv, h1⟩ := h
  exact ⟨a, cap, g, hv, fun k hk => ⟨(h1 k hk).1, cell_later hs (h1 k hk).2⟩⟩

theorem index_row {t e : TypeId} (hu : Tryz.prog.underlying t = some (.slice e)) (hs : ∀ w, (sizeOf e).run Tryz.prog w = .ok 1 w) (b k len cap : Nat) (hk : k < len) (wx : World) : (Instr.indexAt t (.slice (some ⟨b, 0, none⟩) len cap) (.int .i64 k)).run Tryz.prog wx = .ok (.pointer (some ⟨b, k, none⟩)) wx := by
  have e1 : Tryz.prog.elem t = e := by simp [Program.elem, hu]
  rw [run_indexAt_slice wx t _ _ _ _ _ (by rw [e1]; exact hu), if_pos (by omega), e1, hs]
  simp [Result.andThen, Addr.add]
  omega

/-- Children and their places. -/
def Kids (w : World) (xs : List Value) (ps : List Int) : Prop := xs.length = ps.length ∧ ∀ k, k < xs.length → PosIs w (xs.getD k .nilIface) (ps.getD k 0)

theorem take_next (ps : List Int) (k : Nat) (h : k < ps.length) : ps.take (k + 1) = ps.take k ++ [ps.getD k 0] := by
  rw [List.take_succ_eq_append_getElem h]
  simp [List.getD, h]

end Go.Proofs.Qxb6003857aGreat
