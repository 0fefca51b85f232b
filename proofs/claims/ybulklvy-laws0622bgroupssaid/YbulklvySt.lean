/-
  'LawS0622BGroups': what the law's own variables hold, as facts of blocks.
-/
import Derived.Test.YbulklvyLawBig
namespace Go.Proofs.Ybulklvy
open Go.ChangeShapes Go.WideShapes Go.ChangeAt Go.RowKit Go.Instr
set_option linter.unusedVariables false

/-- The meeting's cells. -/
def mArr (minor : Bool) (reg : Value) (listed : Bool) (a o n k c : Value) : Array Value := #[.string ⟨#[]⟩, .string ⟨#[]⟩, .string ⟨#[]⟩, .string ⟨#[]⟩, .bool minor, .string ⟨#[]⟩, c, .slice none 0 0, .slice none 0 0, .pointer none, .int .i64 0, .bool false, reg, .bool listed, a, o, n, k, .int .i64 0, .int .u32 0, .map none, .slice none 0 0, .pointer none, .nilIface, .bool false]

theorem ownsRow_block {w w' : World} {base e s n : Nat} {v : Value} {xs : List Value} (h : w.ownsRow base e s v n xs) (hb : ∀ g, v.ownBlock = some g → w'.heap[g]? = w.heap[g]?) : w'.ownsRow base e s v n xs := by
  refine ⟨h.1, ?_⟩
  rcases h.2 with h2 | ⟨g, cap, cur, rfl, hg, hh, r⟩
  · exact .inl h2
  · exact .inr ⟨g, cap, cur, rfl, hg, (hb g rfl).trans hh, r⟩

/-- A row of blocks from lo to hi. -/
def Fin (w : World) (lo hi : Nat) (e s : Nat) (f : Nat → List Value) (v : Value) (js : List Nat) : Prop :=
  w.ownsRow lo e s v js.length (flatG f js) ∧ ∀ g, v.ownBlock = some g → g < hi
theorem Fin.of {w w' : World} {lo hi e s : Nat} {f : Nat → List Value} {v : Value} {js : List Nat} (h : Fin w lo hi e s f v js) (hb : ∀ b, lo ≤ b → b < hi → w'.heap[b]? = w.heap[b]?) : Fin w' lo hi e s f v js :=
  ⟨ownsRow_block h.1 fun g hg => hb g (h.1.lt g hg).1 (h.2 g hg), h.2⟩
theorem Fin.nil (w : World) (lo hi e s : Nat) (f : Nat → List Value) : Fin w lo hi e s f (.slice none 0 0) [] := ⟨World.ownsRow_nil _ _ _ _, fun g hg => by cases hg⟩
theorem Fin.row {w : World} {lo hi e s : Nat} {f : Nat → List Value} {v : Value} {js : List Nat} (h : Fin w lo hi e s f v js) (hf : ∀ j, (f j).length = s) : ∃ pa ca, v = .slice pa js.length ca ∧ RowAt f s w.heap.size w pa js := by
  rcases h.1.2 with ⟨rfl, h0⟩ | ⟨g, cap, cur, rfl, _⟩
  · exact ⟨none, 0, by rw [h0], fun k x hx => by rw [List.length_eq_zero_iff.1 h0] at hx; simp at hx⟩
  · exact ⟨_, cap, rfl, RowAt.of_owns hf rfl h.1⟩

structure Core (w wx : World) (zs : List Za) (xs : List Value) (V M : Nat) (listed minor : Bool) (a o n k c : Value) (p : Nat → Bool) : Prop where
  own : wx.ownsRow w.heap.size 65 5 (.slice (some ⟨w.heap.size, 0, none⟩) zs.length zs.length) zs.length xs
  sh : CellsAt wx V (arr8 (fun q => .int .i64 (shr (zs.map Za.ac) q))) 57
  br : CellsAt wx (V + 1) (arr8 (fun q => .bool (bar (zs.map Za.ac) q))) 58
  m : CellsAt wx M (mArr minor (.slice (some ⟨w.heap.size, 0, none⟩) zs.length zs.length) listed a o n k c) 83
  mks : Bools wx (M + 1) (M + 1) zs.length p
  bel : Below w.heap.size w wx
  hV : w.heap.size < V
  hM : V + 2 ≤ M
  hS : M + 2 ≤ wx.heap.size

section
variable {w wx w' : World} {zs : List Za} {xs : List Value} {V M : Nat} {listed minor : Bool} {a o n k c : Value} {p : Nat → Bool}

theorem Core.of (h : Core w wx zs xs V M listed minor a o n k c p) (hb : ∀ b, b < M + 2 → w'.heap[b]? = wx.heap[b]?) (bel : Below w.heap.size w w') (hs : M + 2 ≤ w'.heap.size) : Core w w' zs xs V M listed minor a o n k c p := by
  have h1 := h.hV
  have h2 := h.hM
  exact ⟨ownsRow_block h.own (fun g hg => by cases hg; exact hb w.heap.size (by omega)), h.sh.of (hb _ (by omega)), h.br.of (hb _ (by omega)), h.m.of (hb _ (by omega)), h.mks.block (hb _ (by omega)), bel, h1, h2, hs⟩

theorem Core.setM (h : Core w wx zs xs V M listed minor a o n k c p) (j : Nat) (v : Value) {a' o' n' k' c' : Value}
    (e : (mArr minor (.slice (some ⟨w.heap.size, 0, none⟩) zs.length zs.length) listed a o n k c).setIfInBounds j v = mArr minor (.slice (some ⟨w.heap.size, 0, none⟩) zs.length zs.length) listed a' o' n' k' c') :
    Core w (wx.setCell ⟨M, j, none⟩ v) zs xs V M listed minor a' o' n' k' c' p := by
  have h1 := h.hV
  have h2 := h.hM
  have hs := h.hS
  have hb : ∀ b, b ≠ M → (wx.setCell ⟨M, j, none⟩ v).heap[b]? = wx.heap[b]? := fun b hb => heap_setCell_other _ _ _ _ hb
  refine ⟨ownsRow_block h.own (fun g hg => by cases hg; exact hb w.heap.size (by omega)), h.sh.of (hb _ (by omega)), h.br.of (hb _ (by omega)), ?_, h.mks.block (hb _ (by omega)), h.bel.setCell (by show w.heap.size ≤ M; omega) _, h1, h2, by simpa [World.setCell] using hs⟩
  have := h.m.set j v
  rw [e] at this
  exact this

theorem Core.mark (h : Core w wx zs xs V M listed minor a o n k c p) (j : Nat) (v : Bool) : Core w (wx.setCell ⟨M + 1, j, none⟩ (.bool v)) zs xs V M listed minor a o n k c (fun i => if i = j then v else p i) := by
  have h1 := h.hV
  have h2 := h.hM
  have hs := h.hS
  have hb : ∀ b, b ≠ M + 1 → (wx.setCell ⟨M + 1, j, none⟩ (.bool v)).heap[b]? = wx.heap[b]? := fun b hb => heap_setCell_other _ _ _ _ hb
  exact ⟨ownsRow_block h.own (fun g hg => by cases hg; exact hb w.heap.size (by omega)), h.sh.of (hb _ (by omega)), h.br.of (hb _ (by omega)), h.m.of (hb _ (by omega)), h.mks.set j v, h.bel.setCell (by show w.heap.size ≤ M + 1; omega) _, h1, h2, by simpa [World.setCell] using hs⟩
end
end Go.Proofs.Ybulklvy
