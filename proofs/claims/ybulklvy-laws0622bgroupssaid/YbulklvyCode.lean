/-
  'LawS0622BGroups' (function 4): the pieces of its body, taken out of the translation.
-/
import Derived.Test.YbulklvySt
namespace Go.Proofs.Ybulklvy
open Go.ChangeShapes Go.WideShapes Go.ChangeAt Go.RowKit Go.Instr
set_option linter.unusedVariables false

/-- The innermost 'region n; rest'. -/
def tailAt (n : Nat) : Code → Option Code
  | .seq (.region id ops d) b => if id = n then some (.seq (.region id ops d) b) else tailAt n b
  | .seq a b => match tailAt n a with
    | some c => some c
    | none => tailAt n b
  | .block _ c => tailAt n c
  | .loop c => tailAt n c
  | .scope c => tailAt n c
  | .cond _ a b => match tailAt n a with
    | some c => some c
    | none => tailAt n b
  | _ => none
def lef : Code → Code
  | .seq a _ => a
  | c => c
def rig : Code → Code
  | .seq _ b => b
  | c => c
noncomputable def pc (n : Nat) : Code := (tailAt n (Yba.f4.body.getD .skip)).getD .skip

def jx (n : Nat) (l : List Int) : List Nat := l.map fun x => (x % (n : Int)).toNat
theorem jx_len (n : Nat) (l : List Int) : (jx n l).length = l.length := by simp [jx]
theorem jx_snoc (n : Nat) (l : List Int) (x : Int) : jx n (l ++ [x]) = jx n l ++ [(x % (n : Int)).toNat] := by simp [jx]
theorem jx_lt {n : Nat} (hn : 0 < n) (l : List Int) : ∀ j ∈ jx n l, j < n := by
  intro j hj
  obtain ⟨x, _, rfl⟩ := List.mem_map.1 hj
  have := Int.emod_lt_of_pos x (by omega : (0 : Int) < n)
  have := Int.emod_nonneg x (by omega : (n : Int) ≠ 0)
  omega
/-- The marks so far. -/
def Mk (n : Nat) (listed : Bool) (p : Nat → Bool) (ja jo jk jn : List Nat) : Prop := ∀ i, i < n → (p i = true ↔ (if listed = true then i ∈ ja else i ∈ jo ∨ i ∈ jk) ∨ i ∈ jn)
abbrev Nl : Value := .slice none 0 0
theorem Fin.mono {w : World} {lo lo' hi hi' e s : Nat} {f : Nat → List Value} {v : Value} {js : List Nat} (h : Fin w lo hi e s f v js) (hl : lo' ≤ lo) (hh : hi ≤ hi') : Fin w lo' hi' e s f v js := by
  refine ⟨⟨h.1.1, ?_⟩, fun g hg => Nat.lt_of_lt_of_le (h.2 g hg) hh⟩
  rcases h.1.2 with h2 | ⟨g, cap, cur, hv, hg, r⟩
  · exact .inl h2
  · exact .inr ⟨g, cap, cur, hv, Nat.le_trans hl hg, r⟩
theorem Fin.self {w : World} {lo e s : Nat} {f : Nat → List Value} {v : Value} {js : List Nat} (h : w.ownsRow lo e s v js.length (flatG f js)) : Fin w lo w.heap.size e s f v js := ⟨h, fun g hg => (h.lt g hg).2⟩
theorem app_block {wr w1 : World} {o : Obj} {v : Value} {lo e s n : Nat} {xs : List Value} (h : wr.ownsRow lo e s v n xs) (hg : (wr.alloc o).grownBy w1 v.ownBlock) (hs : lo ≤ wr.heap.size) : ∀ b, b < lo → w1.heap[b]? = wr.heap[b]? := by
  intro b hb
  refine (hg.block b (by simp; omega) (fun e => ?_)).trans (Below.heap_alloc _ _ _ (by omega))
  have := (h.lt b e.symm).1
  omega
theorem app_below {B : Nat} {w wr w1 : World} {o : Obj} {v : Value} {lo e s n : Nat} {xs : List Value} (h : wr.ownsRow lo e s v n xs) (hg : (wr.alloc o).grownBy w1 v.ownBlock) (hs : lo ≤ wr.heap.size) (hB : B ≤ lo) (bel : Below B w wr) : Below B w w1 :=
  (bel.alloc (by omega) _).grown hg (by simp; omega) (fun j hj => by have := (h.lt _ hj).1; omega)
theorem Mk.skipA {n : Nat} {p : Nat → Bool} {ja jo jk jn : List Nat} (h : Mk n false p ja jo jk jn) (j : Nat) : Mk n false p (ja ++ [j]) jo jk jn := fun i hi => by have := h i hi; simpa using this
theorem Mk.skipO {n : Nat} {p : Nat → Bool} {ja jo jk jn : List Nat} (h : Mk n true p ja jo jk jn) (j : Nat) : Mk n true p ja (jo ++ [j]) jk jn := fun i hi => by have := h i hi; simpa using this
theorem Mk.skipK {n : Nat} {p : Nat → Bool} {ja jo jk jn : List Nat} (h : Mk n true p ja jo jk jn) (j : Nat) : Mk n true p ja jo (jk ++ [j]) jn := fun i hi => by have := h i hi; simpa using this
theorem Mk.markA {n : Nat} {p : Nat → Bool} {ja jo jk jn : List Nat} (h : Mk n true p ja jo jk jn) (j : Nat) : Mk n true (fun i => if i = j then true else p i) (ja ++ [j]) jo jk jn := fun i hi => by
  have h1 := h i hi
  by_cases e : i = j <;> simp_all
theorem Mk.markO {n : Nat} {p : Nat → Bool} {ja jo jk jn : List Nat} (h : Mk n false p ja jo jk jn) (j : Nat) : Mk n false (fun i => if i = j then true else p i) ja (jo ++ [j]) jk jn := fun i hi => by
  have h1 := h i hi
  by_cases e : i = j <;> simp_all
theorem Mk.markK {n : Nat} {p : Nat → Bool} {ja jo jk jn : List Nat} (h : Mk n false p ja jo jk jn) (j : Nat) : Mk n false (fun i => if i = j then true else p i) ja jo (jk ++ [j]) jn := fun i hi => by
  have h1 := h i hi
  by_cases e : i = j <;> simp_all
theorem Mk.markN {n : Nat} {listed : Bool} {p : Nat → Bool} {ja jo jk jn : List Nat} (h : Mk n listed p ja jo jk jn) (j : Nat) : Mk n listed (fun i => if i = j then true else p i) ja jo jk (jn ++ [j]) := fun i hi => by
  have h1 := h i hi
  cases listed <;> by_cases e : i = j <;> simp_all
end Go.Proofs.Ybulklvy
