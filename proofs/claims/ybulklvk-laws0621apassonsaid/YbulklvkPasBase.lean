/-
  'LawS0621APassOn': rows of memory, and what is built out of them: the plain part and the laws on worlds.
-/
import Derived.Test.YbulklvkRows
import Derived.WalkKit
import Derived.WalkSpells
import Derived.ProofKit
import Derived.OpenShut
import Derived.Deep.QuietTactic
import Derived.BigQuiet
import Derived.Deep.RegionHeld3
import Derived.Deep.AppendLies
import Derived.Deep.DrawnRows
namespace Go.Proofs.Ybulklvk.A
open Go.ChangeShapes Go.WideShapes Go.ChangeAt Go.RowKit Go.Instr
set_option linter.unusedVariables false

/-! ### Lists of cells -/
section
variable {α : Type} {f : α → List Value} {s : Nat}

def flatG (f : α → List Value) (l : List α) : List Value := l.flatMap f

theorem flatG_len (hs : ∀ a, (f a).length = s) (l : List α) : (flatG f l).length = l.length * s := by
  induction l with
  | nil => simp [flatG]
  | cons a l ih => simp only [flatG, List.flatMap_cons, List.length_append, List.length_cons] at ih ⊢; rw [ih, hs, Nat.add_mul]; omega

theorem flatG_at (hs : ∀ a, (f a).length = s) (l : List α) (k j : Nat) (hj : j < s) (a : α) (h : l[k]? = some a) : (flatG f l)[k * s + j]? = (f a)[j]? := by
  induction l generalizing k with
  | nil => simp at h
  | cons b l ih =>
    have hb := hs b
    cases k with
    | zero =>
      simp at h
      subst h
      simp only [flatG, List.flatMap_cons]
      rw [List.getElem?_append_left (by rw [hb]; omega)]
      congr 1; omega
    | succ k =>
      have := ih k (by simpa using h)
      simp only [flatG, List.flatMap_cons] at this ⊢
      have e : (k + 1) * s + j = s + (k * s + j) := by rw [Nat.add_mul]; omega
      rw [e, List.getElem?_append_right (by rw [hb]; omega), ← this, hb]
      congr 1; omega

theorem flatG_snoc (l : List α) (a : α) : flatG f (l ++ [a]) = flatG f l ++ f a := by simp [flatG]

theorem take_snoc {l : List α} {k : Nat} {a : α} (h : l[k]? = some a) : l.take (k + 1) = l.take k ++ [a] := by
  obtain ⟨hk, rfl⟩ := List.getElem?_eq_some_iff.1 h
  exact List.take_succ_eq_append_getElem hk

/-- From address a on the row l lies, each element's cells as f says; in a block below N. -/
def RowAt (f : α → List Value) (s N : Nat) (w : World) (a : Option Addr) (l : List α) : Prop :=
  ∀ k x, l[k]? = some x → ∃ b off, a = some ⟨b, off, none⟩ ∧ b < N ∧ ∀ j v, (f x)[j]? = some v → w.cell? ⟨b, off + k * s + j, none⟩ = some v

theorem RowAt.below {N M : Nat} {w w' : World} {a : Option Addr} {l : List α} (h : RowAt f s N w a l) (hb : Below M w w') (hN : N ≤ M) : RowAt f s N w' a l := by
  intro k x hx
  obtain ⟨b, off, e, hlt, hc⟩ := h k x hx
  exact ⟨b, off, e, hlt, fun j v hv => (hb.cell (p := ⟨b, _, none⟩) (Nat.lt_of_lt_of_le hlt hN)).trans (hc j v hv)⟩

theorem RowAt.mono {N M : Nat} {w : World} {a : Option Addr} {l : List α} (h : RowAt f s N w a l) (hN : N ≤ M) : RowAt f s M w a l := by
  intro k x hx
  obtain ⟨b, off, e, hlt, hc⟩ := h k x hx
  exact ⟨b, off, e, by omega, hc⟩

theorem RowAt.of_owns (hs : ∀ a, (f a).length = s) {w : World} {base e g n cap : Nat} {l : List α} (hl : l.length = n) (h : w.ownsRow base e s (.slice (some ⟨g, 0, none⟩) n cap) n (flatG f l)) :
    RowAt f s w.heap.size w (some ⟨g, 0, none⟩) l := by
  intro k x hx
  have hk : k < l.length := (List.getElem?_eq_some_iff.1 hx).1
  refine ⟨g, 0, rfl, (h.lt g rfl).2, fun j v hv => ?_⟩
  have hj : j < s := by rw [← hs x]; exact (List.getElem?_eq_some_iff.1 hv).1
  have hm : k * s + j < n * s := by
    have h1 : (k + 1) * s ≤ n * s := Nat.mul_le_mul_right _ (by omega)
    rw [Nat.add_mul] at h1
    omega
  rw [Nat.zero_add, h.cellAt _ hm, flatG_at hs l k j hj x hx, hv]

/-- The row's cells, one behind the other. -/
theorem RowAt.cells (hs : ∀ a, (f a).length = s) {N : Nat} {w : World} {b off : Nat} {l : List α} (h : RowAt f s N w (some ⟨b, off, none⟩) l) : ∀ j u, (flatG f l)[j]? = some u → w.cell? ((⟨b, off, none⟩ : Addr).add j) = some u := by
  intro j u hu
  have hj : j < (flatG f l).length := (List.getElem?_eq_some_iff.1 hu).1
  rw [flatG_len hs] at hj
  have hs0 : 0 < s := by rcases Nat.eq_zero_or_pos s with h0 | h0; (subst h0; omega); exact h0
  have hk : j / s < l.length := by rw [Nat.div_lt_iff_lt_mul hs0]; exact hj
  have hr : j % s < s := Nat.mod_lt _ hs0
  have ej : j / s * s + j % s = j := by rw [Nat.mul_comm]; exact Nat.div_add_mod j s
  obtain ⟨b', off', e, _, hc⟩ := h (j / s) l[j / s] (List.getElem?_eq_getElem hk)
  cases e
  have h1 := flatG_at hs l (j / s) (j % s) hr _ (List.getElem?_eq_getElem hk)
  rw [ej, hu] at h1
  have h2 := hc (j % s) u h1.symm
  rw [add_plain]
  rw [← h2]
  congr 2
  omega
end

structure Vd where
  id : Int
  tag : Int
  mis : Bool
structure An where
  to : Int
  round : Int
/-- A forward as it lies in memory: its ids behind a slice. -/
structure Fm where
  to : Int
  round : Int
  sl : Option Addr
  n : Nat
  cap : Nat
/-- A forward as it reads. -/
structure Fw where
  to : Int
  round : Int
  ids : List Int

def Vd.cells (v : Vd) : List Value := [.int .u64 v.id, .int .u64 v.tag, .bool v.mis]
def An.cells (v : An) : List Value := [.int .u64 v.to, .int .u64 v.round]
def Fm.cells (v : Fm) : List Value := [.int .u64 v.to, .int .u64 v.round, .slice v.sl v.n v.cap]
def idCells (x : Int) : List Value := [.int .u64 x]
theorem vd_len (v : Vd) : v.cells.length = 3 := rfl
theorem an_len (v : An) : v.cells.length = 2 := rfl
theorem fm_len (v : Fm) : v.cells.length = 3 := rfl
theorem id_len (x : Int) : (idCells x).length = 1 := rfl

/-- What lies behind the forwards of a row, below block N. -/
def DeepF (N : Nat) (w : World) (ms : List Fm) (fs : List Fw) : Prop :=
  ms.length = fs.length ∧ ∀ (k : Nat) (m : Fm) (F : Fw), ms[k]? = some m → fs[k]? = some F → m.to = F.to ∧ m.round = F.round ∧ m.n = F.ids.length ∧ RowAt idCells 1 N w m.sl F.ids

theorem DeepF.below {N M : Nat} {w w' : World} {ms : List Fm} {fs : List Fw} (h : DeepF N w ms fs) (hb : Below M w w') (hN : N ≤ M) : DeepF N w' ms fs :=
  ⟨h.1, fun k m F h1 h2 => by obtain ⟨a, b, c, d⟩ := h.2 k m F h1 h2; exact ⟨a, b, c, d.below hb hN⟩⟩
theorem DeepF.mono {N M : Nat} {w : World} {ms : List Fm} {fs : List Fw} (h : DeepF N w ms fs) (hN : N ≤ M) : DeepF M w ms fs :=
  ⟨h.1, fun k m F h1 h2 => by obtain ⟨a, b, c, d⟩ := h.2 k m F h1 h2; exact ⟨a, b, c, d.mono hN⟩⟩

theorem vd_at {N : Nat} {w : World} {a : Option Addr} {l : List Vd} (h : RowAt Vd.cells 3 N w a l) {k : Nat} {z : Vd} (hz : l[k]? = some z) :
    ∃ b off, a = some ⟨b, off, none⟩ ∧ b < N ∧ w.cell? ⟨b, off + k * 3, none⟩ = some (.int .u64 z.id) ∧ w.cell? ⟨b, off + k * 3 + 1, none⟩ = some (.int .u64 z.tag) ∧ w.cell? ⟨b, off + k * 3 + 2, none⟩ = some (.bool z.mis) := by
  obtain ⟨b, off, e, hlt, hc⟩ := h k z hz
  exact ⟨b, off, e, hlt, hc 0 _ rfl, hc 1 _ rfl, hc 2 _ rfl⟩
theorem an_at {N : Nat} {w : World} {a : Option Addr} {l : List An} (h : RowAt An.cells 2 N w a l) {k : Nat} {z : An} (hz : l[k]? = some z) :
    ∃ b off, a = some ⟨b, off, none⟩ ∧ b < N ∧ w.cell? ⟨b, off + k * 2, none⟩ = some (.int .u64 z.to) ∧ w.cell? ⟨b, off + k * 2 + 1, none⟩ = some (.int .u64 z.round) := by
  obtain ⟨b, off, e, hlt, hc⟩ := h k z hz
  exact ⟨b, off, e, hlt, hc 0 _ rfl, hc 1 _ rfl⟩
theorem fm_at {N : Nat} {w : World} {a : Option Addr} {l : List Fm} (h : RowAt Fm.cells 3 N w a l) {k : Nat} {z : Fm} (hz : l[k]? = some z) :
    ∃ b off, a = some ⟨b, off, none⟩ ∧ b < N ∧ w.cell? ⟨b, off + k * 3, none⟩ = some (.int .u64 z.to) ∧ w.cell? ⟨b, off + k * 3 + 1, none⟩ = some (.int .u64 z.round) ∧ w.cell? ⟨b, off + k * 3 + 2, none⟩ = some (.slice z.sl z.n z.cap) := by
  obtain ⟨b, off, e, hlt, hc⟩ := h k z hz
  exact ⟨b, off, e, hlt, hc 0 _ rfl, hc 1 _ rfl, hc 2 _ rfl⟩
theorem id_at {N : Nat} {w : World} {a : Option Addr} {l : List Int} (h : RowAt idCells 1 N w a l) {k : Nat} {z : Int} (hz : l[k]? = some z) :
    ∃ b off, a = some ⟨b, off, none⟩ ∧ b < N ∧ w.cell? ⟨b, off + k, none⟩ = some (.int .u64 z) := by
  obtain ⟨b, off, e, hlt, hc⟩ := h k z hz
  refine ⟨b, off, e, hlt, ?_⟩
  have := hc 0 _ rfl
  simpa using this

theorem heap2_new (w : World) (o0 o1 : Obj) : ((w.alloc o0).alloc o1).heap[w.heap.size + 1]? = some o1 := by
  have e : ((w.alloc o0).alloc o1).heap = (w.heap.push o0).push o1 := rfl
  rw [e]
  simp only [Array.getElem?_push, Array.size_push]
  simp
theorem heap1_new (w : World) (o0 : Obj) : (w.alloc o0).heap[w.heap.size]? = some o0 := heap_alloc_new w o0

theorem info53 : (Yba.prog.info? 53).map (fun i => (i.zero, i.size, i.bytes)) = some (some (.agg #[.int .u64 0, .int .u64 0, .bool false]), 3, 24) := by kernel_rfl
theorem info57 : (Yba.prog.info? 57).map (fun i => (i.zero, i.size, i.bytes)) = some (some (.agg #[.int .u64 0, .int .u64 0]), 2, 16) := by kernel_rfl
theorem info63 : (Yba.prog.info? 63).map (fun i => (i.zero, i.size, i.bytes)) = some (some (.agg #[.int .u64 0, .int .u64 0, .slice none 0 0]), 3, 40) := by kernel_rfl
theorem info42 : (Yba.prog.info? 42).map (fun i => (i.zero, i.size, i.bytes)) = some (some (.int .u64 0), 1, 8) := by kernel_rfl

/-! A slice compared with nil, at each type that the road compares. -/
theorem eqs22 (x : Addr) (n c : Nat) (w : World) : (binOp .eql 22 (.slice (some x) n c) (.slice none 0 0)).run Yba.prog w = .ok (.bool false) w := by kernel_rfl
theorem eqn22 (n c : Nat) (w : World) : (binOp .eql 22 (.slice none n c) (.slice none 0 0)).run Yba.prog w = .ok (.bool true) w := by kernel_rfl
theorem eqs23 (x : Addr) (n c : Nat) (w : World) : (binOp .eql 23 (.slice (some x) n c) (.slice none 0 0)).run Yba.prog w = .ok (.bool false) w := by kernel_rfl
theorem eqn23 (n c : Nat) (w : World) : (binOp .eql 23 (.slice none n c) (.slice none 0 0)).run Yba.prog w = .ok (.bool true) w := by kernel_rfl
theorem eqs24 (x : Addr) (n c : Nat) (w : World) : (binOp .eql 24 (.slice (some x) n c) (.slice none 0 0)).run Yba.prog w = .ok (.bool false) w := by kernel_rfl
theorem eqn24 (n c : Nat) (w : World) : (binOp .eql 24 (.slice none n c) (.slice none 0 0)).run Yba.prog w = .ok (.bool true) w := by kernel_rfl
theorem eqs64 (x : Addr) (n c : Nat) (w : World) : (binOp .eql 64 (.slice (some x) n c) (.slice none 0 0)).run Yba.prog w = .ok (.bool false) w := by kernel_rfl
theorem eqn64 (n c : Nat) (w : World) : (binOp .eql 64 (.slice none n c) (.slice none 0 0)).run Yba.prog w = .ok (.bool true) w := by kernel_rfl
theorem eqs27 (x : Addr) (n c : Nat) (w : World) : (binOp .eql 27 (.slice (some x) n c) (.slice none 0 0)).run Yba.prog w = .ok (.bool false) w := by kernel_rfl
theorem eqn27 (n c : Nat) (w : World) : (binOp .eql 27 (.slice none n c) (.slice none 0 0)).run Yba.prog w = .ok (.bool true) w := by kernel_rfl
theorem eqs29 (x : Addr) (n c : Nat) (w : World) : (binOp .eql 29 (.slice (some x) n c) (.slice none 0 0)).run Yba.prog w = .ok (.bool false) w := by kernel_rfl
theorem eqn29 (n c : Nat) (w : World) : (binOp .eql 29 (.slice none n c) (.slice none 0 0)).run Yba.prog w = .ok (.bool true) w := by kernel_rfl
theorem eqs31 (x : Addr) (n c : Nat) (w : World) : (binOp .eql 31 (.slice (some x) n c) (.slice none 0 0)).run Yba.prog w = .ok (.bool false) w := by kernel_rfl
theorem eqn31 (n c : Nat) (w : World) : (binOp .eql 31 (.slice none n c) (.slice none 0 0)).run Yba.prog w = .ok (.bool true) w := by kernel_rfl
theorem nen27 (n c : Nat) (w : World) : (binOp .neq 27 (.slice none n c) (.slice none 0 0)).run Yba.prog w = .ok (.bool false) w := by kernel_rfl
theorem nen45 (n c : Nat) (w : World) : (binOp .neq 45 (.slice none n c) (.slice none 0 0)).run Yba.prog w = .ok (.bool false) w := by kernel_rfl
end Go.Proofs.Ybulklvk.A
