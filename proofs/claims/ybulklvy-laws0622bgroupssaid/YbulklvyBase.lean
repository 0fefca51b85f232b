/-
  'LawS0622BGroups': rows of memory, the plain data, the two smallest functions.
-/
import Derived.Test.YbulklvyRows
import Derived.WalkKit
import Derived.WalkSpells
import Derived.ProofKit
import Derived.OpenShut
import Derived.Deep.QuietTactic
import Derived.BigQuiet
import Derived.Deep.RegionHeld3
import Derived.Deep.AppendLies
import Derived.Deep.DrawnRows
import Derived.Deep.DeepCutAuto
namespace Go.Proofs.Ybulklvy
open Go.ChangeShapes Go.WideShapes Go.ChangeAt Go.RowKit Go.Instr
set_option linter.unusedVariables false

/-! ### Lists of cells -/
section
variable {α : Type} {f : α → List Value} {s : Nat}

def flatG (f : α → List Value) (l : List α) : List Value := l.flatMap f

theorem flatG_len (hs : ∀ a, (f a).length = s) (l : List α) : (flatG f l).length = l.length * s := by
  induction l with
  | nil => simp [flatG]
  | cons a l ih => simp only [flatG, List.flatMap_cons, List.length_append, List.length_cons] at ih ⊢; rw [ih, hs, Nat.add_mul]; omega

theorem flatG_at (hs : ∀ a, (f a).length = s) (l : List α) (k j : Nat) (hj : j < s) (a : α) (h : l[k]? = some a) : (flatG f l)[k * s + j]? = (f a)[j]? := by
  induction l generalizing k with
  | nil => simp at h
  | cons b l ih =>
    have hb := hs b
    cases k with
    | zero =>
      simp at h
      subst h
      simp only [flatG, List.flatMap_cons]
      rw [List.getElem?_append_left (by rw [hb]; omega)]
      congr 1; omega
    | succ k =>
      have := ih k (by simpa using h)
      simp only [flatG, List.flatMap_cons] at this ⊢
      have e : (k + 1) * s + j = s + (k * s + j) := by rw [Nat.add_mul]; omega
      rw [e, List.getElem?_append_right (by rw [hb]; omega), ← this, hb]
      congr 1; omega

theorem flatG_snoc (l : List α) (a : α) : flatG f (l ++ [a]) = flatG f l ++ f a := by simp [flatG]

theorem take_snoc {l : List α} {k : Nat} {a : α} (h : l[k]? = some a) : l.take (k + 1) = l.take k ++ [a] := by
  obtain ⟨hk, rfl⟩ := List.getElem?_eq_some_iff.1 h
  exact List.take_succ_eq_append_getElem hk

/-- From address a on the row l lies, each element's cells as f says; in a block below N. -/
def RowAt (f : α → List Value) (s N : Nat) (w : World) (a : Option Addr) (l : List α) : Prop :=
  ∀ k x, l[k]? = some x → ∃ b off, a = some ⟨b, off, none⟩ ∧ b < N ∧ ∀ j v, (f x)[j]? = some v → w.cell? ⟨b, off + k * s + j, none⟩ = some v

theorem RowAt.below {N M : Nat} {w w' : World} {a : Option Addr} {l : List α} (h : RowAt f s N w a l) (hb : Below M w w') (hN : N ≤ M) : RowAt f s N w' a l := by
  intro k x hx
  obtain ⟨b, off, e, hlt, hc⟩ := h k x hx
  exact ⟨b, off, e, hlt, fun j v hv => (hb.cell (p := ⟨b, _, none⟩) (Nat.lt_of_lt_of_le hlt hN)).trans (hc j v hv)⟩

theorem RowAt.mono {N M : Nat} {w : World} {a : Option Addr} {l : List α} (h : RowAt f s N w a l) (hN : N ≤ M) : RowAt f s M w a l := by
  intro k x hx
  obtain ⟨b, off, e, hlt, hc⟩ := h k x hx
  exact ⟨b, off, e, by omega, hc⟩

theorem RowAt.of_owns (hs : ∀ a, (f a).length = s) {w : World} {base e g n cap : Nat} {l : List α} (hl : l.length = n) (h : w.ownsRow base e s (.slice (some ⟨g, 0, none⟩) n cap) n (flatG f l)) :
    RowAt f s w.heap.size w (some ⟨g, 0, none⟩) l := by
  intro k x hx
  have hk : k < l.length := (List.getElem?_eq_some_iff.1 hx).1
  refine ⟨g, 0, rfl, (h.lt g rfl).2, fun j v hv => ?_⟩
  have hj : j < s := by rw [← hs x]; exact (List.getElem?_eq_some_iff.1 hv).1
  have hm : k * s + j < n * s := by
    have h1 : (k + 1) * s ≤ n * s := Nat.mul_le_mul_right _ (by omega)
    rw [Nat.add_mul] at h1
    omega
  rw [Nat.zero_add, h.cellAt _ hm, flatG_at hs l k j hj x hx, hv]

/-- The row's cells, one behind the other. -/
theorem RowAt.cells (hs : ∀ a, (f a).length = s) {N : Nat} {w : World} {b off : Nat} {l : List α} (h : RowAt f s N w (some ⟨b, off, none⟩) l) : ∀ j u, (flatG f l)[j]? = some u → w.cell? ((⟨b, off, none⟩ : Addr).add j) = some u := by
  intro j u hu
  have hj : j < (flatG f l).length := (List.getElem?_eq_some_iff.1 hu).1
  rw [flatG_len hs] at hj
  have hs0 : 0 < s := by rcases Nat.eq_zero_or_pos s with h0 | h0; (subst h0; omega); exact h0
  have hk : j / s < l.length := by rw [Nat.div_lt_iff_lt_mul hs0]; exact hj
  have hr : j % s < s := Nat.mod_lt _ hs0
  have ej : j / s * s + j % s = j := by rw [Nat.mul_comm]; exact Nat.div_add_mod j s
  obtain ⟨b', off', e, _, hc⟩ := h (j / s) l[j / s] (List.getElem?_eq_getElem hk)
  cases e
  have h1 := flatG_at hs l (j / s) (j % s) hr _ (List.getElem?_eq_getElem hk)
  rw [ej, hu] at h1
  have h2 := hc (j % s) u h1.symm
  rw [add_plain]
  rw [← h2]
  congr 2
  omega
end

theorem owns_below {w w' : World} {base e s n : Nat} {v : Value} {xs : List Value} (h : w.ownsRow base e s v n xs) (hb : Below w.heap.size w w') : w'.ownsRow base e s v n xs := by
  refine ⟨h.1, ?_⟩
  rcases h.2 with h2 | ⟨g, cap, cur, hv, hg, hh, r⟩
  · exact .inl h2
  · exact .inr ⟨g, cap, cur, hv, hg, (hb.block g (Array.getElem?_eq_some_iff.1 hh).1).trans hh, r⟩

theorem grown_of_below {w w' : World} (h : Below w.heap.size w w') (row : Option Nat) : w.grownBy w' row := ⟨h.os, h.tape, h.output, h.size, fun k hk _ => h.block k hk⟩

theorem RowAt.grown {α : Type} {f : α → List Value} {s N : Nat} {w w' : World} {a : Option Addr} {l : List α} {row : Option Nat} (h : RowAt f s N w a l) (hg : w.grownBy w' row) (hN : N ≤ w.heap.size) (hne : ∀ ad, a = some ad → some ad.block ≠ row) : RowAt f s N w' a l := by
  intro k x hx
  obtain ⟨b, off, e, hlt, hc⟩ := h k x hx
  exact ⟨b, off, e, hlt, fun j v hv => (hg.cell_far ⟨b, off + k * s + j, none⟩ (show b < _ by omega) (show some b ≠ row from hne _ e)).trans (hc j v hv)⟩


/-! ### The plain data -/
/-- An account: its holder (0 to 7), its shares, its role (0: none, 1: treasury, 2: insider). -/
structure Ac where
  k : Nat
  sh : Int
  r : Nat

def nm (k : Nat) : ByteArray := ⟨#[UInt8.ofNat (97 + k)]⟩
def trs : ByteArray := ⟨#[116, 114, 101, 97, 115, 117, 114, 121]⟩
def ins : ByteArray := ⟨#[105, 110, 115, 105, 100, 101, 114]⟩
def rs (r : Nat) : ByteArray := if r = 1 then trs else if r = 2 then ins else ⟨#[]⟩

/-- An account as it lies in the register. -/
def Ac.cells (a : Ac) : List Value := [.string (nm a.k), .string (nm a.k), .int .i64 a.sh, .string (rs a.r), .int .i64 0]
theorem ac_len (a : Ac) : a.cells.length = 5 := rfl
def bcell (b : Bool) : List Value := [.bool b]
theorem b_len (b : Bool) : (bcell b).length = 1 := rfl
def Ac.ok (a : Ac) : Prop := a.k < 8 ∧ 0 ≤ a.sh ∧ a.sh ≤ 4294967295 ∧ a.r < 3

set_option maxRecDepth 100000 in
/-- 'brole' (function 8). -/
theorem role_any (x : Int) (w : World) (h0 : 0 ≤ x) (h1 : x ≤ 255) : Calls Yba.prog 8 #[.int .u8 x] w fun e w' => e = .returned (.string (rs (x % 3).toNat)) ∧ w' = w := by
  rcases (by omega : x % 3 = 1 ∨ x % 3 = 2 ∨ x % 3 = 0) with h | h | h
  · have h1 : (x % 3 == 1) = true := by simp [h]
    have e : rs (x % 3).toNat = trs := by rw [h]; rfl
    rw [e]
    have H : Hid _ := h
    clear h e
    go_enter Yba.func8, Yba.ntmps8
    go_wp2
    go_ret
    exact ⟨rfl, rfl⟩
  · have h1 : (x % 3 == 1) = false := by simp [h]
    have h2 : (x % 3 == 2) = true := by simp [h]
    have e : rs (x % 3).toNat = ins := by rw [h]; rfl
    rw [e]
    have H : Hid _ := h
    clear h e
    go_enter Yba.func8, Yba.ntmps8
    go_wp2
    go_ret
    exact ⟨rfl, rfl⟩
  · have h1 : (x % 3 == 1) = false := by simp [h]
    have h2 : (x % 3 == 2) = false := by simp [h]
    have e : rs (x % 3).toNat = ⟨#[]⟩ := by rw [h]; rfl
    rw [e]
    have H : Hid _ := h
    clear h e
    go_enter Yba.func8, Yba.ntmps8
    go_wp2
    go_ret
    exact ⟨rfl, rfl⟩

theorem name_eq (k : Nat) (h : k < 8) : (ByteArray.mk #[97, 98, 99, 100, 101, 102, 103, 104]).extract k (k + 1) = nm k := by
  match k, h with
  | 0, _ => rfl
  | 1, _ => rfl
  | 2, _ => rfl
  | 3, _ => rfl
  | 4, _ => rfl
  | 5, _ => rfl
  | 6, _ => rfl
  | 7, _ => rfl
theorem ret_str {a b : ByteArray} (h : a = b) : Ending.returned (.string a) = .returned (.string b) := by rw [h]

set_option maxRecDepth 100000 in
/-- 'bname' (function 9). -/
theorem name_any (k : Nat) (w : World) (h : k < 8) : Calls Yba.prog 9 #[.int .i64 k] w fun e w' => e = .returned (.string (nm k)) ∧ w' = w := by
  go_enter Yba.func9, Yba.ntmps9
  go_wp2
  go_ret
  exact ⟨ret_str (name_eq k h), rfl⟩

theorem nm_inj {a b : Nat} (ha : a < 8) (hb : b < 8) (h : nm a = nm b) : a = b := by
  have h1 : UInt8.ofNat (97 + a) = UInt8.ofNat (97 + b) := by
    have := congrArg (fun s : ByteArray => s.data[0]?) h
    simpa [nm] using this
  have h2 := congrArg UInt8.toNat h1
  simp at h2
  omega

/-! ### Rows of bools -/
/-- n bools as cells. -/
def bl (n : Nat) (p : Nat → Bool) : List Value := (List.range n).map fun i => Value.bool (p i)
theorem bl_len (n : Nat) (p : Nat → Bool) : (bl n p).length = n := by simp [bl]
theorem bl_congr {n : Nat} {p q : Nat → Bool} (h : ∀ i, i < n → p i = q i) : bl n p = bl n q := List.map_congr_left fun i hi => by rw [h i (List.mem_range.1 hi)]
theorem bl_at {n : Nat} (p : Nat → Bool) {i : Nat} (h : i < n) : (bl n p)[i]? = some (.bool (p i)) := by simp [bl, h]
theorem bl_set (n : Nat) (p : Nat → Bool) (j : Nat) (v : Bool) : (bl n p).set j (.bool v) = bl n (fun i => if i = j then v else p i) := by
  apply List.ext_getElem?
  intro i
  by_cases hi : i < n
  · rw [List.getElem?_set]
    by_cases e : j = i
    · subst e
      rw [if_pos rfl, if_pos (by rw [bl_len]; exact hi), bl_at _ hi, if_pos rfl]
    · rw [if_neg e, bl_at p hi, bl_at _ hi, if_neg (Ne.symm e)]
  · rw [List.getElem?_eq_none (by simp [bl_len]; omega), List.getElem?_eq_none (by rw [bl_len]; omega)]
theorem bl_repl (n : Nat) : List.replicate n (Value.bool false) = bl n (fun _ => false) := by
  apply List.ext_getElem?
  intro i
  by_cases hi : i < n
  · rw [bl_at _ hi, List.getElem?_replicate, if_pos hi]
  · rw [List.getElem?_eq_none (by simp; omega), List.getElem?_eq_none (by rw [bl_len]; omega)]

/-- The slice value v holds the n bools p, in a block from 'base' on. -/
def Bools (w : World) (base : Nat) (g n : Nat) (p : Nat → Bool) : Prop := w.ownsRow base 4 1 (.slice (some ⟨g, 0, none⟩) n n) n (bl n p)

theorem Bools.cell {w : World} {base g n : Nat} {p : Nat → Bool} (h : Bools w base g n p) {i : Nat} (hi : i < n) : w.cell? ⟨g, i, none⟩ = some (.bool (p i)) := by
  rw [World.ownsRow.cellAt h i (by omega), bl_at p hi]
theorem Bools.frozen {w : World} {base g n : Nat} {p : Nat → Bool} (h : Bools w base g n p) (i : Nat) : w.frozen? ⟨g, i, none⟩ = false := World.ownsRow.frozenAt h i
theorem Bools.set {w : World} {base g n : Nat} {p : Nat → Bool} (h : Bools w base g n p) (j : Nat) (v : Bool) : Bools (w.setCell ⟨g, j, none⟩ (.bool v)) base g n (fun i => if i = j then v else p i) := by
  have := (World.ownsRow.stored h j (.bool v)).1
  rw [bl_set] at this
  exact this
theorem Bools.below {w w' : World} {base g n : Nat} {p : Nat → Bool} (h : Bools w base g n p) (hb : Below w.heap.size w w') : Bools w' base g n p := owns_below h hb
theorem Bools.lt {w : World} {base g n : Nat} {p : Nat → Bool} (h : Bools w base g n p) : base ≤ g ∧ g < w.heap.size := World.ownsRow.lt h g rfl
theorem Bools.congr {w : World} {base g n : Nat} {p q : Nat → Bool} (h : Bools w base g n p) (e : ∀ i, i < n → p i = q i) : Bools w base g n q := by
  unfold Bools at h ⊢
  rw [← bl_congr e]
  exact h
theorem Bools.block {w w' : World} {base g n : Nat} {p : Nat → Bool} (h : Bools w base g n p) (hb : w'.heap[g]? = w.heap[g]?) : Bools w' base g n p := by
  refine ⟨h.1, ?_⟩
  rcases h.2 with ⟨hv, _⟩ | ⟨g', cap, cur, hv, hg, hh, r⟩
  · cases hv
  · have e : g' = g := by cases hv; rfl
    subst e
    exact .inr ⟨g', cap, cur, hv, hg, hb.trans hh, r⟩

theorem info4 : (Yba.prog.info? 4).map (fun i => (i.zero, i.size, i.bytes)) = some (some (.bool false), 1, 1) := by kernel_rfl
theorem make_bools (w : World) (n : Nat) (hn : n ≤ 1048576) :
    ∃ w', (Instr.makeSlice 78 (.int .i64 n) (.int .i64 n)).run Yba.prog w = .ok (.slice (some ⟨w.heap.size, 0, none⟩) n n) w' ∧ Bools w' w.heap.size w.heap.size n (fun _ => false) ∧ w.grownBy w' none := by
  obtain ⟨i0, hi0, hz0, hz1, hz2⟩ := info_parts info4
  obtain ⟨w', h1, h2, h3⟩ := run_make_full (P := Yba.prog) w w.heap.size 78 4 i0 _ 1 Yba.underlying78 hi0 hz0 hz1 .i64 .i64 n (by rw [hz2]; omega) (by unfold maxLen; omega) (Nat.le_refl _)
  refine ⟨w', h1, ?_, h3⟩
  have e : (madeCells (Value.bool false).cells (n * 1)).toList = bl n (fun _ => false) := by
    rw [← bl_repl, Nat.mul_one]
    exact toList_madeCells_one (.bool false) n
  rw [e] at h2
  exact h2

def atC (j : Nat) : List Value := [.int .i64 j, .string ⟨#[]⟩]
def blC (j : Nat) : List Value := [.int .i64 j, .int .i64 0, .int .i64 0, .int .i64 0, .int .i64 0, .int .i64 0, .bool false, .int .i64 0, .int .i64 0, .int .i64 0]
def nwC (j : Nat) : List Value := [.int .i64 j, .int .i64 0, .int .i64 0, .int .i64 0, .int .i64 0, .int .i64 0, .bool false, .int .i64 0, .int .i64 1, .int .i64 0]
def enC (j : Nat) : List Value := [.int .i64 j, .string ⟨#[]⟩, .slice none 0 0, .int .i64 0]
theorem at_len (j : Nat) : (atC j).length = 2 := rfl
theorem bl10_len (j : Nat) : (blC j).length = 10 := rfl
theorem nw_len (j : Nat) : (nwC j).length = 10 := rfl
theorem en_len (j : Nat) : (enC j).length = 4 := rfl
theorem info87 : (Yba.prog.info? 87).map (fun i => (i.zero, i.size, i.bytes)) = some (some (.agg #[.int .i64 0, .string ⟨#[]⟩]), 2, 24) := by kernel_rfl
theorem info92 : (Yba.prog.info? 92).map (fun i => (i.zero, i.size, i.bytes)) = some (some (.agg #[.int .i64 0, .int .i64 0, .int .i64 0, .int .i64 0, .int .i64 0, .int .i64 0, .bool false, .int .i64 0, .int .i64 0, .int .i64 0]), 10, 80) := by kernel_rfl
theorem info94 : (Yba.prog.info? 94).map (fun i => (i.zero, i.size, i.bytes)) = some (some (.agg #[.int .i64 0, .string ⟨#[]⟩, .slice none 0 0, .int .i64 0]), 4, 56) := by kernel_rfl
theorem info65 : (Yba.prog.info? 65).map (fun i => (i.zero, i.size, i.bytes)) = some (some (.agg #[.string ⟨#[]⟩, .string ⟨#[]⟩, .int .i64 0, .string ⟨#[]⟩, .int .i64 0]), 5, 64) := by kernel_rfl

/-- The cells of one element, one by one. -/
theorem RowAt.at {α : Type} {f : α → List Value} {s N : Nat} {w : World} {a : Option Addr} {l : List α} (h : RowAt f s N w a l) {k : Nat} {x : α} (hx : l[k]? = some x) : ∃ b off, a = some ⟨b, off, none⟩ ∧ b < N ∧ ∀ j v, (f x)[j]? = some v → w.cell? ⟨b, off + k * s + j, none⟩ = some v := h k x hx

/-- The role is 'treasury', as the walk asks it. -/
theorem role_eq (r : Nat) (h : r < 3) : (rs r == trs) = decide (r = 1) := by
  match r, h with
  | 0, _ => rfl
  | 1, _ => rfl
  | 2, _ => rfl
theorem rs0 : (rs 0).toList = [] := by kernel_rfl
theorem rs1 : (rs 1).toList = [116, 114, 101, 97, 115, 117, 114, 121] := by kernel_rfl
theorem rs2 : (rs 2).toList = [105, 110, 115, 105, 100, 101, 114] := by kernel_rfl
theorem role_eqL (r : Nat) (h : r < 3) : ((rs r).toList == [116, 114, 101, 97, 115, 117, 114, 121]) = decide (r = 1) := by
  rcases (by omega : r = 0 ∨ r = 1 ∨ r = 2) with rfl | rfl | rfl
  · rw [rs0]; rfl
  · rw [rs1]; rfl
  · rw [rs2]; rfl
theorem role_neL (r : Nat) (h : r < 3) : ((rs r).toList == []) = decide (r = 0) := by
  rcases (by omega : r = 0 ∨ r = 1 ∨ r = 2) with rfl | rfl | rfl
  · rw [rs0]; rfl
  · rw [rs1]; rfl
  · rw [rs2]; rfl
theorem role_ne (r : Nat) (h : r < 3) : (rs r == (⟨#[]⟩ : ByteArray)) = decide (r = 0) := by
  match r, h with
  | 0, _ => rfl
  | 1, _ => rfl
  | 2, _ => rfl
end Go.Proofs.Ybulklvy
