/-
  'newGroup' (function 14) and 'bcheck' (function 11).
-/
import Derived.Test.YbulklvyAtt
namespace Go.Proofs.Ybulklvy
open Go.ChangeShapes Go.WideShapes Go.ChangeAt Go.RowKit Go.Instr
set_option linter.unusedVariables false

def ic (i : Nat) : List Value := [.int .i64 i]
theorem ic_len (i : Nat) : (ic i).length = 1 := rfl
/-- The marked indexes, in order. -/
def idx (n : Nat) (p : Nat → Bool) : List Nat := (List.range n).filter p
theorem idx_le (n : Nat) (p : Nat → Bool) : (idx n p).length ≤ n := by
  have := List.length_filter_le p (List.range n)
  simpa [idx] using this
theorem idx_succ (n : Nat) (p : Nat → Bool) : idx (n + 1) p = if p n then idx n p ++ [n] else idx n p := by
  unfold idx
  rw [List.range_succ, List.filter_append]
  by_cases h : p n = true
  · simp [h]
  · simp [h]
theorem idx_congr {n : Nat} {p q : Nat → Bool} (h : ∀ i, i < n → p i = q i) : idx n p = idx n q := List.filter_congr fun i hi => h i (List.mem_range.1 hi)
theorem idx_at {n i : Nat} {p : Nat → Bool} (hi : i < n) (hp : p i = true) : (idx n p)[(idx i p).length]? = some i := by
  obtain ⟨d, rfl⟩ : ∃ d, n = i + 1 + d := ⟨n - (i + 1), by omega⟩
  induction d with
  | zero => rw [Nat.add_zero, idx_succ, if_pos hp]; simp
  | succ d ih =>
    have := ih (by omega)
    rw [← Nat.add_assoc, idx_succ]
    split
    · rw [List.getElem?_append_left (List.getElem?_eq_some_iff.1 this).1]; exact this
    · exact this

/-- The accounts' slice holds the list l, from block 'base' on (or is nil). -/
def Ints (w : World) (base : Nat) (v : Value) (l : List Nat) : Prop := w.ownsRow base 3 1 v l.length (flatG ic l)
theorem ints_form {w : World} {base : Nat} {v : Value} {l : List Nat} (h : Ints w base v l) : ∃ aa la ca, v = .slice aa la ca := by
  rcases h.2 with ⟨rfl, _⟩ | ⟨g, cap, cur, rfl, _⟩
  · exact ⟨_, _, _, rfl⟩
  · exact ⟨_, _, _, rfl⟩
theorem Ints.mono {w : World} {base base' : Nat} {v : Value} {l : List Nat} (h : Ints w base v l) (hb : base' ≤ base) : Ints w base' v l := by
  refine ⟨h.1, ?_⟩
  rcases h.2 with h2 | ⟨g, cap, cur, hv, hg, r⟩
  · exact .inl h2
  · exact .inr ⟨g, cap, cur, hv, Nat.le_trans hb hg, r⟩
theorem ints_row {w : World} {base : Nat} {v : Value} {l : List Nat} (h : Ints w base v l) : ∃ aa ca, v = .slice aa l.length ca ∧ RowAt ic 1 w.heap.size w aa l := by
  rcases h.2 with ⟨rfl, h0⟩ | ⟨g, cap, cur, rfl, _⟩
  · exact ⟨none, 0, by rw [h0], fun k x hx => by rw [List.length_eq_zero_iff.1 h0] at hx; simp at hx⟩
  · exact ⟨_, cap, rfl, RowAt.of_owns ic_len rfl h⟩
theorem info3 : (Yba.prog.info? 3).map (fun i => (i.zero, i.size, i.bytes)) = some (some (.int .i64 0), 1, 8) := by kernel_rfl

/-- Block b holds just these cells. -/
def CellsAt (w : World) (b : Nat) (cs : Array Value) (t : Nat) : Prop := w.heap[b]? = some (.cells cs t (0, 0))
theorem CellsAt.cell {w : World} {b t : Nat} {cs : Array Value} (h : CellsAt w b cs t) (j : Nat) : w.cell? ⟨b, j, none⟩ = cs[j]? := by unfold CellsAt at h; simp [World.cell?, h]
theorem CellsAt.frozen {w : World} {b t : Nat} {cs : Array Value} (h : CellsAt w b cs t) (j : Nat) : w.frozen? ⟨b, j, none⟩ = false := by unfold CellsAt at h; simp [World.frozen?, h]
theorem CellsAt.lt {w : World} {b t : Nat} {cs : Array Value} (h : CellsAt w b cs t) : b < w.heap.size := (Array.getElem?_eq_some_iff.1 h).1
theorem CellsAt.of {w w' : World} {b t : Nat} {cs : Array Value} (h : CellsAt w b cs t) (e : w'.heap[b]? = w.heap[b]?) : CellsAt w' b cs t := e.trans h
theorem CellsAt.below {w w' : World} {b t B : Nat} {cs : Array Value} (h : CellsAt w b cs t) (hb : Below B w w') (hB : b < B) : CellsAt w' b cs t := (hb.block b hB).trans h
theorem CellsAt.set {w : World} {b t : Nat} {cs : Array Value} (h : CellsAt w b cs t) (j : Nat) (v : Value) : CellsAt (w.setCell ⟨b, j, none⟩ v) b (cs.setIfInBounds j v) t := by
  unfold CellsAt at h ⊢
  simp [World.setCell, Array.getElem?_modify, h]

def grpV (vt : ByteArray) (g n : Nat) (va : Value) : Value := .agg #[.string vt, .slice (some ⟨g, 0, none⟩) n n, va]
/-- What 'newGroup' leaves. -/
def NewGrp (vt : ByteArray) (g n : Nat) (p : Nat → Bool) (w : World) (e : Ending) (w' : World) : Prop :=
  ∃ va, e = .returned (grpV vt g n va) ∧ Ints w' w.heap.size va (idx n p) ∧ Below w.heap.size w w'

set_option maxRecDepth 100000 in
set_option maxHeartbeats 4000000 in
theorem newGroup_any (vt : ByteArray) (g n base : Nat) (p : Nat → Bool) (w : World) (hB : Bools w base g n p) (hn : n ≤ 1024) :
    Calls Yba.prog 14 #[.string vt, .slice (some ⟨g, 0, none⟩) n n] w fun e w' => NewGrp vt g n p w e w' := by
  obtain ⟨i0, hi0, hz0, hz1, hz2⟩ := info_parts info3
  have hgl := hB.lt
  go_enter Yba.func14, Yba.ntmps14
  go_wp2
  go_loopw [6, 7, 13] (fun _ _ i wr => ∃ k va, k ≤ n ∧ i = .int .i64 k ∧ CellsAt wr w.heap.size #[.string ⟨#[]⟩, .slice none 0 0, .slice none 0 0] 100 ∧ CellsAt wr (w.heap.size + 1) #[.string vt, .slice (some ⟨g, 0, none⟩) n n, va] 100 ∧ Ints wr (w.heap.size + 2) va (idx k p) ∧ Below w.heap.size w wr ∧ w.heap.size + 2 ≤ wr.heap.size) (fun _ _ i _ => n - (intOf i).toNat)
  case atStart =>
    refine ⟨0, .slice none 0 0, Nat.zero_le _, rfl, ?_, ?_, World.ownsRow_nil _ _ _ _, ((Below.refl _ _).alloc (Nat.le_refl _) _).alloc (by simp) _, by simp⟩
    · exact (Below.heap_alloc (w.alloc _) _ _ (by simp)).trans (heap_alloc_new w _)
    · have h := heap_alloc_new (w.alloc (Obj.cells #[Value.string { data := #[] }, Value.slice none 0 0, Value.slice none 0 0] 100)) (Obj.cells #[Value.string vt, Value.slice (some { block := g, off := 0 }) n n, Value.slice none 0 0] 100)
      have e : (w.alloc (Obj.cells #[Value.string { data := #[] }, Value.slice none 0 0, Value.slice none 0 0] 100)).heap.size = w.heap.size + 1 := by simp
      rw [e] at h
      exact h
  case round =>
    obtain ⟨k, va, hk, rfl, h1, h2, h3, hbel, hsz⟩ := hrel
    have hl3 : (idx k p).length ≤ k := idx_le k p
    by_cases hlt : k < n
    · have x := (hB.below hbel).cell hlt
      have hj0 : (0 : Int) ≤ (k : Int) := Int.natCast_nonneg _
      have hj1 : (k : Int) < (n : Int) := by omega
      have hs := idx_succ k p
      have Hs : Hid _ := hs
      clear hs
      cases hp : p k
      · rw [hp] at x
        have Hp : Hid _ := hp
        clear hp
        go_wp2
        go_roundw
        case rel =>
          refine ⟨k + 1, va, by omega, by go_num, h1, h2, ?_, hbel, hsz⟩
          rw [Hs.out, Hp.out]; exact h3
        case measure => simp [intOf]; omega
      · rw [hp] at x
        have Hp : Hid _ := hp
        clear hp
        have y2 := h2.cell 2
        simp only [List.getElem?_toArray, List.getElem?_cons_zero, List.getElem?_cons_succ] at y2
        have am : some (w.heap.size + 1) ≠ va.ownBlock := fun e => by have := (World.ownsRow.lt h3 _ e.symm).1; omega
        have am0 : some w.heap.size ≠ va.ownBlock := fun e => by have := (World.ownsRow.lt h3 _ e.symm).1; omega
        have hnew := heap_alloc_new wr
        go_wp2_with
          (at_builtin
           refine wpList_append_lies _ rfl _ _ _ rfl (w.heap.size + 2) 3 i0 _ 1 8 Yba.underlying98 hi0 hz0 hz1 hz2 rfl (by omega) va (idx k p).length (flatG ic (idx k p)) rfl (World.ownsRow.alloc h3 _)
             ⟨wr.heap.size, 0, none⟩ 1 1 (ic k) rfl rfl (World.news_of_block (cs := #[.int .i64 k]) (t := 3) (fr := (0, 0)) (hnew _)) (by simp [ic, Value.oneCell'])
             (by omega) (by unfold maxLen; omega) (by omega) (by simp; omega) (wr.heap.size + 1) (by simp) ?_
           intro gg cap1 w1 hown1 hgrow hat hlt1
           have g2 := h2.of (w' := w1) ((hgrow.block _ (by simp; omega) am).trans (Below.heap_alloc _ _ _ (by omega)))
           have z2 := g2.cell 2
           have z2f := g2.frozen 2
           simp only [List.getElem?_toArray, List.getElem?_cons_zero, List.getElem?_cons_succ] at z2)
        go_roundw
        case rel =>
          have g1 := h1.of (w' := w1) ((hgrow.block _ (by simp; omega) am0).trans (Below.heap_alloc _ _ _ (by omega)))
          have hs1 := hgrow.size
          simp at hs1
          refine ⟨k + 1, _, by omega, by go_num, g1.of (Below.heap_setCell _ _ _ _ (by simp)), g2.set 2 _, ?_, ((hbel.alloc (by omega) _).grown hgrow (by simp; omega) (fun j hj => by have := (World.ownsRow.lt h3 _ hj).1; omega)).setCell (by simp) _, by simp; omega⟩
          unfold Ints
          rw [Hs.out, Hp.out, if_pos rfl, flatG_snoc, List.length_append]
          exact ownsRow_setCell_below hown1 (by simp) _
        case measure => simp [intOf]; omega
    · have hk2 : k = n := by omega
      subst hk2
      have y0 := h2.cell 0
      have y1 := h2.cell 1
      have y2 := h2.cell 2
      have u0 := h1.cell 0
      have u1 := h1.cell 1
      have u2 := h1.cell 2
      have f0 := h1.frozen 0
      have f1 := h1.frozen 1
      have f2 := h1.frozen 2
      simp only [List.getElem?_toArray, List.getElem?_cons_zero, List.getElem?_cons_succ] at y0 y1 y2 u0 u1 u2
      obtain ⟨aa, la, ca, rfl⟩ := ints_form h3
      go_wp2
      have e0 : (wr.setCell ⟨w.heap.size, 0, none⟩ (.string vt)).cell? ⟨w.heap.size, 0, none⟩ = some (.string vt) := (h1.set 0 (.string vt)).cell 0
      have e1 : ((wr.setCell ⟨w.heap.size, 0, none⟩ (.string vt)).setCell ⟨w.heap.size, 1, none⟩ (.slice (some ⟨g, 0, none⟩) k k)).cell? ⟨w.heap.size, 1, none⟩ = some (.slice (some ⟨g, 0, none⟩) k k) := ((h1.set 0 (.string vt)).set 1 (.slice (some ⟨g, 0, none⟩) k k)).cell 1
      have e2 : (((wr.setCell ⟨w.heap.size, 0, none⟩ (.string vt)).setCell ⟨w.heap.size, 1, none⟩ (.slice (some ⟨g, 0, none⟩) k k)).setCell ⟨w.heap.size, 2, none⟩ (.slice aa la ca)).cell? ⟨w.heap.size, 2, none⟩ = some (.slice aa la ca) := (((h1.set 0 (.string vt)).set 1 (.slice (some ⟨g, 0, none⟩) k k)).set 2 (.slice aa la ca)).cell 2
      refine bodyPost_ret (v := grpV vt g k (.slice aa la ca)) (by simp [results, Yba.results14, go_sem, grpV, e0, e1, e2]) rfl ⟨_, rfl, ?_, ?_⟩
      · exact Ints.mono (ownsRow_setCell_below (ownsRow_setCell_below (ownsRow_setCell_below h3 (by simp) _) (by simp) _) (by simp) _) (by omega)
      · exact ((hbel.setCell (by simp) _).setCell (by simp) _).setCell (by simp) _

theorem below_drewN (B : Nat) (w : World) (n : Nat) : Below B w (w.drewN n) := ⟨rfl, rfl, rfl, Nat.le_refl _, fun _ _ => rfl⟩

set_option maxRecDepth 100000 in
set_option maxHeartbeats 4000000 in
/-- 'bcheck' (function 11) where all is as it should be. -/
theorem check_true (vt : ByteArray) (g g2 n base base2 base3 : Nat) (p : Nat → Bool) (va : Value) (w : World) (hB : Bools w base g n p) (hB2 : Bools w base2 g2 n p) (hA : Ints w base3 va (idx n p)) (hn : n ≤ 1024) :
    Calls Yba.prog 11 #[grpV vt g n va, .string vt, .slice (some ⟨g2, 0, none⟩) n n] w fun e w' => e = .returned (.bool true) ∧ Below w.heap.size w w' := by
  unfold grpV
  have hgl := hB.lt
  have hgl2 := hB2.lt
  have hia := idx_le n p
  obtain ⟨aa, ca, rfl, hrow⟩ := ints_row hA
  go_enter Yba.func11, Yba.ntmps11
  go_wp2
  go_loopw [7, 8, 23] (fun kk _ i wr => ∃ k n', k ≤ n ∧ i = .int .i64 k ∧ kk = .int .i64 (idx k p).length ∧ wr = (w.alloc (.cells #[.string vt, .slice (some ⟨g, 0, none⟩) n n, .slice aa (idx n p).length ca] 100)).drewN n') (fun _ _ i _ => n - (intOf i).toNat)
  case atStart => exact ⟨0, 0, Nat.zero_le _, rfl, rfl, rfl⟩
  case round =>
    obtain ⟨k, n', hk, rfl, rfl, rfl⟩ := hrel
    have hik := idx_le k p
    by_cases hlt : k < n
    · have x1 := hB.cell hlt
      have x2 := hB2.cell hlt
      have hj0 : (0 : Int) ≤ (k : Int) := Int.natCast_nonneg _
      have hj1 : (k : Int) < (n : Int) := by omega
      have Hs : Hid _ := idx_succ k p
      cases hp : p k
      · rw [hp] at x1 x2
        have Hp : Hid _ := hp
        clear hp
        go_wp2
        go_quiet (fail)
        go_wp2
        go_roundw
        case rel => exact ⟨k + 1, n' + nq, by omega, by go_num, by rw [Hs.out, Hp.out]; rfl, rfl⟩
        case measure => simp [intOf]; omega
      · have hat := idx_at hlt hp
        have hal := (List.getElem?_eq_some_iff.1 hat).1
        obtain ⟨b, off, rfl, hb, hc⟩ := hrow.at hat
        have x3 : w.cell? ⟨b, off + (idx k p).length, none⟩ = some (.int .i64 k) := by have := hc 0 _ rfl; simpa using this
        rw [hp] at x1 x2
        have Hp : Hid _ := hp
        have Hrow : Hid _ := hrow
        clear hp hat hc hrow
        have hi0 : (0 : Int) ≤ ((idx k p).length : Int) := Int.natCast_nonneg _
        have hi1 : ((idx k p).length : Int) < ((idx n p).length : Int) := by omega
        go_wp2
        go_quiet (fail)
        go_wp2
        go_roundw
        case rel => exact ⟨k + 1, n' + nq, by omega, by go_num, by rw [Hs.out, Hp.out, if_pos rfl]; simp, rfl⟩
        case measure => simp [intOf]; omega
    · have hk2 : k = n := by omega
      subst hk2
      go_wp2
      go_ret
      exact ⟨rfl, ((Below.refl _ _).alloc (Nat.le_refl _) _).trans (below_drewN _ _ _)⟩
end Go.Proofs.Ybulklvy
