/-
  'NewHearing' and 'Hears': the links into the node, by sender, in the table's order; and what is heard.
-/
import Derived.Test.YbulklvkMap
import Derived.Deep.RegionHeld3
import Derived.Deep.AppendLies
import Derived.Deep.DrawnRows
namespace Go.Proofs.Ybulklvk
open Go.ChangeShapes Go.WideShapes Go.ChangeAt Go.RowKit Go.Instr
open Go.ChangeMaps (setBlock)
set_option linter.unusedVariables false

/-- The kit's stores know no float. -/
theorem run_store_float {P : Program} {w : World} {a : Addr} {m : Mode} (k : FloatKind) (n : Nat) : (store a (.float k n) m).run P w = stored P w a (.float k n) m := run_store P w a _ m rfl
attribute [local go_sem] run_store_float

structure Lk where
  fr : Int
  to : Int
  st : Int
  en : Int
  ls : Nat

def Lk.cells (l : Lk) : List Value := [.int .u64 l.fr, .int .u64 l.to, .int .i64 l.st, .int .i64 l.en, .float .f64 l.ls]
def flat (ls : List Lk) : List Value := ls.flatMap Lk.cells

theorem flat_len (ls : List Lk) : (flat ls).length = ls.length * 5 := by
  induction ls with
  | nil => rfl
  | cons l ls ih => simp only [flat, List.flatMap_cons, List.length_append, List.length_cons] at ih ⊢; rw [ih]; simp [Lk.cells]; omega

theorem flat_at (ls : List Lk) (k j : Nat) (hj : j < 5) (l : Lk) (hl : ls[k]? = some l) : (flat ls)[k * 5 + j]? = l.cells[j]? := by
  induction ls generalizing k with
  | nil => simp at hl
  | cons a ls ih =>
    have hc : a.cells.length = 5 := rfl
    cases k with
    | zero =>
      simp at hl
      subst hl
      simp only [flat, List.flatMap_cons]
      rw [List.getElem?_append_left (by rw [hc]; omega)]
      congr 1; omega
    | succ k =>
      have := ih k (by simpa using hl)
      simp only [flat, List.flatMap_cons] at this ⊢
      rw [List.getElem?_append_right (by rw [hc]; omega), ← this, hc]
      congr 1; omega

theorem flat_snoc (ls : List Lk) (l : Lk) : flat (ls ++ [l]) = flat ls ++ l.cells := by simp [flat]

/-- The links into node id from sender x, in order. -/
def grp (ls : List Lk) (id x : Int) : List Lk := ls.filter fun l => l.to == id && l.fr == x

/-- Block mb is a map in which each key's slice owns just its links; no two keys' slices lie in one row; all rows lie from 'base' on. -/
def Groups (w : World) (mb base : Nat) (G : Int → List Lk) : Prop :=
  ∃ es clock, w.heap[mb]? = some (.map es clock) ∧ KeysOk es.toList ∧ (∀ x, w.ownsRow base 74 5 (lookL x es.toList) (G x).length (flat (G x))) ∧
    (∀ x y, x ≠ y → (lookL x es.toList).ownBlock = none ∨ (lookL x es.toList).ownBlock ≠ (lookL y es.toList).ownBlock) ∧ mb < base

structure HearAt (w : World) (g mb r p : Nat) : Prop where
  hg : w.heap[g]? = some (.cells #[.map (some mb), .pointer (some ⟨r, 0, none⟩)] 98 (0, 0))
  hr : w.heap[r]? = some (.cells #[.iface 95 (.pointer (some ⟨p, 0, none⟩))] 103 (0, 0))
  hp : PcgAt w p

theorem grp_nil (id : Int) : (fun x => grp ([] : List Lk) id x) = fun _ => [] := rfl

theorem groups_new (w : World) (mb base : Nat) (h : w.heap[mb]? = some (.map #[] 0)) (hb : mb < base) : Groups w mb base (fun _ => []) :=
  ⟨#[], 0, h, by simp [KeysOk], fun x => World.ownsRow_nil _ _ _ _, fun x y _ => .inl rfl, hb⟩

theorem row_cell {w : World} {b0 g0 cap : Nat} {ls : List Lk} (hown : w.ownsRow b0 74 5 (.slice (some ⟨g0, 0, none⟩) ls.length cap) ls.length (flat ls)) (k j : Nat) (hj : j < 5) (l : Lk) (hl : ls[k]? = some l) :
    w.cell? ⟨g0, k * 5 + j, none⟩ = l.cells[j]? := by
  have hk : k < ls.length := (List.getElem?_eq_some_iff.1 hl).1
  rw [hown.cellAt _ (by omega), flat_at ls k j hj l hl]

theorem heap4 (w : World) (o0 o1 o2 o3 : Obj) : ((((w.alloc o0).alloc o1).alloc o2).alloc o3).heap[w.heap.size]? = some o0 ∧ ((((w.alloc o0).alloc o1).alloc o2).alloc o3).heap[w.heap.size + 1]? = some o1 ∧
    ((((w.alloc o0).alloc o1).alloc o2).alloc o3).heap[w.heap.size + 2]? = some o2 ∧ ((((w.alloc o0).alloc o1).alloc o2).alloc o3).heap[w.heap.size + 3]? = some o3 ∧ ((((w.alloc o0).alloc o1).alloc o2).alloc o3).heap.size = w.heap.size + 4 := by
  have e : ((((w.alloc o0).alloc o1).alloc o2).alloc o3).heap = (((w.heap.push o0).push o1).push o2).push o3 := rfl
  rw [e]
  refine ⟨?_, ?_, ?_, ?_, ?_⟩ <;> simp only [Array.getElem?_push, Array.size_push] <;> repeat (first | rfl | (split <;> first | rfl | omega | skip))

theorem HearAt.kept {w w' : World} {g mb r p : Nat} {row : Option Nat} (h : HearAt w g mb r p) (hg : w.grownBy w' row) (h1 : some g ≠ row) (h2 : some r ≠ row) (h3 : some p ≠ row) : HearAt w' g mb r p := by
  have lt : ∀ {b : Nat} {o : Obj}, w.heap[b]? = some o → b < w.heap.size := fun e => (Array.getElem?_eq_some_iff.1 e).1
  obtain ⟨hi, lo, hp⟩ := h.hp
  exact ⟨(hg.block _ (lt h.hg) h1).trans h.hg, (hg.block _ (lt h.hr) h2).trans h.hr, hi, lo, (hg.block _ (lt hp) h3).trans hp⟩

theorem Groups.kept {w w' : World} {mb base : Nat} {G : Int → List Lk} {row : Option Nat} (h : Groups w mb base G) (hg : w.grownBy w' row) (hr : ∀ k, row = some k → k ≠ mb ∧ k < base) : Groups w' mb base G := by
  obtain ⟨es, clock, h1, h2, h3, h4, h5⟩ := h
  have lt : mb < w.heap.size := (Array.getElem?_eq_some_iff.1 h1).1
  refine ⟨es, clock, (hg.block _ lt (fun e => (hr mb e.symm).1 rfl)).trans h1, h2, fun x => (h3 x).kept hg ?_, h4, h5⟩
  cases hb : (lookL x es.toList).ownBlock with
  | none => exact .inl rfl
  | some k =>
    refine .inr (fun e => ?_)
    have := ((h3 x).lt k hb).1
    have := (hr k e.symm).2
    omega

theorem setBlock_grown {w : World} {b : Nat} {o : Obj} (o' : Obj) (h : w.heap[b]? = some o) : w.grownBy (setBlock w b o') (some b) ∧ (setBlock w b o').heap[b]? = some o' := by
  obtain ⟨h1, h2⟩ := MapKept.heap_set (o' := o') h
  exact ⟨⟨rfl, rfl, rfl, by simp [setBlock], fun k _ hk => h2 k (fun e => hk (by rw [e]))⟩, h1⟩

theorem cell_setBlock (w : World) (b : Nat) (o : Obj) (a : Addr) (h : a.block ≠ b) : (setBlock w b o).cell? a = w.cell? a := by
  apply World.cell?_of_block
  simp [setBlock, Ne.symm h]

theorem row_ne {w : World} {base : Nat} {v : Value} {n : Nat} {xs : List Value} (h : w.ownsRow base 74 5 v n xs) (b : Nat) (hb : b < base ∨ w.heap.size ≤ b) : v.ownBlock ≠ some b := by
  intro e
  have := h.lt b e
  omega

theorem grown2 (w : World) (o o' : Obj) (row : Option Nat) : w.grownBy ((w.alloc o).alloc o').drew row := by
  have h := (World.grownBy_alloc w o row).trans (World.grownBy_alloc (w.alloc o) o' row)
  exact ⟨h.os, h.tape, h.output, h.size, h.block⟩

theorem groups_step {wr w1 : World} {mb base : Nat} {G : Int → List Lk} {es es' : Array MapEntry} {clock clock' : Nat} {x : Int} {l : Lk} {gg cap : Nat}
    (hb : wr.heap[mb]? = some (.map es clock)) (hrow : ∀ y, wr.ownsRow base 74 5 (lookL y es.toList) (G y).length (flat (G y)))
    (hdis : ∀ x y, x ≠ y → (lookL x es.toList).ownBlock = none ∨ (lookL x es.toList).ownBlock ≠ (lookL y es.toList).ownBlock) (hmb : mb < base)
    (hgrow : wr.grownBy w1 (lookL x es.toList).ownBlock)
    (hown1 : w1.ownsRow base 74 5 (.slice (some ⟨gg, 0, none⟩) ((G x).length + 1) cap) ((G x).length + 1) (flat (G x) ++ l.cells))
    (hat : (lookL x es.toList).ownBlock = some gg ∨ wr.heap.size ≤ gg)
    (hk' : KeysOk es'.toList) (hx' : lookL x es'.toList = .slice (some ⟨gg, 0, none⟩) ((G x).length + 1) cap) (hy' : ∀ y, y ≠ x → lookL y es'.toList = lookL y es.toList) :
    Groups (setBlock w1 mb (.map es' clock')) mb base (fun y => if y = x then G x ++ [l] else G y) ∧ w1.heap[mb]? = some (.map es clock) := by
  have hlt : mb < wr.heap.size := (Array.getElem?_eq_some_iff.1 hb).1
  have hb1 : w1.heap[mb]? = some (.map es clock) := by
    refine (hgrow.block mb hlt (fun e => ?_)).trans hb
    have := ((hrow x).lt mb e.symm).1
    omega
  obtain ⟨hg2, hnew⟩ := setBlock_grown (.map es' clock') hb1
  have far : ∀ {v : Value} {n : Nat} {xs : List Value}, w1.ownsRow base 74 5 v n xs → (setBlock w1 mb (.map es' clock')).ownsRow base 74 5 v n xs := by
    intro v n xs h
    refine h.kept hg2 ?_
    cases hv : v.ownBlock with
    | none => exact .inl rfl
    | some k =>
      refine .inr (fun e => ?_)
      have := (h.lt k hv).1
      cases e
      omega
  -- the new slice lies apart from every other key's
  have apart : ∀ y, y ≠ x → (lookL y es.toList).ownBlock ≠ some gg := by
    intro y hy e
    rcases hat with h | h
    · rcases hdis y x hy with h' | h'
      · rw [h'] at e; cases e
      · exact h' (by rw [e, h])
    · have := ((hrow y).lt gg e).2
      omega
  refine ⟨⟨es', clock', hnew, hk', fun y => ?_, fun y z hyz => ?_, hmb⟩, hb1⟩
  · by_cases hy : y = x
    · subst hy
      dsimp only
      rw [if_pos rfl, hx', flat_snoc]
      have := far hown1
      simpa using this
    · dsimp only
      rw [if_neg hy, hy' y hy]
      exact far ((hrow y).kept hgrow (hdis y x hy))
  · by_cases hy : y = x
    · subst hy
      rw [hx', hy' z (Ne.symm hyz)]
      exact .inr (fun e => apart z (Ne.symm hyz) (by rw [← e]; rfl))
    · by_cases hz : z = x
      · subst hz
        rw [hx', hy' y hy]
        exact .inr (fun e => apart y hy (by rw [e]; rfl))
      · rw [hy' y hy, hy' z hz]
        exact hdis y z hyz

theorem grp_hit (ls : List Lk) (k : Nat) (l : Lk) (hl : ls[k]? = some l) : grp (ls.take (k + 1)) l.to = fun y => if y = l.fr then grp (ls.take k) l.to l.fr ++ [l] else grp (ls.take k) l.to y := by
  obtain ⟨hk, rfl⟩ := List.getElem?_eq_some_iff.1 hl
  funext y
  unfold grp
  rw [List.take_succ_eq_append_getElem hk, List.filter_append]
  by_cases h : y = ls[k].fr
  · subst h; simp
  · have : (ls[k].fr == y) = false := by simp; exact fun e => h e.symm
    simp [h, this]

theorem grp_miss (ls : List Lk) (k : Nat) (l : Lk) (id : Int) (hl : ls[k]? = some l) (hid : ¬ l.to = id) : grp (ls.take (k + 1)) id = grp (ls.take k) id := by
  obtain ⟨hk, rfl⟩ := List.getElem?_eq_some_iff.1 hl
  funext y
  unfold grp
  rw [List.take_succ_eq_append_getElem hk, List.filter_append]
  have : (ls[k].to == id) = false := by simpa using hid
  simp [this]

theorem info74 : (Yba.prog.info? 74).map (fun i => (i.zero, i.size, i.bytes)) = some (some (.agg #[.int .u64 0, .int .u64 0, .int .i64 0, .int .i64 0, .float .f64 0]), 5, 40) := by kernel_rfl

theorem newPCG (a b : Int) (w : World) : Calls Yba.prog 26 #[.int .u64 a, .int .u64 b] w fun e w' => e = .returned (.pointer (some ⟨w.heap.size, 0, none⟩)) ∧ w' = w.alloc (.cells #[.int .u64 a, .int .u64 b] 105) := by
  go_enter Yba.func26, Yba.ntmps26
  go_wp2
  go_ret
  exact ⟨rfl, rfl⟩

theorem newRand (v : Value) (w : World) : Calls Yba.prog 25 #[.iface 95 v] w fun e w' => e = .returned (.pointer (some ⟨w.heap.size, 0, none⟩)) ∧ w' = w.alloc (.cells #[.iface 95 v] 103) := by
  go_enter Yba.func25, Yba.ntmps25
  go_wp2
  go_ret
  exact ⟨rfl, rfl⟩

set_option maxRecDepth 100000 in
set_option maxHeartbeats 2000000 in
theorem newHearing_any (ls : List Lk) (g0 cap b0 : Nat) (id seed : Int) (w : World) (hown : w.ownsRow b0 74 5 (.slice (some ⟨g0, 0, none⟩) ls.length cap) ls.length (flat ls)) (hn : ls.length ≤ 1024) :
    Calls Yba.prog 17 #[.slice (some ⟨g0, 0, none⟩) ls.length cap, .int .u64 id, .int .u64 seed] w fun e w' => e = .returned (.pointer (some ⟨w.heap.size + 3, 0, none⟩)) ∧
      Below w.heap.size w w' ∧ HearAt w' (w.heap.size + 3) w.heap.size (w.heap.size + 2) (w.heap.size + 1) ∧ Groups w' w.heap.size (w.heap.size + 4) (grp ls id) ∧ w.heap.size + 4 ≤ w'.heap.size := by
  have hmk : ∀ w : World, (Instr.makeMap 92 none).run Yba.prog w = .ok (.map (some w.heap.size)) (w.alloc (.map #[] 0)) := fun w => by kernel_rfl
  have hg0 : g0 < w.heap.size := (hown.lt g0 rfl).2
  go_enter Yba.func17, Yba.ntmps17
  go_wp2_with (first
    | (go_at_call 26; refine (newPCG _ _ _).mono ?_; rintro e w' ⟨rfl, rfl⟩)
    | (go_at_call 25; refine (newRand _ _).mono ?_; rintro e w' ⟨rfl, rfl⟩))
  go_loopw [20] (fun i wr => ∃ k : Nat, k ≤ ls.length ∧ i = .int .i64 k ∧ Below w.heap.size w wr ∧ HearAt wr (w.heap.size + 3) w.heap.size (w.heap.size + 2) (w.heap.size + 1) ∧ Groups wr w.heap.size (w.heap.size + 4) (grp (ls.take k) id) ∧ w.heap.size + 4 ≤ wr.heap.size) (fun i _ => ls.length - (intOf i).toNat)
  case atStart =>
    obtain ⟨e0, e1, e2, e3, e4⟩ := heap4 w (Obj.map #[] 0) (Obj.cells #[Value.int IntKind.u64 seed, Value.int IntKind.u64 id] 105) (Obj.cells #[Value.iface 95 (Value.pointer (some { block := w.heap.size + 1, off := 0 }))] 103) (Obj.cells #[Value.map (some w.heap.size), Value.pointer (some { block := w.heap.size + 1 + 1, off := 0 })] 98)
    refine ⟨0, Nat.zero_le _, rfl, ?_, ⟨e3, e2, ⟨_, _, e1⟩⟩, groups_new _ _ _ e0 (by omega), Nat.le_of_eq e4.symm⟩
    exact ((((Below.refl _ _).alloc (Nat.le_refl _) _).alloc (by simp) _).alloc (by simp; omega) _).alloc (by simp; omega) _
  case round =>
    obtain ⟨k, hk, rfl, hbel, hh, hgr, hsz⟩ := hrel
    by_cases hlt : k < ls.length
    · obtain ⟨l, hl⟩ : ∃ l, ls[k]? = some l := ⟨ls[k], List.getElem?_eq_getElem hlt⟩
      have c0 : wr.cell? ⟨g0, k * 5, none⟩ = some (.int .u64 l.fr) := (hbel.cell hg0).trans (row_cell hown k 0 (by omega) l hl)
      have c1 : wr.cell? ⟨g0, k * 5 + 1, none⟩ = some (.int .u64 l.to) := (hbel.cell hg0).trans (row_cell hown k 1 (by omega) l hl)
      have c2 : wr.cell? ⟨g0, k * 5 + 2, none⟩ = some (.int .i64 l.st) := (hbel.cell hg0).trans (row_cell hown k 2 (by omega) l hl)
      have c3 : wr.cell? ⟨g0, k * 5 + 3, none⟩ = some (.int .i64 l.en) := (hbel.cell hg0).trans (row_cell hown k 3 (by omega) l hl)
      have c4 : wr.cell? ⟨g0, k * 5 + 4, none⟩ = some (.float .f64 l.ls) := (hbel.cell hg0).trans (row_cell hown k 4 (by omega) l hl)
      have Hl : Hid (ls[k]? = some l) := hl
      clear hl
      by_cases hto : l.to = id
      · have hto' : (l.to == id) = true := by simpa using hto
        subst hto
        obtain ⟨es, clock, hb, hks, hrow, hdis, hmb⟩ := hgr
        have hlen : (grp (ls.take k) l.to l.fr).length ≤ 1024 := by
          have h1 := List.length_filter_le (fun m : Lk => m.to == l.to && m.fr == l.fr) (ls.take k)
          have h2 := List.length_take_le k ls
          unfold grp
          omega
        have hov := hrow l.fr
        have Hrow : Hid _ := hrow
        have Hdis : Hid _ := hdis
        have Hb : Hid _ := hb
        have Hh : Hid _ := hh
        have hcm : wr.cell? ⟨w.heap.size + 1 + 1 + 1, 0, none⟩ = some (.map (some w.heap.size)) := by have := hh.hg; simp [World.cell?, this]
        have hl1 : ∀ o, (Instr.lookup 92 (.map (some w.heap.size)) (.int .u64 l.fr) false).run Yba.prog (wr.alloc o).drew = .ok (lookL l.fr es.toList) (wr.alloc o).drew := fun o =>
          run_look l.fr _ _ es clock ((Below.heap_alloc wr o _ (by omega)).trans hb) hks
        have hl2 : ∀ o o', (Instr.lookup 92 (.map (some w.heap.size)) (.int .u64 l.fr) false).run Yba.prog ((wr.alloc o).alloc o').drew = .ok (lookL l.fr es.toList) ((wr.alloc o).alloc o').drew := fun o o' =>
          run_look l.fr _ _ es clock ((Below.heap_alloc (wr.alloc o) o' _ (by simp; omega)).trans ((Below.heap_alloc wr o _ (by omega)).trans hb)) hks
        clear hrow hdis hb hh
        generalize hovd : lookL l.fr es.toList = ov at hov hl1 hl2
        have Hovd : Hid _ := hovd
        clear hovd
        obtain ⟨i0, hi0, hz0, hz1, hz2⟩ := info_parts info74
        have hnew : ∀ X Y, ((wr.alloc X).alloc Y).drew.heap[wr.heap.size + 1]? = some Y := fun X Y => by
          have h1 := heap_alloc_new (wr.alloc X) Y
          have h2 : (wr.alloc X).heap.size = wr.heap.size + 1 := by simp
          rw [h2] at h1
          exact h1
        have ag := row_ne hov (w.heap.size + 1 + 1 + 1) (by omega)
        have ak := row_ne hov wr.heap.size (by omega)
        have am := row_ne hov w.heap.size (by omega)
        go_wp2
        go_region_held3 (fun w' => w'.cell? ⟨w.heap.size + 1 + 1 + 1, 0, none⟩ = some (.map (some w.heap.size)) ∧ w'.cell? ⟨wr.heap.size, 0, none⟩ = some (.int .u64 l.fr) ∧ w'.cell? ⟨wr.heap.size, 1, none⟩ = some (.int .u64 l.to) ∧
            w'.cell? ⟨wr.heap.size, 2, none⟩ = some (.int .i64 l.st) ∧ w'.cell? ⟨wr.heap.size, 3, none⟩ = some (.int .i64 l.en) ∧ w'.cell? ⟨wr.heap.size, 4, none⟩ = some (.float .f64 l.ls))
          (first
            | (go_split_ands
               refine ⟨by go_keep, by go_keep, by go_keep, by go_keep, by go_keep, by go_keep⟩)
            | (go_split_ands
               refine ⟨?_, ?_, ?_, ?_, ?_, ?_⟩ <;> (rw [hgrow.cell_far _ (by simp; omega) (by first | exact Ne.symm ag | exact Ne.symm ak)]; assumption))
            | (go_split_ands
               refine ⟨?_, ?_, ?_, ?_, ?_, ?_⟩ <;> (rw [cell_setBlock _ _ _ _ (by simp; omega)]; assumption)))
          ((refine step_append_lies _ (by rfl) _ _ _ (by rfl) (w.heap.size + 4) 74 i0 _ 5 40 Yba.underlying69 hi0 hz0 hz1 hz2 rfl (by omega) ov (grp (ls.take k) l.to l.fr).length (flat (grp (ls.take k) l.to l.fr)) (by rfl) (((hov.alloc _).alloc _).drew)
              ⟨wr.heap.size + 1, 0, none⟩ 1 1 l.cells (by rfl) (by rfl) (World.news_of_block (cs := #[.int .u64 l.fr, .int .u64 l.to, .int .i64 l.st, .int .i64 l.en, .float .f64 l.ls]) (t := 74) (fr := (0, 0)) (hnew _ _)) (by simp [Lk.cells, Value.oneCell'])
              (by omega) (by unfold maxLen; omega) (by omega) (by simp; omega) (wr.heap.size + 1 + 1) (by simp) ?_
            intro gg cap1 w1 hown1 hgrow hat hlt1
            have hgw := (grown2 wr _ _ _).trans hgrow
            obtain ⟨es', clock', hmu, hk', hx', hy'⟩ := run_upd l.fr (.slice (some ⟨gg, 0, none⟩) ((grp (ls.take k) l.to l.fr).length + 1) cap1) w1 w.heap.size es clock ((hgw.block _ (by omega) (Ne.symm am)).trans Hb.out) hks
            have HK : Hid _ := hy'
            have HX : Hid _ := hx'
            have HU : Hid _ := hmu
            clear hy' hx'))
        all_goals
          go_wp2
          go_roundw
          case rel =>
            have e1 := Hovd.out
            subst e1
            obtain ⟨hG, hb1⟩ := groups_step (clock' := clock') (l := l) Hb.out Hrow.out Hdis.out hmb hgw hown1 (hat.imp id (fun h => by omega)) hk' HX.out HK.out
            obtain ⟨hg2, _⟩ := setBlock_grown (.map es' clock') hb1
            have lo : ∀ j, (lookL l.fr es.toList).ownBlock = some j → w.heap.size + 4 ≤ j := fun j hj => (hov.lt j hj).1
            refine ⟨k + 1, by omega, by go_num, ?_, ?_, ?_, ?_⟩
            · exact (hbel.grown hgw hbel.size (fun j hj => by have := lo j hj; omega)).grown hg2 (by have := hgw.size; have := hbel.size; omega) (fun j hj => by cases hj; exact Nat.le_refl _)
            · exact (Hh.out.kept hgw (fun e => by have := lo _ e.symm; omega) (fun e => by have := lo _ e.symm; omega) (fun e => by have := lo _ e.symm; omega)).kept hg2 (by simp) (by simp) (by simp)
            · rw [grp_hit ls k l Hl.out]; exact hG
            · have := hgw.size; have := hg2.size; omega
          case measure => simp [intOf]; omega
      · have hto' : (l.to == id) = false := by simpa using hto
        have HT : Hid (¬ l.to = id) := hto
        clear hto
        go_wp2
        go_roundw
        case rel =>
          have hga := World.grownBy_alloc wr (Obj.cells #[Value.int IntKind.u64 l.fr, Value.int IntKind.u64 l.to, Value.int IntKind.i64 l.st, Value.int IntKind.i64 l.en, Value.float FloatKind.f64 l.ls] 74) none
          exact ⟨k + 1, by omega, by go_num, hbel.alloc hbel.size _, hh.kept hga (by simp) (by simp) (by simp), by rw [grp_miss ls k l id Hl.out HT.out]; exact hgr.kept hga (by simp), by simp; omega⟩
        case measure => simp [intOf]; omega
    · go_wp2
      go_ret
      have hk2 : k = ls.length := by omega
      subst hk2
      exact ⟨rfl, hbel, hh, by simpa using hgr, hsz⟩
end Go.Proofs.Ybulklvk
