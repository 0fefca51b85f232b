/-
  'LawS0621APassOn': the four makers ('averdicts', 'aanswers', 'aids', 'aforwards') and 'abigf'.
-/
import Derived.Test.YbulklvkPasBase
namespace Go.Proofs.Ybulklvk.A
open Go.ChangeShapes Go.WideShapes Go.ChangeAt Go.RowKit Go.Instr
set_option linter.unusedVariables false
attribute [local go_sem] eqs22 eqs23 eqs24 eqs64 eqn22 eqn23 eqn24 eqn64

/-- What a maker leaves: a slice that reads as l, in blocks below the heap's new size; nil just where the argument was nil. -/
def Made {α : Type} (f : α → List Value) (s : Nat) (a : Option Addr) (l : List α) (w : World) (e : Ending) (w' : World) : Prop :=
  ∃ a' c', e = .returned (.slice a' l.length c') ∧ (a' = none ↔ a = none) ∧ RowAt f s w'.heap.size w' a' l ∧ (∀ ad, a' = some ad → w.heap.size ≤ ad.block ∧ ad.block < w'.heap.size) ∧ Below w.heap.size w w'

set_option maxRecDepth 100000 in
set_option maxHeartbeats 2000000 in
theorem averdicts_some (x : Addr) (cap : Nat) (l : List Vd) (w : World) (hr : RowAt Vd.cells 3 w.heap.size w (some x) l) (hn : l.length ≤ 1024) :
    Calls Yba.prog 10 #[.slice (some x) l.length cap] w fun e w' => Made Vd.cells 3 (some x) l w e w' := by
  obtain ⟨i0, hi0, hz0, hz1, hz2⟩ := info_parts info53
  obtain ⟨wm, hmk, hom, hgm⟩ := run_makeSlice_owned (P := Yba.prog) w w.heap.size 27 53 i0 _ 3 Yba.underlying27 hi0 hz0 hz1 .i64 .i64 l.length (by omega) (by rw [hz2]; omega) (by unfold maxLen; omega) (Nat.le_refl _)
  go_enter Yba.func10, Yba.ntmps10
  go_wp2
  go_loopw [3, 13] (fun o i wr => ∃ k g c : Nat, k ≤ l.length ∧ i = .int .i64 k ∧ o = .slice (some ⟨g, 0, none⟩) k c ∧ wr.ownsRow w.heap.size 53 3 (.slice (some ⟨g, 0, none⟩) k c) k (flatG Vd.cells (l.take k)) ∧ Below w.heap.size w wr) (fun _ i _ => l.length - (intOf i).toNat)
  case atStart => exact ⟨0, w.heap.size, l.length, Nat.zero_le _, rfl, rfl, by simpa [flatG] using hom, (Below.refl _ _).grown hgm (Nat.le_refl _) (by simp)⟩
  case round =>
    clear hmk hom hgm
    obtain ⟨k, g, c, hk, rfl, rfl, hown, hbel⟩ := hrel
    by_cases hlt : k < l.length
    · obtain ⟨z, hzk⟩ : ∃ z, l[k]? = some z := ⟨l[k], List.getElem?_eq_getElem hlt⟩
      obtain ⟨b, off, hx, hb, c0, c1, c2⟩ := vd_at (hr.below hbel (Nat.le_refl _)) hzk
      cases hx
      have Hzk : Hid _ := hzk
      have Hr : Hid _ := hr
      have hsz := hbel.size
      have hnew2 := heap2_new wr
      clear hzk hr
      go_wp2_with
        (at_builtin
         refine wpList_append_lies _ rfl _ _ _ rfl w.heap.size 53 i0 _ 3 24 Yba.underlying27 hi0 hz0 hz1 hz2 rfl (by omega) _ k (flatG Vd.cells (l.take k)) rfl ((hown.alloc _).alloc _)
           ⟨wr.heap.size + 1, 0, none⟩ 1 1 z.cells rfl rfl (World.news_of_block (cs := #[.int .u64 z.id, .int .u64 z.tag, .bool z.mis]) (t := 53) (fr := (0, 0)) (hnew2 _ _)) (by simp [Vd.cells, Value.oneCell'])
           (by omega) (by unfold maxLen; omega) (by omega) (by simp; omega) (wr.heap.size + 1 + 1) (by simp) ?_
         intro gg cap1 w1 hown1 hgrow hat hlt1)
      go_roundw
      case rel =>
        refine ⟨k + 1, gg, cap1, by omega, by go_num, rfl, ?_, (((hbel.alloc hbel.size _).alloc (by simp; omega) _).grown hgrow (by simp; omega) (fun j hj => (hown.lt j hj).1))⟩
        rw [take_snoc Hzk.out, flatG_snoc]; exact hown1
      case measure => simp [intOf]; omega
    · have hk2 : k = l.length := by omega
      subst hk2
      rw [List.take_of_length_le (Nat.le_refl _)] at hown
      go_wp2
      go_ret
      exact ⟨_, c, rfl, by simp, RowAt.of_owns vd_len rfl hown, (fun ad e => by cases e; exact hown.lt g rfl), hbel⟩
set_option maxRecDepth 100000 in
theorem averdicts_nil (w : World) : Calls Yba.prog 10 #[.slice none 0 0] w fun e w' => Made Vd.cells 3 none [] w e w' := by
  go_enter Yba.func10, Yba.ntmps10
  go_wp2
  go_ret
  exact ⟨none, 0, rfl, by simp, (fun k x hx => by simp at hx), (fun ad e => by cases e), Below.refl _ _⟩

theorem averdicts_any (a : Option Addr) (cap : Nat) (l : List Vd) (w : World) (hnil : a = none → l = [] ∧ cap = 0) (hr : RowAt Vd.cells 3 w.heap.size w a l) (hn : l.length ≤ 1024) :
    Calls Yba.prog 10 #[.slice a l.length cap] w fun e w' => Made Vd.cells 3 a l w e w' := by
  cases a with
  | none => obtain ⟨rfl, rfl⟩ := hnil rfl; exact averdicts_nil w
  | some x => exact averdicts_some x cap l w hr hn

set_option maxRecDepth 100000 in
set_option maxHeartbeats 2000000 in
theorem aanswers_some (x : Addr) (cap : Nat) (l : List An) (w : World) (hr : RowAt An.cells 2 w.heap.size w (some x) l) (hn : l.length ≤ 1024) :
    Calls Yba.prog 11 #[.slice (some x) l.length cap] w fun e w' => Made An.cells 2 (some x) l w e w' := by
  obtain ⟨i0, hi0, hz0, hz1, hz2⟩ := info_parts info57
  obtain ⟨wm, hmk, hom, hgm⟩ := run_makeSlice_owned (P := Yba.prog) w w.heap.size 29 57 i0 _ 2 Yba.underlying29 hi0 hz0 hz1 .i64 .i64 l.length (by omega) (by rw [hz2]; omega) (by unfold maxLen; omega) (Nat.le_refl _)
  go_enter Yba.func11, Yba.ntmps11
  go_wp2
  go_loopw [3, 13] (fun o i wr => ∃ k g c : Nat, k ≤ l.length ∧ i = .int .i64 k ∧ o = .slice (some ⟨g, 0, none⟩) k c ∧ wr.ownsRow w.heap.size 57 2 (.slice (some ⟨g, 0, none⟩) k c) k (flatG An.cells (l.take k)) ∧ Below w.heap.size w wr) (fun _ i _ => l.length - (intOf i).toNat)
  case atStart => exact ⟨0, w.heap.size, l.length, Nat.zero_le _, rfl, rfl, by simpa [flatG] using hom, (Below.refl _ _).grown hgm (Nat.le_refl _) (by simp)⟩
  case round =>
    clear hmk hom hgm
    obtain ⟨k, g, c, hk, rfl, rfl, hown, hbel⟩ := hrel
    by_cases hlt : k < l.length
    · obtain ⟨z, hzk⟩ : ∃ z, l[k]? = some z := ⟨l[k], List.getElem?_eq_getElem hlt⟩
      obtain ⟨b, off, hx, hb, c0, c1⟩ := an_at (hr.below hbel (Nat.le_refl _)) hzk
      cases hx
      have Hzk : Hid _ := hzk
      have Hr : Hid _ := hr
      have hsz := hbel.size
      have hnew2 := heap2_new wr
      clear hzk hr
      go_wp2_with
        (at_builtin
         refine wpList_append_lies _ rfl _ _ _ rfl w.heap.size 57 i0 _ 2 16 Yba.underlying29 hi0 hz0 hz1 hz2 rfl (by omega) _ k (flatG An.cells (l.take k)) rfl ((hown.alloc _).alloc _)
           ⟨wr.heap.size + 1, 0, none⟩ 1 1 z.cells rfl rfl (World.news_of_block (cs := #[.int .u64 z.to, .int .u64 z.round]) (t := 57) (fr := (0, 0)) (hnew2 _ _)) (by simp [An.cells, Value.oneCell'])
           (by omega) (by unfold maxLen; omega) (by omega) (by simp; omega) (wr.heap.size + 1 + 1) (by simp) ?_
         intro gg cap1 w1 hown1 hgrow hat hlt1)
      go_roundw
      case rel =>
        refine ⟨k + 1, gg, cap1, by omega, by go_num, rfl, ?_, (((hbel.alloc hbel.size _).alloc (by simp; omega) _).grown hgrow (by simp; omega) (fun j hj => (hown.lt j hj).1))⟩
        rw [take_snoc Hzk.out, flatG_snoc]; exact hown1
      case measure => simp [intOf]; omega
    · have hk2 : k = l.length := by omega
      subst hk2
      rw [List.take_of_length_le (Nat.le_refl _)] at hown
      go_wp2
      go_ret
      exact ⟨_, c, rfl, by simp, RowAt.of_owns an_len rfl hown, (fun ad e => by cases e; exact hown.lt g rfl), hbel⟩
set_option maxRecDepth 100000 in
theorem aanswers_nil (w : World) : Calls Yba.prog 11 #[.slice none 0 0] w fun e w' => Made An.cells 2 none [] w e w' := by
  go_enter Yba.func11, Yba.ntmps11
  go_wp2
  go_ret
  exact ⟨none, 0, rfl, by simp, (fun k x hx => by simp at hx), (fun ad e => by cases e), Below.refl _ _⟩

theorem aanswers_any (a : Option Addr) (cap : Nat) (l : List An) (w : World) (hnil : a = none → l = [] ∧ cap = 0) (hr : RowAt An.cells 2 w.heap.size w a l) (hn : l.length ≤ 1024) :
    Calls Yba.prog 11 #[.slice a l.length cap] w fun e w' => Made An.cells 2 a l w e w' := by
  cases a with
  | none => obtain ⟨rfl, rfl⟩ := hnil rfl; exact aanswers_nil w
  | some x => exact aanswers_some x cap l w hr hn

set_option maxRecDepth 100000 in
set_option maxHeartbeats 2000000 in
theorem aids_some (x : Addr) (cap : Nat) (l : List Int) (w : World) (hr : RowAt idCells 1 w.heap.size w (some x) l) (hn : l.length ≤ 1024) :
    Calls Yba.prog 21 #[.slice (some x) l.length cap] w fun e w' => Made idCells 1 (some x) l w e w' := by
  obtain ⟨i0, hi0, hz0, hz1, hz2⟩ := info_parts info42
  obtain ⟨wm, hmk, hom, hgm⟩ := run_makeSlice_owned (P := Yba.prog) w w.heap.size 37 42 i0 _ 1 Yba.underlying37 hi0 hz0 hz1 .i64 .i64 l.length (by omega) (by rw [hz2]; omega) (by unfold maxLen; omega) (Nat.le_refl _)
  go_enter Yba.func21, Yba.ntmps21
  go_wp2
  go_loopw [3, 13] (fun o i wr => ∃ k g c : Nat, k ≤ l.length ∧ i = .int .i64 k ∧ o = .slice (some ⟨g, 0, none⟩) k c ∧ wr.ownsRow w.heap.size 42 1 (.slice (some ⟨g, 0, none⟩) k c) k (flatG idCells (l.take k)) ∧ Below w.heap.size w wr) (fun _ i _ => l.length - (intOf i).toNat)
  case atStart => exact ⟨0, w.heap.size, l.length, Nat.zero_le _, rfl, rfl, by simpa [flatG] using hom, (Below.refl _ _).grown hgm (Nat.le_refl _) (by simp)⟩
  case round =>
    clear hmk hom hgm
    obtain ⟨k, g, c, hk, rfl, rfl, hown, hbel⟩ := hrel
    by_cases hlt : k < l.length
    · obtain ⟨z, hzk⟩ : ∃ z, l[k]? = some z := ⟨l[k], List.getElem?_eq_getElem hlt⟩
      obtain ⟨b, off, hx, hb, c0⟩ := id_at (hr.below hbel (Nat.le_refl _)) hzk
      cases hx
      have Hzk : Hid _ := hzk
      have Hr : Hid _ := hr
      have hsz := hbel.size
      have hnew2 := heap1_new wr
      clear hzk hr
      go_wp2_with
        (at_builtin
         refine wpList_append_lies _ rfl _ _ _ rfl w.heap.size 42 i0 _ 1 8 Yba.underlying37 hi0 hz0 hz1 hz2 rfl (by omega) _ k (flatG idCells (l.take k)) rfl (hown.alloc _)
           ⟨wr.heap.size, 0, none⟩ 1 1 (idCells z) rfl rfl (World.news_of_block (cs := #[.int .u64 z]) (t := 42) (fr := (0, 0)) (hnew2 _)) (by simp [idCells, Value.oneCell'])
           (by omega) (by unfold maxLen; omega) (by omega) (by simp; omega) (wr.heap.size + 1) (by simp) ?_
         intro gg cap1 w1 hown1 hgrow hat hlt1)
      go_roundw
      case rel =>
        refine ⟨k + 1, gg, cap1, by omega, by go_num, rfl, ?_, ((hbel.alloc hbel.size _).grown hgrow (by simp; omega) (fun j hj => (hown.lt j hj).1))⟩
        rw [take_snoc Hzk.out, flatG_snoc]; exact hown1
      case measure => simp [intOf]; omega
    · have hk2 : k = l.length := by omega
      subst hk2
      rw [List.take_of_length_le (Nat.le_refl _)] at hown
      go_wp2
      go_ret
      exact ⟨_, c, rfl, by simp, RowAt.of_owns id_len rfl hown, (fun ad e => by cases e; exact hown.lt g rfl), hbel⟩
set_option maxRecDepth 100000 in
theorem aids_nil (w : World) : Calls Yba.prog 21 #[.slice none 0 0] w fun e w' => Made idCells 1 none [] w e w' := by
  go_enter Yba.func21, Yba.ntmps21
  go_wp2
  go_ret
  exact ⟨none, 0, rfl, by simp, (fun k x hx => by simp at hx), (fun ad e => by cases e), Below.refl _ _⟩

theorem aids_any (a : Option Addr) (cap : Nat) (l : List Int) (w : World) (hnil : a = none → l = [] ∧ cap = 0) (hr : RowAt idCells 1 w.heap.size w a l) (hn : l.length ≤ 1024) :
    Calls Yba.prog 21 #[.slice a l.length cap] w fun e w' => Made idCells 1 a l w e w' := by
  cases a with
  | none => obtain ⟨rfl, rfl⟩ := hnil rfl; exact aids_nil w
  | some x => exact aids_some x cap l w hr hn

theorem owns_below {w w' : World} {base e s n : Nat} {v : Value} {xs : List Value} (h : w.ownsRow base e s v n xs) (hb : Below w.heap.size w w') : w'.ownsRow base e s v n xs := by
  refine ⟨h.1, ?_⟩
  rcases h.2 with h2 | ⟨g, cap, cur, hv, hg, hh, r⟩
  · exact .inl h2
  · exact .inr ⟨g, cap, cur, hv, hg, (hb.block g (Array.getElem?_eq_some_iff.1 hh).1).trans hh, r⟩

theorem below_alloc1 (w : World) (o : Obj) : Below w.heap.size w (w.alloc o).drew := ((Below.refl _ _).alloc (Nat.le_refl _) o).drew

theorem grown_of_below {w w' : World} (h : Below w.heap.size w w') (row : Option Nat) : w.grownBy w' row := ⟨h.os, h.tape, h.output, h.size, fun k hk _ => h.block k hk⟩

/-- No slice of these forwards leads into block g. -/
def Off (g N : Nat) (nm : List Fm) : Prop := ∀ m ∈ nm, ∀ ad, m.sl = some ad → ad.block ≠ g ∧ ad.block < N

theorem RowAt.grown {α : Type} {f : α → List Value} {s N : Nat} {w w' : World} {a : Option Addr} {l : List α} {row : Option Nat} (h : RowAt f s N w a l) (hg : w.grownBy w' row) (hN : N ≤ w.heap.size) (hne : ∀ ad, a = some ad → some ad.block ≠ row) : RowAt f s N w' a l := by
  intro k x hx
  obtain ⟨b, off, e, hlt, hc⟩ := h k x hx
  exact ⟨b, off, e, hlt, fun j v hv => (hg.cell_far ⟨b, off + k * s + j, none⟩ (show b < _ by omega) (show some b ≠ row from hne _ e)).trans (hc j v hv)⟩

theorem DeepF.grown {N M g : Nat} {w w' : World} {ms : List Fm} {fs : List Fw} (h : DeepF N w ms fs) (hg : w.grownBy w' (some g)) (hN : N ≤ w.heap.size) (hoff : Off g N ms) (hM : N ≤ M) : DeepF M w' ms fs :=
  ⟨h.1, fun k m F h1 h2 => by
    obtain ⟨a, b, c, d⟩ := h.2 k m F h1 h2
    exact ⟨a, b, c, (d.grown hg hN (fun ad e q => (hoff m (List.mem_of_getElem? h1) ad e).1 (by cases q; rfl))).mono hM⟩⟩

/-- What 'aforwards' leaves. -/
def MadeF (a : Option Addr) (fs : List Fw) (w : World) (e : Ending) (w' : World) : Prop :=
  ∃ a' c' ms, e = .returned (.slice a' fs.length c') ∧ (a' = none ↔ a = none) ∧ RowAt Fm.cells 3 w'.heap.size w' a' ms ∧ DeepF w'.heap.size w' ms fs ∧ Below w.heap.size w w'

theorem deep_snoc {N : Nat} {w : World} {ms : List Fm} {fs : List Fw} {k : Nat} {F : Fw} {m : Fm} (h : DeepF N w ms (fs.take k)) (hF : fs[k]? = some F) (hm : m.to = F.to ∧ m.round = F.round ∧ m.n = F.ids.length ∧ RowAt idCells 1 N w m.sl F.ids) :
    DeepF N w (ms ++ [m]) (fs.take (k + 1)) := by
  rw [take_snoc hF]
  refine ⟨by simp [h.1], fun j x G hx hG => ?_⟩
  have hl := h.1
  by_cases hj : j < ms.length
  · rw [List.getElem?_append_left hj] at hx
    rw [List.getElem?_append_left (by omega)] at hG
    exact h.2 j x G hx hG
  · have hj2 : j = ms.length := by
      have := (List.getElem?_eq_some_iff.1 hx).1
      simp at this
      omega
    rw [List.getElem?_append_right (by omega)] at hx hG
    simp [hj2] at hx
    rw [← hl, hj2] at hG
    simp at hG
    subst hx hG
    exact hm

set_option maxRecDepth 100000 in
set_option maxHeartbeats 2000000 in
theorem aforwards_some (x : Addr) (cap : Nat) (ms : List Fm) (fs : List Fw) (w : World) (hr : RowAt Fm.cells 3 w.heap.size w (some x) ms) (hd : DeepF w.heap.size w ms fs) (hn : fs.length ≤ 1024) (hni : ∀ F ∈ fs, F.ids.length ≤ 1024)
    (hnl : ∀ m ∈ ms, m.sl = none → m.n = 0 ∧ m.cap = 0) :
    Calls Yba.prog 12 #[.slice (some x) fs.length cap] w fun e w' => MadeF (some x) fs w e w' := by
  obtain ⟨i0, hi0, hz0, hz1, hz2⟩ := info_parts info63
  obtain ⟨wm, hmk, hom, hgm⟩ := run_makeSlice_owned (P := Yba.prog) w w.heap.size 31 63 i0 _ 3 Yba.underlying31 hi0 hz0 hz1 .i64 .i64 fs.length (by omega) (by rw [hz2]; omega) (by unfold maxLen; omega) (Nat.le_refl _)
  go_enter Yba.func12, Yba.ntmps12
  go_wp2
  go_loopw [3, 13] (fun o i wr => ∃ k g c : Nat, ∃ nm : List Fm, k ≤ fs.length ∧ i = .int .i64 k ∧ o = .slice (some ⟨g, 0, none⟩) k c ∧ wr.ownsRow w.heap.size 63 3 (.slice (some ⟨g, 0, none⟩) k c) k (flatG Fm.cells nm) ∧ DeepF wr.heap.size wr nm (fs.take k) ∧ Off g wr.heap.size nm ∧ Below w.heap.size w wr) (fun _ i _ => fs.length - (intOf i).toNat)
  case atStart => exact ⟨0, w.heap.size, fs.length, [], Nat.zero_le _, rfl, rfl, by simpa [flatG] using hom, ⟨rfl, fun k m F hm => by simp at hm⟩, (fun m hm => by simp at hm), (Below.refl _ _).grown hgm (Nat.le_refl _) (by simp)⟩
  case round =>
    clear hmk hom hgm
    obtain ⟨k, g, c, nm, hk, rfl, rfl, hown, hnd, hoff, hbel⟩ := hrel
    have hnml : nm.length = k := by rw [hnd.1, List.length_take]; omega
    by_cases hlt : k < fs.length
    · obtain ⟨F, hF⟩ : ∃ F, fs[k]? = some F := ⟨fs[k], List.getElem?_eq_getElem hlt⟩
      obtain ⟨z, hzk⟩ : ∃ z, ms[k]? = some z := ⟨ms[k]'(by rw [hd.1]; exact hlt), List.getElem?_eq_getElem (by rw [hd.1]; exact hlt)⟩
      obtain ⟨b, off, hx, hb, c0, c1, c2⟩ := fm_at (hr.below hbel (Nat.le_refl _)) hzk
      obtain ⟨e1, e2, e3, hids⟩ := hd.2 k z F hzk hF
      have hni1 : F.ids.length ≤ 1024 := hni F (List.mem_of_getElem? hF)
      have hnl1 := hnl z (List.mem_of_getElem? hzk)
      cases hx
      have hsz := hbel.size
      have hcall : ∀ o, Calls Yba.prog 21 #[.slice z.sl F.ids.length z.cap] (wr.alloc o).drew fun e w' => Made idCells 1 z.sl F.ids (wr.alloc o).drew e w' := fun o =>
        aids_any z.sl z.cap F.ids _ (fun h => by obtain ⟨h1, h2⟩ := hnl1 h; exact ⟨List.length_eq_zero_iff.1 (by omega), h2⟩)
          (((hids.below hbel (Nat.le_refl _)).below ((below_alloc1 wr o).mono hsz) (Nat.le_refl _)).mono (by simp; omega)) hni1
      have HC : Hid _ := hcall
      have Hzk : Hid _ := hzk
      have HF : Hid _ := hF
      have Hr : Hid _ := hr
      have Hd : Hid _ := hd
      have Hids : Hid _ := hids
      have HE : Hid _ := And.intro e1 e2
      rw [e3] at c2
      clear hzk hr hd hF hids hni hnl hnl1 hcall e1 e2 e3
      go_wp2
      go_region_held3 (fun w' => w'.cell? ⟨wr.heap.size, 0, none⟩ = some (.int .u64 z.to) ∧ w'.cell? ⟨wr.heap.size, 1, none⟩ = some (.int .u64 z.round) ∧ w'.cell? ⟨wr.heap.size, 2, none⟩ = some (.slice z.sl F.ids.length z.cap))
        (first
          | (go_split_ands
             refine ⟨by go_keep, by go_keep, by go_keep⟩)
          | (go_split_ands
             refine ⟨?_, ?_, ?_⟩ <;> (rw [hbel2.cell (by simp)]; assumption))
          | (go_split_ands
             refine ⟨?_, ?_, ?_⟩ <;> (rw [hgrow.cell_far _ (by simp; omega) (by simp only [Value.ownBlock]; exact fun e => hfar (Option.some.inj e))]; assumption)))
        (first
          | (go_at_call 21
             refine (HC.out _).mono ?_
             rintro e w1 ⟨a', c', rfl, hnn, hrow', hfr', hbel2⟩
             have hs2 : wr.heap.size + 1 ≤ w1.heap.size := by have := hbel2.size; simpa using this)
          | (refine step_append_lies _ (by rfl) _ _ _ (by rfl) w.heap.size 63 i0 _ 3 40 Yba.underlying31 hi0 hz0 hz1 hz2 rfl (by omega) _ k (flatG Fm.cells nm) (by rfl) ((owns_below (hown.alloc _).drew hbel2).alloc _)
               ⟨w1.heap.size, 0, none⟩ 1 1 (Fm.cells ⟨z.to, z.round, a', F.ids.length, c'⟩) (by rfl) (by rfl) (World.news_of_block (cs := #[.int .u64 z.to, .int .u64 z.round, .slice a' F.ids.length c']) (t := 63) (fr := (0, 0)) (heap1_new w1 _)) (by simp [Fm.cells, Value.oneCell'])
               (by omega) (by unfold maxLen; omega) (by omega) (by simp; omega) (w1.heap.size + 1) (by simp) ?_
             intro gg cap1 w2 hown1 hgrow hat hlt1
             have hfar : ¬ wr.heap.size = g := by have := (hown.lt g rfl).2; omega))
      go_wp2
      go_roundw
      case rel =>
        have hg1 := (grown_of_below hbel2 (some g)).trans (World.grownBy_alloc w1 (Obj.cells #[.int .u64 z.to, .int .u64 z.round, .slice a' F.ids.length c'] 63) (some g))
        have hs3 := hgrow.size
        simp at hs3
        have hg2 : wr.grownBy w2 (some g) := ((grown_of_below (below_alloc1 wr _) _).trans hg1).trans hgrow
        have hgl := (hown.lt g rfl).2
        refine ⟨k + 1, gg, cap1, nm ++ [⟨z.to, z.round, a', F.ids.length, c'⟩], by omega, by go_num, rfl, by rw [flatG_snoc]; exact hown1, ?_, ?_, ?_⟩
        · refine deep_snoc (hnd.grown hg2 (Nat.le_refl _) hoff hg2.size) HF.out ⟨HE.out.1, HE.out.2, rfl, ?_⟩
          refine (hrow'.grown ((World.grownBy_alloc w1 _ _).trans hgrow) (Nat.le_refl _) (fun ad e q => ?_)).mono (by omega)
          have h1 := (hfr' ad e).1
          simp [Value.ownBlock] at h1 q
          omega
        · intro m hm ad hs
          rcases List.mem_append.1 hm with hm | hm
          · rcases hat with h | h
            · simp [Value.ownBlock] at h
              subst h
              exact ⟨(hoff m hm ad hs).1, by have := (hoff m hm ad hs).2; omega⟩
            · have := (hoff m hm ad hs).2
              exact ⟨by omega, by omega⟩
          · simp at hm
            subst hm
            obtain ⟨h1, h2⟩ := hfr' ad hs
            simp at h1
            rcases hat with h | h
            · simp [Value.ownBlock] at h
              exact ⟨by omega, by omega⟩
            · exact ⟨by omega, by omega⟩
        · exact ((hbel.trans ((below_alloc1 wr _).mono hsz)).trans (hbel2.mono (by simp; omega))).trans (((Below.refl _ _).alloc (by omega) _).grown hgrow (by simp; omega) (fun j hj => (hown.lt j hj).1))
      case measure => simp [intOf]; omega
    · have hk2 : k = fs.length := by omega
      subst hk2
      rw [List.take_of_length_le (Nat.le_refl _)] at hnd
      go_wp2
      go_ret
      exact ⟨_, c, nm, rfl, by simp, RowAt.of_owns fm_len hnml hown, hnd, hbel⟩

set_option maxRecDepth 100000 in
theorem aforwards_nil (w : World) : Calls Yba.prog 12 #[.slice none 0 0] w fun e w' => MadeF none [] w e w' := by
  go_enter Yba.func12, Yba.ntmps12
  go_wp2
  go_ret
  exact ⟨none, 0, [], rfl, by simp, (fun k x hx => by simp at hx), ⟨rfl, fun k m F hm => by simp at hm⟩, Below.refl _ _⟩

theorem aforwards_any (a : Option Addr) (cap : Nat) (ms : List Fm) (fs : List Fw) (w : World) (hnil : a = none → fs = [] ∧ cap = 0) (hr : RowAt Fm.cells 3 w.heap.size w a ms) (hd : DeepF w.heap.size w ms fs) (hn : fs.length ≤ 1024) (hni : ∀ F ∈ fs, F.ids.length ≤ 1024)
    (hnl : ∀ m ∈ ms, m.sl = none → m.n = 0 ∧ m.cap = 0) : Calls Yba.prog 12 #[.slice a fs.length cap] w fun e w' => MadeF a fs w e w' := by
  cases a with
  | none => obtain ⟨rfl, rfl⟩ := hnil rfl; exact aforwards_nil w
  | some x => exact aforwards_some x cap ms fs w hr hd hn hni hnl

def bigB (fs : List Fw) : Bool := decide (1024 < fs.length) || fs.any fun F => decide (1024 < F.ids.length)
theorem big_no {fs : List Fw} (h : bigB fs = false) : fs.length ≤ 1024 ∧ ∀ F ∈ fs, F.ids.length ≤ 1024 := by
  simp [bigB] at h
  exact h

set_option maxRecDepth 100000 in
set_option maxHeartbeats 2000000 in
/-- 'abigf' (function 9). -/
theorem bigf_any (a : Option Addr) (cap : Nat) (ms : List Fm) (fs : List Fw) (w : World) (hr : RowAt Fm.cells 3 w.heap.size w a ms) (hd : DeepF w.heap.size w ms fs) (hn : fs.length ≤ maxLen) (hni : ∀ F ∈ fs, F.ids.length ≤ maxLen) :
    Calls Yba.prog 9 #[.slice a fs.length cap] w fun e w' => e = .returned (.bool (bigB fs)) ∧ Below w.heap.size w w' := by
  unfold maxLen at hn hni
  by_cases hbig : 1024 < fs.length
  · have hB : bigB fs = true := by simp [bigB, hbig]
    rw [hB]
    go_enter Yba.func9, Yba.ntmps9
    go_wp2
    go_ret
    exact ⟨rfl, Below.refl _ _⟩
  · go_enter Yba.func9, Yba.ntmps9
    go_wp2
    go_loopw [10] (fun i wr => ∃ k : Nat, k ≤ fs.length ∧ i = .int .i64 k ∧ (∀ F ∈ fs.take k, F.ids.length ≤ 1024) ∧ Below w.heap.size w wr) (fun i _ => fs.length - (intOf i).toNat)
    case atStart => exact ⟨0, Nat.zero_le _, rfl, by simp, Below.refl _ _⟩
    case round =>
      obtain ⟨k, hk, rfl, hall, hbel⟩ := hrel
      by_cases hlt : k < fs.length
      · obtain ⟨F, hF⟩ : ∃ F, fs[k]? = some F := ⟨fs[k], List.getElem?_eq_getElem hlt⟩
        obtain ⟨z, hzk⟩ : ∃ z, ms[k]? = some z := ⟨ms[k]'(by rw [hd.1]; exact hlt), List.getElem?_eq_getElem (by rw [hd.1]; exact hlt)⟩
        obtain ⟨b, off, hx, hb, c0, c1, c2⟩ := fm_at (hr.below hbel (Nat.le_refl _)) hzk
        obtain ⟨e1, e2, e3, hids⟩ := hd.2 k z F hzk hF
        have hF2 : F.ids.length ≤ 9223372036854775807 := by have := hni F (List.mem_of_getElem? hF); omega
        rw [e3] at c2
        subst hx
        have HF : Hid _ := hF
        have Hall : Hid _ := hall
        have Hr : Hid _ := hr
        clear hF hzk hr hd e1 e2 e3 hids hall hni
        by_cases hi : 1024 < F.ids.length
        · go_wp2
          go_ret
          have hB : bigB fs = true := by
            simp only [bigB, Bool.or_eq_true, List.any_eq_true, decide_eq_true_eq]
            exact .inr ⟨F, List.mem_of_getElem? HF.out, hi⟩
          exact ⟨by rw [hB]; rfl, hbel.alloc hbel.size _⟩
        · go_wp2
          go_roundw
          case rel =>
            refine ⟨k + 1, by omega, by go_num, ?_, hbel.alloc hbel.size _⟩
            rw [take_snoc HF.out]
            intro G hG
            rcases List.mem_append.1 hG with hG | hG
            · exact Hall.out G hG
            · simp at hG; subst hG; omega
          case measure => simp [intOf]; omega
      · have hk2 : k = fs.length := by omega
        subst hk2
        rw [List.take_of_length_le (Nat.le_refl _)] at hall
        go_wp2
        go_ret
        have hB : bigB fs = false := by
          simp [bigB]
          exact ⟨by omega, hall⟩
        exact ⟨by rw [hB]; rfl, hbel⟩
end Go.Proofs.Ybulklvk.A
