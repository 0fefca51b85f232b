/-
  'LawS0621APassOn': '(*detector).passOn' (function 13).
-/
import Derived.Test.YbulklvkPasEq
import Derived.Deep.DeepCutAuto
namespace Go.Proofs.Ybulklvk.A
open Go.ChangeShapes Go.WideShapes Go.ChangeAt Go.RowKit Go.Instr
set_option linter.unusedVariables false

/-- What stands in a field of the frame: the old value where the detector's list is empty; else a clone in new memory, between blocks lo and hi. -/
def Cl {α : Type} (f : α → List Value) (s e : Nat) (l : List α) (lo hi : Nat) (w : World) (v old : Value) : Prop :=
  (l = [] ∧ v = old) ∨ (0 < l.length ∧ ∃ g c, v = .slice (some ⟨g, 0, none⟩) l.length c ∧ g < hi ∧ w.ownsRow lo e s v l.length (flatG f l))

theorem Cl.below {α : Type} {f : α → List Value} {s e : Nat} {l : List α} {lo hi : Nat} {w w' : World} {v old : Value} (h : Cl f s e l lo hi w v old) (hb : Below w.heap.size w w') : Cl f s e l lo hi w' v old := by
  rcases h with h | ⟨h0, g, c, hv, hg, ho⟩
  · exact .inl h
  · exact .inr ⟨h0, g, c, hv, hg, owns_below ho hb⟩

theorem Cl.set {α : Type} {f : α → List Value} {s e : Nat} {l : List α} {lo hi : Nat} {w : World} {v old : Value} (h : Cl f s e l lo hi w v old) {a : Addr} (ha : a.block < lo) (u : Value) : Cl f s e l lo hi (w.setCell a u) v old := by
  rcases h with h | ⟨h0, g, c, hv, hg, ho⟩
  · exact .inl h
  · exact .inr ⟨h0, g, c, hv, hg, ownsRow_setCell_below ho ha u⟩

/-- The frame's seven cells. -/
def FrameAt (w : World) (F : Nat) (x0 x1 x2 x3 x4 x5 x6 : Value) : Prop := w.heap[F]? = some (.cells #[x0, x1, x2, x3, x4, x5, x6] 47 (0, 0))

theorem FrameAt.below {w w' : World} {F : Nat} {x0 x1 x2 x3 x4 x5 x6 : Value} (h : FrameAt w F x0 x1 x2 x3 x4 x5 x6) (hb : Below w.heap.size w w') : FrameAt w' F x0 x1 x2 x3 x4 x5 x6 :=
  (hb.block F (Array.getElem?_eq_some_iff.1 h).1).trans h

theorem FrameAt.set3 {w : World} {F : Nat} {x0 x1 x2 x3 x4 x5 x6 : Value} (h : FrameAt w F x0 x1 x2 x3 x4 x5 x6) (v : Value) : FrameAt (w.setCell ⟨F, 3, none⟩ v) F x0 x1 x2 v x4 x5 x6 := by
  unfold FrameAt at h ⊢
  simp [World.setCell, Array.getElem?_modify, h]
theorem FrameAt.set5 {w : World} {F : Nat} {x0 x1 x2 x3 x4 x5 x6 : Value} (h : FrameAt w F x0 x1 x2 x3 x4 x5 x6) (v : Value) : FrameAt (w.setCell ⟨F, 5, none⟩ v) F x0 x1 x2 x3 x4 v x6 := by
  unfold FrameAt at h ⊢
  simp [World.setCell, Array.getElem?_modify, h]
theorem FrameAt.set6 {w : World} {F : Nat} {x0 x1 x2 x3 x4 x5 x6 : Value} (h : FrameAt w F x0 x1 x2 x3 x4 x5 x6) (v : Value) : FrameAt (w.setCell ⟨F, 6, none⟩ v) F x0 x1 x2 x3 x4 x5 v := by
  unfold FrameAt at h ⊢
  simp [World.setCell, Array.getElem?_modify, h]
theorem FrameAt.cell {w : World} {F : Nat} {x0 x1 x2 x3 x4 x5 x6 : Value} (h : FrameAt w F x0 x1 x2 x3 x4 x5 x6) (j : Nat) : w.cell? ⟨F, j, none⟩ = #[x0, x1, x2, x3, x4, x5, x6][j]? := by
  unfold FrameAt at h
  simp [World.cell?, h]
theorem FrameAt.frozen {w : World} {F : Nat} {x0 x1 x2 x3 x4 x5 x6 : Value} (h : FrameAt w F x0 x1 x2 x3 x4 x5 x6) (j : Nat) : w.frozen? ⟨F, j, none⟩ = false := by
  unfold FrameAt at h
  simp [World.frozen?, h]
theorem FrameAt.lt {w : World} {F : Nat} {x0 x1 x2 x3 x4 x5 x6 : Value} (h : FrameAt w F x0 x1 x2 x3 x4 x5 x6) : F < w.heap.size := (Array.getElem?_eq_some_iff.1 h).1

/-- What 'passOn' leaves. -/
def Passed (N F : Nat) (news : List Vd) (ans : List An) (ms : List Fm) (x0 x1 x2 x3 x4 x5 x6 : Value) (w w' : World) : Prop :=
  ∃ H1 H2 vv va vf, w.heap.size ≤ H1 ∧ H1 ≤ H2 ∧ H2 ≤ w'.heap.size ∧ Below N w w' ∧ FrameAt w' F x0 x1 x2 va x4 vv vf ∧
    Cl Vd.cells 3 53 news w.heap.size H1 w' vv x5 ∧ Cl An.cells 2 57 ans H1 H2 w' va x3 ∧ Cl Fm.cells 3 63 ms H2 w'.heap.size w' vf x6

def Step1 (N F : Nat) (news : List Vd) (x0 x1 x2 x3 x4 x5 x6 : Value) (w w' : World) : Prop :=
  ∃ vv, w.heap.size ≤ w'.heap.size ∧ Below N w w' ∧ FrameAt w' F x0 x1 x2 x3 x4 vv x6 ∧ Cl Vd.cells 3 53 news w.heap.size w'.heap.size w' vv x5

def Step2 (N F : Nat) (news : List Vd) (ans : List An) (x0 x1 x2 x3 x4 x5 x6 : Value) (w w' : World) : Prop :=
  ∃ H1 vv va, w.heap.size ≤ H1 ∧ H1 ≤ w'.heap.size ∧ Below N w w' ∧ FrameAt w' F x0 x1 x2 va x4 vv x6 ∧ Cl Vd.cells 3 53 news w.heap.size H1 w' vv x5 ∧ Cl An.cells 2 57 ans H1 w'.heap.size w' va x3

set_option maxRecDepth 100000 in
set_option maxHeartbeats 4000000 in
theorem passOn_any (N D F : Nat) (news : List Vd) (ans : List An) (ms : List Fm) (an aa af : Option Addr) (cn ca cf : Nat) (x0 x1 x2 x3 x4 x5 x6 : Value) (w : World)
    (hdn : w.cell? ⟨D, 13, none⟩ = some (.slice an news.length cn)) (hda : w.cell? ⟨D, 16, none⟩ = some (.slice aa ans.length ca)) (hdf : w.cell? ⟨D, 14, none⟩ = some (.slice af ms.length cf))
    (hF : FrameAt w F x0 x1 x2 x3 x4 x5 x6) (hDN : D < N) (hNF : N ≤ F)
    (rn : RowAt Vd.cells 3 N w an news) (ra : RowAt An.cells 2 N w aa ans) (rf : RowAt Fm.cells 3 N w af ms) (ln : news.length ≤ 1024) (la : ans.length ≤ 1024) (lf : ms.length ≤ 1024) :
    Calls Yba.prog 13 #[.pointer (some ⟨D, 0, none⟩), .pointer (some ⟨F, 0, none⟩)] w fun e w' => e = .returned (.tuple #[]) ∧ Passed N F news ans ms x0 x1 x2 x3 x4 x5 x6 w w' := by
  have hFl := hF.lt
  go_enter Yba.func13, Yba.ntmps13
  go_upto_if 9 with fail
  go_cut [] (fun wx => Step1 N F news x0 x1 x2 x3 x4 x5 x6 w wx)
  case first =>
    by_cases h0 : 0 < news.length
    · go_wp2_with
        (go_at_call 22
         refine (clone_verdict an cn news _ (rn.mono (by omega)) ln h0).mono ?_
         rintro e w1 ⟨g, c, rfl, ho, hb⟩
         have k5 := (hF.below hb).cell 5
         have z5 := (hF.below hb).frozen 5
         simp only [List.getElem?_toArray, List.getElem?_cons_zero, List.getElem?_cons_succ] at k5)
      go_meet
      case rel =>
        have hs := hb.size
        exact ⟨_, by simp; omega, (hb.mono (by omega)).setCell hNF _, (hF.below hb).set5 _, .inr ⟨h0, g, c, rfl, by have := (ho.lt g rfl).2; simpa using this, ownsRow_setCell_below ho (by omega) _⟩⟩
    · go_wp2
      go_meet
      case rel => exact ⟨_, Nat.le_refl _, Below.refl _ _, hF, .inl ⟨List.length_eq_zero_iff.1 (by omega), rfl⟩⟩
  case rest =>
    obtain ⟨vv, hs1, hb1, hF1, hc1⟩ := hcut
    rw [← hb1.cell (p := ⟨D, 16, none⟩) hDN] at hda
    rw [← hb1.cell (p := ⟨D, 14, none⟩) hDN] at hdf
    have hF1l := hF1.lt
    clear hdn
    go_upto_if 23 with fail
    go_cut [] (fun wx => Step2 N F news ans x0 x1 x2 x3 x4 x5 x6 w wx)
    case first =>
      by_cases h0 : 0 < ans.length
      · go_wp2_with
          (go_at_call 23
           refine (clone_answer aa ca ans _ ((ra.below hb1 (Nat.le_refl _)).mono (by omega)) la h0).mono ?_
           rintro e w1 ⟨g, c, rfl, ho, hb⟩
           have k5 := (hF1.below hb).cell 3
           have z5 := (hF1.below hb).frozen 3
           simp only [List.getElem?_toArray, List.getElem?_cons_zero, List.getElem?_cons_succ] at k5)
        go_meet
        case rel =>
          have hs := hb.size
          exact ⟨wc.heap.size, vv, _, hs1, by simp; omega, (hb1.trans (hb.mono (by omega))).setCell hNF _, (hF1.below hb).set3 _, (hc1.below hb).set (by simp; omega) _,
            .inr ⟨h0, g, c, rfl, by have := (ho.lt g rfl).2; simpa using this, ownsRow_setCell_below ho (by simp; omega) _⟩⟩
      · go_wp2
        go_meet
        case rel => exact ⟨wc.heap.size, vv, _, hs1, Nat.le_refl _, hb1, hF1, hc1, .inl ⟨List.length_eq_zero_iff.1 (by omega), rfl⟩⟩
    case rest =>
      rw [hb1.cell (p := ⟨D, 14, none⟩) hDN] at hdf
      clear hs1 hb1 hF1 hc1 hF1l hda
      obtain ⟨H1, vv, va, hH1, hs1, hb1, hF1, hc1, hc2⟩ := hcut
      rw [← hb1.cell (p := ⟨D, 14, none⟩) hDN] at hdf
      have hF1l := hF1.lt
      by_cases h0 : 0 < ms.length
      · go_wp2_with
          (go_at_call 24
           refine (clone_forward af cf ms _ ((rf.below hb1 (Nat.le_refl _)).mono (by omega)) lf h0).mono ?_
           rintro e w1 ⟨g, c, rfl, ho, hb⟩
           have k5 := (hF1.below hb).cell 6
           have z5 := (hF1.below hb).frozen 6
           simp only [List.getElem?_toArray, List.getElem?_cons_zero, List.getElem?_cons_succ] at k5)
        go_end0
        refine ⟨rfl, ?_⟩
        have hs := hb.size
        exact ⟨H1, _, vv, va, _, hH1, hs1, by simp; omega, (hb1.trans (hb.mono (by omega))).setCell hNF _, (hF1.below hb).set6 _, (hc1.below hb).set (by simp; omega) _, (hc2.below hb).set (by simp; omega) _,
            .inr ⟨h0, g, c, rfl, by have := (ho.lt g rfl).2; simpa using this, ownsRow_setCell_below ho (by simp; omega) _⟩⟩
      · go_wp2
        go_end0
        exact ⟨rfl, H1, _, vv, va, _, hH1, hs1, Nat.le_refl _, hb1, hF1, hc1, hc2, .inl ⟨List.length_eq_zero_iff.1 (by omega), rfl⟩⟩
end Go.Proofs.Ybulklvk.A
