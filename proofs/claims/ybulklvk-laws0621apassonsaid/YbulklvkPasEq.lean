/-
  'LawS0621APassOn': 'slices.Clone' at three types, and the three comparisons at equal lists.
-/
import Derived.Test.YbulklvkPasMake
namespace Go.Proofs.Ybulklvk.A
open Go.ChangeShapes Go.WideShapes Go.ChangeAt Go.RowKit Go.Instr
set_option linter.unusedVariables false
attribute [local go_sem] eqs27 eqs29 eqs31 eqn27 eqn29 eqn31

theorem one_flat {α : Type} {f : α → List Value} (h : ∀ a, ∀ u ∈ f a, u.oneCell' = true) (l : List α) : ∀ u ∈ flatG f l, u.oneCell' = true := by
  intro u hu
  obtain ⟨a, _, ha⟩ := List.mem_flatMap.1 hu
  exact h a u ha
theorem vd_one (a : Vd) : ∀ u ∈ a.cells, u.oneCell' = true := by simp [Vd.cells, Value.oneCell']
theorem an_one (a : An) : ∀ u ∈ a.cells, u.oneCell' = true := by simp [An.cells, Value.oneCell']
theorem fm_one (a : Fm) : ∀ u ∈ a.cells, u.oneCell' = true := by simp [Fm.cells, Value.oneCell']

/-- What 'slices.Clone' of a row that is not empty leaves: a row in new memory. -/
def Cloned {α : Type} (f : α → List Value) (s t : Nat) (l : List α) (w : World) (e : Ending) (w' : World) : Prop :=
  ∃ g c, e = .returned (.slice (some ⟨g, 0, none⟩) l.length c) ∧ w'.ownsRow w.heap.size t s (.slice (some ⟨g, 0, none⟩) l.length c) l.length (flatG f l) ∧ Below w.heap.size w w'

set_option maxRecDepth 100000 in
set_option maxHeartbeats 2000000 in
theorem clone_verdict (a : Option Addr) (cap : Nat) (l : List Vd) (w : World) (hr : RowAt Vd.cells 3 w.heap.size w a l) (hn : l.length ≤ 1024) (h0 : 0 < l.length) :
    Calls Yba.prog 22 #[.slice a l.length cap] w fun e w' => Cloned Vd.cells 3 53 l w e w' := by
  obtain ⟨b, off, rfl, hb, _⟩ := hr 0 l[0] (List.getElem?_eq_getElem h0)
  obtain ⟨i0, hi0, hz0, hz1, hz2⟩ := info_parts info53
  have hE := World.ownsRow_lit (base := w.heap.size) (e := 53) (size := 3) w #[] 0 (Nat.le_refl _) (by unfold maxLen; omega) (by simp)
  have hB : Below w.heap.size w (w.alloc (.cells #[] 53)) := (Below.refl _ _).alloc (Nat.le_refl _) _
  have hc := RowAt.cells vd_len (hr.below hB (Nat.le_refl _))
  have Hc : Hid _ := hc
  clear hr hc
  go_enter Yba.func22, Yba.ntmps22
  go_wp2_with
    (at_builtin
     refine wpList_append_lies _ rfl _ _ _ rfl w.heap.size 53 i0 _ 3 24 Yba.underlying27 hi0 hz0 hz1 hz2 rfl (by omega) _ 0 [] rfl hE
       ⟨b, off, none⟩ l.length cap (flatG Vd.cells l) rfl (flatG_len vd_len l) Hc.out (one_flat vd_one l)
       h0 (by unfold maxLen; omega) (by omega) (by simp) (w.heap.size + 1) (by simp) ?_
     intro gg cap1 w1 hown1 hgrow hat hlt1)
  go_ret
  rw [Nat.zero_add, List.nil_append] at hown1
  refine ⟨gg, cap1, by simp, hown1, hB.grown hgrow (by simp) (fun j hj => ?_)⟩
  cases hj
  exact Nat.le_refl _

set_option maxRecDepth 100000 in
set_option maxHeartbeats 2000000 in
theorem clone_answer (a : Option Addr) (cap : Nat) (l : List An) (w : World) (hr : RowAt An.cells 2 w.heap.size w a l) (hn : l.length ≤ 1024) (h0 : 0 < l.length) :
    Calls Yba.prog 23 #[.slice a l.length cap] w fun e w' => Cloned An.cells 2 57 l w e w' := by
  obtain ⟨b, off, rfl, hb, _⟩ := hr 0 l[0] (List.getElem?_eq_getElem h0)
  obtain ⟨i0, hi0, hz0, hz1, hz2⟩ := info_parts info57
  have hE := World.ownsRow_lit (base := w.heap.size) (e := 57) (size := 2) w #[] 0 (Nat.le_refl _) (by unfold maxLen; omega) (by simp)
  have hB : Below w.heap.size w (w.alloc (.cells #[] 57)) := (Below.refl _ _).alloc (Nat.le_refl _) _
  have hc := RowAt.cells an_len (hr.below hB (Nat.le_refl _))
  have Hc : Hid _ := hc
  clear hr hc
  go_enter Yba.func23, Yba.ntmps23
  go_wp2_with
    (at_builtin
     refine wpList_append_lies _ rfl _ _ _ rfl w.heap.size 57 i0 _ 2 16 Yba.underlying29 hi0 hz0 hz1 hz2 rfl (by omega) _ 0 [] rfl hE
       ⟨b, off, none⟩ l.length cap (flatG An.cells l) rfl (flatG_len an_len l) Hc.out (one_flat an_one l)
       h0 (by unfold maxLen; omega) (by omega) (by simp) (w.heap.size + 1) (by simp) ?_
     intro gg cap1 w1 hown1 hgrow hat hlt1)
  go_ret
  rw [Nat.zero_add, List.nil_append] at hown1
  refine ⟨gg, cap1, by simp, hown1, hB.grown hgrow (by simp) (fun j hj => ?_)⟩
  cases hj
  exact Nat.le_refl _

set_option maxRecDepth 100000 in
set_option maxHeartbeats 2000000 in
theorem clone_forward (a : Option Addr) (cap : Nat) (l : List Fm) (w : World) (hr : RowAt Fm.cells 3 w.heap.size w a l) (hn : l.length ≤ 1024) (h0 : 0 < l.length) :
    Calls Yba.prog 24 #[.slice a l.length cap] w fun e w' => Cloned Fm.cells 3 63 l w e w' := by
  obtain ⟨b, off, rfl, hb, _⟩ := hr 0 l[0] (List.getElem?_eq_getElem h0)
  obtain ⟨i0, hi0, hz0, hz1, hz2⟩ := info_parts info63
  have hE := World.ownsRow_lit (base := w.heap.size) (e := 63) (size := 3) w #[] 0 (Nat.le_refl _) (by unfold maxLen; omega) (by simp)
  have hB : Below w.heap.size w (w.alloc (.cells #[] 63)) := (Below.refl _ _).alloc (Nat.le_refl _) _
  have hc := RowAt.cells fm_len (hr.below hB (Nat.le_refl _))
  have Hc : Hid _ := hc
  clear hr hc
  go_enter Yba.func24, Yba.ntmps24
  go_wp2_with
    (at_builtin
     refine wpList_append_lies _ rfl _ _ _ rfl w.heap.size 63 i0 _ 3 40 Yba.underlying31 hi0 hz0 hz1 hz2 rfl (by omega) _ 0 [] rfl hE
       ⟨b, off, none⟩ l.length cap (flatG Fm.cells l) rfl (flatG_len fm_len l) Hc.out (one_flat fm_one l)
       h0 (by unfold maxLen; omega) (by omega) (by simp) (w.heap.size + 1) (by simp) ?_
     intro gg cap1 w1 hown1 hgrow hat hlt1)
  go_ret
  rw [Nat.zero_add, List.nil_append] at hown1
  refine ⟨gg, cap1, by simp, hown1, hB.grown hgrow (by simp) (fun j hj => ?_)⟩
  cases hj
  exact Nat.le_refl _

set_option maxRecDepth 100000 in
set_option maxHeartbeats 2000000 in
/-- 'aeqv' (function 14) at equal lists. -/
theorem eqv_true (a b : Option Addr) (ca cb : Nat) (l : List Vd) (w : World) (ha : RowAt Vd.cells 3 w.heap.size w a l) (hb : RowAt Vd.cells 3 w.heap.size w b l) (hn : l.length ≤ 1024) :
    Calls Yba.prog 14 #[.slice a l.length ca, .slice b l.length cb] w fun e w' => e = .returned (.bool true) ∧ ∃ n, w' = w.drewN n := by
  go_enter Yba.func14, Yba.ntmps14
  go_wp2
  go_loopw [5, 13] (fun _ i wr => ∃ k n : Nat, k ≤ l.length ∧ i = .int .i64 k ∧ wr = w.drewN n) (fun _ i _ => l.length - (intOf i).toNat)
  case atStart => exact ⟨0, 0, Nat.zero_le _, rfl, rfl⟩
  case round =>
    obtain ⟨k, n, hk, rfl, rfl⟩ := hrel
    by_cases hlt : k < l.length
    · obtain ⟨z, hzk⟩ : ∃ z, l[k]? = some z := ⟨l[k], List.getElem?_eq_getElem hlt⟩
      obtain ⟨b0, o0, hx, hb0, c0, c1, c2⟩ := vd_at ha hzk
      obtain ⟨b1, o1, hy, hb1, d0, d1, d2⟩ := vd_at hb hzk
      subst hx hy
      have hk0 : (0 : Int) ≤ (k : Int) := Int.natCast_nonneg _
      have hk1 : (k : Int) < (l.length : Int) := by omega
      clear ha hb hzk
      go_wp2
      go_quiet (fail)
      go_wp2
      go_roundw
      case rel => exact ⟨k + 1, n + nq, by omega, by go_num, rfl⟩
      case measure => simp [intOf]; omega
    · go_wp2
      go_ret
      exact ⟨rfl, n, rfl⟩

set_option maxRecDepth 100000 in
set_option maxHeartbeats 2000000 in
/-- 'aeqa' (function 15) at equal lists. -/
theorem eqa_true (a b : Option Addr) (ca cb : Nat) (l : List An) (w : World) (ha : RowAt An.cells 2 w.heap.size w a l) (hb : RowAt An.cells 2 w.heap.size w b l) (hn : l.length ≤ 1024) :
    Calls Yba.prog 15 #[.slice a l.length ca, .slice b l.length cb] w fun e w' => e = .returned (.bool true) ∧ ∃ n, w' = w.drewN n := by
  go_enter Yba.func15, Yba.ntmps15
  go_wp2
  go_loopw [5, 13] (fun _ i wr => ∃ k n : Nat, k ≤ l.length ∧ i = .int .i64 k ∧ wr = w.drewN n) (fun _ i _ => l.length - (intOf i).toNat)
  case atStart => exact ⟨0, 0, Nat.zero_le _, rfl, rfl⟩
  case round =>
    obtain ⟨k, n, hk, rfl, rfl⟩ := hrel
    by_cases hlt : k < l.length
    · obtain ⟨z, hzk⟩ : ∃ z, l[k]? = some z := ⟨l[k], List.getElem?_eq_getElem hlt⟩
      obtain ⟨b0, o0, hx, hb0, c0, c1⟩ := an_at ha hzk
      obtain ⟨b1, o1, hy, hb1, d0, d1⟩ := an_at hb hzk
      subst hx hy
      have hk0 : (0 : Int) ≤ (k : Int) := Int.natCast_nonneg _
      have hk1 : (k : Int) < (l.length : Int) := by omega
      clear ha hb hzk
      go_wp2
      go_quiet (fail)
      go_wp2
      go_roundw
      case rel => exact ⟨k + 1, n + nq, by omega, by go_num, rfl⟩
      case measure => simp [intOf]; omega
    · go_wp2
      go_ret
      exact ⟨rfl, n, rfl⟩

set_option maxRecDepth 100000 in
set_option maxHeartbeats 4000000 in
/-- 'aeqf' (function 16) at equal lists. -/
theorem eqf_true (a b : Option Addr) (ca cb : Nat) (ms mt : List Fm) (fs : List Fw) (w : World) (ha : RowAt Fm.cells 3 w.heap.size w a ms) (hda : DeepF w.heap.size w ms fs) (hb : RowAt Fm.cells 3 w.heap.size w b mt) (hdb : DeepF w.heap.size w mt fs) (hn : fs.length ≤ 1024) (hni : ∀ F ∈ fs, F.ids.length ≤ 1024) :
    Calls Yba.prog 16 #[.slice a fs.length ca, .slice b fs.length cb] w fun e w' => e = .returned (.bool true) ∧ ∃ n, w' = w.drewN n := by
  go_enter Yba.func16, Yba.ntmps16
  go_wp2
  go_loopw [5, 6, 14] (fun _ _ i wr => ∃ k n : Nat, k ≤ fs.length ∧ i = .int .i64 k ∧ wr = w.drewN n) (fun _ _ i _ => fs.length - (intOf i).toNat)
  case atStart => exact ⟨0, 0, Nat.zero_le _, rfl, rfl⟩
  case round =>
    obtain ⟨k, n, hk, rfl, rfl⟩ := hrel
    by_cases hlt : k < fs.length
    · obtain ⟨F, hF⟩ : ∃ F, fs[k]? = some F := ⟨fs[k], List.getElem?_eq_getElem hlt⟩
      obtain ⟨m, hmk⟩ : ∃ z, ms[k]? = some z := ⟨ms[k]'(by rw [hda.1]; exact hlt), List.getElem?_eq_getElem (by rw [hda.1]; exact hlt)⟩
      obtain ⟨t, htk⟩ : ∃ z, mt[k]? = some z := ⟨mt[k]'(by rw [hdb.1]; exact hlt), List.getElem?_eq_getElem (by rw [hdb.1]; exact hlt)⟩
      obtain ⟨b0, o0, hx, hb0, c0, c1, c2⟩ := fm_at ha hmk
      obtain ⟨b1, o1, hy, hb1, d0, d1, d2⟩ := fm_at hb htk
      obtain ⟨e1, e2, e3, ra⟩ := hda.2 k m F hmk hF
      obtain ⟨f1, f2, f3, rb⟩ := hdb.2 k t F htk hF
      have hFl : F.ids.length ≤ 1024 := hni F (List.mem_of_getElem? hF)
      subst hx hy
      rw [e1] at c0; rw [e2] at c1; rw [e3] at c2
      rw [f1] at d0; rw [f2] at d1; rw [f3] at d2
      have hk0 : (0 : Int) ≤ (k : Int) := Int.natCast_nonneg _
      have hk1 : (k : Int) < (fs.length : Int) := by omega
      clear ha hb hda hdb hmk htk hF e1 e2 e3 f1 f2 f3 hni
      go_wp2
      go_quiet (fail)
      go_wp2
      go_quiet (fail)
      go_wp2
      go_loopw [6, 61] (fun _ i wr => ∃ j n' : Nat, j ≤ F.ids.length ∧ i = .int .i64 j ∧ wr = w.drewN n') (fun _ i _ => F.ids.length - (intOf i).toNat)
      case atStart => exact ⟨0, _, Nat.zero_le _, rfl, rfl⟩
      case round =>
        obtain ⟨j, n', hj, rfl, rfl⟩ := hrel
        by_cases hjl : j < F.ids.length
        · obtain ⟨x, hxj⟩ : ∃ z, F.ids[j]? = some z := ⟨F.ids[j], List.getElem?_eq_getElem hjl⟩
          obtain ⟨b2, o2, hs, hb2, g0⟩ := id_at ra hxj
          obtain ⟨b3, o3, ht, hb3, g1⟩ := id_at rb hxj
          rw [hs] at c2
          rw [ht] at d2
          have hj0 : (0 : Int) ≤ (j : Int) := Int.natCast_nonneg _
          have hj1 : (j : Int) < (F.ids.length : Int) := by omega
          have Hra : Hid _ := ra
          have Hrb : Hid _ := rb
          clear ra rb hs ht hxj
          go_wp2
          go_quiet (fail)
          go_wp2
          go_roundw
          case rel => exact ⟨j + 1, n' + nq, by omega, by go_num, rfl⟩
          case measure => simp [intOf]; omega
        · go_wp2
          go_roundw
          case rel => exact ⟨k + 1, n', by omega, by go_num, rfl⟩
          case measure => simp [intOf]; omega
    · go_wp2
      go_ret
      exact ⟨rfl, n, rfl⟩
end Go.Proofs.Ybulklvk.A
