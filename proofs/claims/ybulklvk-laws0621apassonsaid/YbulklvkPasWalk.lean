/-
  'LawS0621APassOn' (function 3): the walk.
-/
import Derived.Test.YbulklvkPasOn
namespace Go.Proofs.Ybulklvk.A
open Go.ChangeShapes Go.WideShapes Go.ChangeAt Go.RowKit Go.Instr
set_option linter.unusedVariables false
attribute [local go_sem] eqs22 eqn22 eqs23 eqn23 eqs24 eqn24 eqs27 eqs29 eqs31 eqn27 eqn29 eqn31 nen27 nen45

/-- The six slices that came in. -/
structure In (w : World) (p0 p1 p2 p3 p4 p5 : Option Addr) (c0 c1 c2 c3 c4 c5 : Nat) (news : List Vd) (ans : List An) (ms : List Fm) (fs : List Fw) (preV : List Vd) (preA : List An) (mt : List Fm) (ft : List Fw) : Prop where
  r0 : RowAt Vd.cells 3 w.heap.size w p0 news
  r1 : RowAt An.cells 2 w.heap.size w p1 ans
  r2 : RowAt Fm.cells 3 w.heap.size w p2 ms
  d2 : DeepF w.heap.size w ms fs
  r3 : RowAt Vd.cells 3 w.heap.size w p3 preV
  r4 : RowAt An.cells 2 w.heap.size w p4 preA
  r5 : RowAt Fm.cells 3 w.heap.size w p5 mt
  d5 : DeepF w.heap.size w mt ft
  n0 : p0 = none → news = [] ∧ c0 = 0
  n1 : p1 = none → ans = [] ∧ c1 = 0
  n2 : p2 = none → fs = [] ∧ c2 = 0
  n3 : p3 = none → preV = [] ∧ c3 = 0
  n4 : p4 = none → preA = [] ∧ c4 = 0
  n5 : p5 = none → ft = [] ∧ c5 = 0
  i2 : ∀ m ∈ ms, m.sl = none → m.n = 0 ∧ m.cap = 0
  i5 : ∀ m ∈ mt, m.sl = none → m.n = 0 ∧ m.cap = 0
  l0 : news.length ≤ maxLen
  l1 : ans.length ≤ maxLen
  l2 : fs.length ≤ maxLen
  l3 : preV.length ≤ maxLen
  l4 : preA.length ≤ maxLen
  l5 : ft.length ≤ maxLen
  k2 : ∀ F ∈ fs, F.ids.length ≤ maxLen
  k5 : ∀ F ∈ ft, F.ids.length ≤ maxLen

section
variable {p0 p1 p2 p3 p4 p5 : Option Addr} {c0 c1 c2 c3 c4 c5 : Nat} {news : List Vd} {ans : List An} {ms : List Fm} {fs : List Fw} {preV : List Vd} {preA : List An} {mt : List Fm} {ft : List Fw} {w : World}

set_option maxRecDepth 100000 in
set_option maxHeartbeats 4000000 in
/-- One of the lists is too long: true at once. -/
theorem pass_big (I : In w p0 p1 p2 p3 p4 p5 c0 c1 c2 c3 c4 c5 news ans ms fs preV preA mt ft) (hbig : 1024 < news.length ∨ 1024 < ans.length ∨ 1024 < preV.length ∨ 1024 < preA.length ∨ bigB fs = true ∨ bigB ft = true) :
    Calls Yba.prog 3 #[.slice p0 news.length c0, .slice p1 ans.length c1, .slice p2 fs.length c2, .slice p3 preV.length c3, .slice p4 preA.length c4, .slice p5 ft.length c5] w fun e w' => e = .returned (.bool true) ∧ Below w.heap.size w w' := by
  have l0 := I.l0
  have l1 := I.l1
  have l3 := I.l3
  have l4 := I.l4
  unfold maxLen at l0 l1 l3 l4
  by_cases b0 : 1024 < news.length
  · clear hbig
    go_enter Yba.func3, Yba.ntmps3
    go_wp2
    go_ret
    exact ⟨rfl, Below.refl _ _⟩
  by_cases b1 : 1024 < ans.length
  · clear hbig
    go_enter Yba.func3, Yba.ntmps3
    go_wp2
    go_ret
    exact ⟨rfl, Below.refl _ _⟩
  by_cases b3 : 1024 < preV.length
  · clear hbig
    go_enter Yba.func3, Yba.ntmps3
    go_wp2
    go_ret
    exact ⟨rfl, Below.refl _ _⟩
  by_cases b4 : 1024 < preA.length
  · clear hbig
    go_enter Yba.func3, Yba.ntmps3
    go_wp2
    go_ret
    exact ⟨rfl, Below.refl _ _⟩
  have hb : bigB fs = true ∨ bigB ft = true := by
    rcases hbig with h | h | h | h | h
    · exact absurd h b0
    · exact absurd h b1
    · exact absurd h b3
    · exact absurd h b4
    · exact h
  clear hbig
  cases h2 : bigB fs
  · rw [h2] at hb
    have h5 : bigB ft = true := by simpa using hb
    have C2 : Hid _ := bigf_any p2 c2 ms fs w I.r2 I.d2 I.l2 I.k2
    have C5 : Hid (∀ w', Below w.heap.size w w' → Calls Yba.prog 9 #[.slice p5 ft.length c5] w' fun e w'' => e = .returned (.bool (bigB ft)) ∧ Below w'.heap.size w' w'') :=
      fun w' hb => bigf_any p5 c5 mt ft w' ((I.r5.below hb (Nat.le_refl _)).mono hb.size) ((I.d5.below hb (Nat.le_refl _)).mono hb.size) I.l5 I.k5
    clear hb
    go_enter Yba.func3, Yba.ntmps3
    go_wp2_with fail
    refine Calls.mono (Hid.out C2) ?_
    rintro e w1 ⟨rfl, hb1⟩
    rw [h2]
    go_wp2_with fail
    refine Calls.mono (Hid.out C5 _ hb1) ?_
    rintro e w2 ⟨rfl, hb2⟩
    rw [h5]
    go_wp2
    go_ret
    exact ⟨rfl, hb1.trans (hb2.mono hb1.size)⟩
  · have C2 : Hid _ := bigf_any p2 c2 ms fs w I.r2 I.d2 I.l2 I.k2
    clear hb
    go_enter Yba.func3, Yba.ntmps3
    go_wp2_with fail
    refine Calls.mono (Hid.out C2) ?_
    rintro e w1 ⟨rfl, hb1⟩
    rw [h2]
    go_wp2
    go_ret
    exact ⟨rfl, hb1⟩
end
end Go.Proofs.Ybulklvk.A
