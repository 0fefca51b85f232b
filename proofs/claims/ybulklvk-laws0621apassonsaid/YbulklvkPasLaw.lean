/-
  'LawS0621APassOn' (function 3): the walk where no list is too long.
-/
import Derived.Test.YbulklvkPasWalk
namespace Go.Proofs.Ybulklvk.A
open Go.ChangeShapes Go.WideShapes Go.ChangeAt Go.RowKit Go.Instr
set_option linter.unusedVariables false
attribute [local go_sem] eqs22 eqn22 eqs23 eqn23 eqs24 eqn24 eqs27 eqs29 eqs31 eqn27 eqn29 eqn31 nen27 nen45

section
variable {p0 p1 p2 p3 p4 p5 : Option Addr} {c0 c1 c2 c3 c4 c5 : Nat} {news : List Vd} {ans : List An} {ms : List Fm} {fs : List Fw} {preV : List Vd} {preA : List An} {mt : List Fm} {ft : List Fw} {w : World}

/-- The detector's cells. -/
def DetAt (wx : World) (D : Nat) (vn vf va : Value) : Prop :=
  wx.cell? ⟨D, 12, none⟩ = some (.slice none 0 0) ∧ wx.cell? ⟨D, 13, none⟩ = some vn ∧ wx.cell? ⟨D, 14, none⟩ = some vf ∧ wx.cell? ⟨D, 16, none⟩ = some va

theorem DetAt.below {wx wy : World} {M D : Nat} {vn vf va : Value} (h : DetAt wx D vn vf va) (hb : Below M wx wy) (hD : D < M) : DetAt wy D vn vf va :=
  ⟨(hb.cell (p := ⟨D, 12, none⟩) hD).trans h.1, (hb.cell (p := ⟨D, 13, none⟩) hD).trans h.2.1, (hb.cell (p := ⟨D, 14, none⟩) hD).trans h.2.2.1, (hb.cell (p := ⟨D, 16, none⟩) hD).trans h.2.2.2⟩

theorem det_new (w3 : World) (vn vf va : Value) : DetAt (w3.alloc (Obj.cells #[Value.int IntKind.i64 0, Value.int IntKind.i64 0, Value.int IntKind.i64 0, Value.int IntKind.u64 0,
          Value.bool false, Value.slice none 0 0, Value.int IntKind.i64 0, Value.bool false, Value.int IntKind.i64 0,
          Value.int IntKind.i64 0, Value.slice none 0 0, Value.slice none 0 0, Value.slice none 0 0,
          vn, vf, Value.int IntKind.i64 0, va, Value.int IntKind.i64 0, Value.slice none 0 0] 40)) w3.heap.size vn vf va := by
  have h := heap_alloc_new w3 (Obj.cells #[Value.int IntKind.i64 0, Value.int IntKind.i64 0, Value.int IntKind.i64 0, Value.int IntKind.u64 0,
          Value.bool false, Value.slice none 0 0, Value.int IntKind.i64 0, Value.bool false, Value.int IntKind.i64 0,
          Value.int IntKind.i64 0, Value.slice none 0 0, Value.slice none 0 0, Value.slice none 0 0,
          vn, vf, Value.int IntKind.i64 0, va, Value.int IntKind.i64 0, Value.slice none 0 0] 40)
  refine ⟨?_, ?_, ?_, ?_⟩ <;> (simp only [World.cell?, h]; rfl)

/-- What stands behind 'passOn', M being the frame's block: the lists that came in, the detector's copies, the frame's old lists. -/
structure Mid (wx : World) (M D : Nat) (p0 p1 p2 p3 p4 p5 a0 a1 a2 a3 a4 a5 : Option Addr) (k0 k1 k2 : Nat) (news : List Vd) (ans : List An) (ms md : List Fm) (fs : List Fw) (preV : List Vd) (preA : List An) (mt me : List Fm) (ft : List Fw) (vv va vf : Value) : Prop where
  hD : D < M
  r0 : RowAt Vd.cells 3 M wx p0 news
  r1 : RowAt An.cells 2 M wx p1 ans
  r2 : RowAt Fm.cells 3 M wx p2 ms
  d2 : DeepF M wx ms fs
  r3 : RowAt Vd.cells 3 M wx p3 preV
  r4 : RowAt An.cells 2 M wx p4 preA
  r5 : RowAt Fm.cells 3 M wx p5 mt
  d5 : DeepF M wx mt ft
  q0 : RowAt Vd.cells 3 M wx a0 news
  q1 : RowAt An.cells 2 M wx a1 ans
  q2 : RowAt Fm.cells 3 M wx a2 md
  e2 : DeepF M wx md fs
  q3 : RowAt Vd.cells 3 M wx a3 preV
  q4 : RowAt An.cells 2 M wx a4 preA
  q5 : RowAt Fm.cells 3 M wx a5 me
  e5 : DeepF M wx me ft
  det : DetAt wx D (.slice a0 news.length k0) (.slice a2 fs.length k2) (.slice a1 ans.length k1)
  fr : FrameAt wx M (.int .u64 7) (.pointer none) (.pointer none) va (.slice none 0 0) vv vf

theorem Mid.below {wx wy : World} {M D : Nat} {p0 p1 p2 p3 p4 p5 a0 a1 a2 a3 a4 a5 : Option Addr} {k0 k1 k2 : Nat} {news : List Vd} {ans : List An} {ms md : List Fm} {fs : List Fw} {preV : List Vd} {preA : List An} {mt me : List Fm} {ft : List Fw} {vv va vf : Value}
    (h : Mid wx M D p0 p1 p2 p3 p4 p5 a0 a1 a2 a3 a4 a5 k0 k1 k2 news ans ms md fs preV preA mt me ft vv va vf) (hb : Below (M + 1) wx wy) : Mid wy M D p0 p1 p2 p3 p4 p5 a0 a1 a2 a3 a4 a5 k0 k1 k2 news ans ms md fs preV preA mt me ft vv va vf :=
  have hM := Nat.le_succ M
  ⟨h.hD, h.r0.below hb hM, h.r1.below hb hM, h.r2.below hb hM, h.d2.below hb hM, h.r3.below hb hM, h.r4.below hb hM, h.r5.below hb hM, h.d5.below hb hM,
   h.q0.below hb hM, h.q1.below hb hM, h.q2.below hb hM, h.e2.below hb hM, h.q3.below hb hM, h.q4.below hb hM, h.q5.below hb hM, h.e5.below hb hM, h.det.below hb (Nat.lt_succ_of_lt h.hD),
   (hb.block M (Nat.lt_succ_self M)).trans h.fr⟩

theorem none_or {a p : Option Addr} (h : a = none ↔ p = none) : (p = none ∧ a = none) ∨ ∃ x y, p = some x ∧ a = some y := by
  cases p <;> cases a <;> simp_all

theorem below_drewN (B : Nat) (w : World) (n : Nat) : Below B w (w.drewN n) := ⟨rfl, rfl, rfl, Nat.le_refl _, fun _ _ => rfl⟩

set_option maxRecDepth 100000 in
set_option maxHeartbeats 8000000 in
theorem pass_small (I : In w p0 p1 p2 p3 p4 p5 c0 c1 c2 c3 c4 c5 news ans ms fs preV preA mt ft) (s0 : news.length ≤ 1024) (s1 : ans.length ≤ 1024) (s3 : preV.length ≤ 1024) (s4 : preA.length ≤ 1024) (h2 : bigB fs = false) (h5 : bigB ft = false) :
    Calls Yba.prog 3 #[.slice p0 news.length c0, .slice p1 ans.length c1, .slice p2 fs.length c2, .slice p3 preV.length c3, .slice p4 preA.length c4, .slice p5 ft.length c5] w fun e w' => e = .returned (.bool true) ∧ Below w.heap.size w w' := by
  obtain ⟨s2, t2⟩ := big_no h2
  obtain ⟨s5, t5⟩ := big_no h5
  have C2 : Hid _ := bigf_any p2 c2 ms fs w I.r2 I.d2 I.l2 I.k2
  have C5 : Hid (∀ w', Below w.heap.size w w' → Calls Yba.prog 9 #[.slice p5 ft.length c5] w' fun e w'' => e = .returned (.bool (bigB ft)) ∧ Below w'.heap.size w' w'') :=
    fun w' hb => bigf_any p5 c5 mt ft w' ((I.r5.below hb (Nat.le_refl _)).mono hb.size) ((I.d5.below hb (Nat.le_refl _)).mono hb.size) I.l5 I.k5
  have A0 : Hid (∀ w', Below w.heap.size w w' → Calls Yba.prog 10 #[.slice p0 news.length c0] w' fun e w'' => Made Vd.cells 3 p0 news w' e w'') := fun w' hb => averdicts_any p0 c0 news w' I.n0 ((I.r0.below hb (Nat.le_refl _)).mono hb.size) s0
  have A3 : Hid (∀ w', Below w.heap.size w w' → Calls Yba.prog 10 #[.slice p3 preV.length c3] w' fun e w'' => Made Vd.cells 3 p3 preV w' e w'') := fun w' hb => averdicts_any p3 c3 preV w' I.n3 ((I.r3.below hb (Nat.le_refl _)).mono hb.size) s3
  have A1 : Hid (∀ w', Below w.heap.size w w' → Calls Yba.prog 11 #[.slice p1 ans.length c1] w' fun e w'' => Made An.cells 2 p1 ans w' e w'') := fun w' hb => aanswers_any p1 c1 ans w' I.n1 ((I.r1.below hb (Nat.le_refl _)).mono hb.size) s1
  have A4 : Hid (∀ w', Below w.heap.size w w' → Calls Yba.prog 11 #[.slice p4 preA.length c4] w' fun e w'' => Made An.cells 2 p4 preA w' e w'') := fun w' hb => aanswers_any p4 c4 preA w' I.n4 ((I.r4.below hb (Nat.le_refl _)).mono hb.size) s4
  have A2 : Hid (∀ w', Below w.heap.size w w' → Calls Yba.prog 12 #[.slice p2 fs.length c2] w' fun e w'' => MadeF p2 fs w' e w'') := fun w' hb => aforwards_any p2 c2 ms fs w' I.n2 ((I.r2.below hb (Nat.le_refl _)).mono hb.size) ((I.d2.below hb (Nat.le_refl _)).mono hb.size) s2 t2 I.i2
  have A5 : Hid (∀ w', Below w.heap.size w w' → Calls Yba.prog 12 #[.slice p5 ft.length c5] w' fun e w'' => MadeF p5 ft w' e w'') := fun w' hb => aforwards_any p5 c5 mt ft w' I.n5 ((I.r5.below hb (Nat.le_refl _)).mono hb.size) ((I.d5.below hb (Nat.le_refl _)).mono hb.size) s5 t5 I.i5
  go_enter Yba.func3, Yba.ntmps3
  go_wp2_with fail
  refine Calls.mono (Hid.out C2) ?_
  rintro e wa ⟨rfl, ba⟩
  rw [h2]
  go_wp2_with fail
  refine Calls.mono (Hid.out C5 _ ba) ?_
  rintro e wb ⟨rfl, bb⟩
  rw [h5]
  have B1 := ba.trans (bb.mono ba.size)
  go_wp2_with fail
  refine Calls.mono (Hid.out A0 _ B1) ?_
  rintro e w1 ⟨a0, k0, rfl, m0, r0, f0, b0⟩
  have B2 := B1.trans (b0.mono B1.size)
  go_wp2_with fail
  refine Calls.mono (Hid.out A1 _ B2) ?_
  rintro e w2 ⟨a1, k1, rfl, m1, r1, f1, b1⟩
  have B3 := B2.trans (b1.mono B2.size)
  go_wp2_with fail
  refine Calls.mono (Hid.out A2 _ B3) ?_
  rintro e w3 ⟨a2, k2, md, rfl, m2, r2, d2, b2⟩
  have B4 := B3.trans (b2.mono B3.size)
  have r0 := (r0.below b1 (Nat.le_refl _)).below b2 b1.size
  have r1 := r1.below b2 (Nat.le_refl _)
  have dA := det_new w3 (.slice a0 news.length k0) (.slice a2 fs.length k2) (.slice a1 ans.length k1)
  have bD : Below w3.heap.size w3 (w3.alloc (Obj.cells #[Value.int IntKind.i64 0, Value.int IntKind.i64 0, Value.int IntKind.i64 0, Value.int IntKind.u64 0,
          Value.bool false, Value.slice none 0 0, Value.int IntKind.i64 0, Value.bool false, Value.int IntKind.i64 0,
          Value.int IntKind.i64 0, Value.slice none 0 0, Value.slice none 0 0, Value.slice none 0 0,
          Value.slice a0 news.length k0, Value.slice a2 fs.length k2, Value.int IntKind.i64 0,
          Value.slice a1 ans.length k1, Value.int IntKind.i64 0, Value.slice none 0 0] 40)) := (Below.refl _ _).alloc (Nat.le_refl _) _
  have B5 := B4.trans (bD.mono B4.size)
  have r0 := r0.below bD (Nat.le_trans b1.size b2.size)
  have r1 := r1.below bD b2.size
  have r2 := r2.below bD (Nat.le_refl _)
  have d2 := d2.below bD (Nat.le_refl _)
  have zD : w3.heap.size < (w3.alloc (Obj.cells #[Value.int IntKind.i64 0, Value.int IntKind.i64 0, Value.int IntKind.i64 0, Value.int IntKind.u64 0,
          Value.bool false, Value.slice none 0 0, Value.int IntKind.i64 0, Value.bool false, Value.int IntKind.i64 0,
          Value.int IntKind.i64 0, Value.slice none 0 0, Value.slice none 0 0, Value.slice none 0 0,
          Value.slice a0 news.length k0, Value.slice a2 fs.length k2, Value.int IntKind.i64 0,
          Value.slice a1 ans.length k1, Value.int IntKind.i64 0, Value.slice none 0 0] 40)).heap.size := by simp
  go_wp2_with fail
  refine Calls.mono (Hid.out A3 _ B5) ?_
  clear bD
  generalize hwd : (w3.alloc _) = wd at dA B5 r0 r1 r2 d2 zD
  clear hwd
  rintro e w4 ⟨a3, k3, rfl, m3, r3, f3, b3⟩
  have B6 := B5.trans (b3.mono B5.size)
  go_wp2_with fail
  refine Calls.mono (Hid.out A4 _ B6) ?_
  rintro e w5 ⟨a4, k4, rfl, m4, r4, f4, b4⟩
  have B7 := B6.trans (b4.mono B6.size)
  go_wp2_with fail
  refine Calls.mono (Hid.out A5 _ B7) ?_
  rintro e w6 ⟨a5, k5, me, rfl, m5, r5, e5, b5⟩
  have B8 := B7.trans (b5.mono B7.size)
  have z1 := b1.size
  have z2 := b2.size
  have z3 := b3.size
  have z4 := b4.size
  have z5 := b5.size
  have X : Below wd.heap.size wd w6 := (b3.trans (b4.mono z3)).trans (b5.mono (by omega))
  have q0 := (r0.below X (by omega)).mono (M := w6.heap.size) (by omega)
  have q1 := (r1.below X (by omega)).mono (M := w6.heap.size) (by omega)
  have q2 := (r2.below X (by omega)).mono (M := w6.heap.size) (by omega)
  have q2d := (d2.below X (by omega)).mono (M := w6.heap.size) (by omega)
  have q3 := ((r3.below b4 (Nat.le_refl _)).below b5 (by omega)).mono (M := w6.heap.size) (by omega)
  have q4 := (r4.below b5 (Nat.le_refl _)).mono (M := w6.heap.size) (by omega)
  have dA := dA.below X zD
  have i0 := (I.r0.below B8 (Nat.le_refl _)).mono B8.size
  have i1 := (I.r1.below B8 (Nat.le_refl _)).mono B8.size
  have i2 := (I.r2.below B8 (Nat.le_refl _)).mono B8.size
  have i2d := (I.d2.below B8 (Nat.le_refl _)).mono B8.size
  have i3 := (I.r3.below B8 (Nat.le_refl _)).mono B8.size
  have i4 := (I.r4.below B8 (Nat.le_refl _)).mono B8.size
  have i5 := (I.r5.below B8 (Nat.le_refl _)).mono B8.size
  have i5d := (I.d5.below B8 (Nat.le_refl _)).mono B8.size
  clear r0 r1 r2 d2 r3 r4 X b0 b1 b2 b3 b4 b5 B1 B2 B3 B4 B5 B6 B7 ba bb A0 A1 A2 A3 A4 A5 C2 C5
  have bF : Below w6.heap.size w6 (w6.alloc (Obj.cells #[Value.int IntKind.u64 7, Value.pointer none, Value.pointer none, Value.slice a4 preA.length k4, Value.slice none 0 0, Value.slice a3 preV.length k3, Value.slice a5 ft.length k5] 47)) := (Below.refl _ _).alloc (Nat.le_refl _) _
  have hFr : FrameAt (w6.alloc (Obj.cells #[Value.int IntKind.u64 7, Value.pointer none, Value.pointer none, Value.slice a4 preA.length k4, Value.slice none 0 0, Value.slice a3 preV.length k3, Value.slice a5 ft.length k5] 47)) w6.heap.size _ _ _ _ _ _ _ := heap_alloc_new w6 _
  have zF : (w6.alloc (Obj.cells #[Value.int IntKind.u64 7, Value.pointer none, Value.pointer none, Value.slice a4 preA.length k4, Value.slice none 0 0, Value.slice a3 preV.length k3, Value.slice a5 ft.length k5] 47)).heap.size = w6.heap.size + 1 := by simp
  go_wp2_with fail
  generalize hwf : (w6.alloc _) = wf at bF hFr zF
  clear hwf
  have dF := dA.below bF (by omega)
  have zM : w3.heap.size < w6.heap.size := by omega
  refine (passOn_any w6.heap.size w3.heap.size w6.heap.size news ans md a0 a1 a2 k0 k1 k2 _ _ _ _ _ _ _ _ dF.2.1 dF.2.2.2 (by rw [q2d.1]; exact dF.2.2.1) hFr zM (Nat.le_refl _)
    (q0.below bF (Nat.le_refl _)) (q1.below bF (Nat.le_refl _)) (q2.below bF (Nat.le_refl _)) s0 s1 (by rw [q2d.1]; exact s2)).mono ?_
  rintro e wP ⟨rfl, H1, H2, vv, va, vf, hH1, hH2, hH3, bP, hFr2, cl1, cl2, cl3⟩
  rw [zF] at hH1 cl1
  have Y := bF.trans bP
  have mid : Mid wP w6.heap.size w3.heap.size p0 p1 p2 p3 p4 p5 a0 a1 a2 a3 a4 a5 k0 k1 k2 news ans ms md fs preV preA mt me ft vv va vf :=
    ⟨zM, i0.below Y (Nat.le_refl _), i1.below Y (Nat.le_refl _), i2.below Y (Nat.le_refl _), i2d.below Y (Nat.le_refl _), i3.below Y (Nat.le_refl _), i4.below Y (Nat.le_refl _), i5.below Y (Nat.le_refl _), i5d.below Y (Nat.le_refl _),
     q0.below Y (Nat.le_refl _), q1.below Y (Nat.le_refl _), q2.below Y (Nat.le_refl _), q2d.below Y (Nat.le_refl _), q3.below Y (Nat.le_refl _), q4.below Y (Nat.le_refl _), r5.below Y (Nat.le_refl _), e5.below Y (Nat.le_refl _), dA.below Y zM, hFr2⟩
  have BP := B8.trans (Y.mono B8.size)
  have zP : w6.heap.size + 1 ≤ wP.heap.size := by omega
  have zw := B8.size
  generalize w6.heap.size = M at mid zP cl1 cl2 cl3 hH1 hH2 hH3 zw ⊢
  generalize w3.heap.size = D at mid ⊢
  clear Y bF bP hFr hFr2 zF dF dA q0 q1 q2 q2d q3 q4 r5 e5 i0 i1 i2 i2d i3 i4 i5 i5d B8 z1 z2 z3 z4 z5 zD zM
  have g0 := mid.fr.cell 0
  have g1 := mid.fr.cell 1
  have g2 := mid.fr.cell 2
  have g3 := mid.fr.cell 3
  have g4 := mid.fr.cell 4
  have g5 := mid.fr.cell 5
  have g6 := mid.fr.cell 6
  simp only [List.getElem?_toArray, List.getElem?_cons_zero, List.getElem?_cons_succ] at g0 g1 g2 g3 g4 g5 g6
  obtain ⟨y2, y3, y4, y6⟩ := mid.det
  go_wp2_with fail
  refine (eqv_true a0 p0 k0 c0 news wP (mid.q0.mono (by omega)) (mid.r0.mono (by omega)) s0).mono ?_
  rintro e w' ⟨rfl, n1, rfl⟩
  go_wp2_with fail
  refine (eqa_true a1 p1 k1 c1 ans _ (by exact mid.q1.mono (by simp; omega)) (by exact mid.r1.mono (by simp; omega)) s1).mono ?_
  rintro e w' ⟨rfl, n2, rfl⟩
  go_wp2_with fail
  refine (eqf_true a2 p2 k2 c2 md ms fs _ (by exact mid.q2.mono (by simp; omega)) (by exact mid.e2.mono (by simp; omega)) (by exact mid.r2.mono (by simp; omega)) (by exact mid.d2.mono (by simp; omega)) s2 t2).mono ?_
  rintro e w' ⟨rfl, n3, rfl⟩
  go_upto_if 118 with fail
  have mid := mid.below (below_drewN _ wP (n1 + n2 + n3))
  have cl1 := cl1.below (below_drewN _ wP (n1 + n2 + n3))
  have cl2 := cl2.below (below_drewN _ wP (n1 + n2 + n3))
  have cl3 := cl3.below (below_drewN _ wP (n1 + n2 + n3))
  have BP := BP.trans (below_drewN _ wP (n1 + n2 + n3))
  have zP2 : M + 1 ≤ (wP.drewN (n1 + n2 + n3)).heap.size := zP
  clear g0 g1 g2 g3 g4 g5 g6 y2 y3 y4 y6
  generalize wP.drewN (n1 + n2 + n3) = W at mid cl1 cl2 cl3 BP zP2 ⊢
  go_cut [] (fun wx => Hid (Mid wx M D p0 p1 p2 p3 p4 p5 a0 a1 a2 a3 a4 a5 k0 k1 k2 news ans ms md fs preV preA mt me ft vv va vf ∧ Below w.heap.size w wx ∧ M + 1 ≤ wx.heap.size ∧
      Cl An.cells 2 57 ans H1 H2 wx va (.slice a4 preA.length k4) ∧ Cl Fm.cells 3 63 md H2 wP.heap.size wx vf (.slice a5 ft.length k5)))
  case first => as_aux_lemma =>
    have g5 := mid.fr.cell 5
    simp only [List.getElem?_toArray, List.getElem?_cons_zero, List.getElem?_cons_succ] at g5
    have y3 := mid.det.2.1
    by_cases h0 : 0 < news.length
    · rcases cl1 with ⟨h, _⟩ | ⟨_, g, c, rfl, hg, ho⟩
      · rw [h] at h0; simp at h0
      have hgM : M + 1 ≤ g := by have := (ho.lt g rfl).1; omega
      have hgl := (ho.lt g rfl).2
      obtain ⟨z, hz⟩ : ∃ z, news[0]? = some z := ⟨news[0], List.getElem?_eq_getElem h0⟩
      have rw0 := RowAt.of_owns vd_len rfl ho
      obtain ⟨b1, o1, hx, hb1, _, e1, _⟩ := vd_at rw0 hz
      cases hx
      have fz : W.frozen? ⟨g, 1, none⟩ = false := ho.frozenAt 1
      obtain ⟨b2, o2, hx2, hb2, _, e2, _⟩ := vd_at mid.q0 hz
      obtain ⟨b3, o3, hx3, hb3, _, e3, _⟩ := vd_at mid.r0 hz
      have Hz : Hid _ := hz
      have _hh := True.intro
      have HBP : Hid _ := BP
      have hmd : Hid _ := mid
      have rr0 := mid.r0.mono (M := W.heap.size) (by omega)
      clear hz
      simp only [Nat.zero_mul, Nat.add_zero, Nat.zero_add] at e1 e2 e3
      subst hx2 hx3
      have h0i : (0 : Int) < (news.length : Int) := by omega
      have ne2 : b2 ≠ g := by omega
      have ne3 : b3 ≠ g := by omega
      have neD : D ≠ g := by have := mid.hD; omega
      have st : ∀ (n : Nat) (v : Value) (b o : Nat), b ≠ g → ((W.drewN n).setCell ⟨g, 1, none⟩ v).cell? ⟨b, o, none⟩ = W.cell? ⟨b, o, none⟩ := fun n v b o h => World.cell?_of_block (Below.heap_setCell _ _ _ _ h)
      have y3s := fun n v => (st n v D 13 neD).trans y3
      have e2s := fun n v => (st n v b2 (o2 + 1) ne2).trans e2
      have e3s := fun n v => (st n v b3 (o3 + 1) ne3).trans e3
      clear st
      go_wp2_with
        (go_at_call 14
         refine (eqv_true _ _ _ _ news _ rw0 rr0 s0).mono ?_
         rintro e w' ⟨rfl, m, rfl⟩)
      go_quiet (fail)
      go_wp2
      go_meet
      case rel =>
        have bst : ∀ v nq, Below (M + 1) W (((W.drewN m).setCell ⟨g, 1, none⟩ v).drewN nq) := fun v nq => ((below_drewN _ W m).setCell hgM v).trans (below_drewN _ _ _)
        exact ⟨hmd.out.below (bst _ _), HBP.out.trans ((bst _ _).mono (by omega)), Nat.le_trans zP2 (bst _ _).size, ((cl2.below (below_drewN _ W m)).set (by simpa using hg) _).below (below_drewN _ _ _), ((cl3.below (below_drewN _ W m)).set (by simp; omega) _).below (below_drewN _ _ _)⟩
    · rcases cl1 with ⟨rfl, rfl⟩ | ⟨h, _⟩
      · have HBP : Hid _ := BP
        have hmd : Hid _ := mid
        have _hh := True.intro
        have rr0 := mid.r3.mono (M := W.heap.size) (by omega)
        have rw0 := mid.q3.mono (M := W.heap.size) (by omega)
        clear h0
        have fin : ∀ m, Hid (Mid (W.drewN m) M D p0 p1 p2 p3 p4 p5 a0 a1 a2 a3 a4 a5 k0 k1 k2 [] ans ms md fs preV preA mt me ft (.slice a3 preV.length k3) va vf ∧ Below w.heap.size w (W.drewN m) ∧ M + 1 ≤ (W.drewN m).heap.size ∧
        Cl An.cells 2 57 ans H1 H2 (W.drewN m) va (.slice a4 preA.length k4) ∧ Cl Fm.cells 3 63 md H2 wP.heap.size (W.drewN m) vf (.slice a5 ft.length k5)) := fun m => ⟨hmd.out.below (below_drewN _ _ _), HBP.out.trans (below_drewN _ _ _), Nat.le_trans zP2 (Nat.le_refl _), cl2.below (below_drewN _ _ _), cl3.below (below_drewN _ _ _)⟩
        rcases none_or m3 with ⟨rfl, rfl⟩ | ⟨x, y, rfl, rfl⟩
        all_goals
          clear hmd HBP mid BP
          go_wp2_with
            (go_at_call 14
             refine (eqv_true _ _ _ _ preV _ rw0 rr0 s3).mono ?_
             rintro e w' ⟨rfl, m, rfl⟩)
          go_meet
          case rel => exact fin m
      · exact absurd h h0
  case rest => as_aux_lemma =>
    clear mid cl1 cl2 cl3 BP zP2
    obtain ⟨mid, BP, zP2, cl2, cl3⟩ := hcut.out
    clear hcut W
    rename World => W
    go_upto_if 167 with fail
    go_cut [] (fun wx => Hid (Mid wx M D p0 p1 p2 p3 p4 p5 a0 a1 a2 a3 a4 a5 k0 k1 k2 news ans ms md fs preV preA mt me ft vv va vf ∧ Below w.heap.size w wx ∧ M + 1 ≤ wx.heap.size ∧
        Cl Fm.cells 3 63 md H2 wP.heap.size wx vf (.slice a5 ft.length k5)))
    case first => as_aux_lemma =>
      have g5 := mid.fr.cell 3
      simp only [List.getElem?_toArray, List.getElem?_cons_zero, List.getElem?_cons_succ] at g5
      have y3 := mid.det.2.2.2
      by_cases h0 : 0 < ans.length
      · rcases cl2 with ⟨h, _⟩ | ⟨_, g, c, rfl, hg, ho⟩
        · rw [h] at h0; simp at h0
        have hgM : M + 1 ≤ g := by have := (ho.lt g rfl).1; omega
        have hgl := (ho.lt g rfl).2
        obtain ⟨z, hz⟩ : ∃ z, ans[0]? = some z := ⟨ans[0], List.getElem?_eq_getElem h0⟩
        have rw0 := RowAt.of_owns an_len rfl ho
        obtain ⟨b1, o1, hx, hb1, _, e1⟩ := an_at rw0 hz
        cases hx
        have fz : W.frozen? ⟨g, 1, none⟩ = false := ho.frozenAt 1
        obtain ⟨b2, o2, hx2, hb2, _, e2⟩ := an_at mid.q1 hz
        obtain ⟨b3, o3, hx3, hb3, _, e3⟩ := an_at mid.r1 hz
        have Hz : Hid _ := hz
        have _hh := True.intro
        have HBP : Hid _ := BP
        have hmd : Hid _ := mid
        have rr0 := mid.r1.mono (M := W.heap.size) (by omega)
        clear hz
        simp only [Nat.zero_mul, Nat.add_zero, Nat.zero_add] at e1 e2 e3
        subst hx2 hx3
        have h0i : (0 : Int) < (ans.length : Int) := by omega
        have ne2 : b2 ≠ g := by omega
        have ne3 : b3 ≠ g := by omega
        have neD : D ≠ g := by have := mid.hD; omega
        have st : ∀ (n : Nat) (v : Value) (b o : Nat), b ≠ g → ((W.drewN n).setCell ⟨g, 1, none⟩ v).cell? ⟨b, o, none⟩ = W.cell? ⟨b, o, none⟩ := fun n v b o h => World.cell?_of_block (Below.heap_setCell _ _ _ _ h)
        have y3s := fun n v => (st n v D 16 neD).trans y3
        have e2s := fun n v => (st n v b2 (o2 + 1) ne2).trans e2
        have e3s := fun n v => (st n v b3 (o3 + 1) ne3).trans e3
        clear st
        go_wp2_with
          (go_at_call 15
           refine (eqa_true _ _ _ _ ans _ rw0 rr0 s1).mono ?_
           rintro e w' ⟨rfl, m, rfl⟩)
        go_quiet (fail)
        go_wp2
        go_meet
        case rel =>
          have bst : ∀ v nq, Below (M + 1) W (((W.drewN m).setCell ⟨g, 1, none⟩ v).drewN nq) := fun v nq => ((below_drewN _ W m).setCell hgM v).trans (below_drewN _ _ _)
          exact ⟨hmd.out.below (bst _ _), HBP.out.trans ((bst _ _).mono (by omega)), Nat.le_trans zP2 (bst _ _).size, ((cl3.below (below_drewN _ W m)).set (by simpa using hg) _).below (below_drewN _ _ _)⟩
      · rcases cl2 with ⟨rfl, rfl⟩ | ⟨h, _⟩
        · have HBP : Hid _ := BP
          have hmd : Hid _ := mid
          have _hh := True.intro
          have rr0 := mid.r4.mono (M := W.heap.size) (by omega)
          have rw0 := mid.q4.mono (M := W.heap.size) (by omega)
          clear h0
          have fin : ∀ m, Hid (Mid (W.drewN m) M D p0 p1 p2 p3 p4 p5 a0 a1 a2 a3 a4 a5 k0 k1 k2 news [] ms md fs preV preA mt me ft vv (.slice a4 preA.length k4) vf ∧ Below w.heap.size w (W.drewN m) ∧ M + 1 ≤ (W.drewN m).heap.size ∧
          Cl Fm.cells 3 63 md H2 wP.heap.size (W.drewN m) vf (.slice a5 ft.length k5)) := fun m => ⟨hmd.out.below (below_drewN _ _ _), HBP.out.trans (below_drewN _ _ _), Nat.le_trans zP2 (Nat.le_refl _), cl3.below (below_drewN _ _ _)⟩
          rcases none_or m4 with ⟨rfl, rfl⟩ | ⟨x, y, rfl, rfl⟩
          all_goals
            clear hmd HBP mid BP
            go_wp2_with
              (go_at_call 15
               refine (eqa_true _ _ _ _ preA _ rw0 rr0 s4).mono ?_
               rintro e w' ⟨rfl, m, rfl⟩)
            go_meet
            case rel => exact fin m
        · exact absurd h h0
    case rest => as_aux_lemma =>
      clear mid cl2 cl3 BP zP2
      obtain ⟨mid, BP, zP2, cl3⟩ := hcut.out
      clear hcut W
      rename World => W
      go_upto_if 216 with fail
      have g5 := mid.fr.cell 6
      simp only [List.getElem?_toArray, List.getElem?_cons_zero, List.getElem?_cons_succ] at g5
      have y3 := mid.det.2.2.1
      have hlm := mid.e2.1
      by_cases h0 : 0 < fs.length
      · rcases cl3 with ⟨h, _⟩ | ⟨_, g, c, rfl, hg, ho⟩
        · rw [h] at hlm; simp at hlm; omega
        have hgM : M + 1 ≤ g := by have := (ho.lt g rfl).1; omega
        have hgl := (ho.lt g rfl).2
        obtain ⟨z, hz⟩ : ∃ z, md[0]? = some z := ⟨md[0]'(by omega), List.getElem?_eq_getElem (by omega)⟩
        obtain ⟨zi, hzi⟩ : ∃ z, ms[0]? = some z := ⟨ms[0]'(by have := mid.d2.1; omega), List.getElem?_eq_getElem (by have := mid.d2.1; omega)⟩
        obtain ⟨zf, hzf⟩ : ∃ z, fs[0]? = some z := ⟨fs[0], List.getElem?_eq_getElem h0⟩
        have eqr : zi.round = z.round := by rw [(mid.d2.2 0 zi zf hzi hzf).2.1, (mid.e2.2 0 z zf hz hzf).2.1]
        have rw0 := RowAt.of_owns fm_len rfl ho
        obtain ⟨b1, o1, hx, hb1, _, e1, _⟩ := fm_at rw0 hz
        cases hx
        have fz : W.frozen? ⟨g, 1, none⟩ = false := ho.frozenAt 1
        obtain ⟨b2, o2, hx2, hb2, _, e2, _⟩ := fm_at mid.q2 hz
        obtain ⟨b3, o3, hx3, hb3, _, e3, _⟩ := fm_at mid.r2 hzi
        rw [eqr] at e3
        have HBP : Hid _ := BP
        have hmd : Hid _ := mid
        have rr0 := mid.r2.mono (M := W.heap.size) (by omega)
        have rr1 := mid.d2.mono (M := W.heap.size) (by omega)
        have rr2 := mid.e2.mono (M := W.heap.size) (by omega)
        rw [hlm] at g5
        clear hz hzi hzf eqr
        simp only [Nat.zero_mul, Nat.add_zero, Nat.zero_add] at e1 e2 e3
        subst hx2 hx3
        have h0i : (0 : Int) < (fs.length : Int) := by omega
        have ne2 : b2 ≠ g := by omega
        have ne3 : b3 ≠ g := by omega
        have neD : D ≠ g := by have := mid.hD; omega
        have st : ∀ (n : Nat) (v : Value) (b o : Nat), b ≠ g → ((W.drewN n).setCell ⟨g, 1, none⟩ v).cell? ⟨b, o, none⟩ = W.cell? ⟨b, o, none⟩ := fun n v b o h => World.cell?_of_block (Below.heap_setCell _ _ _ _ h)
        have y3s := fun n v => (st n v D 14 neD).trans y3
        have e2s := fun n v => (st n v b2 (o2 + 1) ne2).trans e2
        have e3s := fun n v => (st n v b3 (o3 + 1) ne3).trans e3
        clear st hlm
        go_wp2_with
          (go_at_call 16
           refine (eqf_true _ _ _ _ md ms fs _ rw0 rr2 rr0 rr1 s2 t2).mono ?_
           rintro e w' ⟨rfl, m, rfl⟩)
        go_quiet (fail)
        go_wp2
        go_ret
        have bst : ∀ v nq, Below (M + 1) W (((W.drewN m).setCell ⟨g, 1, none⟩ v).drewN nq) := fun v nq => ((below_drewN _ W m).setCell hgM v).trans (below_drewN _ _ _)
        exact ⟨rfl, HBP.out.trans ((bst _ _).mono (by omega))⟩
      · obtain rfl : fs = [] := List.length_eq_zero_iff.1 (by omega)
        clear h0
        rcases cl3 with ⟨_, rfl⟩ | ⟨h, _⟩
        · have HBP : Hid _ := BP
          have rr0 := mid.r5.mono (M := W.heap.size) (by omega)
          have rr1 := mid.d5.mono (M := W.heap.size) (by omega)
          have rw0 := mid.q5.mono (M := W.heap.size) (by omega)
          have rw1 := mid.e5.mono (M := W.heap.size) (by omega)
          rcases none_or m5 with ⟨rfl, rfl⟩ | ⟨x, y, rfl, rfl⟩
          all_goals
            clear mid BP hlm
            go_wp2_with
              (go_at_call 16
               refine (eqf_true _ _ _ _ me mt ft _ rw0 rw1 rr0 rr1 s5 t5).mono ?_
               rintro e w' ⟨rfl, m, rfl⟩)
            go_ret
            exact ⟨rfl, HBP.out.trans (below_drewN _ _ _)⟩
        · rw [hlm] at h; simp at h
end
end Go.Proofs.Ybulklvk.A
