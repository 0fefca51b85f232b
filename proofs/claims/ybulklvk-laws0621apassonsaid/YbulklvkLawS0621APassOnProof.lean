/-
  A PROOF OF THE GIVEN LAW 'LawS0621APassOn' (the guide's frame at this function's number and types; the arguments' slices of structs opened by hand).
-/
import Derived.Test.YbulklvkPasLaw
import Derived.ShutString
import Derived.ChangeOld
import Derived.Below
import Derived.Carry
import Derived.Deep.Slices
namespace Go.Proofs.Ybulklvk.lawS0621APassOn
open Go.ChangeShapes Go.WideShapes Go.ChangeAt Go.RowKit
open Go.ChangeMaps (open_string shut_string)
open Go.Proofs.Ybulklvk.A
set_option linter.unusedVariables false

theorem own : ownKnob Yba.prog.godebug = none := by kernel_rfl
theorem laidOut : laidOutB Yba.prog = true := by kernel_rfl

theorem gather {α : Type} {Q : Nat → α → Prop} : ∀ len : Nat, (∀ i, i < len → ∃ z, Q i z) → ∃ l : List α, l.length = len ∧ ∀ k z, l[k]? = some z → Q k z := by
  intro len
  induction len with
  | zero => exact fun _ => ⟨[], rfl, fun k z hz => by simp at hz⟩
  | succ len ih =>
    intro ev
    obtain ⟨l, h1, h2⟩ := ih (fun i hi => ev i (by omega))
    obtain ⟨z, hz⟩ := ev len (by omega)
    refine ⟨l ++ [z], by simp [h1], fun k y hy => ?_⟩
    by_cases hk : k < l.length
    · rw [List.getElem?_append_left hk] at hy
      exact h2 k y hy
    · have hk2 : k = len := by
        have := (List.getElem?_eq_some_iff.1 hy).1
        simp at this
        omega
      rw [List.getElem?_append_right (by omega)] at hy
      subst hk2
      simp [h1] at hy
      subst hy
      exact hz

section
variable {H : Type} {enc : TypeId × Value → H} {W : World}

/-- A slice that came in, element by element: 'each': what an element's cells are, by its type's reading. -/
theorem open_rows {α : Type} {t e s : Nat} {f : α → List Value} {G : α → Prop} (hs : ∀ a, (f a).length = s) (hs0 : 0 < s) (ht : Yba.prog.underlying t = some (.slice e)) (hc : Yba.prog.cellsOf e = s)
    (each : ∀ (n : Nat) (cs : List Value) (y : DataW H × List MemPlace), cs.length = s → DataW.trod enc Yba.prog W 0 (fun _ => true) true n e cs = some y → ∃ z : α, cs = f z ∧ G z)
    {a : Option Addr} {len cap : Nat} {d : DataW H} {p : List MemPlace} (h : DataW.Trod enc Yba.prog W 0 (fun _ => true) true t (.slice a len cap) d p) :
    ∃ l : List α, l.length = len ∧ RowAt f s W.heap.size W a l ∧ l.length ≤ maxLen ∧ (a = none → l = [] ∧ cap = 0) ∧ ∀ z ∈ l, G z := by
  obtain ⟨fuel, hf⟩ := h
  rcases Deep.open_slice ht hf with ⟨hcs, _⟩ | ⟨x, l, c, m, n, D, Pl, hcs, _, hl, hm, hmm, _, hel⟩
  · simp [Value.cells] at hcs
    obtain ⟨rfl, rfl, rfl⟩ := hcs
    exact ⟨[], rfl, (fun k z hz => by simp at hz), Nat.zero_le _, (fun _ => ⟨rfl, rfl⟩), by simp⟩
  · simp [Value.cells] at hcs
    obtain ⟨rfl, rfl, rfl⟩ := hcs
    simp only [if_true] at hmm
    subst hmm
    rw [hc] at hel
    have ev : ∀ i, i < len → ∃ z : α, G z ∧ ∃ b off, x = ⟨b, off, none⟩ ∧ b < W.heap.size ∧ ∀ j v, (f z)[j]? = some v → W.cell? ⟨b, off + i * s + j, none⟩ = some v := by
      intro i hi
      obtain ⟨cs, h1, h2⟩ := hel i (by omega)
      obtain ⟨_, hcl, hcell⟩ := World.cells?_some h1
      obtain ⟨z, rfl, hG⟩ := each n cs _ hcl h2
      refine ⟨z, hG, ?_⟩
      obtain ⟨b, off, spot⟩ := x
      obtain ⟨cs0, h10, h20⟩ := hel 0 (by omega)
      obtain ⟨_, hcl0, hcell0⟩ := World.cells?_some h10
      have p0 := hcell0 0 hs0
      have hsp : spot = none := by
        match cs0, hcl0 with
        | [], h => simp at h; omega
        | v0 :: _, _ => simpa [Addr.add] using World.cell?_spot p0
      subst hsp
      have key : ∀ j v, (f z)[j]? = some v → W.cell? ⟨b, off + i * s + j, none⟩ = some v := by
        intro j v hv
        have hj : j < s := by rw [← hs z]; exact (List.getElem?_eq_some_iff.1 hv).1
        have := hcell j hj
        rw [Deep.add_add, add_plain, ← Nat.add_assoc] at this
        rw [this, hv]
      refine ⟨b, off, rfl, ?_, key⟩
      have hz0 : 0 < (f z).length := by rw [hs z]; exact hs0
      exact World.block_lt_of_cell? W _ (key 0 _ (List.getElem?_eq_getElem hz0))
    have ex : ∃ l : List α, l.length = len ∧ ∀ k z, l[k]? = some z → G z ∧ ∃ b off, x = ⟨b, off, none⟩ ∧ b < W.heap.size ∧ ∀ j v, (f z)[j]? = some v → W.cell? ⟨b, off + k * s + j, none⟩ = some v := gather len ev
    obtain ⟨l, h1, h2⟩ := ex
    refine ⟨l, h1, fun k z hz => ?_, by omega, (fun h => by cases h), fun z hz => ?_⟩
    · obtain ⟨_, b, off, rfl, r⟩ := h2 k z hz
      exact ⟨b, off, rfl, r⟩
    · obtain ⟨k, hk⟩ := List.getElem?_of_mem hz
      exact (h2 k z hk).1

set_option maxRecDepth 100000 in
theorem one_vd (n : Nat) (cs : List Value) (y : DataW H × List MemPlace) (hlen : cs.length = 3) (h : DataW.trod enc Yba.prog W 0 (fun _ => true) true n 55 cs = some y) : ∃ z : Vd, cs = z.cells ∧ True := by
  obtain ⟨xs, k, hk, hxy, _, hxl, hf⟩ := DataW.trod_struct Yba.underlying55 h
  have c36 : Yba.prog.cellsOf 36 = 1 := by kernel_rfl
  have c4 : Yba.prog.cellsOf 4 = 1 := by kernel_rfl
  match cs, hlen with
  | [v0, v1, v2], _ =>
    match xs, hxl with
    | [y0, y1, y2], _ =>
      have g0 := hf 0 _ rfl
      have g1 := hf 1 _ rfl
      have g2 := hf 2 _ rfl
      simp [c36, c4] at g0 g1 g2
      obtain ⟨a, e0, _, _⟩ := DataW.trod_int Yba.underlying36 g0
      obtain ⟨b, e1, _, _⟩ := DataW.trod_int Yba.underlying36 g1
      obtain ⟨c, e2, _⟩ := DataW.trod_bool Yba.underlying4 g2
      simp at e0 e1 e2
      subst e0 e1 e2
      exact ⟨⟨a, b, c⟩, rfl, trivial⟩

set_option maxRecDepth 100000 in
theorem one_an (n : Nat) (cs : List Value) (y : DataW H × List MemPlace) (hlen : cs.length = 2) (h : DataW.trod enc Yba.prog W 0 (fun _ => true) true n 59 cs = some y) : ∃ z : An, cs = z.cells ∧ True := by
  obtain ⟨xs, k, hk, hxy, _, hxl, hf⟩ := DataW.trod_struct Yba.underlying59 h
  have c36 : Yba.prog.cellsOf 36 = 1 := by kernel_rfl
  match cs, hlen with
  | [v0, v1], _ =>
    match xs, hxl with
    | [y0, y1], _ =>
      have g0 := hf 0 _ rfl
      have g1 := hf 1 _ rfl
      simp [c36] at g0 g1
      obtain ⟨a, e0, _, _⟩ := DataW.trod_int Yba.underlying36 g0
      obtain ⟨b, e1, _, _⟩ := DataW.trod_int Yba.underlying36 g1
      simp at e0 e1
      subst e0 e1
      exact ⟨⟨a, b⟩, rfl, trivial⟩

theorem one_id (n : Nat) (cs : List Value) (y : DataW H × List MemPlace) (hlen : cs.length = 1) (h : DataW.trod enc Yba.prog W 0 (fun _ => true) true n 36 cs = some y) : ∃ z : Int, cs = idCells z ∧ True := by
  obtain ⟨a, e0, _, _⟩ := DataW.trod_int Yba.underlying36 h
  exact ⟨a, e0, trivial⟩

/-- A forward's ids lie behind its slice. -/
def FG (W : World) (m : Fm) : Prop := ∃ ids : List Int, ids.length = m.n ∧ RowAt idCells 1 W.heap.size W m.sl ids ∧ ids.length ≤ maxLen ∧ (m.sl = none → ids = [] ∧ m.cap = 0)

set_option maxRecDepth 100000 in
theorem one_fm (n : Nat) (cs : List Value) (y : DataW H × List MemPlace) (hlen : cs.length = 3) (h : DataW.trod enc Yba.prog W 0 (fun _ => true) true n 66 cs = some y) : ∃ z : Fm, cs = z.cells ∧ FG W z := by
  obtain ⟨xs, k, hk, hxy, _, hxl, hf⟩ := DataW.trod_struct Yba.underlying66 h
  have c36 : Yba.prog.cellsOf 36 = 1 := by kernel_rfl
  have c64 : Yba.prog.cellsOf 64 = 1 := by kernel_rfl
  match cs, hlen with
  | [v0, v1, v2], _ =>
    match xs, hxl with
    | [y0, y1, y2], _ =>
      have g0 := hf 0 _ rfl
      have g1 := hf 1 _ rfl
      have g2 := hf 2 _ rfl
      simp [c36, c64] at g0 g1 g2
      obtain ⟨a, e0, _, _⟩ := DataW.trod_int Yba.underlying36 g0
      obtain ⟨b, e1, _, _⟩ := DataW.trod_int Yba.underlying36 g1
      simp at e0 e1
      subst e0 e1
      have hv : ∃ sl nn cc, v2 = .slice sl nn cc := by
        rcases Deep.open_slice Yba.underlying64 g2 with ⟨hcs, _⟩ | ⟨x, l, c, m, n, D, Pl, hcs, _⟩
        · simp at hcs; exact ⟨_, _, _, hcs⟩
        · simp at hcs; exact ⟨_, _, _, hcs⟩
      obtain ⟨sl, nn, cc, rfl⟩ := hv
      obtain ⟨ids, h1, h2, h3, h4, _⟩ := open_rows (W := W) (enc := enc) id_len (by decide) Yba.underlying64 c36 one_id (a := sl) (len := nn) (cap := cc) (d := y2.1) (p := y2.2) ⟨_, g2⟩
      exact ⟨⟨a, b, sl, nn, cc⟩, rfl, ids, h1, h2, h3, h4⟩
end

/-- The forwards, read through. -/
theorem deep_of {W : World} {ms : List Fm} (h : ∀ m ∈ ms, FG W m) : ∃ fs : List Fw, DeepF W.heap.size W ms fs ∧ (∀ F ∈ fs, F.ids.length ≤ maxLen) ∧ ∀ m ∈ ms, m.sl = none → m.n = 0 ∧ m.cap = 0 := by
  induction ms with
  | nil => exact ⟨[], ⟨rfl, fun k m F hm => by simp at hm⟩, by simp, by simp⟩
  | cons m ms ih =>
    obtain ⟨fs, hd, hl, hn⟩ := ih (fun m' hm' => h m' (by simp [hm']))
    obtain ⟨ids, h1, h2, h3, h4⟩ := h m (by simp)
    refine ⟨⟨m.to, m.round, ids⟩ :: fs, ⟨by simp [hd.1], fun k x F hx hF => ?_⟩, ?_, ?_⟩
    · cases k with
      | zero => simp at hx hF; subst hx hF; exact ⟨rfl, rfl, h1.symm, h2⟩
      | succ k => exact hd.2 k x F (by simpa using hx) (by simpa using hF)
    · intro F hF
      rcases List.mem_cons.1 hF with rfl | hF
      · exact h3
      · exact hl F hF
    · intro x hx
      rcases List.mem_cons.1 hx with rfl | hx
      · intro e; obtain ⟨e1, e2⟩ := h4 e; rw [e1] at h1; exact ⟨h1.symm, e2⟩
      · exact hn x hx

theorem walk {p0 p1 p2 p3 p4 p5 : Option Addr} {c0 c1 c2 c3 c4 c5 : Nat} {news : List Vd} {ans : List An} {ms : List Fm} {fs : List Fw} {preV : List Vd} {preA : List An} {mt : List Fm} {ft : List Fw} {w : World}
    (I : In w p0 p1 p2 p3 p4 p5 c0 c1 c2 c3 c4 c5 news ans ms fs preV preA mt ft) :
    Calls Yba.prog 3 #[.slice p0 news.length c0, .slice p1 ans.length c1, .slice p2 fs.length c2, .slice p3 preV.length c3, .slice p4 preA.length c4, .slice p5 ft.length c5] w fun e w' => e = .returned (.bool true) ∧ Below w.heap.size w w' := by
  by_cases b0 : 1024 < news.length
  · exact pass_big I (.inl b0)
  by_cases b1 : 1024 < ans.length
  · exact pass_big I (.inr (.inl b1))
  by_cases b3 : 1024 < preV.length
  · exact pass_big I (.inr (.inr (.inl b3)))
  by_cases b4 : 1024 < preA.length
  · exact pass_big I (.inr (.inr (.inr (.inl b4))))
  cases h2 : bigB fs
  · cases h5 : bigB ft
    · exact pass_small I (by omega) (by omega) (by omega) (by omega) h2 h5
    · exact pass_big I (.inr (.inr (.inr (.inr (.inr h5)))))
  · exact pass_big I (.inr (.inr (.inr (.inr (.inl h2)))))

set_option maxRecDepth 100000 in
theorem lifted (os : Os) (started : os.Started) (H : Type) (enc : TypeId × Value → H) :
    ReturnsInHanded {} Yba.checked os 3 .any (Rows.lawS0621APassOnSpec.pre6 enc Yba.prog Yba.f3 Rows.lawS0621APassOnRow.domain false) (Rows.lawS0621APassOnSpec.post enc Yba.prog Yba.f3 false true false false) := by
  refine returnsInHanded_of_change (C := Yba.checked) own started (by kernel_rfl) Yba.func3
    (ChangeSpec.witness6 (enc := enc) (C := Yba.checked) false ⟨#[], #[.slice none 0 0, .slice none 0 0, .slice none 0 0, .slice none 0 0, .slice none 0 0, .slice none 0 0], []⟩ 8 (by kernel_rfl) (by kernel_rfl) (by kernel_rfl) (by kernel_rfl)) ?_
  intro W base args ds gs before hval0 hW hcnd _
  have hval : ∀ (j : Nat) t v, Yba.f3.params[j]? = some t → args[j]? = some v → Value.okWide Yba.prog W .any base t v := hval0
  have hW' := hW
  obtain ⟨p, q, hA0, hV, rfl, hfz, hnd⟩ := hW
  have hA : DataW.TrodAll enc Yba.prog W 0 (fun _ => true) true Yba.f3.params.toList args.toList ds p := hA0
  rw [Yba.params3] at hA hval
  obtain ⟨v0, vs0, d0, ds0, p0, q0, hargs, rfl, rfl, h0, r0⟩ := trodAll_cons hA
  obtain ⟨v1, vs1, d1, ds1, p1, q1, rfl, rfl, rfl, h1, r1⟩ := trodAll_cons r0
  obtain ⟨v2, vs2, d2, ds2, p2, q2, rfl, rfl, rfl, h2, r2⟩ := trodAll_cons r1
  obtain ⟨v3, vs3, d3, ds3, p3, q3, rfl, rfl, rfl, h3, r3⟩ := trodAll_cons r2
  obtain ⟨v4, vs4, d4, ds4, p4, q4, rfl, rfl, rfl, h4, r4⟩ := trodAll_cons r3
  obtain ⟨v5, vs5, d5, ds5, p5, q5, rfl, rfl, rfl, h5, r5⟩ := trodAll_cons r4
  obtain ⟨rfl, rfl, rfl⟩ := trodAll_nil r5
  obtain rfl : args = #[v0, v1, v2, v3, v4, v5] := by cases args; simp_all
  obtain ⟨rfl, rfl⟩ := trodVars_none hV
  obtain ⟨a0, n0, c0, rfl⟩ := okWide_slice Yba.underlying22 (hval 0 22 v0 rfl rfl)
  obtain ⟨a1, n1, c1, rfl⟩ := okWide_slice Yba.underlying23 (hval 1 23 v1 rfl rfl)
  obtain ⟨a2, n2, c2, rfl⟩ := okWide_slice Yba.underlying24 (hval 2 24 v2 rfl rfl)
  obtain ⟨a3, n3, c3, rfl⟩ := okWide_slice Yba.underlying22 (hval 3 22 v3 rfl rfl)
  obtain ⟨a4, n4, c4, rfl⟩ := okWide_slice Yba.underlying23 (hval 4 23 v4 rfl rfl)
  obtain ⟨a5, n5, c5, rfl⟩ := okWide_slice Yba.underlying24 (hval 5 24 v5 rfl rfl)
  have lt0 : ∀ x ∈ p0, x.block < W.heap.size := by obtain ⟨m, hm⟩ := h0; exact DataW.trod_lt m _ _ _ hm
  have lt1 : ∀ x ∈ p1, x.block < W.heap.size := by obtain ⟨m, hm⟩ := h1; exact DataW.trod_lt m _ _ _ hm
  have lt2 : ∀ x ∈ p2, x.block < W.heap.size := by obtain ⟨m, hm⟩ := h2; exact DataW.trod_lt m _ _ _ hm
  have lt3 : ∀ x ∈ p3, x.block < W.heap.size := by obtain ⟨m, hm⟩ := h3; exact DataW.trod_lt m _ _ _ hm
  have lt4 : ∀ x ∈ p4, x.block < W.heap.size := by obtain ⟨m, hm⟩ := h4; exact DataW.trod_lt m _ _ _ hm
  have lt5 : ∀ x ∈ p5, x.block < W.heap.size := by obtain ⟨m, hm⟩ := h5; exact DataW.trod_lt m _ _ _ hm
  have c55 : Yba.prog.cellsOf 55 = 3 := by kernel_rfl
  have c59 : Yba.prog.cellsOf 59 = 2 := by kernel_rfl
  have c66 : Yba.prog.cellsOf 66 = 3 := by kernel_rfl
  obtain ⟨l0, rfl, R0, L0, N0, _⟩ := open_rows vd_len (by decide) Yba.underlying22 c55 one_vd h0
  obtain ⟨l1, rfl, R1, L1, N1, _⟩ := open_rows an_len (by decide) Yba.underlying23 c59 one_an h1
  obtain ⟨l2, rfl, R2, L2, N2, G2⟩ := open_rows fm_len (by decide) Yba.underlying24 c66 one_fm h2
  obtain ⟨l3, rfl, R3, L3, N3, _⟩ := open_rows vd_len (by decide) Yba.underlying22 c55 one_vd h3
  obtain ⟨l4, rfl, R4, L4, N4, _⟩ := open_rows an_len (by decide) Yba.underlying23 c59 one_an h4
  obtain ⟨l5, rfl, R5, L5, N5, G5⟩ := open_rows fm_len (by decide) Yba.underlying24 c66 one_fm h5
  obtain ⟨f2, D2, K2, J2⟩ := deep_of G2
  obtain ⟨f5, D5, K5, J5⟩ := deep_of G5
  have I : In W a0 a1 a2 a3 a4 a5 c0 c1 c2 c3 c4 c5 l0 l1 l2 f2 l3 l4 l5 f5 :=
    ⟨R0, R1, R2, D2, R3, R4, R5, D5, N0, N1, (fun h => ⟨List.length_eq_zero_iff.1 (by rw [← D2.1, (N2 h).1]; rfl), (N2 h).2⟩), N3, N4, (fun h => ⟨List.length_eq_zero_iff.1 (by rw [← D5.1, (N5 h).1]; rfl), (N5 h).2⟩), J2, J5,
      L0, L1, by rw [← D2.1]; exact L2, L3, L4, by rw [← D5.1]; exact L5, K2, K5⟩
  clear hA0 hval0
  have hw := walk I
  rw [← D2.1, ← D5.1] at hw
  refine Calls.mono hw fun e W' ⟨he, bel⟩ => ?_
  subst he
  exact ⟨_, rfl, _, _, _, [], _, [], hW', trodAll_mk1 (shut_bool Yba.underlying4 _), (trodAll_cons_mk (Below.trod laidOut (by kernel_rfl) (of_decide_eq_true (by kernel_rfl)) h0 bel lt0) (trodAll_cons_mk (Below.trod laidOut (by kernel_rfl) (of_decide_eq_true (by kernel_rfl)) h1 bel lt1) (trodAll_cons_mk (Below.trod laidOut (by kernel_rfl) (of_decide_eq_true (by kernel_rfl)) h2 bel lt2) (trodAll_cons_mk (Below.trod laidOut (by kernel_rfl) (of_decide_eq_true (by kernel_rfl)) h3 bel lt3) (trodAll_cons_mk (Below.trod laidOut (by kernel_rfl) (of_decide_eq_true (by kernel_rfl)) h4 bel lt4) (trodAll_cons_mk (Below.trod laidOut (by kernel_rfl) (of_decide_eq_true (by kernel_rfl)) h5 bel lt5) trodAll_mk0)))))), rfl, bel.frame _, fun h => by cases h⟩

theorem over : Rows.lawS0621APassOnRow.holds Yba.pinned (OpenSpec.ofChange Rows.lawS0621APassOnSpec) :=
  OpenClaim.holds_of_wide 3 Yba.f3 rfl rfl rfl rfl rfl rfl rfl ⟨rfl, rfl, rfl, rfl, rfl⟩ rfl rfl rfl rfl rfl (by kernel_rfl) Yba.func3 (by kernel_rfl)
    (of_decide_eq_true (by kernel_rfl)) (by unfold Func.isWrapper; first | (rw [if_pos (by decide +kernel)]; kernel_rfl) | (rw [if_neg (by decide +kernel)]; exact ⟨rfl, rfl⟩))
    (fun os started H enc _ => lifted os started H enc)

/-- ████ THE STATEMENT ████ -/
theorem proved : Rows.LawS0621APassOnSaid := over
end Go.Proofs.Ybulklvk.lawS0621APassOn
