/-
  A PROOF OF THE GIVEN LAW 'LawS0622BGroups' (the guide's frame at this function's number and types; the arguments' slices opened by hand).
-/
import Derived.Test.YbulklvyLaw
import Derived.ShutString
import Derived.ChangeOld
import Derived.Below
import Derived.Carry
import Derived.Deep.Slices
namespace Go.Proofs.Ybulklvy.lawS0622BGroups
open Go.ChangeShapes Go.WideShapes Go.ChangeAt Go.RowKit
open Go.ChangeMaps (open_string shut_string)
open Go.Proofs.Ybulklvy
set_option linter.unusedVariables false

theorem own : ownKnob Yba.prog.godebug = none := by kernel_rfl
theorem laidOut : laidOutB Yba.prog = true := by kernel_rfl

theorem gather {α : Type} {Q : Nat → α → Prop} : ∀ len : Nat, (∀ i, i < len → ∃ z, Q i z) → ∃ l : List α, l.length = len ∧ ∀ k z, l[k]? = some z → Q k z := by
  intro len
  induction len with
  | zero => exact fun _ => ⟨[], rfl, fun k z hz => by simp at hz⟩
  | succ len ih =>
    intro ev
    obtain ⟨l, h1, h2⟩ := ih (fun i hi => ev i (by omega))
    obtain ⟨z, hz⟩ := ev len (by omega)
    refine ⟨l ++ [z], by simp [h1], fun k y hy => ?_⟩
    by_cases hk : k < l.length
    · rw [List.getElem?_append_left hk] at hy
      exact h2 k y hy
    · have hk2 : k = len := by
        have := (List.getElem?_eq_some_iff.1 hy).1
        simp at this
        omega
      rw [List.getElem?_append_right (by omega)] at hy
      subst hk2
      simp [h1] at hy
      subst hy
      exact hz

section
variable {H : Type} {enc : TypeId × Value → H} {W : World}

/-- A slice that came in, element by element: 'each': what an element's cells are, by its type's reading. -/
theorem open_rows {α : Type} {t e s : Nat} {f : α → List Value} {G : α → Prop} (hs : ∀ a, (f a).length = s) (hs0 : 0 < s) (ht : Yba.prog.underlying t = some (.slice e)) (hc : Yba.prog.cellsOf e = s)
    (each : ∀ (n : Nat) (cs : List Value) (y : DataW H × List MemPlace), cs.length = s → DataW.trod enc Yba.prog W 0 (fun _ => true) true n e cs = some y → ∃ z : α, cs = f z ∧ G z)
    {a : Option Addr} {len cap : Nat} {d : DataW H} {p : List MemPlace} (h : DataW.Trod enc Yba.prog W 0 (fun _ => true) true t (.slice a len cap) d p) :
    ∃ l : List α, l.length = len ∧ RowAt f s W.heap.size W a l ∧ l.length ≤ maxLen ∧ (a = none → l = [] ∧ cap = 0) ∧ ∀ z ∈ l, G z := by
  obtain ⟨fuel, hf⟩ := h
  rcases Deep.open_slice ht hf with ⟨hcs, _⟩ | ⟨x, l, c, m, n, D, Pl, hcs, _, hl, hm, hmm, _, hel⟩
  · simp [Value.cells] at hcs
    obtain ⟨rfl, rfl, rfl⟩ := hcs
    exact ⟨[], rfl, (fun k z hz => by simp at hz), Nat.zero_le _, (fun _ => ⟨rfl, rfl⟩), by simp⟩
  · simp [Value.cells] at hcs
    obtain ⟨rfl, rfl, rfl⟩ := hcs
    simp only [if_true] at hmm
    subst hmm
    rw [hc] at hel
    have ev : ∀ i, i < len → ∃ z : α, G z ∧ ∃ b off, x = ⟨b, off, none⟩ ∧ b < W.heap.size ∧ ∀ j v, (f z)[j]? = some v → W.cell? ⟨b, off + i * s + j, none⟩ = some v := by
      intro i hi
      obtain ⟨cs, h1, h2⟩ := hel i (by omega)
      obtain ⟨_, hcl, hcell⟩ := World.cells?_some h1
      obtain ⟨z, rfl, hG⟩ := each n cs _ hcl h2
      refine ⟨z, hG, ?_⟩
      obtain ⟨b, off, spot⟩ := x
      obtain ⟨cs0, h10, h20⟩ := hel 0 (by omega)
      obtain ⟨_, hcl0, hcell0⟩ := World.cells?_some h10
      have p0 := hcell0 0 hs0
      have hsp : spot = none := by
        match cs0, hcl0 with
        | [], h => simp at h; omega
        | v0 :: _, _ => simpa [Addr.add] using World.cell?_spot p0
      subst hsp
      have key : ∀ j v, (f z)[j]? = some v → W.cell? ⟨b, off + i * s + j, none⟩ = some v := by
        intro j v hv
        have hj : j < s := by rw [← hs z]; exact (List.getElem?_eq_some_iff.1 hv).1
        have := hcell j hj
        rw [Deep.add_add, add_plain, ← Nat.add_assoc] at this
        rw [this, hv]
      refine ⟨b, off, rfl, ?_, key⟩
      have hz0 : 0 < (f z).length := by rw [hs z]; exact hs0
      exact World.block_lt_of_cell? W _ (key 0 _ (List.getElem?_eq_getElem hz0))
    have ex : ∃ l : List α, l.length = len ∧ ∀ k z, l[k]? = some z → G z ∧ ∃ b off, x = ⟨b, off, none⟩ ∧ b < W.heap.size ∧ ∀ j v, (f z)[j]? = some v → W.cell? ⟨b, off + k * s + j, none⟩ = some v := gather len ev
    obtain ⟨l, h1, h2⟩ := ex
    refine ⟨l, h1, fun k z hz => ?_, by omega, (fun h => by cases h), fun z hz => ?_⟩
    · obtain ⟨_, b, off, rfl, r⟩ := h2 k z hz
      exact ⟨b, off, rfl, r⟩
    · obtain ⟨k, hk⟩ := List.getElem?_of_mem hz
      exact (h2 k z hk).1

theorem wf_u8 {n : Int} (h : (Lit.int .u8 n).wf = true) : 0 ≤ n ∧ n ≤ 255 := by have h2 := h; simp [Lit.wf] at h2; exact h2
theorem wf_u16 {n : Int} (h : (Lit.int .u16 n).wf = true) : 0 ≤ n ∧ n ≤ 65535 := by have h2 := h; simp [Lit.wf] at h2; exact h2
theorem wf_u32 {n : Int} (h : (Lit.int .u32 n).wf = true) : 0 ≤ n ∧ n ≤ 4294967295 := by have h2 := h; simp [Lit.wf] at h2; exact h2

set_option maxRecDepth 100000 in
theorem one_za (n : Nat) (cs : List Value) (y : DataW H × List MemPlace) (hlen : cs.length = 3) (h : DataW.trod enc Yba.prog W 0 (fun _ => true) true n 60 cs = some y) : ∃ z : Za, cs = z.cells ∧ z.ok := by
  obtain ⟨xs, k, hk, hxy, _, hxl, hf⟩ := DataW.trod_struct Yba.underlying60 h
  have c5 : Yba.prog.cellsOf 5 = 1 := by kernel_rfl
  have c43 : Yba.prog.cellsOf 43 = 1 := by kernel_rfl
  match cs, hlen with
  | [v0, v1, v2], _ =>
    match xs, hxl with
    | [y0, y1, y2], _ =>
      have g0 := hf 0 _ rfl
      have g1 := hf 1 _ rfl
      have g2 := hf 2 _ rfl
      simp [c5, c43] at g0 g1 g2
      obtain ⟨a, e0, _, w0⟩ := DataW.trod_int Yba.underlying5 g0
      obtain ⟨b, e1, _, w1⟩ := DataW.trod_int Yba.underlying43 g1
      obtain ⟨c, e2, _, w2⟩ := DataW.trod_int Yba.underlying5 g2
      simp at e0 e1 e2
      subst e0 e1 e2
      exact ⟨⟨a, b, c⟩, rfl, wf_u8 w0, wf_u32 w1, wf_u8 w2⟩

theorem one_u16 (n : Nat) (cs : List Value) (y : DataW H × List MemPlace) (hlen : cs.length = 1) (h : DataW.trod enc Yba.prog W 0 (fun _ => true) true n 84 cs = some y) : ∃ z : Int, cs = u16c z ∧ (0 ≤ z ∧ z ≤ 65535) := by
  obtain ⟨a, e0, _, w0⟩ := DataW.trod_int Yba.underlying84 h
  exact ⟨a, e0, wf_u16 w0⟩
theorem one_u8 (n : Nat) (cs : List Value) (y : DataW H × List MemPlace) (hlen : cs.length = 1) (h : DataW.trod enc Yba.prog W 0 (fun _ => true) true n 5 cs = some y) : ∃ z : Int, cs = u8c z ∧ (0 ≤ z ∧ z ≤ 255) := by
  obtain ⟨a, e0, _, w0⟩ := DataW.trod_int Yba.underlying5 h
  exact ⟨a, e0, wf_u8 w0⟩

/-- A group's holders lie behind its slice. -/
def GG (W : World) (s : Sl) : Prop := ∃ g : List Int, s.n = g.length ∧ RowAt u8c 1 W.heap.size W s.a g ∧ g.length ≤ maxLen ∧ ∀ x ∈ g, 0 ≤ x ∧ x ≤ 255

set_option maxRecDepth 100000 in
theorem one_sl (n : Nat) (cs : List Value) (y : DataW H × List MemPlace) (hlen : cs.length = 1) (h : DataW.trod enc Yba.prog W 0 (fun _ => true) true n 55 cs = some y) : ∃ z : Sl, cs = z.cells ∧ GG W z := by
  have c5 : Yba.prog.cellsOf 5 = 1 := by kernel_rfl
  match cs, hlen with
  | [v0], _ =>
    have hv : ∃ sl nn cc, v0 = .slice sl nn cc := by
      rcases Deep.open_slice Yba.underlying55 h with ⟨hcs, _⟩ | ⟨x, l, c, m, n, D, Pl, hcs, _⟩
      · simp at hcs; exact ⟨_, _, _, hcs⟩
      · simp at hcs; exact ⟨_, _, _, hcs⟩
    obtain ⟨sl, nn, cc, rfl⟩ := hv
    obtain ⟨g, h1, h2, h3, _, h5⟩ := open_rows (W := W) (enc := enc) u8_len (by decide) Yba.underlying55 c5 one_u8 (a := sl) (len := nn) (cap := cc) (d := y.1) (p := y.2) ⟨_, h⟩
    exact ⟨⟨sl, nn, cc⟩, rfl, g, h1.symm, h2, h3, h5⟩
end

/-- The groups, read through. -/
theorem conc_in {W : World} {sls : List Sl} (h : ∀ s ∈ sls, GG W s) : ∃ gs : List (List Int), sls.length = gs.length ∧ (∀ (i : Nat) (s : Sl) (g : List Int), sls[i]? = some s → gs[i]? = some g → s.n = g.length ∧ RowAt u8c 1 W.heap.size W s.a g) ∧ (∀ g ∈ gs, g.length ≤ maxLen) ∧ ∀ g ∈ gs, ∀ x ∈ g, 0 ≤ x ∧ x ≤ 255 := by
  induction sls with
  | nil => exact ⟨[], rfl, fun i s g hs => by simp at hs, by simp, by simp⟩
  | cons s sls ih =>
    obtain ⟨gs, h1, h2, h3, h4⟩ := ih (fun s' hs' => h s' (by simp [hs']))
    obtain ⟨g, e1, e2, e3, e4⟩ := h s (by simp)
    refine ⟨g :: gs, by simp [h1], fun i x y hx hy => ?_, ?_, ?_⟩
    · cases i with
      | zero => simp at hx hy; subst hx hy; exact ⟨e1, e2⟩
      | succ i => exact h2 i x y (by simpa using hx) (by simpa using hy)
    · intro y hy
      rcases List.mem_cons.1 hy with rfl | hy
      · exact e3
      · exact h3 y hy
    · intro y hy
      rcases List.mem_cons.1 hy with rfl | hy
      · exact e4
      · exact h4 y hy

theorem walk {w : World} {zs : List Za} {pz pa po pk pn pc : Option Addr} {xa xo xk xn : List Int} {gs : List (List Int)} {cz ca co ck cn cc : Nat} (I : In w zs pz pa po pk pn pc xa xo xk xn gs) (listed minor : Bool) :
    Calls Yba.prog 4 #[.slice pz zs.length cz, .bool listed, .slice pa xa.length ca, .slice po xo.length co, .slice pk xk.length ck, .slice pn xn.length cn, .bool minor, .slice pc gs.length cc] w fun e w' => e = .returned (.bool true) ∧ Below w.heap.size w w' := by
  by_cases b0 : 1024 < zs.length
  · exact law_big I listed minor (.inl b0)
  by_cases b1 : 1024 < xa.length
  · exact law_big I listed minor (.inr (.inl b1))
  by_cases b2 : 1024 < xo.length
  · exact law_big I listed minor (.inr (.inr (.inl b2)))
  by_cases b3 : 1024 < xk.length
  · exact law_big I listed minor (.inr (.inr (.inr (.inl b3))))
  by_cases b4 : 1024 < xn.length
  · exact law_big I listed minor (.inr (.inr (.inr (.inr (.inl b4)))))
  by_cases b5 : 64 < gs.length
  · exact law_big I listed minor (.inr (.inr (.inr (.inr (.inr b5)))))
  exact law_small I listed minor (by omega) (by omega) (by omega) (by omega) (by omega) (by omega)

set_option maxRecDepth 100000 in
theorem lifted (os : Os) (started : os.Started) (H : Type) (enc : TypeId × Value → H) :
    ReturnsInHanded {} Yba.checked os 4 .any (Rows.lawS0622BGroupsSpec.pre6 enc Yba.prog Yba.f4 Rows.lawS0622BGroupsRow.domain false) (Rows.lawS0622BGroupsSpec.post enc Yba.prog Yba.f4 false true false false) := by
  refine returnsInHanded_of_change (C := Yba.checked) own started (by kernel_rfl) Yba.func4
    (ChangeSpec.witness6 (enc := enc) (C := Yba.checked) false ⟨#[], #[.slice none 0 0, .bool false, .slice none 0 0, .slice none 0 0, .slice none 0 0, .slice none 0 0, .bool false, .slice none 0 0], []⟩ 8 (by kernel_rfl) (by kernel_rfl) (by kernel_rfl) (by kernel_rfl)) ?_
  intro W base args ds gs before hval0 hW hcnd _
  have hval : ∀ (j : Nat) t v, Yba.f4.params[j]? = some t → args[j]? = some v → Value.okWide Yba.prog W .any base t v := hval0
  have hW' := hW
  obtain ⟨p, q, hA0, hV, rfl, hfz, hnd⟩ := hW
  have hA : DataW.TrodAll enc Yba.prog W 0 (fun _ => true) true Yba.f4.params.toList args.toList ds p := hA0
  rw [Yba.params4] at hA hval
  obtain ⟨v0, vs0, d0, ds0, p0, q0, hargs, rfl, rfl, h0, r0⟩ := trodAll_cons hA
  obtain ⟨v1, vs1, d1, ds1, p1, q1, rfl, rfl, rfl, h1, r1⟩ := trodAll_cons r0
  obtain ⟨v2, vs2, d2, ds2, p2, q2, rfl, rfl, rfl, h2, r2⟩ := trodAll_cons r1
  obtain ⟨v3, vs3, d3, ds3, p3, q3, rfl, rfl, rfl, h3, r3⟩ := trodAll_cons r2
  obtain ⟨v4, vs4, d4, ds4, p4, q4, rfl, rfl, rfl, h4, r4⟩ := trodAll_cons r3
  obtain ⟨v5, vs5, d5, ds5, p5, q5, rfl, rfl, rfl, h5, r5⟩ := trodAll_cons r4
  obtain ⟨v6, vs6, d6, ds6, p6, q6, rfl, rfl, rfl, h6, r6⟩ := trodAll_cons r5
  obtain ⟨v7, vs7, d7, ds7, p7, q7, rfl, rfl, rfl, h7, r7⟩ := trodAll_cons r6
  obtain ⟨rfl, rfl, rfl⟩ := trodAll_nil r7
  obtain rfl : args = #[v0, v1, v2, v3, v4, v5, v6, v7] := by cases args; simp_all
  obtain ⟨rfl, rfl⟩ := trodVars_none hV
  obtain ⟨a0, n0, c0, rfl⟩ := okWide_slice Yba.underlying52 (hval 0 52 v0 rfl rfl)
  obtain ⟨listed, rfl, rfl, rfl⟩ := open_bool Yba.underlying4 (hval 1 4 v1 rfl rfl) h1
  obtain ⟨a2, n2, c2, rfl⟩ := okWide_slice Yba.underlying53 (hval 2 53 v2 rfl rfl)
  obtain ⟨a3, n3, c3, rfl⟩ := okWide_slice Yba.underlying53 (hval 3 53 v3 rfl rfl)
  obtain ⟨a4, n4, c4, rfl⟩ := okWide_slice Yba.underlying53 (hval 4 53 v4 rfl rfl)
  obtain ⟨a5, n5, c5, rfl⟩ := okWide_slice Yba.underlying53 (hval 5 53 v5 rfl rfl)
  obtain ⟨minor, rfl, rfl, rfl⟩ := open_bool Yba.underlying4 (hval 6 4 v6 rfl rfl) h6
  obtain ⟨a7, n7, c7, rfl⟩ := okWide_slice Yba.underlying54 (hval 7 54 v7 rfl rfl)
  have lt0 : ∀ x ∈ p0, x.block < W.heap.size := by obtain ⟨m, hm⟩ := h0; exact DataW.trod_lt m _ _ _ hm
  have lt2 : ∀ x ∈ p2, x.block < W.heap.size := by obtain ⟨m, hm⟩ := h2; exact DataW.trod_lt m _ _ _ hm
  have lt3 : ∀ x ∈ p3, x.block < W.heap.size := by obtain ⟨m, hm⟩ := h3; exact DataW.trod_lt m _ _ _ hm
  have lt4 : ∀ x ∈ p4, x.block < W.heap.size := by obtain ⟨m, hm⟩ := h4; exact DataW.trod_lt m _ _ _ hm
  have lt5 : ∀ x ∈ p5, x.block < W.heap.size := by obtain ⟨m, hm⟩ := h5; exact DataW.trod_lt m _ _ _ hm
  have lt7 : ∀ x ∈ p7, x.block < W.heap.size := by obtain ⟨m, hm⟩ := h7; exact DataW.trod_lt m _ _ _ hm
  have c60 : Yba.prog.cellsOf 60 = 3 := by kernel_rfl
  have c84 : Yba.prog.cellsOf 84 = 1 := by kernel_rfl
  have c55 : Yba.prog.cellsOf 55 = 1 := by kernel_rfl
  obtain ⟨zs, rfl, R0, L0, _, G0⟩ := open_rows za_len (by decide) Yba.underlying52 c60 one_za h0
  obtain ⟨xa, rfl, R2, L2, _, G2⟩ := open_rows u16_len (by decide) Yba.underlying53 c84 one_u16 h2
  obtain ⟨xo, rfl, R3, L3, _, G3⟩ := open_rows u16_len (by decide) Yba.underlying53 c84 one_u16 h3
  obtain ⟨xk, rfl, R4, L4, _, G4⟩ := open_rows u16_len (by decide) Yba.underlying53 c84 one_u16 h4
  obtain ⟨xn, rfl, R5, L5, _, G5⟩ := open_rows u16_len (by decide) Yba.underlying53 c84 one_u16 h5
  obtain ⟨sls, rfl, R7, L7, _, G7⟩ := open_rows sl_len (by decide) Yba.underlying54 c55 one_sl h7
  obtain ⟨cg, E1, E2, E3, E4⟩ := conc_in G7
  have I : In W zs a0 a2 a3 a4 a5 a7 xa xo xk xn cg := ⟨R0, R2, R3, R4, R5, ⟨sls, R7, E1, E2⟩, G0, G2, G3, G4, G5, E4, L0, L2, L3, L4, L5, by rw [← E1]; exact L7, E3⟩
  clear hA0 hval0
  have hw := walk (cz := c0) (ca := c2) (co := c3) (ck := c4) (cn := c5) (cc := c7) I listed minor
  rw [← E1] at hw
  refine Calls.mono hw fun e W' ⟨he, bel⟩ => ?_
  subst he
  exact ⟨_, rfl, _, _, _, [], _, [], hW', trodAll_mk1 (shut_bool Yba.underlying4 _), (trodAll_cons_mk (Below.trod laidOut (by kernel_rfl) (of_decide_eq_true (by kernel_rfl)) h0 bel lt0) (trodAll_cons_mk (shut_bool Yba.underlying4 _) (trodAll_cons_mk (Below.trod laidOut (by kernel_rfl) (of_decide_eq_true (by kernel_rfl)) h2 bel lt2) (trodAll_cons_mk (Below.trod laidOut (by kernel_rfl) (of_decide_eq_true (by kernel_rfl)) h3 bel lt3) (trodAll_cons_mk (Below.trod laidOut (by kernel_rfl) (of_decide_eq_true (by kernel_rfl)) h4 bel lt4) (trodAll_cons_mk (Below.trod laidOut (by kernel_rfl) (of_decide_eq_true (by kernel_rfl)) h5 bel lt5) (trodAll_cons_mk (shut_bool Yba.underlying4 _) (trodAll_cons_mk (Below.trod laidOut (by kernel_rfl) (of_decide_eq_true (by kernel_rfl)) h7 bel lt7) trodAll_mk0)))))))), rfl, bel.frame _, fun h => by cases h⟩

theorem over : Rows.lawS0622BGroupsRow.holds Yba.pinned (OpenSpec.ofChange Rows.lawS0622BGroupsSpec) :=
  OpenClaim.holds_of_wide 4 Yba.f4 rfl rfl rfl rfl rfl rfl rfl ⟨rfl, rfl, rfl, rfl, rfl⟩ rfl rfl rfl rfl rfl (by kernel_rfl) Yba.func4 (by kernel_rfl)
    (of_decide_eq_true (by kernel_rfl)) (by unfold Func.isWrapper; first | (rw [if_pos (by decide +kernel)]; kernel_rfl) | (rw [if_neg (by decide +kernel)]; exact ⟨rfl, rfl⟩))
    (fun os started H enc _ => lifted os started H enc)

/-- ████ THE STATEMENT ████ -/
theorem proved : Rows.LawS0622BGroupsSaid := over
end Go.Proofs.Ybulklvy.lawS0622BGroups
