/-
  A PROOF OF THE GIVEN LAW 'LawS0621BBounds' (the guide's frame at this function's number and types; the argument's slice of structs opened by hand).
-/
import Derived.Test.YbulklvkBoundsWalk
import Derived.ShutString
import Derived.ChangeOld
import Derived.Below
import Derived.Carry
import Derived.Deep.Slices
namespace Go.Proofs.Ybulklvk.lawS0621BBounds
open Go.ChangeShapes Go.WideShapes Go.ChangeAt Go.RowKit
open Go.ChangeMaps (open_string shut_string)
set_option linter.unusedVariables false

theorem own : ownKnob Yba.prog.godebug = none := by kernel_rfl
theorem laidOut : laidOutB Yba.prog = true := by kernel_rfl

section
variable {H : Type} {enc : TypeId × Value → H} {W : World}

theorem trod_f64 {t : TypeId} {fuel : Nat} {cs : List Value} {x : DataW H × List MemPlace} (ht : Yba.prog.underlying t = some (.float .f64)) (h : DataW.trod enc Yba.prog W 0 (fun _ => true) true fuel t cs = some x) : ∃ n : Nat, cs = [.float .f64 n] := by
  cases fuel with
  | zero => simp [DataW.trod] at h
  | succ n =>
    unfold DataW.trod at h
    rw [ht] at h
    split at h <;> simp_all

set_option maxRecDepth 100000 in
theorem one_link {n : Nat} {cs : List Value} {y : DataW H × List MemPlace} (hlen : cs.length = 5) (h : DataW.trod enc Yba.prog W 0 (fun _ => true) true n 81 cs = some y) :
    ∃ z : Zr, cs = [.int .u8 z.a, .int .u8 z.b, .int .i64 z.c, .int .i64 z.d, .float .f64 z.e] ∧ (0 ≤ z.a ∧ z.a ≤ 255) ∧ (0 ≤ z.b ∧ z.b ≤ 255) := by
  obtain ⟨xs, k, hk, hxy, _, hxl, hf⟩ := DataW.trod_struct Yba.underlying81 h
  have c5 : Yba.prog.cellsOf 5 = 1 := by kernel_rfl
  have c2 : Yba.prog.cellsOf 2 = 1 := by kernel_rfl
  have c72 : Yba.prog.cellsOf 72 = 1 := by kernel_rfl
  match cs, hlen with
  | [v0, v1, v2, v3, v4], _ =>
    match xs, hxl with
    | [y0, y1, y2, y3, y4], _ =>
      have g0 := hf 0 _ rfl
      have g1 := hf 1 _ rfl
      have g2 := hf 2 _ rfl
      have g3 := hf 3 _ rfl
      have g4 := hf 4 _ rfl
      simp [c5, c2, c72] at g0 g1 g2 g3 g4
      obtain ⟨a, e0, _, w0⟩ := DataW.trod_int Yba.underlying5 g0
      obtain ⟨b, e1, _, w1⟩ := DataW.trod_int Yba.underlying5 g1
      obtain ⟨c, e2, _, _⟩ := DataW.trod_int Yba.underlying2 g2
      obtain ⟨d, e3, _, _⟩ := DataW.trod_int Yba.underlying2 g3
      obtain ⟨e, e4⟩ := trod_f64 Yba.underlying72 g4
      simp at e0 e1 e2 e3 e4
      subst e0 e1 e2 e3 e4
      exact ⟨⟨a, b, c, d, e⟩, rfl, bounds_u8 w0, bounds_u8 w1⟩

theorem open_links {a : Option Addr} {len cap : Nat} {d : DataW H} {p : List MemPlace} (h : DataW.Trod enc Yba.prog W 0 (fun _ => true) true 79 (.slice a len cap) d p) :
    ∃ zs : List Zr, zs.length = len ∧ IsRaw W a zs ∧ zs.length ≤ maxLen := by
  obtain ⟨fuel, hf⟩ := h
  have c81 : Yba.prog.cellsOf 81 = 5 := by kernel_rfl
  rcases Deep.open_slice Yba.underlying79 hf with ⟨hcs, _⟩ | ⟨x, l, c, m, n, D, Pl, hcs, _, hl, hm, hmm, _, hel⟩
  · simp [Value.cells] at hcs
    obtain ⟨rfl, rfl, rfl⟩ := hcs
    exact ⟨[], rfl, fun k z hz => by simp at hz, Nat.zero_le _⟩
  · simp [Value.cells] at hcs
    obtain ⟨rfl, rfl, rfl⟩ := hcs
    simp only [if_true] at hmm
    subst hmm
    rw [c81] at hel
    have each : ∀ i, i < len → ∃ z : Zr, ∃ b off, x = ⟨b, off, none⟩ ∧ b < W.heap.size ∧ W.cell? ⟨b, off + i * 5, none⟩ = some (.int .u8 z.a) ∧ W.cell? ⟨b, off + i * 5 + 1, none⟩ = some (.int .u8 z.b) ∧
        W.cell? ⟨b, off + i * 5 + 2, none⟩ = some (.int .i64 z.c) ∧ W.cell? ⟨b, off + i * 5 + 3, none⟩ = some (.int .i64 z.d) ∧ W.cell? ⟨b, off + i * 5 + 4, none⟩ = some (.float .f64 z.e) ∧
        (0 ≤ z.a ∧ z.a ≤ 255) ∧ (0 ≤ z.b ∧ z.b ≤ 255) := by
      intro i hi
      obtain ⟨cs, h1, h2⟩ := hel i (by omega)
      obtain ⟨_, hcl, hcell⟩ := World.cells?_some h1
      obtain ⟨z, rfl, b1, b2⟩ := one_link hcl h2
      have q0 := hcell 0 (by omega)
      have q1 := hcell 1 (by omega)
      have q2 := hcell 2 (by omega)
      have q3 := hcell 3 (by omega)
      have q4 := hcell 4 (by omega)
      rw [Deep.add_add] at q0 q1 q2 q3 q4
      obtain ⟨b, off, spot⟩ := x
      have hel0 := hel 0 (by omega)
      obtain ⟨cs0, h10, _⟩ := hel0
      obtain ⟨_, hcl0, hcell0⟩ := World.cells?_some h10
      have p0 := hcell0 0 (by omega)
      have hsp : spot = none := by
        match cs0, hcl0 with
        | v0 :: _, _ => simpa [Addr.add] using World.cell?_spot p0
      subst hsp
      simp only [add_plain, ← Nat.add_assoc] at q0 q1 q2 q3 q4
      exact ⟨z, b, off, rfl, World.block_lt_of_cell? W _ q0, q0, q1, q2, q3, q4, b1, b2⟩
    have ex : ∃ f : Nat → Zr, ∀ i, i < len → ∃ b off, x = ⟨b, off, none⟩ ∧ b < W.heap.size ∧ W.cell? ⟨b, off + i * 5, none⟩ = some (.int .u8 (f i).a) ∧ W.cell? ⟨b, off + i * 5 + 1, none⟩ = some (.int .u8 (f i).b) ∧
        W.cell? ⟨b, off + i * 5 + 2, none⟩ = some (.int .i64 (f i).c) ∧ W.cell? ⟨b, off + i * 5 + 3, none⟩ = some (.int .i64 (f i).d) ∧ W.cell? ⟨b, off + i * 5 + 4, none⟩ = some (.float .f64 (f i).e) ∧
        (0 ≤ (f i).a ∧ (f i).a ≤ 255) ∧ (0 ≤ (f i).b ∧ (f i).b ≤ 255) := by
      classical
      exact ⟨fun i => if hi : i < len then Classical.choose (each i hi) else ⟨0, 0, 0, 0, 0⟩, fun i hi => by simp only [dif_pos hi]; exact Classical.choose_spec (each i hi)⟩
    obtain ⟨f, hfz⟩ := ex
    refine ⟨(List.range len).map f, by simp, fun k z hz => ?_, by simp; omega⟩
    simp only [List.getElem?_map, Option.map_eq_some_iff] at hz
    obtain ⟨j, hj, rfl⟩ := hz
    obtain ⟨hk, e⟩ := List.getElem?_eq_some_iff.1 hj
    simp at e hk
    subst e
    obtain ⟨b, off, rfl, r⟩ := hfz k hk
    exact ⟨b, off, rfl, r⟩
end

set_option maxRecDepth 100000 in
theorem lifted (os : Os) (started : os.Started) (H : Type) (enc : TypeId × Value → H) :
    ReturnsInHanded {} Yba.checked os 5 .any (Rows.lawS0621BBoundsSpec.pre6 enc Yba.prog Yba.f5 Rows.lawS0621BBoundsRow.domain false) (Rows.lawS0621BBoundsSpec.post enc Yba.prog Yba.f5 false true false false) := by
  refine returnsInHanded_of_change (C := Yba.checked) own started (by kernel_rfl) Yba.func5
    (ChangeSpec.witness6 (enc := enc) (C := Yba.checked) false ⟨#[], #[.slice none 0 0, .int .u8 0, .int .u8 0, .int .i64 0, .int .u64 0], []⟩ 8 (by kernel_rfl) (by kernel_rfl) (by kernel_rfl) (by kernel_rfl)) ?_
  intro W base args ds gs before hval0 hW hcnd _
  have hval : ∀ (j : Nat) t v, Yba.f5.params[j]? = some t → args[j]? = some v → Value.okWide Yba.prog W .any base t v := hval0
  have hW' := hW
  obtain ⟨p, q, hA0, hV, rfl, hfz, hnd⟩ := hW
  have hA : DataW.TrodAll enc Yba.prog W 0 (fun _ => true) true Yba.f5.params.toList args.toList ds p := hA0
  rw [Yba.params5] at hA hval
  obtain ⟨v0, vs0, d0, ds0, p0, q0, hargs, rfl, rfl, h0, r0⟩ := trodAll_cons hA
  obtain ⟨v1, vs1, d1, ds1, p1, q1, rfl, rfl, rfl, h1, r1⟩ := trodAll_cons r0
  obtain ⟨v2, vs2, d2, ds2, p2, q2, rfl, rfl, rfl, h2, r2⟩ := trodAll_cons r1
  obtain ⟨v3, vs3, d3, ds3, p3, q3, rfl, rfl, rfl, h3, r3⟩ := trodAll_cons r2
  obtain ⟨v4, vs4, d4, ds4, p4, q4, rfl, rfl, rfl, h4, r4⟩ := trodAll_cons r3
  obtain ⟨rfl, rfl, rfl⟩ := trodAll_nil r4
  obtain rfl : args = #[v0, v1, v2, v3, v4] := by cases args; simp_all
  obtain ⟨rfl, rfl⟩ := trodVars_none hV
  obtain ⟨a0, len0, cap0, rfl⟩ := okWide_slice Yba.underlying79 (hval 0 79 v0 rfl rfl)
  have k0 := h0
  have lt0 : ∀ x ∈ p0, x.block < W.heap.size := by obtain ⟨m, hm⟩ := k0; exact DataW.trod_lt m _ _ _ hm
  obtain ⟨zs, rfl, wz, hzl⟩ := open_links h0
  obtain ⟨a1, rfl, rfl, rfl, w1⟩ := open_int Yba.underlying5 (hval 1 5 v1 rfl rfl) h1
  obtain ⟨a2, rfl, rfl, rfl, w2⟩ := open_int Yba.underlying5 (hval 2 5 v2 rfl rfl) h2
  obtain ⟨a3, rfl, rfl, rfl, w3⟩ := open_int Yba.underlying2 (hval 3 2 v3 rfl rfl) h3
  obtain ⟨a4, rfl, rfl, rfl, w4⟩ := open_int Yba.underlying36 (hval 4 36 v4 rfl rfl) h4
  clear hA0 hval0
  refine (bounds_walk a0 cap0 zs a1 a2 a3 a4 W wz (bounds_u8 w1) (bounds_u8 w2) hzl).mono fun e W' ⟨he, bel⟩ => ?_
  subst he
  exact ⟨_, rfl, _, _, _, [], _, [], hW', trodAll_mk1 (shut_bool Yba.underlying4 _), (trodAll_cons_mk (Below.trod laidOut (by kernel_rfl) (of_decide_eq_true (by kernel_rfl)) k0 bel lt0) (trodAll_cons_mk (shut_int Yba.underlying5 w1) (trodAll_cons_mk (shut_int Yba.underlying5 w2) (trodAll_cons_mk (shut_int Yba.underlying2 w3) (trodAll_cons_mk (shut_int Yba.underlying36 w4) trodAll_mk0))))), rfl, bel.frame _, fun h => by cases h⟩

theorem over : Rows.lawS0621BBoundsRow.holds Yba.pinned (OpenSpec.ofChange Rows.lawS0621BBoundsSpec) :=
  OpenClaim.holds_of_wide 5 Yba.f5 rfl rfl rfl rfl rfl rfl rfl ⟨rfl, rfl, rfl, rfl, rfl⟩ rfl rfl rfl rfl rfl (by kernel_rfl) Yba.func5 (by kernel_rfl)
    (of_decide_eq_true (by kernel_rfl)) (by unfold Func.isWrapper; first | (rw [if_pos (by decide +kernel)]; kernel_rfl) | (rw [if_neg (by decide +kernel)]; exact ⟨rfl, rfl⟩))
    (fun os started H enc _ => lifted os started H enc)

/-- ████ THE STATEMENT ████ -/
theorem proved : Rows.LawS0621BBoundsSaid := over
end Go.Proofs.Ybulklvk.lawS0621BBounds
