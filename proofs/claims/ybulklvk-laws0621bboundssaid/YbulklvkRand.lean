/-
  math/rand/v2's PCG and Rand, as far as 'lost' goes through them: whatever is drawn, a float comes back, and the generator's own two words alone have turned.
-/
import Derived.Test.YbulklvkRows
import Derived.WalkKit
import Derived.WalkSpells
import Derived.ProofKit
import Derived.OpenShut
import Derived.Laws.Externs
import Derived.Laws.FloatArith
import Derived.Shelf.Spec.BitsCarry
import Derived.Deep.QuietTactic
import Derived.BigQuiet
import Derived.Deep.RegionHeld3
namespace Go.Proofs.Ybulklvk
open Go.ChangeShapes Go.WideShapes Go.ChangeAt Go.RowKit
set_option linter.unusedVariables false

def aS (x y c : Int) : Int := (((x.toNat + y.toNat + c.toNat) % 18446744073709551616 : Nat) : Int)
def aC (x y c : Int) : Int := (((x.toNat + y.toNat + c.toNat) / 18446744073709551616 : Nat) : Int)
theorem aS_bd (x y c : Int) : 0 ≤ aS x y c ∧ aS x y c ≤ 18446744073709551615 := by unfold aS; omega
theorem aC_bd (x y c : Int) (hx : x ≤ 18446744073709551615) (hy : y ≤ 18446744073709551615) (hc : c ≤ 1) : 0 ≤ aC x y c ∧ aC x y c ≤ 1 := by unfold aC; omega

theorem add64 (x y c : Int) (hx : 0 ≤ x) (hy : 0 ≤ y) (hc0 : 0 ≤ c) (hc : c ≤ 1) (hx' : x ≤ 18446744073709551615) (hy' : y ≤ 18446744073709551615) (w : World) :
    (callFunc 61 #[.int .u64 x, .int .u64 y, .int .u64 c]).run Yba.prog w = .ok (.value (.tuple #[.int .u64 (aS x y c), .int .u64 (aC x y c)])) w := by
  obtain ⟨x, rfl⟩ := Int.eq_ofNat_of_zero_le hx
  obtain ⟨y, rfl⟩ := Int.eq_ofNat_of_zero_le hy
  obtain ⟨c, rfl⟩ := Int.eq_ofNat_of_zero_le hc0
  rw [run_callFunc_extern Yba.func61 (by kernel_rfl) (by kernel_rfl) (by kernel_rfl) (e := add64Entry) (by kernel_rfl), run_add64 x y c (by omega) (by omega) (by omega) (by omega)]
  simp only [Result.andThen]
  unfold aS aC
  congr 5 <;> simp

theorem add64_one (x : Int) (hx : 0 ≤ x) (hx' : x ≤ 18446744073709551615) (w : World) :
    (callFunc 61 #[.int .u64 x, .int .u64 1442695040888963407, .int .u64 0]).run Yba.prog w = .ok (.value (.tuple #[.int .u64 (aS x 1442695040888963407 0), .int .u64 (aC x 1442695040888963407 0)])) w :=
  add64 x _ _ hx (by decide) (by decide) (by decide) hx' (by decide) w
theorem add64_two (x m : Int) (hm : m ≤ 18446744073709551615) (w : World) :
    (callFunc 61 #[.int .u64 (IntKind.u64.wrap x), .int .u64 6364136223846793005, .int .u64 (aC m 1442695040888963407 0)]).run Yba.prog w = .ok (.value (.tuple #[.int .u64 (aS (IntKind.u64.wrap x) 6364136223846793005 (aC m 1442695040888963407 0)), .int .u64 (aC (IntKind.u64.wrap x) 6364136223846793005 (aC m 1442695040888963407 0))])) w := by
  have hb := bounds_u64 (wf_wrap .u64 x)
  have hc := aC_bd m 1442695040888963407 0 hm (by decide) (by decide)
  exact add64 _ _ _ hb.1 (by decide) hc.1 hc.2 hb.2 (by decide) w

theorem mul64 (x y : Int) (w : World) :
    Calls Yba.prog 60 #[.int .u64 x, .int .u64 y] w fun e w' => (∃ a b : Int, e = .returned (.tuple #[.int .u64 a, .int .u64 b]) ∧ (0 ≤ b ∧ b ≤ 18446744073709551615)) ∧ w' = w := by
  go_enter Yba.func60, Yba.ntmps60
  go_wp2
  go_ret2
  exact ⟨⟨_, _, rfl, bounds_u64 (wf_wrap .u64 _)⟩, rfl⟩

/-- The generator's two words lie in block b. -/
def PcgAt (w : World) (b : Nat) : Prop := ∃ hi lo : Int, w.heap[b]? = some (.cells #[.int .u64 hi, .int .u64 lo] 105 (0, 0))

theorem pcg_cell0 {w : World} {b : Nat} {x y : Value} (h : w.heap[b]? = some (.cells #[x, y] 105 (0, 0))) : w.cell? ⟨b, 0, none⟩ = some x := by simp [World.cell?, h]
theorem pcg_cell1 {w : World} {b : Nat} {x y : Value} (h : w.heap[b]? = some (.cells #[x, y] 105 (0, 0))) : w.cell? ⟨b, 1, none⟩ = some y := by simp [World.cell?, h]
theorem pcg_frozen {w : World} {b : Nat} {x y : Value} (h : w.heap[b]? = some (.cells #[x, y] 105 (0, 0))) (o : Nat) : w.frozen? ⟨b, o, none⟩ = false := by simp [World.frozen?, h]

theorem stepped (w : World) (n b : Nat) (u v x y : Value) (h : w.heap[b]? = some (.cells #[x, y] 105 (0, 0))) :
    w.grownBy (((w.drewN n).setCell ⟨b, 1, none⟩ u).setCell ⟨b, 0, none⟩ v) (some b) ∧ (((w.drewN n).setCell ⟨b, 1, none⟩ u).setCell ⟨b, 0, none⟩ v).heap[b]? = some (.cells #[v, u] 105 (0, 0)) := by
  refine ⟨⟨rfl, rfl, rfl, by simp [World.setCell], fun k hk hne => ?_⟩, ?_⟩
  · have hne' : b ≠ k := fun e => hne (by rw [e])
    simp [World.setCell, Array.getElem?_modify, hne']
  · simp [World.setCell, Array.getElem?_modify, h]

set_option maxHeartbeats 1000000 in
theorem next_any (b : Nat) (w : World) (h : PcgAt w b) :
    Calls Yba.prog 59 #[.pointer (some ⟨b, 0, none⟩)] w fun e w' => (∃ x y : Int, e = .returned (.tuple #[.int .u64 x, .int .u64 y])) ∧ w.grownBy w' (some b) ∧ PcgAt w' b := by
  obtain ⟨hi, lo, h⟩ := h
  have h0 := pcg_cell0 h
  have h1 := pcg_cell1 h
  have f0 := pcg_frozen h 0
  have f1 := pcg_frozen h 1
  have H : Hid (w.heap[b]? = some (.cells #[.int .u64 hi, .int .u64 lo] 105 (0, 0))) := h
  clear h
  go_enter Yba.func59, Yba.ntmps59
  go_wp2_with (go_at_call 60; refine (mul64 _ _ _).mono ?_; rintro e w' ⟨⟨ma, mb, rfl, hm0, hm1⟩, rfl⟩)
  go_quiet (fail)
  go_wp2_with (first | simp only [add64_one mb hm0 hm1] | simp only [add64_two _ mb hm1])
  go_ret2
  have hs := stepped w' nq b (.int .u64 (aS mb 1442695040888963407 0)) (.int .u64 (aS (IntKind.u64.wrap (ma + IntKind.u64.wrap (IntKind.u64.wrap (hi * 4865540595714422341) + IntKind.u64.wrap (lo * 2549297995355413924)))) 6364136223846793005 (aC mb 1442695040888963407 0))) _ _ H.out
  exact ⟨⟨_, _, rfl⟩, hs.1, _, _, hs.2⟩

set_option maxHeartbeats 1000000 in
theorem pcg_any (b : Nat) (w : World) (h : PcgAt w b) :
    Calls Yba.prog 58 #[.pointer (some ⟨b, 0, none⟩)] w fun e w' => (∃ x : Int, e = .returned (.int .u64 x)) ∧ w.grownBy w' (some b) ∧ PcgAt w' b := by
  go_enter Yba.func58, Yba.ntmps58
  go_wp2_with (go_at_call 59; refine (next_any _ _ h).mono ?_; rintro e w' ⟨⟨x, y, rfl⟩, hg, hp⟩)
  go_ret
  exact ⟨⟨_, rfl⟩, hg, hp⟩

set_option maxRecDepth 100000 in
set_option maxHeartbeats 1000000 in
theorem uint64_any (r b : Nat) (w : World) (hr : w.cell? ⟨r, 0, none⟩ = some (.iface 95 (.pointer (some ⟨b, 0, none⟩)))) (h : PcgAt w b) :
    Calls Yba.prog 29 #[.pointer (some ⟨r, 0, none⟩)] w fun e w' => (∃ x : Int, e = .returned (.int .u64 x)) ∧ w.grownBy w' (some b) ∧ PcgAt w' b := by
  have hm : ∀ w : World, (method 270 95 (.pointer (some ⟨b, 0, none⟩)) "Uint64").run Yba.prog w = .ok (58, .pointer (some ⟨b, 0, none⟩)) w := fun _ => by kernel_rfl
  go_enter Yba.func29, Yba.ntmps29
  go_wp2_with (go_at_call 58; refine (pcg_any _ _ h).mono ?_; rintro e w' ⟨⟨x, rfl⟩, hg, hp⟩)
  go_ret
  exact ⟨⟨_, rfl⟩, hg, hp⟩

/-- A quotient of floats is a float; at most one answer is drawn. -/
theorem quo_any (t : TypeId) (x y : Nat) (w : World) : ∃ r w', (binOp .quo t (.float .f64 x) (.float .f64 y)).run Yba.prog w = .ok (.float .f64 r) w' ∧ (w' = w ∨ w' = w.drew) := by
  cases h : floatBits .quo .f64 x y with
  | some r => exact ⟨r, w, run_float_arith w .quo t .f64 x y r h, .inl rfl⟩
  | none =>
    simp only [floatBits] at h
    by_cases hf : (Question.nanBits FloatKind.f64 x y).forced = true
    · exact ⟨0, w, by simp [binOp, Op.floatArith, h, hf], .inl rfl⟩
    · exact ⟨(Question.nanBits FloatKind.f64 x y).cut (w.tape w.drawn (Question.nanBits FloatKind.f64 x y)), w.drew, by simp [binOp, Op.floatArith, h, hf], .inr rfl⟩

set_option maxRecDepth 100000 in
set_option maxHeartbeats 1000000 in
theorem float64_any (r b : Nat) (w : World) (hr : w.cell? ⟨r, 0, none⟩ = some (.iface 95 (.pointer (some ⟨b, 0, none⟩)))) (h : PcgAt w b) :
    Calls Yba.prog 28 #[.pointer (some ⟨r, 0, none⟩)] w fun e w' => (∃ x : Nat, e = .returned (.float .f64 x)) ∧ w.grownBy w' (some b) ∧ PcgAt w' b := by
  go_enter Yba.func28, Yba.ntmps28
  go_wp2_with fail
  refine (uint64_any _ _ _ hr h).mono ?_
  rintro e w' ⟨⟨x, rfl⟩, hg, hp⟩
  obtain ⟨q, w2, hq, hw2⟩ := quo_any 72 (floatOfInt FloatKind.f64 (IntKind.u64.wrap (x * 2048) / 2048)) 4845873199050653696 w'
  have HW : Hid (w2 = w' ∨ w2 = w'.drew) := hw2
  clear hw2
  go_wp2
  go_ret
  refine ⟨⟨_, rfl⟩, ?_⟩
  rcases HW.out with rfl | rfl
  · exact ⟨hg, hp⟩
  · exact ⟨⟨hg.os, hg.tape, hg.output, hg.size, hg.block⟩, hp⟩

/-- 'loss > 0' and 'loss >= 1', of a float's bits. -/
def gt0 (x : Nat) : Bool := FloatKind.f64.format.order x 0 == some .gt
def ge1 (x : Nat) : Bool := FloatKind.f64.format.order x 4607182418800017408 == some .gt || FloatKind.f64.format.order x 4607182418800017408 == some .eq

theorem grown_refl (w : World) (r : Option Nat) : w.grownBy w r := ⟨rfl, rfl, rfl, Nat.le_refl _, fun _ _ _ => rfl⟩

set_option maxRecDepth 100000 in
set_option maxHeartbeats 1000000 in
/-- 'lost': false where the loss is not > 0; true where it is > 0 and >= 1; else whatever the generator draws. -/
theorem lost_any (x r b : Nat) (w : World) (hr : w.cell? ⟨r, 0, none⟩ = some (.iface 95 (.pointer (some ⟨b, 0, none⟩)))) (h : PcgAt w b) :
    Calls Yba.prog 27 #[.float .f64 x, .pointer (some ⟨r, 0, none⟩)] w fun e w' => (∃ v : Bool, e = .returned (.bool v) ∧ (gt0 x = false → v = false) ∧ (gt0 x = true → ge1 x = true → v = true)) ∧ w.grownBy w' (some b) ∧ PcgAt w' b := by
  cases h0 : gt0 x
  · have h0' := h0
    unfold gt0 at h0'
    clear h0
    go_enter Yba.func27, Yba.ntmps27
    go_wp2
    go_ret
    exact ⟨⟨false, rfl, by simp, by simp⟩, grown_refl _ _, h⟩
  · cases h1 : ge1 x
    · have h0' := h0
      have h1' := h1
      unfold gt0 at h0'
      unfold ge1 at h1'
      clear h0 h1
      go_enter Yba.func27, Yba.ntmps27
      go_wp2_with (go_at_call 28; refine (float64_any _ _ _ hr h).mono ?_; rintro e w' ⟨⟨y, rfl⟩, hg, hp⟩)
      go_ret
      exact ⟨⟨_, rfl, by simp, by simp⟩, hg, hp⟩
    · have h0' := h0
      have h1' := h1
      unfold gt0 at h0'
      unfold ge1 at h1'
      clear h0 h1
      go_enter Yba.func27, Yba.ntmps27
      go_wp2
      go_ret
      exact ⟨⟨true, rfl, by simp, by simp⟩, grown_refl _ _, h⟩
end Go.Proofs.Ybulklvk
