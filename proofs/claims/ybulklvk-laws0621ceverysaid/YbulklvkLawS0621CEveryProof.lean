/-
  A PROOF OF THE GIVEN LAW (the guide's template at this function's number and types; the walks typed by hand).
  The walks are filled in; all else is the guide's template at this function's number and types.
-/
import Derived.Test.YbulklvkRows
import Derived.WalkKit
import Derived.ProofKit
import Derived.OpenShut
import Derived.ShutString
namespace Go.Proofs.Ybulklvk.lawS0621CEvery
open Go.ChangeShapes Go.WideShapes Go.ChangeAt Go.RowKit
open Go.ChangeMaps (open_string shut_string)
set_option linter.unusedVariables false      -- a walk need not use every 'w<i>' (that an integer argument fits its kind)

theorem own : ownKnob Yba.prog.godebug = none := by kernel_rfl

theorem ret_int {k : IntKind} {a b : Int} (h : a = b) : Ending.returned (.int k a) = .returned (.int k b) := by rw [h]
theorem ret_bool {a b : Bool} (h : a = b) : Ending.returned (.bool a) = .returned (.bool b) := by rw [h]

/-! 'hurryAfter' (function 19), not lossy: 20 s. -/
theorem hurry_false (p : Int) (w : World) :
    Calls Yba.prog 19 #[.int .i64 p, .bool false] w fun e w' => e = .returned (.int .i64 20000000000) ∧ w' = w := by
  go_enter Yba.func19, Yba.ntmps19
  go_wp2
  go_ret
  exact ⟨rfl, rfl⟩

/-! 'hurryAfter', lossy: the less of 20 s and what 20 periods leave of 50 s, wraps and all. -/
theorem hurry_true (p : Int) (w : World) :
    Calls Yba.prog 19 #[.int .i64 p, .bool true] w fun e w' => e = .returned (.int .i64 (min 20000000000 (wrap64 (50000000000 - wrap64 (20 * p))))) ∧ w' = w := by
  go_enter Yba.func19, Yba.ntmps19
  go_wp2
  all_goals
    go_ret
    exact ⟨ret_int (by simp only [Int.min_def]; split <;> omega), rfl⟩

/-! 'hurriesAtEveryPeriod' (function 20). -/
theorem every_any (p : Int) (w : World) :
    Calls Yba.prog 20 #[.int .i64 p] w fun e w' => e = .returned (.bool (decide (min 20000000000 (wrap64 (50000000000 - wrap64 (20 * p))) ≤ 0))) ∧ w' = w := by
  go_enter Yba.func20, Yba.ntmps20
  go_wp2_with (go_at_call 19; refine (hurry_true _ _).mono ?_; rintro e w' ⟨rfl, rfl⟩)
  go_ret
  exact ⟨rfl, rfl⟩

/-! ### THE PLAIN LAW: no Go in sight -/
theorem nowrap (x : Int) (h1 : -200000000000000000 ≤ x) (h2 : x ≤ 200000000000000000) :
    wrap64 (50000000000 - wrap64 (20 * x)) = 50000000000 - 20 * x := by
  unfold wrap64
  omega
theorem plain_short (x : Int) (h1 : -200000000000000000 ≤ x) (h2 : x ≤ 200000000000000000) (h : x ≤ 1500000000) :
    (min 20000000000 (wrap64 (50000000000 - wrap64 (20 * x))) == 20000000000) = true := by
  rw [nowrap x h1 h2, beq_iff_eq]; omega
theorem plain_long (x : Int) (h1 : -200000000000000000 ≤ x) (h2 : x ≤ 200000000000000000) (h : 1500000000 < x) :
    (min 20000000000 (wrap64 (50000000000 - wrap64 (20 * x))) == 50000000000 - 20 * x) = true := by
  rw [nowrap x h1 h2, beq_iff_eq]; omega
theorem plain_every (x : Int) (h1 : -200000000000000000 ≤ x) (h2 : x ≤ 200000000000000000) :
    (decide (min 20000000000 (wrap64 (50000000000 - wrap64 (20 * x))) ≤ 0) == decide (2500000000 ≤ x)) = true := by
  rw [nowrap x h1 h2, beq_iff_eq, decide_eq_decide]; omega

/-! ### STEP 1: THE WALK: the Go text returns true. 'Grown w w'': the world has at most new blocks (Derived/RowKit3.lean). Part the cases AHEAD of 'go_enter' where a test parts the walk; take each callee by a contract of your own. -/
theorem walk (a0 : Int) (a1 : Int) (w0 : (Lit.int .i64 a0).wf = true) (w1 : (Lit.int .u8 a1).wf = true) (w : World) :
    Calls Yba.prog 7 #[.int .i64 a0, .int .u8 a1] w fun e w' => e = .returned (.bool true) ∧ Grown w w' := by
  by_cases hlo : a0 < -1073741824
  · go_enter Yba.func7, Yba.ntmps7
    go_wp2
    go_ret
    exact ⟨rfl, by repeat (first | exact Grown.refl _ | apply Grown.drew | apply Grown.alloc)⟩
  by_cases hhi : 1073741824 < a0
  · go_enter Yba.func7, Yba.ntmps7
    go_wp2
    go_ret
    exact ⟨rfl, by repeat (first | exact Grown.refl _ | apply Grown.drew | apply Grown.alloc)⟩
  have h1 := bounds_u8 w1
  clear w0 w1
  obtain ⟨h1a, h1b⟩ := h1
  go_enter Yba.func7, Yba.ntmps7
  go_wp2_with (go_at_call 20; refine (every_any _ _).mono ?_; rintro e w' ⟨rfl, rfl⟩)
  go_ret
  exact ⟨ret_bool (plain_every _ (by omega) (by omega)), by repeat (first | exact Grown.refl _ | apply Grown.drew | apply Grown.alloc)⟩

/-! ### THE ROW's STEP: WRITTEN OUT: LEAVE IT -/
set_option maxRecDepth 100000 in
theorem lifted (os : Os) (started : os.Started) (H : Type) (enc : TypeId × Value → H) :
    ReturnsInHanded {} Yba.checked os 7 .any (Rows.lawS0621CEverySpec.pre6 enc Yba.prog Yba.f7 Rows.lawS0621CEveryRow.domain false) (Rows.lawS0621CEverySpec.post enc Yba.prog Yba.f7 false true false false) := by
  refine returnsInHanded_of_change (C := Yba.checked) own started (by kernel_rfl) Yba.func7
    (ChangeSpec.witness6 (enc := enc) (C := Yba.checked) false ⟨#[], #[.int .i64 0, .int .u8 0], []⟩ 8 (by kernel_rfl) (by kernel_rfl) (by kernel_rfl) (by kernel_rfl)) ?_
  intro W base args ds gs before hval0 hW hcnd _
  have hval : ∀ (j : Nat) t v, Yba.f7.params[j]? = some t → args[j]? = some v → Value.okWide Yba.prog W .any base t v := hval0
  have hW' := hW
  obtain ⟨p, q, hA0, hV, rfl, hfz, hnd⟩ := hW
  have hA : DataW.TrodAll enc Yba.prog W 0 (fun _ => true) true Yba.f7.params.toList args.toList ds p := hA0
  rw [Yba.params7] at hA hval
  obtain ⟨v0, vs0, d0, ds0, p0, q0, hargs, rfl, rfl, h0, r0⟩ := trodAll_cons hA
  obtain ⟨v1, vs1, d1, ds1, p1, q1, rfl, rfl, rfl, h1, r1⟩ := trodAll_cons r0
  obtain ⟨rfl, rfl, rfl⟩ := trodAll_nil r1
  obtain rfl : args = #[v0, v1] := by cases args; simp_all
  obtain ⟨rfl, rfl⟩ := trodVars_none hV
  obtain ⟨a0, rfl, rfl, rfl, w0⟩ := open_int Yba.underlying2 (hval 0 2 v0 rfl rfl) h0
  obtain ⟨a1, rfl, rfl, rfl, w1⟩ := open_int Yba.underlying5 (hval 1 5 v1 rfl rfl) h1
  clear hA0 hval0
  simp only [List.append_nil] at hW'
  refine (walk a0 a1 w0 w1 W).mono fun e W' ⟨he, hg⟩ => ?_
  subst he
  exact ⟨_, rfl, post_of_same (pa := []) (pv := []) hW' (fun _ _ _ => (trodAll_cons_mk (shut_bool Yba.underlying4 _) trodAll_mk0)) (fun sp _ => (trodAll_cons_mk (shut_int Yba.underlying2 w0) (trodAll_cons_mk (shut_int Yba.underlying5 w1) trodAll_mk0))) (fun _ _ => rfl) rfl
    (hg.frame _) hg.2.1 (ok_one (by kernel_rfl) rfl (okWide_bool_mk Yba.underlying4 _))⟩

theorem over : Rows.lawS0621CEveryRow.holds Yba.pinned (OpenSpec.ofChange Rows.lawS0621CEverySpec) :=
  OpenClaim.holds_of_wide 7 Yba.f7 rfl rfl rfl rfl rfl rfl rfl ⟨rfl, rfl, rfl, rfl, rfl⟩ rfl rfl rfl rfl rfl (by kernel_rfl) Yba.func7 (by kernel_rfl)
    (of_decide_eq_true (by kernel_rfl)) (by unfold Func.isWrapper; first | (rw [if_pos (by decide +kernel)]; kernel_rfl) | (rw [if_neg (by decide +kernel)]; exact ⟨rfl, rfl⟩))
    (fun os started H enc _ => lifted os started H enc)

/-- ████ THE STATEMENT ████ -/
theorem proved : Rows.LawS0621CEverySaid :=
  over
end Go.Proofs.Ybulklvk.lawS0621CEvery
