/-
  'LawS0623ATake' (function 3): true, whatever the input.
-/
import Derived.Test.YbulklwmTail
namespace Go.Proofs.Ybulklwm
open Go.ChangeShapes Go.WideShapes Go.ChangeAt Go.RowKit Go.Instr Go.Conc Go.MuLone
set_option linter.unusedVariables false

section
variable {w : World} {a0 a1 a2 a3 a5 a7 : Int} {a4 : Bool} {a6 : Option Addr} {len icap : Nat} {xs : List Int}

set_option maxRecDepth 1000000 in
theorem law_big (h : 1024 < len) (hm : len ≤ maxLen) : Calls Yba.prog 3 #[.int .i8 a0, .int .u8 a1, .int .u8 a2, .int .u8 a3, .bool a4, .int .u8 a5, .slice a6 len icap, .int .i64 a7] w fun e w' => e = .returned (.bool true) ∧ Below w.heap.size w w' := by
  have h2 : (1024 : Int) < len := by omega
  go_enter Yba.func3, Yba.ntmps3
  go_wp2
  go_ret
  exact ⟨rfl, Below.refl _ _⟩

set_option maxRecDepth 1000000 in
set_option maxHeartbeats 4000000 in
theorem law_small (b0 : -128 ≤ a0 ∧ a0 ≤ 127) (b1 : 0 ≤ a1 ∧ a1 ≤ 255) (b2 : 0 ≤ a2 ∧ a2 ≤ 255) (b3 : 0 ≤ a3 ∧ a3 ≤ 255) (b5 : 0 ≤ a5 ∧ a5 ≤ 255) (hl : len ≤ 1024) (hlen : xs.length = len)
    (hrow : 0 < len → ∃ ib ioff, a6 = some ⟨ib, ioff, none⟩ ∧ ib < w.heap.size ∧ ∀ i x, xs[i]? = some x → w.cell? ⟨ib, ioff + i, none⟩ = some (.int .i64 x)) :
    Calls Yba.prog 3 #[.int .i8 a0, .int .u8 a1, .int .u8 a2, .int .u8 a3, .bool a4, .int .u8 a5, .slice a6 len icap, .int .i64 a7] w fun e w' => e = .returned (.bool true) ∧ Below w.heap.size w w' := by
  refine calls_of_wpN Yba.func3 split0 (fun _ _ h => ⟨_, h.1⟩) ?_
  simp only [Yba.ntmps3, List.size_toArray, List.length_cons, List.length_nil, Nat.reduceAdd, Nat.reduceSub, Array.replicate_succ, Array.replicate_zero, List.push_toArray, List.append_toArray, List.nil_append, List.cons_append]
  refine wpN.seq (wpN.of (reg0 ?_))
  show wpN Yba.prog _ _ _ _
  refine wpN.seq (wpN.of (node1 hl (fun _ _ _ => ?_)))
  show wpN Yba.prog (pm 3) _ _ _
  rw [split3]
  refine wpN.seq (wpN.of (reg3 (fun _ _ => ?_)))
  show wpN Yba.prog _ _ _ _
  have K := cor_new w
  have bel : Below w.heap.size w (w.alloc (.cells Zc 66)) := (Below.refl _ _).alloc (Nat.le_refl _) _
  have hsz : (w.alloc (.cells Zc 66)).heap.size = w.heap.size + 1 := by simp
  generalize w.alloc (.cells Zc 66) = v0 at K bel hsz ⊢
  refine wpN.seq (wpN.of (reg4 K.c13 (K.fz 13) b0 (fun _ _ _ _ _ _ => ?_)))
  show wpN Yba.prog _ _ _ _
  have K1 := K.setCp a0 b0
  have bel1 := bel.setCell (p := ⟨w.heap.size, 13, none⟩) (Nat.le_refl _) (.int .i64 a0)
  have hs1 : (v0.setCell ⟨w.heap.size, 13, none⟩ (.int .i64 a0)).heap.size = w.heap.size + 1 := by simpa [World.setCell] using hsz
  generalize v0.setCell ⟨w.heap.size, 13, none⟩ (.int .i64 a0) = v1 at K1 bel1 hs1 ⊢
  clear K bel hsz
  refine wpN.seq (wpN.of (reg5 K1.c169 (K1.fz 169) b1 (fun _ _ _ _ _ _ => ?_)))
  show wpN Yba.prog _ _ _ _
  have K2 := K1.setRn a1 b1
  have bel2 := bel1.setCell (p := ⟨w.heap.size, 169, none⟩) (Nat.le_refl _) (.int .i64 a1)
  have hs2 : (v1.setCell ⟨w.heap.size, 169, none⟩ (.int .i64 a1)).heap.size = w.heap.size + 1 := by simpa [World.setCell] using hs1
  generalize v1.setCell ⟨w.heap.size, 169, none⟩ (.int .i64 a1) = v2 at K2 bel2 hs2 ⊢
  clear K1 bel1 hs1
  refine wpN.seq (wpN.of (reg6 K2.c168 (K2.fz 168) b2 (fun _ _ _ _ _ => ?_)))
  show wpN Yba.prog _ _ _ _
  have K3 := K2.setLv a2 b2
  have bel3 := bel2.setCell (p := ⟨w.heap.size, 168, none⟩) (Nat.le_refl _) (.int .i64 a2)
  have hs3 : (v2.setCell ⟨w.heap.size, 168, none⟩ (.int .i64 a2)).heap.size = w.heap.size + 1 := by simpa [World.setCell] using hs2
  generalize v2.setCell ⟨w.heap.size, 168, none⟩ (.int .i64 a2) = v3 at K3 bel3 hs3 ⊢
  clear K2 bel2 hs2
  refine wpN.seq (wpN.of (reg7 K3.c170 (K3.fz 170) b3 (fun _ _ _ _ _ _ => ?_)))
  show wpN Yba.prog _ _ _ _
  have K4 := K3.setWt a3 b3
  have bel4 := bel3.setCell (p := ⟨w.heap.size, 170, none⟩) (Nat.le_refl _) (.int .i64 a3)
  have hs4 : (v3.setCell ⟨w.heap.size, 170, none⟩ (.int .i64 a3)).heap.size = w.heap.size + 1 := by simpa [World.setCell] using hs3
  generalize v3.setCell ⟨w.heap.size, 170, none⟩ (.int .i64 a3) = v4 at K4 bel4 hs4 ⊢
  clear K3 bel3 hs3
  refine wpN.seq (wpN.of (reg8 ?_))
  show wpN Yba.prog _ _ _ _
  refine wpN.seq ?_
  rw [split9]
  refine wpN.seq (wpN.of (reg9 ?_))
  show wpN Yba.prog _ _ _ _
  cases a4
  · refine wpN.cond (t := false) rfl ?_
    refine wpN.of (wp_skip ?_)
    show wpN Yba.prog (pm 20) _ _ _
    exact wpN.of (tail20_nil K4 (Nat.le_refl _) bel4)
  · refine wpN.cond (t := true) rfl ?_
    show wpN Yba.prog (pm 10) _ _ _
    rw [split10]
    refine wpN.seq (wpN.of (reg10 b5 (fun _ _ _ _ => ?_)))
    show wpN Yba.prog _ _ _ _
    have hr : (a5 % 64).toNat + 1 ≤ 64 := by omega
    generalize (a5 % 64).toNat + 1 = r at hr ⊢
    have K5 := K4.of (alloc_old v4 (.chan r #[] false 0 0 false) w.heap.size (by omega))
    have hch0 : (v4.alloc (.chan r #[] false 0 0 false)).heap[v4.heap.size]? = some (.chan r #[] false 0 0 false) := heap_alloc_new v4 _
    refine wpN.seq (wpN.of (reg11 hr K5.c15 (K5.fz 15) (fun _ _ _ _ _ => ?_)))
    show wpN Yba.prog _ _ _ _
    have K6 := K5.setQv (.chan (some v4.heap.size))
    have hch : ((v4.alloc (.chan r #[] false 0 0 false)).setCell ⟨w.heap.size, 15, none⟩ (.chan (some v4.heap.size))).heap[v4.heap.size]? = some (.chan r #[] false 0 0 false) := (heap_other _ ⟨w.heap.size, 15, none⟩ _ v4.heap.size (by show v4.heap.size ≠ w.heap.size; omega)).trans hch0
    have bel6 : Below w.heap.size w ((v4.alloc (.chan r #[] false 0 0 false)).setCell ⟨w.heap.size, 15, none⟩ (.chan (some v4.heap.size))) := (bel4.alloc (by omega) _).setCell (p := ⟨w.heap.size, 15, none⟩) (Nat.le_refl _) _
    generalize (v4.alloc (.chan r #[] false 0 0 false)).setCell ⟨w.heap.size, 15, none⟩ (.chan (some v4.heap.size)) = v6 at K6 hch bel6 ⊢
    have hcs : w.heap.size ≠ v4.heap.size := by omega
    have hcs2 : w.heap.size ≤ v4.heap.size := by omega
    generalize v4.heap.size = ch at K6 hch hcs hcs2 ⊢
    clear K4 K5 hch0 bel4 hs4
    refine wpN.seq (wpN.of (reg12 (fun _ _ => ?_)))
    show wpN Yba.prog _ _ _ _
    refine wpN.seq (wpN.of (node13 (fun _ _ _ _ => ?_)))
    show wpN Yba.prog _ _ _ _
    have hn1 : min len r ≤ len := Nat.min_le_left _ _
    have hn2 : min len r ≤ r := Nat.min_le_right _ _
    generalize min len r = n at hn1 hn2 ⊢
    by_cases hn : n = 0
    · subst hn
      refine wpN.seq (wpN.of (node15_zero (fun _ _ _ _ _ _ _ _ _ _ _ _ _ _ => ?_)))
      show wpN Yba.prog _ _ _ _
      refine wpN.of (reg19 (n := 0) K6.c171 (K6.fz 171) (fun _ _ _ _ _ => ?_))
      show wpN Yba.prog (pm 20) _ _ _
      have K7 := K6.setQd 0 (by omega) (by omega)
      exact wpN.of (tail20_chan (xs := xs) (n := 0) K7 ((heap_other _ ⟨w.heap.size, 171, none⟩ _ ch (Ne.symm hcs)).trans hch) hcs hcs2 hr (by omega) (by omega) hlen hrow (Nat.le_refl _) (bel6.setCell (p := ⟨w.heap.size, 171, none⟩) (Nat.le_refl _) _))
    · obtain ⟨ib, ioff, rfl, hib, hcell⟩ := hrow (by omega)
      refine wpN.seq (node15 hcell hib hlen bel6 K6 hch hn2 hn1 hr hcs hcs2 (fun _ _ _ _ _ _ _ _ _ _ _ _ _ _ wx KX hX belX sX => ?_))
      show wpN Yba.prog _ _ _ _
      refine wpN.of (reg19 KX.c171 (KX.fz 171) (fun _ _ _ _ _ => ?_))
      show wpN Yba.prog (pm 20) _ _ _
      have K7 := KX.setQd n (by omega) (by omega)
      exact wpN.of (tail20_chan (xs := xs) K7 ((heap_other _ ⟨w.heap.size, 171, none⟩ _ ch (Ne.symm hcs)).trans hX) hcs hcs2 hr (by omega) (by omega) hlen hrow (Nat.le_refl _) (belX.setCell (p := ⟨w.heap.size, 171, none⟩) (Nat.le_refl _) _))
end
end Go.Proofs.Ybulklwm
