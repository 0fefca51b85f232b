/-
  'LawS0623ATake' (function 3): put together.
-/
import Derived.Test.YbulklwmLay
namespace Go.Proofs.Ybulklwm
open Go.ChangeShapes Go.WideShapes Go.ChangeAt Go.RowKit Go.Instr Go.Conc Go.MuLone
set_option linter.unusedVariables false

theorem split0 : Yba.f3.body = some (Code.seq (lef (pm 0)) (Code.seq (pm 1) (pm 3))) := by kernel_rfl
theorem split3 : pm 3 = Code.seq (lef (pm 3)) (Code.seq (lef (pm 4)) (Code.seq (lef (pm 5)) (Code.seq (lef (pm 6)) (Code.seq (lef (pm 7)) (Code.seq (lef (pm 8)) (Code.seq (pm 9) (pm 20))))))) := by kernel_rfl
theorem split9 : pm 9 = Code.seq (lef (pm 9)) (Code.cond (.tmp 54) (pm 10) .skip) := by kernel_rfl
theorem split10 : pm 10 = Code.seq (lef (pm 10)) (Code.seq (lef (pm 11)) (Code.seq (lef (pm 12)) (Code.seq (pm 13) (Code.seq (pm 15) r19)))) := by kernel_rfl
theorem split20 : pm 20 = Code.seq (lef (pm 20)) (Code.seq (lef (pm 21)) (Code.seq (lef (pm 22)) (Code.seq (lef (pm 23)) (Code.seq (pm 24) (Code.seq (lef (pm 28)) (pm 29)))))) := by kernel_rfl
theorem alloc_old (w : World) (o : Obj) (b : Nat) (h : b < w.heap.size) : (w.alloc o).heap[b]? = w.heap[b]? := Below.heap_alloc _ _ _ h
theorem wk_task (w : World) (st : Int) : (w.alloc (.cells (wkC st) 70)).cell? ⟨w.heap.size, 0, none⟩ = some (.int .i64 st) ∧ (w.alloc (.cells (wkC st) 70)).frozen? ⟨w.heap.size, 0, none⟩ = false := by
  have h : (w.alloc (.cells (wkC st) 70)).heap[w.heap.size]? = some (.cells (wkC st) 70 (0, 0)) := heap_alloc_new w _
  constructor
  · simp only [World.cell?, h]; rfl
  · simp only [World.frozen?, h]; rfl

set_option maxRecDepth 1000000 in
set_option maxHeartbeats 4000000 in
theorem tail20_nil {w v : World} {c : Nat} {cp rn lv wt st : Int} (K : Cor v c cp rn lv wt 0 (.chan none) 0) (hwc : w.heap.size ≤ c) (hbel : Below w.heap.size w v) {s3 s5 s6 s8 s9 s10 s11 s12 s13 s14 s15 s16 s19 s20 s21 s22 s23 s24 s25 s26 s27 s28 s29 s30 s31 s32 s33 s34 s35 s36 s37 s38 s39 s40 s41 s42 s43 s44 s45 s46 s47 s48 s49 s50 s51 s52 s53 s54 s55 s56 s57 s58 s59 s60 s61 s62 s63 s64 s65 s66 s67 s68 s69 s70 s71 s72 s73 s74 s75 s76 s77 s78 s79 s80 s81 s82 s83 s84 s85 s86 s87 s88 s89 s90 s91 s92 s93 s94 s95 s96 s97 s98 s99 s100 s101 s102 s103 s104 s105 s106 s107 s108 s109 s110 s111 s112 s113 s114 s115 s116 s117 s118 s119 s120 s121 s122 s123 s124 s125 s126 s127 s128 s129 s130 s131 s132 s133 s134 s135 s136 s137 s138 s139 s140 s141 s142 s143 s144 s145 s146 s147 s148 s149 s150 s151 s152 s153 s154 s155 s156 s157 s158 s159 s160 s161 s162 s163 s164 s165 s166 s167 s168 s169 s170 s171 s172 s173 s174 s175 s176 s177 s178 s179 s180 s181 s182 s183 s184 s185 s186 s187 s188 : Value} :
    Code.wp Yba.prog (pm 20) (bodyPost Yba.prog Yba.f3 (fun e w' => e = Ending.returned (Value.bool true) ∧ Below w.heap.size w w')) ⟨#[.int .i8 cp, .int .u8 rn, .int .u8 lv, s3, .bool false, s5, s6, .int .i64 st, s8, s9, s10, s11, s12, s13, s14, s15, s16, .pointer (some ⟨c, 0, none⟩), .int .i64 (0 : Nat), s19, s20, s21, s22, s23, s24, s25, s26, s27, s28, s29, s30, s31, s32, s33, s34, s35, s36, s37, s38, s39, s40, s41, s42, s43, s44, s45, s46, s47, s48, s49, s50, s51, s52, s53, s54, s55, s56, s57, s58, s59, s60, s61, s62, s63, s64, s65, s66, s67, s68, s69, s70, s71, s72, s73, s74, s75, s76, s77, s78, s79, s80, s81, s82, s83, s84, s85, s86, s87, s88, s89, s90, s91, s92, s93, s94, s95, s96, s97, s98, s99, s100, s101, s102, s103, s104, s105, s106, s107, s108, s109, s110, s111, s112, s113, s114, s115, s116, s117, s118, s119, s120, s121, s122, s123, s124, s125, s126, s127, s128, s129, s130, s131, s132, s133, s134, s135, s136, s137, s138, s139, s140, s141, s142, s143, s144, s145, s146, s147, s148, s149, s150, s151, s152, s153, s154, s155, s156, s157, s158, s159, s160, s161, s162, s163, s164, s165, s166, s167, s168, s169, s170, s171, s172, s173, s174, s175, s176, s177, s178, s179, s180, s181, s182, s183, s184, s185, s186, s187, s188], []⟩ v := by
  rw [split20]
  have hcs : c < v.heap.size := by
    have h := K.c13
    exact World.block_lt_of_cell? v _ h
  refine wp_seq (reg20 (fun t88 t89 t90 => ?_))
  obtain ⟨tw, fw⟩ := wk_task v st
  have K1 := K.of (alloc_old v (.cells (wkC st) 70) c hcs)
  have b1 : Below w.heap.size w (v.alloc (.cells (wkC st) 70)) := hbel.alloc hbel.size _
  have hwk : w.heap.size ≤ v.heap.size := hbel.size
  generalize hv1 : v.alloc (.cells (wkC st) 70) = v1 at K1 b1 tw fw ⊢
  generalize hwkk : v.heap.size = wk at tw fw hcs hwk  ⊢
  refine wp_seq (reg21 K1.c146 (K1.fz 146) (fun t91 t92 t93 t94 => ?_))
  have K2 := K1.setMu 1
  have b2 : Below w.heap.size w (v1.setCell ⟨c, 146, none⟩ (.int .i32 1)) := b1.setCell (p := ⟨c, 146, none⟩) hwc _
  have tw2 := (cell_heap (heap_other v1 ⟨c, 146, none⟩ (.int .i32 1) wk (by show wk ≠ c; omega)) 0).trans tw
  have fw2 := (frozen_heap (heap_other v1 ⟨c, 146, none⟩ (.int .i32 1) wk (by show wk ≠ c; omega)) 0).trans fw
  generalize v1.setCell ⟨c, 146, none⟩ (.int .i32 1) = v2 at K2 b2 tw2 fw2 ⊢
  refine wp_seq (reg22 (R := fun w' => w' = v2) (take_nil K2) (fun t95 t96 t97 wx hx => ?_))
  subst hx
  refine wp_seq (reg23 ?_)
  refine wp_seq (node24 K2.b1 K2.b2 K2.b3 (fun _ _ _ _ _ _ _ _ _ _ _ _ => ?_))
  refine wp_seq (reg28 (fun _ _ _ _ _ _ _ _ _ => ?_))
  exact no_nil K2.c146 K2.fz K2.c171 tw2 (by omega) hwc b2 K2.c15

set_option maxRecDepth 1000000 in
set_option maxHeartbeats 4000000 in
theorem tail20_chan {w v : World} {c ch cap n len icap : Nat} {a6 : Option Addr} {xs : List Int} {cp rn lv wt st : Int} (K : Cor v c cp rn lv wt n (.chan (some ch)) 0) (hch : v.heap[ch]? = some (.chan cap (bufOf xs n) false n 0 false)) (hne : c ≠ ch) (hwch : w.heap.size ≤ ch) (hcap : cap ≤ 64) (hn64 : n ≤ 64) (hnx : n ≤ xs.length) (hlen : xs.length = len)
    (hrow : 0 < len → ∃ ib ioff, a6 = some ⟨ib, ioff, none⟩ ∧ ib < w.heap.size ∧ ∀ i x, xs[i]? = some x → w.cell? ⟨ib, ioff + i, none⟩ = some (.int .i64 x))
    (hwc : w.heap.size ≤ c) (hbel : Below w.heap.size w v) {s3 s5 s8 s9 s10 s11 s12 s13 s14 s15 s16 s19 s20 s21 s22 s23 s24 s25 s26 s27 s28 s29 s30 s31 s32 s33 s34 s35 s36 s37 s38 s39 s40 s41 s42 s43 s44 s45 s46 s47 s48 s49 s50 s51 s52 s53 s54 s55 s56 s57 s58 s59 s60 s61 s62 s63 s64 s65 s66 s67 s68 s69 s70 s71 s72 s73 s74 s75 s76 s77 s78 s79 s80 s81 s82 s83 s84 s85 s86 s87 s88 s89 s90 s91 s92 s93 s94 s95 s96 s97 s98 s99 s100 s101 s102 s103 s104 s105 s106 s107 s108 s109 s110 s111 s112 s113 s114 s115 s116 s117 s118 s119 s120 s121 s122 s123 s124 s125 s126 s127 s128 s129 s130 s131 s132 s133 s134 s135 s136 s137 s138 s139 s140 s141 s142 s143 s144 s145 s146 s147 s148 s149 s150 s151 s152 s153 s154 s155 s156 s157 s158 s159 s160 s161 s162 s163 s164 s165 s166 s167 s168 s169 s170 s171 s172 s173 s174 s175 s176 s177 s178 s179 s180 s181 s182 s183 s184 s185 s186 s187 s188 : Value} :
    Code.wp Yba.prog (pm 20) (bodyPost Yba.prog Yba.f3 (fun e w' => e = Ending.returned (Value.bool true) ∧ Below w.heap.size w w')) ⟨#[.int .i8 cp, .int .u8 rn, .int .u8 lv, s3, .bool true, s5, .slice a6 len icap, .int .i64 st, s8, s9, s10, s11, s12, s13, s14, s15, s16, .pointer (some ⟨c, 0, none⟩), .int .i64 n, s19, s20, s21, s22, s23, s24, s25, s26, s27, s28, s29, s30, s31, s32, s33, s34, s35, s36, s37, s38, s39, s40, s41, s42, s43, s44, s45, s46, s47, s48, s49, s50, s51, s52, s53, s54, s55, s56, s57, s58, s59, s60, s61, s62, s63, s64, s65, s66, s67, s68, s69, s70, s71, s72, s73, s74, s75, s76, s77, s78, s79, s80, s81, s82, s83, s84, s85, s86, s87, s88, s89, s90, s91, s92, s93, s94, s95, s96, s97, s98, s99, s100, s101, s102, s103, s104, s105, s106, s107, s108, s109, s110, s111, s112, s113, s114, s115, s116, s117, s118, s119, s120, s121, s122, s123, s124, s125, s126, s127, s128, s129, s130, s131, s132, s133, s134, s135, s136, s137, s138, s139, s140, s141, s142, s143, s144, s145, s146, s147, s148, s149, s150, s151, s152, s153, s154, s155, s156, s157, s158, s159, s160, s161, s162, s163, s164, s165, s166, s167, s168, s169, s170, s171, s172, s173, s174, s175, s176, s177, s178, s179, s180, s181, s182, s183, s184, s185, s186, s187, s188], []⟩ v := by
  rw [split20]
  have hcs : c < v.heap.size := by
    have h := K.c13
    exact World.block_lt_of_cell? v _ h
  refine wp_seq (reg20 (fun t88 t89 t90 => ?_))
  obtain ⟨tw, fw⟩ := wk_task v st
  have K1 := K.of (alloc_old v (.cells (wkC st) 70) c hcs)
  have b1 : Below w.heap.size w (v.alloc (.cells (wkC st) 70)) := hbel.alloc hbel.size _
  have hcl : ch < v.heap.size := (Array.getElem?_eq_some_iff.1 hch).1
  have hch1 := (alloc_old v (.cells (wkC st) 70) ch hcl).trans hch
  have hwk : w.heap.size ≤ v.heap.size := hbel.size
  generalize hv1 : v.alloc (.cells (wkC st) 70) = v1 at K1 b1 tw fw hch1 ⊢
  generalize hwkk : v.heap.size = wk at tw fw hcs hwk hcl ⊢
  refine wp_seq (reg21 K1.c146 (K1.fz 146) (fun t91 t92 t93 t94 => ?_))
  have K2 := K1.setMu 1
  have b2 : Below w.heap.size w (v1.setCell ⟨c, 146, none⟩ (.int .i32 1)) := b1.setCell (p := ⟨c, 146, none⟩) hwc _
  have tw2 := (cell_heap (heap_other v1 ⟨c, 146, none⟩ (.int .i32 1) wk (by show wk ≠ c; omega)) 0).trans tw
  have fw2 := (frozen_heap (heap_other v1 ⟨c, 146, none⟩ (.int .i32 1) wk (by show wk ≠ c; omega)) 0).trans fw
  have hch2 := (heap_other v1 ⟨c, 146, none⟩ (.int .i32 1) ch (by show ch ≠ c; omega)).trans hch1
  generalize v1.setCell ⟨c, 146, none⟩ (.int .i32 1) = v2 at K2 b2 tw2 fw2 hch2 ⊢
  have hbs := bufOf_size hnx
  have sn : 0 ≤ sur cp rn lv := by unfold sur; split <;> omega
  by_cases hs : sur cp rn lv = 0
  · by_cases hn : 0 < n
    · obtain ⟨ib, ioff, rfl, hib, hcell⟩ := hrow (by omega)
      obtain ⟨x, hx⟩ : ∃ x, xs[0]? = some x := ⟨xs[0]'(by omega), List.getElem?_eq_getElem (by omega)⟩
      have hhd := bufOf_head hn hx
      have hrs := bufOf_rest xs n hnx
      have hit0 : w.cell? ⟨ib, ioff, none⟩ = some (.int .i64 x) := hcell 0 x hx
      refine wp_seq (reg22 (R := fun w' => Aft w' c wk ch cap n 1 ((bufOf xs n).extract 1 (bufOf xs n).size) x ((n : Int) - 1) 0 ∧ ∀ B, B ≤ c → B ≤ ch → B ≤ wk → Below B v2 w')
        (take_yes (x := x) K2 hch2 hne (by omega) (by omega) (by omega) hhd (by omega) hcap hs tw2 fw2) (fun t95 t96 t97 wx hx2 => ?_))
      obtain ⟨A, hB⟩ := hx2
      have b3 : Below w.heap.size w wx := b2.trans (hB w.heap.size hwc hwch hwk)
      refine wp_seq (reg23 ?_)
      refine wp_seq (node24 K2.b1 K2.b2 K2.b3 (fun _ _ _ _ _ _ _ _ _ _ _ _ => ?_))
      refine wp_seq (reg28 (fun _ _ _ _ _ _ _ _ _ => ?_))
      rw [hs, show (true && decide ((0 : Int) = 0) && decide (0 < n)) = true by simp [hn]]
      exact yes_any A (by rw [hrs]; omega) hn hn64 (by omega) ((b3.cell (p := ⟨ib, ioff, none⟩) hib).trans hit0) (by omega) (by omega) (by omega) hwc b3
    · obtain rfl : n = 0 := by omega
      refine wp_seq (reg22 (R := fun w' => ∃ m, w' = v2.drewN m) (take_empty K2 hch2 hs) (fun t95 t96 t97 wx hx => ?_))
      obtain ⟨m, rfl⟩ := hx
      refine wp_seq (reg23 ?_)
      refine wp_seq (node24 K2.b1 K2.b2 K2.b3 (fun _ _ _ _ _ _ _ _ _ _ _ _ => ?_))
      refine wp_seq (reg28 (fun _ _ _ _ _ _ _ _ _ => ?_))
      rw [hs, show (true && decide ((0 : Int) = 0) && decide (0 < 0)) = false by simp]
      exact no_chan (v := v2.drewN m) K2.c146 K2.fz K2.c171 tw2 (by omega) hwc (b2.trans (below_drewN _ _ _)) hn64 K2.c15 hch2 hbs (by omega)
  · refine wp_seq (reg22 (R := fun w' => ∃ m, w' = v2.drewN m) (take_sur K2 (by omega)) (fun t95 t96 t97 wx hx => ?_))
    obtain ⟨m, rfl⟩ := hx
    refine wp_seq (reg23 ?_)
    refine wp_seq (node24 K2.b1 K2.b2 K2.b3 (fun _ _ _ _ _ _ _ _ _ _ _ _ => ?_))
    refine wp_seq (reg28 (fun _ _ _ _ _ _ _ _ _ => ?_))
    rw [show (true && decide (sur cp rn lv = 0) && decide (0 < n)) = false by simp [hs]]
    exact no_chan (v := v2.drewN m) K2.c146 K2.fz K2.c171 tw2 (by omega) hwc (b2.trans (below_drewN _ _ _)) hn64 K2.c15 hch2 hbs (by omega)

end Go.Proofs.Ybulklwm
