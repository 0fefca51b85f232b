/-
  'LawS0623ATake' (function 3): the loop that fills the queue.
-/
import Derived.Test.YbulklwmSend
namespace Go.Proofs.Ybulklwm
open Go.ChangeShapes Go.WideShapes Go.ChangeAt Go.RowKit Go.Instr Go.Conc
set_option linter.unusedVariables false

noncomputable def pm (n : Nat) : Code := (tailAt n (Yba.f3.body.getD .skip)).getD .skip
/-- A hypothesis that no tactic looks into. -/
def Hd (p : Prop) : Prop := p
theorem Hd.out {p : Prop} (h : Hd p) : p := h

def bufOf (xs : List Int) (k : Nat) : Array Value := ((xs.take k).map fun x => Value.int .i64 x).toArray
theorem bufOf_size {xs : List Int} {k : Nat} (h : k ≤ xs.length) : (bufOf xs k).size = k := by simp [bufOf]; omega
theorem bufOf_push {xs : List Int} {k : Nat} {x : Int} (h : xs[k]? = some x) : (bufOf xs k).push (.int .i64 x) = bufOf xs (k + 1) := by
  obtain ⟨hk, he⟩ := List.getElem?_eq_some_iff.1 h
  simp [bufOf, List.take_add_one, h]
theorem bufOf_rest (xs : List Int) (k : Nat) (hk : k ≤ xs.length) : ((bufOf xs k).extract 1 (bufOf xs k).size).size = k - 1 := by
  rw [bufOf_size hk]; simp [bufOf]; omega
theorem bufOf_head {xs : List Int} {k : Nat} {x : Int} (hk : 0 < k) (h : xs[0]? = some x) : (bufOf xs k).getD 0 undef = .int .i64 x := by
  cases xs with
  | nil => simp at h
  | cons y ys =>
    simp at h
    subst h
    obtain ⟨k, rfl⟩ := Nat.exists_eq_add_of_lt hk
    simp [bufOf]

set_option maxRecDepth 1000000 in
set_option maxHeartbeats 4000000 in
theorem node15 {w v : World} {c ch ib ioff len icap n cap : Nat} {cp rn lv wt : Int} {xs : List Int} (hrow : ∀ i x, xs[i]? = some x → w.cell? ⟨ib, ioff + i, none⟩ = some (.int .i64 x)) (hib : ib < w.heap.size) (hlen : xs.length = len) (hbel : Below w.heap.size w v) (K : Cor v c cp rn lv wt 0 (.chan (some ch)) 0)
    (hc : v.heap[ch]? = some (.chan cap #[] false 0 0 false)) (hn : n ≤ cap) (hnl : n ≤ len) (hcap : cap ≤ 64) (hne : c ≠ ch) (hw : w.heap.size ≤ ch)
    {s0 s1 s2 s3 s4 s5 s7 s8 s9 s10 s11 s12 s13 s14 s15 s16 s19 s20 s21 s22 s23 s24 s25 s26 s27 s28 s29 s30 s31 s32 s33 s34 s35 s36 s37 s38 s39 s40 s41 s42 s43 s44 s45 s46 s47 s48 s49 s50 s51 s52 s53 s54 s55 s56 s57 s58 s59 s60 s61 s62 s63 s64 s65 s66 s67 s68 s69 s70 s71 s72 s73 s74 s75 s76 s77 s78 s79 s80 s81 s82 s83 s84 s85 s86 s87 s88 s89 s90 s91 s92 s93 s94 s95 s96 s97 s98 s99 s100 s101 s102 s103 s104 s105 s106 s107 s108 s109 s110 s111 s112 s113 s114 s115 s116 s117 s118 s119 s120 s121 s122 s123 s124 s125 s126 s127 s128 s129 s130 s131 s132 s133 s134 s135 s136 s137 s138 s139 s140 s141 s142 s143 s144 s145 s146 s147 s148 s149 s150 s151 s152 s153 s154 s155 s156 s157 s158 s159 s160 s161 s162 s163 s164 s165 s166 s167 s168 s169 s170 s171 s172 s173 s174 s175 s176 s177 s178 s179 s180 s181 s182 s183 s184 s185 s186 s187 s188 : Value} {Q : Exit → Act → World → Prop}
    (hQ : Hd (∀ (t20 t70 t71 t72 t73 t74 t75 t76 t77 t78 t79 t80 t81 t82 : Value) (wx : World), Cor wx c cp rn lv wt 0 (.chan (some ch)) 0 → wx.heap[ch]? = some (.chan cap (bufOf xs n) false n 0 false) → Below w.heap.size w wx → wx.heap.size = v.heap.size → Q .normal ⟨#[s0, s1, s2, s3, s4, s5, .slice (some ⟨ib, ioff, none⟩) len icap, s7, s8, s9, s10, s11, s12, s13, s14, s15, s16, .pointer (some ⟨c, 0, none⟩), .int .i64 n, s19, t20, s21, s22, s23, s24, s25, s26, s27, s28, s29, s30, s31, s32, s33, s34, s35, s36, s37, s38, s39, s40, s41, s42, s43, s44, s45, s46, s47, s48, s49, s50, s51, s52, s53, s54, s55, s56, s57, s58, s59, s60, s61, s62, s63, s64, s65, s66, s67, s68, s69, t70, t71, t72, t73, t74, t75, t76, t77, t78, t79, t80, t81, t82, s83, s84, s85, s86, s87, s88, s89, s90, s91, s92, s93, s94, s95, s96, s97, s98, s99, s100, s101, s102, s103, s104, s105, s106, s107, s108, s109, s110, s111, s112, s113, s114, s115, s116, s117, s118, s119, s120, s121, s122, s123, s124, s125, s126, s127, s128, s129, s130, s131, s132, s133, s134, s135, s136, s137, s138, s139, s140, s141, s142, s143, s144, s145, s146, s147, s148, s149, s150, s151, s152, s153, s154, s155, s156, s157, s158, s159, s160, s161, s162, s163, s164, s165, s166, s167, s168, s169, s170, s171, s172, s173, s174, s175, s176, s177, s178, s179, s180, s181, s182, s183, s184, s185, s186, s187, s188], []⟩ wx)) :
    wpN Yba.prog (pm 15) Q ⟨#[s0, s1, s2, s3, s4, s5, .slice (some ⟨ib, ioff, none⟩) len icap, s7, s8, s9, s10, s11, s12, s13, s14, s15, s16, .pointer (some ⟨c, 0, none⟩), .int .i64 n, s19, s20, s21, s22, s23, s24, s25, s26, s27, s28, s29, s30, s31, s32, s33, s34, s35, s36, s37, s38, s39, s40, s41, s42, s43, s44, s45, s46, s47, s48, s49, s50, s51, s52, s53, s54, s55, s56, s57, s58, s59, s60, s61, s62, s63, s64, s65, s66, s67, s68, s69, s70, s71, s72, s73, s74, s75, s76, s77, s78, s79, s80, s81, s82, s83, s84, s85, s86, s87, s88, s89, s90, s91, s92, s93, s94, s95, s96, s97, s98, s99, s100, s101, s102, s103, s104, s105, s106, s107, s108, s109, s110, s111, s112, s113, s114, s115, s116, s117, s118, s119, s120, s121, s122, s123, s124, s125, s126, s127, s128, s129, s130, s131, s132, s133, s134, s135, s136, s137, s138, s139, s140, s141, s142, s143, s144, s145, s146, s147, s148, s149, s150, s151, s152, s153, s154, s155, s156, s157, s158, s159, s160, s161, s162, s163, s164, s165, s166, s167, s168, s169, s170, s171, s172, s173, s174, s175, s176, s177, s178, s179, s180, s181, s182, s183, s184, s185, s186, s187, s188], []⟩ v := by
  conv => arg 2; whnf
  refine wpN.seq (wpN.of ?_)
  have H0 : Hd _ := And.intro K (And.intro hc hbel)
  clear K hc hbel
  go_wp2
  obtain ⟨K, hc, hbel⟩ := H0.out
  refine wpN.while (fun a' w' => ∃ (t70 t71 t72 t73 t74 t75 t76 t77 t78 t79 t80 t81 t82 : Value) (k : Nat), k ≤ n ∧ a' = ⟨#[s0, s1, s2, s3, s4, s5, .slice (some ⟨ib, ioff, none⟩) len icap, s7, s8, s9, s10, s11, s12, s13, s14, s15, s16, .pointer (some ⟨c, 0, none⟩), .int .i64 n, s19, .int .i64 k, s21, s22, s23, s24, s25, s26, s27, s28, s29, s30, s31, s32, s33, s34, s35, s36, s37, s38, s39, s40, s41, s42, s43, s44, s45, s46, s47, s48, s49, s50, s51, s52, s53, s54, s55, s56, s57, s58, s59, s60, s61, s62, s63, s64, s65, s66, s67, s68, s69, t70, t71, t72, t73, t74, t75, t76, t77, t78, t79, t80, t81, t82, s83, s84, s85, s86, s87, s88, s89, s90, s91, s92, s93, s94, s95, s96, s97, s98, s99, s100, s101, s102, s103, s104, s105, s106, s107, s108, s109, s110, s111, s112, s113, s114, s115, s116, s117, s118, s119, s120, s121, s122, s123, s124, s125, s126, s127, s128, s129, s130, s131, s132, s133, s134, s135, s136, s137, s138, s139, s140, s141, s142, s143, s144, s145, s146, s147, s148, s149, s150, s151, s152, s153, s154, s155, s156, s157, s158, s159, s160, s161, s162, s163, s164, s165, s166, s167, s168, s169, s170, s171, s172, s173, s174, s175, s176, s177, s178, s179, s180, s181, s182, s183, s184, s185, s186, s187, s188], []⟩ ∧ Cor w' c cp rn lv wt 0 (.chan (some ch)) 0 ∧ w'.heap[ch]? = some (.chan cap (bufOf xs k) false k 0 false) ∧ Below w.heap.size w w' ∧ w'.heap.size = v.heap.size)
    (fun a' _ => n - (intOf (a'.tmps.getD 20 undef)).toNat) ⟨_, _, _, _, _, _, _, _, _, _, _, _, _, 0, Nat.zero_le _, rfl, K, hc, hbel, rfl⟩ ?_
  clear K hc hbel H0
  rintro a' w' ⟨u70, u71, u72, u73, u74, u75, u76, u77, u78, u79, u80, u81, u82, k, hk, rfl, K, hc, hbel, hs⟩
  by_cases hlt : k < n
  · obtain ⟨x, hx⟩ : ∃ x, xs[k]? = some x := ⟨xs[k]'(by omega), List.getElem?_eq_getElem (by omega)⟩
    have hit : w'.cell? ⟨ib, ioff + k, none⟩ = some (.int .i64 x) := (hbel.cell (p := ⟨ib, ioff + k, none⟩) hib).trans (hrow k x hx)
    have h15 := K.c15
    have hsz := bufOf_size (xs := xs) (k := k) (by omega)
    have HH : Hd _ := And.intro K (And.intro hc (And.intro hbel (And.intro hx (And.intro hs (And.intro h15 (And.intro hit hsz))))))
    clear K hc hbel hx hs h15 hit hsz hrow
    refine wpN.seq (wpN.of ?_)
    go_wp2
    obtain ⟨K, hc, hbel, hx, hs, h15, hit, hsz⟩ := HH.out
    refine wpN.seq (wpN.plainBlock (region18 h15 (by omega) hit hc (by omega) ⟨rfl, ?_⟩))
    show wpN Yba.prog _ _ _ _
    have hch : ch < w'.heap.size := (Array.getElem?_eq_some_iff.1 hc).1
    have K2 : Cor (w'.drew.setChan ch cap ((bufOf xs k).push (.int .i64 x)) false (k + 1) 0 false) c cp rn lv wt 0 (.chan (some ch)) 0 := K.of (chan_other w'.drew ch c cap _ false _ 0 false hne)
    have hc2 : (w'.drew.setChan ch cap ((bufOf xs k).push (.int .i64 x)) false (k + 1) 0 false).heap[ch]? = some (.chan cap (bufOf xs (k + 1)) false (k + 1) 0 false) := by rw [bufOf_push hx]; exact heap_setChan _ _ _ _ _ _ _ _ hch
    have b2 : Below w.heap.size w (w'.drew.setChan ch cap ((bufOf xs k).push (.int .i64 x)) false (k + 1) 0 false) := below_setChan hbel.drew hw _ _ _ _ _ _
    have s2 : (w'.drew.setChan ch cap ((bufOf xs k).push (.int .i64 x)) false (k + 1) 0 false).heap.size = v.heap.size := by rw [size_setChan]; exact hs
    generalize w'.drew.setChan ch cap ((bufOf xs k).push (.int .i64 x)) false (k + 1) 0 false = w2 at K2 hc2 b2 s2 ⊢
    have H2 : Hd _ := And.intro K2 (And.intro hc2 (And.intro b2 s2))
    clear K hc hbel hx hs h15 hit hsz HH K2 hc2 b2 s2
    refine wpN.of ?_
    go_wp2
    obtain ⟨K2, hc2, b2, s2⟩ := H2.out
    refine .inl ⟨rfl, ⟨_, _, _, _, _, _, _, _, _, _, _, _, _, k + 1, by omega, rfl, K2, hc2, b2, s2⟩, ?_⟩
    simp [intOf]
    omega
  · have hk2 : k = n := by omega
    subst hk2
    have HH : Hd _ := And.intro K (And.intro hc (And.intro hbel hs))
    clear K hc hbel hs hrow
    refine wpN.seq (wpN.of ?_)
    go_wp2
    obtain ⟨K, hc, hbel, hs⟩ := HH.out
    exact .inr ⟨rfl, hQ.out _ _ _ _ _ _ _ _ _ _ _ _ _ _ w' K hc hbel hs⟩

set_option maxRecDepth 1000000 in
set_option maxHeartbeats 4000000 in
/-- Nothing is to be sent. -/
theorem node15_zero {v : World} {s0 s1 s2 s3 s4 s5 s6 s7 s8 s9 s10 s11 s12 s13 s14 s15 s16 s17 s19 s20 s21 s22 s23 s24 s25 s26 s27 s28 s29 s30 s31 s32 s33 s34 s35 s36 s37 s38 s39 s40 s41 s42 s43 s44 s45 s46 s47 s48 s49 s50 s51 s52 s53 s54 s55 s56 s57 s58 s59 s60 s61 s62 s63 s64 s65 s66 s67 s68 s69 s70 s71 s72 s73 s74 s75 s76 s77 s78 s79 s80 s81 s82 s83 s84 s85 s86 s87 s88 s89 s90 s91 s92 s93 s94 s95 s96 s97 s98 s99 s100 s101 s102 s103 s104 s105 s106 s107 s108 s109 s110 s111 s112 s113 s114 s115 s116 s117 s118 s119 s120 s121 s122 s123 s124 s125 s126 s127 s128 s129 s130 s131 s132 s133 s134 s135 s136 s137 s138 s139 s140 s141 s142 s143 s144 s145 s146 s147 s148 s149 s150 s151 s152 s153 s154 s155 s156 s157 s158 s159 s160 s161 s162 s163 s164 s165 s166 s167 s168 s169 s170 s171 s172 s173 s174 s175 s176 s177 s178 s179 s180 s181 s182 s183 s184 s185 s186 s187 s188 : Value} {Q : Exit → Act → World → Prop} (hQ : Hd (∀ (t20 t70 t71 t72 t73 t74 t75 t76 t77 t78 t79 t80 t81 t82 : Value), Q .normal ⟨#[s0, s1, s2, s3, s4, s5, s6, s7, s8, s9, s10, s11, s12, s13, s14, s15, s16, s17, .int .i64 0, s19, t20, s21, s22, s23, s24, s25, s26, s27, s28, s29, s30, s31, s32, s33, s34, s35, s36, s37, s38, s39, s40, s41, s42, s43, s44, s45, s46, s47, s48, s49, s50, s51, s52, s53, s54, s55, s56, s57, s58, s59, s60, s61, s62, s63, s64, s65, s66, s67, s68, s69, t70, t71, t72, t73, t74, t75, t76, t77, t78, t79, t80, t81, t82, s83, s84, s85, s86, s87, s88, s89, s90, s91, s92, s93, s94, s95, s96, s97, s98, s99, s100, s101, s102, s103, s104, s105, s106, s107, s108, s109, s110, s111, s112, s113, s114, s115, s116, s117, s118, s119, s120, s121, s122, s123, s124, s125, s126, s127, s128, s129, s130, s131, s132, s133, s134, s135, s136, s137, s138, s139, s140, s141, s142, s143, s144, s145, s146, s147, s148, s149, s150, s151, s152, s153, s154, s155, s156, s157, s158, s159, s160, s161, s162, s163, s164, s165, s166, s167, s168, s169, s170, s171, s172, s173, s174, s175, s176, s177, s178, s179, s180, s181, s182, s183, s184, s185, s186, s187, s188], []⟩ v)) : Code.wp Yba.prog (pm 15) Q ⟨#[s0, s1, s2, s3, s4, s5, s6, s7, s8, s9, s10, s11, s12, s13, s14, s15, s16, s17, .int .i64 0, s19, s20, s21, s22, s23, s24, s25, s26, s27, s28, s29, s30, s31, s32, s33, s34, s35, s36, s37, s38, s39, s40, s41, s42, s43, s44, s45, s46, s47, s48, s49, s50, s51, s52, s53, s54, s55, s56, s57, s58, s59, s60, s61, s62, s63, s64, s65, s66, s67, s68, s69, s70, s71, s72, s73, s74, s75, s76, s77, s78, s79, s80, s81, s82, s83, s84, s85, s86, s87, s88, s89, s90, s91, s92, s93, s94, s95, s96, s97, s98, s99, s100, s101, s102, s103, s104, s105, s106, s107, s108, s109, s110, s111, s112, s113, s114, s115, s116, s117, s118, s119, s120, s121, s122, s123, s124, s125, s126, s127, s128, s129, s130, s131, s132, s133, s134, s135, s136, s137, s138, s139, s140, s141, s142, s143, s144, s145, s146, s147, s148, s149, s150, s151, s152, s153, s154, s155, s156, s157, s158, s159, s160, s161, s162, s163, s164, s165, s166, s167, s168, s169, s170, s171, s172, s173, s174, s175, s176, s177, s178, s179, s180, s181, s182, s183, s184, s185, s186, s187, s188], []⟩ v := by
  conv => arg 2; whnf
  go_wp2
  go_loopw [20] (fun i wr => i = .int .i64 0 ∧ wr = v) (fun _ _ => 0)
  case atStart => exact ⟨rfl, rfl⟩
  case round =>
    obtain ⟨rfl, rfl⟩ := hrel
    go_wp2
    exact hQ.out _ _ _ _ _ _ _ _ _ _ _ _ _ _ 
end Go.Proofs.Ybulklwm
