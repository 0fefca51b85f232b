/-
  'LawS0623ATake' (function 3): what the law holds the answer against.
-/
import Derived.Test.YbulklwmFill
namespace Go.Proofs.Ybulklwm
open Go.ChangeShapes Go.WideShapes Go.ChangeAt Go.RowKit Go.Instr Go.Conc Go.MuLone
set_option linter.unusedVariables false
def lef : Code → Code
  | .seq a _ => a
  | c => c
def rig : Code → Code
  | .seq _ b => b
  | c => c
theorem len_nil (w : World) (ty : TypeId) : (Builtin.len_ #[42] ty #[.chan none]).run Yba.prog w = .ok (goInt 0) w := by kernel_rfl

set_option maxRecDepth 1000000 in
set_option maxHeartbeats 4000000 in
theorem reg23 {v : World}
    {s0 s1 s2 s3 s4 s5 s6 s7 s8 s9 s10 s11 s12 s13 s14 s15 s16 s17 s18 s19 s20 s21 s22 s23 s24 s25 s26 s27 s28 s29 s30 s31 s32 s33 s34 s35 s36 s37 s38 s39 s40 s41 s42 s43 s44 s45 s46 s47 s48 s49 s50 s51 s52 s53 s54 s55 s56 s57 s58 s59 s60 s61 s62 s63 s64 s65 s66 s67 s68 s69 s70 s71 s72 s73 s74 s75 s76 s77 s78 s79 s80 s81 s82 s83 s84 s85 s86 s87 s88 s89 s90 s91 s92 s93 s94 s95 s96 s97 s98 s99 s100 s101 s102 s103 s104 s105 s106 s107 s108 s109 s110 s111 s112 s113 s114 s115 s116 s117 s118 s119 s120 s121 s122 s123 s124 s125 s126 s127 s128 s129 s130 s131 s132 s133 s134 s135 s136 s137 s138 s139 s140 s141 s142 s143 s144 s145 s146 s147 s148 s149 s150 s151 s152 s153 s154 s155 s156 s157 s158 s159 s160 s161 s162 s163 s164 s165 s166 s167 s168 s169 s170 s171 s172 s173 s174 s175 s176 s177 s178 s179 s180 s181 s182 s183 s184 s185 s186 s187 s188 : Value} {Q : Exit → Act → World → Prop} (hQ : Hd (Q .normal ⟨#[s0, s1, s2, s3, s4, s5, s6, s7, s8, s9, s10, s11, s12, s13, s14, s15, s16, s17, s18, s19, s20, s21, s22, .int .i64 0, s24, s25, s26, s27, s28, s29, s30, s31, s32, s33, s34, s35, s36, s37, s38, s39, s40, s41, s42, s43, s44, s45, s46, s47, s48, s49, s50, s51, s52, s53, s54, s55, s56, s57, s58, s59, s60, s61, s62, s63, s64, s65, s66, s67, s68, s69, s70, s71, s72, s73, s74, s75, s76, s77, s78, s79, s80, s81, s82, s83, s84, s85, s86, s87, s88, s89, s90, s91, s92, s93, s94, s95, s96, s97, s98, s99, s100, s101, s102, s103, s104, s105, s106, s107, s108, s109, s110, s111, s112, s113, s114, s115, s116, s117, s118, s119, s120, s121, s122, s123, s124, s125, s126, s127, s128, s129, s130, s131, s132, s133, s134, s135, s136, s137, s138, s139, s140, s141, s142, s143, s144, s145, s146, s147, s148, s149, s150, s151, s152, s153, s154, s155, s156, s157, s158, s159, s160, s161, s162, s163, s164, s165, s166, s167, s168, s169, s170, s171, s172, s173, s174, s175, s176, s177, s178, s179, s180, s181, s182, s183, s184, s185, s186, s187, s188], []⟩ v)) :
    Code.wp Yba.prog (lef (pm 23)) Q ⟨#[s0, s1, s2, s3, s4, s5, s6, s7, s8, s9, s10, s11, s12, s13, s14, s15, s16, s17, s18, s19, s20, s21, s22, s23, s24, s25, s26, s27, s28, s29, s30, s31, s32, s33, s34, s35, s36, s37, s38, s39, s40, s41, s42, s43, s44, s45, s46, s47, s48, s49, s50, s51, s52, s53, s54, s55, s56, s57, s58, s59, s60, s61, s62, s63, s64, s65, s66, s67, s68, s69, s70, s71, s72, s73, s74, s75, s76, s77, s78, s79, s80, s81, s82, s83, s84, s85, s86, s87, s88, s89, s90, s91, s92, s93, s94, s95, s96, s97, s98, s99, s100, s101, s102, s103, s104, s105, s106, s107, s108, s109, s110, s111, s112, s113, s114, s115, s116, s117, s118, s119, s120, s121, s122, s123, s124, s125, s126, s127, s128, s129, s130, s131, s132, s133, s134, s135, s136, s137, s138, s139, s140, s141, s142, s143, s144, s145, s146, s147, s148, s149, s150, s151, s152, s153, s154, s155, s156, s157, s158, s159, s160, s161, s162, s163, s164, s165, s166, s167, s168, s169, s170, s171, s172, s173, s174, s175, s176, s177, s178, s179, s180, s181, s182, s183, s184, s185, s186, s187, s188], []⟩ v := by
  conv => arg 2; whnf
  go_wp2
  exact hQ.out

set_option maxRecDepth 1000000 in
set_option maxHeartbeats 4000000 in
theorem node24 {v : World} {cp rn lv : Int} (b1 : -128 ≤ cp ∧ cp ≤ 127) (b2 : 0 ≤ rn ∧ rn ≤ 255) (b3 : 0 ≤ lv ∧ lv ≤ 255)
    {s3 s4 s5 s6 s7 s8 s9 s10 s11 s12 s13 s14 s15 s16 s17 s18 s19 s20 s21 s22 s24 s25 s26 s27 s28 s29 s30 s31 s32 s33 s34 s35 s36 s37 s38 s39 s40 s41 s42 s43 s44 s45 s46 s47 s48 s49 s50 s51 s52 s53 s54 s55 s56 s57 s58 s59 s60 s61 s62 s63 s64 s65 s66 s67 s68 s69 s70 s71 s72 s73 s74 s75 s76 s77 s78 s79 s80 s81 s82 s83 s84 s85 s86 s87 s88 s89 s90 s91 s92 s93 s94 s95 s96 s97 s98 s99 s100 s101 s102 s103 s104 s105 s106 s107 s108 s109 s110 s111 s112 s113 s114 s115 s116 s117 s118 s119 s120 s121 s122 s123 s124 s125 s126 s127 s128 s129 s130 s131 s132 s133 s134 s135 s136 s137 s138 s139 s140 s141 s142 s143 s144 s145 s146 s147 s148 s149 s150 s151 s152 s153 s154 s155 s156 s157 s158 s159 s160 s161 s162 s163 s164 s165 s166 s167 s168 s169 s170 s171 s172 s173 s174 s175 s176 s177 s178 s179 s180 s181 s182 s183 s184 s185 s186 s187 s188 : Value} {Q : Exit → Act → World → Prop} (hQ : Hd (∀ (t98 t99 t100 t101 t102 t103 t104 t105 t106 t107 t108 t109 : Value), Q .normal ⟨#[.int .i8 cp, .int .u8 rn, .int .u8 lv, s3, s4, s5, s6, s7, s8, s9, s10, s11, s12, s13, s14, s15, s16, s17, s18, s19, s20, s21, s22, .int .i64 (sur cp rn lv), s24, s25, s26, s27, s28, s29, s30, s31, s32, s33, s34, s35, s36, s37, s38, s39, s40, s41, s42, s43, s44, s45, s46, s47, s48, s49, s50, s51, s52, s53, s54, s55, s56, s57, s58, s59, s60, s61, s62, s63, s64, s65, s66, s67, s68, s69, s70, s71, s72, s73, s74, s75, s76, s77, s78, s79, s80, s81, s82, s83, s84, s85, s86, s87, s88, s89, s90, s91, s92, s93, s94, s95, s96, s97, t98, t99, t100, t101, t102, t103, t104, t105, t106, t107, t108, t109, s110, s111, s112, s113, s114, s115, s116, s117, s118, s119, s120, s121, s122, s123, s124, s125, s126, s127, s128, s129, s130, s131, s132, s133, s134, s135, s136, s137, s138, s139, s140, s141, s142, s143, s144, s145, s146, s147, s148, s149, s150, s151, s152, s153, s154, s155, s156, s157, s158, s159, s160, s161, s162, s163, s164, s165, s166, s167, s168, s169, s170, s171, s172, s173, s174, s175, s176, s177, s178, s179, s180, s181, s182, s183, s184, s185, s186, s187, s188], []⟩ v)) :
    Code.wp Yba.prog (pm 24) Q ⟨#[.int .i8 cp, .int .u8 rn, .int .u8 lv, s3, s4, s5, s6, s7, s8, s9, s10, s11, s12, s13, s14, s15, s16, s17, s18, s19, s20, s21, s22, .int .i64 0, s24, s25, s26, s27, s28, s29, s30, s31, s32, s33, s34, s35, s36, s37, s38, s39, s40, s41, s42, s43, s44, s45, s46, s47, s48, s49, s50, s51, s52, s53, s54, s55, s56, s57, s58, s59, s60, s61, s62, s63, s64, s65, s66, s67, s68, s69, s70, s71, s72, s73, s74, s75, s76, s77, s78, s79, s80, s81, s82, s83, s84, s85, s86, s87, s88, s89, s90, s91, s92, s93, s94, s95, s96, s97, s98, s99, s100, s101, s102, s103, s104, s105, s106, s107, s108, s109, s110, s111, s112, s113, s114, s115, s116, s117, s118, s119, s120, s121, s122, s123, s124, s125, s126, s127, s128, s129, s130, s131, s132, s133, s134, s135, s136, s137, s138, s139, s140, s141, s142, s143, s144, s145, s146, s147, s148, s149, s150, s151, s152, s153, s154, s155, s156, s157, s158, s159, s160, s161, s162, s163, s164, s165, s166, s167, s168, s169, s170, s171, s172, s173, s174, s175, s176, s177, s178, s179, s180, s181, s182, s183, s184, s185, s186, s187, s188], []⟩ v := by
  conv => arg 2; whnf
  obtain ⟨p1, p2⟩ := b1
  obtain ⟨q1, q2⟩ := b2
  obtain ⟨r1, r2⟩ := b3
  by_cases hn : cp < 0
  · have e : sur cp rn lv = 0 := by unfold sur; rw [if_pos hn]
    rw [e] at hQ
    clear e
    go_wp2
    exact hQ.out _ _ _ _ _ _ _ _ _ _ _ _ 
  · by_cases hd : rn - cp - lv < 0
    · have e : sur cp rn lv = 0 := by unfold sur; rw [if_neg hn]; omega
      rw [e] at hQ
      clear e
      go_wp2
      exact hQ.out _ _ _ _ _ _ _ _ _ _ _ _ 
    · have e : sur cp rn lv = rn - cp - lv := by unfold sur; rw [if_neg hn]; omega
      rw [e] at hQ
      clear e
      go_wp2
      exact hQ.out _ _ _ _ _ _ _ _ _ _ _ _ 

set_option maxRecDepth 1000000 in
set_option maxHeartbeats 4000000 in
theorem reg28 {v : World} {hq : Bool} {s : Int} {n : Nat}
    {s0 s1 s2 s3 s5 s6 s7 s8 s9 s10 s11 s12 s13 s14 s15 s16 s17 s19 s20 s21 s22 s24 s25 s26 s27 s28 s29 s30 s31 s32 s33 s34 s35 s36 s37 s38 s39 s40 s41 s42 s43 s44 s45 s46 s47 s48 s49 s50 s51 s52 s53 s54 s55 s56 s57 s58 s59 s60 s61 s62 s63 s64 s65 s66 s67 s68 s69 s70 s71 s72 s73 s74 s75 s76 s77 s78 s79 s80 s81 s82 s83 s84 s85 s86 s87 s88 s89 s90 s91 s92 s93 s94 s95 s96 s97 s98 s99 s100 s101 s102 s103 s104 s105 s106 s107 s108 s109 s110 s111 s112 s113 s114 s115 s116 s117 s118 s119 s120 s121 s122 s123 s124 s125 s126 s127 s128 s129 s130 s131 s132 s133 s134 s135 s136 s137 s138 s139 s140 s141 s142 s143 s144 s145 s146 s147 s148 s149 s150 s151 s152 s153 s154 s155 s156 s157 s158 s159 s160 s161 s162 s163 s164 s165 s166 s167 s168 s169 s170 s171 s172 s173 s174 s175 s176 s177 s178 s179 s180 s181 s182 s183 s184 s185 s186 s187 s188 : Value} {Q : Exit → Act → World → Prop} (hQ : Hd (∀ (t110 t111 t112 t113 t114 t115 t116 t117 t118 : Value), Q .normal ⟨#[s0, s1, s2, s3, .bool hq, s5, s6, s7, s8, s9, s10, s11, s12, s13, s14, s15, s16, s17, .int .i64 n, s19, s20, s21, s22, .int .i64 s, .bool (hq && decide (s = 0) && decide (0 < n)), s25, s26, s27, s28, s29, s30, s31, s32, s33, s34, s35, s36, s37, s38, s39, s40, s41, s42, s43, s44, s45, s46, s47, s48, s49, s50, s51, s52, s53, s54, s55, s56, s57, s58, s59, s60, s61, s62, s63, s64, s65, s66, s67, s68, s69, s70, s71, s72, s73, s74, s75, s76, s77, s78, s79, s80, s81, s82, s83, s84, s85, s86, s87, s88, s89, s90, s91, s92, s93, s94, s95, s96, s97, s98, s99, s100, s101, s102, s103, s104, s105, s106, s107, s108, s109, t110, t111, t112, t113, t114, t115, t116, t117, t118, s119, s120, s121, s122, s123, s124, s125, s126, s127, s128, s129, s130, s131, s132, s133, s134, s135, s136, s137, s138, s139, s140, s141, s142, s143, s144, s145, s146, s147, s148, s149, s150, s151, s152, s153, s154, s155, s156, s157, s158, s159, s160, s161, s162, s163, s164, s165, s166, s167, s168, s169, s170, s171, s172, s173, s174, s175, s176, s177, s178, s179, s180, s181, s182, s183, s184, s185, s186, s187, s188], []⟩ v)) :
    Code.wp Yba.prog (lef (pm 28)) Q ⟨#[s0, s1, s2, s3, .bool hq, s5, s6, s7, s8, s9, s10, s11, s12, s13, s14, s15, s16, s17, .int .i64 n, s19, s20, s21, s22, .int .i64 s, s24, s25, s26, s27, s28, s29, s30, s31, s32, s33, s34, s35, s36, s37, s38, s39, s40, s41, s42, s43, s44, s45, s46, s47, s48, s49, s50, s51, s52, s53, s54, s55, s56, s57, s58, s59, s60, s61, s62, s63, s64, s65, s66, s67, s68, s69, s70, s71, s72, s73, s74, s75, s76, s77, s78, s79, s80, s81, s82, s83, s84, s85, s86, s87, s88, s89, s90, s91, s92, s93, s94, s95, s96, s97, s98, s99, s100, s101, s102, s103, s104, s105, s106, s107, s108, s109, s110, s111, s112, s113, s114, s115, s116, s117, s118, s119, s120, s121, s122, s123, s124, s125, s126, s127, s128, s129, s130, s131, s132, s133, s134, s135, s136, s137, s138, s139, s140, s141, s142, s143, s144, s145, s146, s147, s148, s149, s150, s151, s152, s153, s154, s155, s156, s157, s158, s159, s160, s161, s162, s163, s164, s165, s166, s167, s168, s169, s170, s171, s172, s173, s174, s175, s176, s177, s178, s179, s180, s181, s182, s183, s184, s185, s186, s187, s188], []⟩ v := by
  conv => arg 2; whnf
  cases hq
  · simp only [Bool.false_and] at hQ
    go_wp2
    exact hQ.out _ _ _ _ _ _ _ _ _ 
  · by_cases hs : s = 0
    · subst hs
      by_cases hn : 0 < n
      · have h2 : (0 : Int) < n := by omega
        simp only [hn, decide_true, Bool.and_true] at hQ
        go_wp2
        exact hQ.out _ _ _ _ _ _ _ _ _ 
      · obtain rfl : n = 0 := by omega
        simp only [Nat.lt_irrefl, decide_false, Bool.and_false] at hQ
        go_wp2
        exact hQ.out _ _ _ _ _ _ _ _ _ 
    · simp only [hs, decide_false, Bool.and_false, Bool.false_and] at hQ
      go_wp2
      exact hQ.out _ _ _ _ _ _ _ _ _ 

set_option maxRecDepth 1000000 in
set_option maxHeartbeats 4000000 in
theorem no_nil {w v : World} {c wk : Nat} {st : Int} (h146 : v.cell? ⟨c, 146, none⟩ = some (.int .i32 1)) (hz : ∀ j, v.frozen? ⟨c, j, none⟩ = false) (h171 : v.cell? ⟨c, 171, none⟩ = some (.int .i64 0)) (ht : v.cell? ⟨wk, 0, none⟩ = some (.int .i64 st)) (hne : wk ≠ c) (hwc : w.heap.size ≤ c) (hbel : Below w.heap.size w v) (h15 : v.cell? ⟨c, 15, none⟩ = some (.chan none)) {s0 s1 s2 s3 s4 s5 s6 s8 s9 s10 s11 s12 s13 s14 s15 s16 s19 s20 s23 s25 s26 s27 s28 s29 s30 s31 s32 s33 s34 s35 s36 s37 s38 s39 s40 s41 s42 s43 s44 s45 s46 s47 s48 s49 s50 s51 s52 s53 s54 s55 s56 s57 s58 s59 s60 s61 s62 s63 s64 s65 s66 s67 s68 s69 s70 s71 s72 s73 s74 s75 s76 s77 s78 s79 s80 s81 s82 s83 s84 s85 s86 s87 s88 s89 s90 s91 s92 s93 s94 s95 s96 s97 s98 s99 s100 s101 s102 s103 s104 s105 s106 s107 s108 s109 s110 s111 s112 s113 s114 s115 s116 s117 s118 s119 s120 s121 s122 s123 s124 s125 s126 s127 s128 s129 s130 s131 s132 s133 s134 s135 s136 s137 s138 s139 s140 s141 s142 s143 s144 s145 s146 s147 s148 s149 s150 s151 s152 s153 s154 s155 s156 s157 s158 s159 s160 s161 s162 s163 s164 s165 s166 s167 s168 s169 s170 s171 s172 s173 s174 s175 s176 s177 s178 s179 s180 s181 s182 s183 s184 s185 s186 s187 s188 : Value} :
    Code.wp Yba.prog (pm 29) (bodyPost Yba.prog Yba.f3 (fun e w' => e = Ending.returned (Value.bool true) ∧ Below w.heap.size w w')) ⟨#[s0, s1, s2, s3, s4, s5, s6, .int .i64 st, s8, s9, s10, s11, s12, s13, s14, s15, s16, .pointer (some ⟨c, 0, none⟩), .int .i64 0, s19, s20, .pointer (some ⟨wk, 0, none⟩), .bool false, s23, .bool false, s25, s26, s27, s28, s29, s30, s31, s32, s33, s34, s35, s36, s37, s38, s39, s40, s41, s42, s43, s44, s45, s46, s47, s48, s49, s50, s51, s52, s53, s54, s55, s56, s57, s58, s59, s60, s61, s62, s63, s64, s65, s66, s67, s68, s69, s70, s71, s72, s73, s74, s75, s76, s77, s78, s79, s80, s81, s82, s83, s84, s85, s86, s87, s88, s89, s90, s91, s92, s93, s94, s95, s96, s97, s98, s99, s100, s101, s102, s103, s104, s105, s106, s107, s108, s109, s110, s111, s112, s113, s114, s115, s116, s117, s118, s119, s120, s121, s122, s123, s124, s125, s126, s127, s128, s129, s130, s131, s132, s133, s134, s135, s136, s137, s138, s139, s140, s141, s142, s143, s144, s145, s146, s147, s148, s149, s150, s151, s152, s153, s154, s155, s156, s157, s158, s159, s160, s161, s162, s163, s164, s165, s166, s167, s168, s169, s170, s171, s172, s173, s174, s175, s176, s177, s178, s179, s180, s181, s182, s183, s184, s185, s186, s187, s188], []⟩ v := by
  conv => arg 2; whnf
  have HB : Hd _ := hbel
  clear hbel
  go_wp2_with fail
  refine (try_held ⟨c, 146, none⟩ v h146).mono ?_
  rintro e w1 ⟨rfl, rfl⟩
  go_wp2_with fail
  refine (unlock_held muLib ⟨c, 146, none⟩ _ h146 (hz 146)).mono ?_
  rintro e w2 ⟨rfl, e2⟩
  have g15 : w2.cell? ⟨c, 15, none⟩ = some (.chan none) := by rw [e2]; exact (World.cell?_setCell_other _ ⟨c, 146, none⟩ ⟨c, 15, none⟩ _ (by simp)).trans h15
  have g171 : w2.cell? ⟨c, 171, none⟩ = some (.int .i64 0) := by rw [e2]; exact (World.cell?_setCell_other _ ⟨c, 146, none⟩ ⟨c, 171, none⟩ _ (by simp)).trans h171
  have gt : w2.cell? ⟨wk, 0, none⟩ = some (.int .i64 st) := by rw [e2]; exact (cell_heap (heap_other _ ⟨c, 146, none⟩ _ wk hne) 0).trans ht
  have hln := fun ty => len_nil w2 ty
  have bel2 : Below w.heap.size w w2 := by rw [e2]; exact HB.out.setCell (p := ⟨c, 146, none⟩) hwc _
  have HB2 : Hd _ := bel2
  clear HB e2 h146 h15 h171 ht bel2
  go_wp2_with (go_at_call 9; refine (load_any _ _ _ g171).mono ?_; rintro e w' ⟨rfl, rfl⟩)
  go_ret
  exact ⟨rfl, HB2.out⟩

set_option maxRecDepth 1000000 in
set_option maxHeartbeats 4000000 in
theorem no_chan {w v : World} {c wk n : Nat} {st : Int} (h146 : v.cell? ⟨c, 146, none⟩ = some (.int .i32 1)) (hz : ∀ j, v.frozen? ⟨c, j, none⟩ = false) (h171 : v.cell? ⟨c, 171, none⟩ = some (.int .i64 n)) (ht : v.cell? ⟨wk, 0, none⟩ = some (.int .i64 st)) (hne : wk ≠ c) (hwc : w.heap.size ≤ c) (hbel : Below w.heap.size w v) (hn64 : n ≤ 64) {ch cap s r : Nat} {buf : Array Value} (h15 : v.cell? ⟨c, 15, none⟩ = some (.chan (some ch))) (hch : v.heap[ch]? = some (.chan cap buf false s r false)) (hbs : buf.size = n) (hcc : ch ≠ c) {s0 s1 s2 s3 s4 s5 s6 s8 s9 s10 s11 s12 s13 s14 s15 s16 s19 s20 s23 s25 s26 s27 s28 s29 s30 s31 s32 s33 s34 s35 s36 s37 s38 s39 s40 s41 s42 s43 s44 s45 s46 s47 s48 s49 s50 s51 s52 s53 s54 s55 s56 s57 s58 s59 s60 s61 s62 s63 s64 s65 s66 s67 s68 s69 s70 s71 s72 s73 s74 s75 s76 s77 s78 s79 s80 s81 s82 s83 s84 s85 s86 s87 s88 s89 s90 s91 s92 s93 s94 s95 s96 s97 s98 s99 s100 s101 s102 s103 s104 s105 s106 s107 s108 s109 s110 s111 s112 s113 s114 s115 s116 s117 s118 s119 s120 s121 s122 s123 s124 s125 s126 s127 s128 s129 s130 s131 s132 s133 s134 s135 s136 s137 s138 s139 s140 s141 s142 s143 s144 s145 s146 s147 s148 s149 s150 s151 s152 s153 s154 s155 s156 s157 s158 s159 s160 s161 s162 s163 s164 s165 s166 s167 s168 s169 s170 s171 s172 s173 s174 s175 s176 s177 s178 s179 s180 s181 s182 s183 s184 s185 s186 s187 s188 : Value} :
    Code.wp Yba.prog (pm 29) (bodyPost Yba.prog Yba.f3 (fun e w' => e = Ending.returned (Value.bool true) ∧ Below w.heap.size w w')) ⟨#[s0, s1, s2, s3, s4, s5, s6, .int .i64 st, s8, s9, s10, s11, s12, s13, s14, s15, s16, .pointer (some ⟨c, 0, none⟩), .int .i64 n, s19, s20, .pointer (some ⟨wk, 0, none⟩), .bool false, s23, .bool false, s25, s26, s27, s28, s29, s30, s31, s32, s33, s34, s35, s36, s37, s38, s39, s40, s41, s42, s43, s44, s45, s46, s47, s48, s49, s50, s51, s52, s53, s54, s55, s56, s57, s58, s59, s60, s61, s62, s63, s64, s65, s66, s67, s68, s69, s70, s71, s72, s73, s74, s75, s76, s77, s78, s79, s80, s81, s82, s83, s84, s85, s86, s87, s88, s89, s90, s91, s92, s93, s94, s95, s96, s97, s98, s99, s100, s101, s102, s103, s104, s105, s106, s107, s108, s109, s110, s111, s112, s113, s114, s115, s116, s117, s118, s119, s120, s121, s122, s123, s124, s125, s126, s127, s128, s129, s130, s131, s132, s133, s134, s135, s136, s137, s138, s139, s140, s141, s142, s143, s144, s145, s146, s147, s148, s149, s150, s151, s152, s153, s154, s155, s156, s157, s158, s159, s160, s161, s162, s163, s164, s165, s166, s167, s168, s169, s170, s171, s172, s173, s174, s175, s176, s177, s178, s179, s180, s181, s182, s183, s184, s185, s186, s187, s188], []⟩ v := by
  conv => arg 2; whnf
  have HB : Hd _ := hbel
  clear hbel
  go_wp2_with fail
  refine (try_held ⟨c, 146, none⟩ v h146).mono ?_
  rintro e w1 ⟨rfl, rfl⟩
  go_wp2_with fail
  refine (unlock_held muLib ⟨c, 146, none⟩ _ h146 (hz 146)).mono ?_
  rintro e w2 ⟨rfl, e2⟩
  have g15 : w2.cell? ⟨c, 15, none⟩ = some (.chan (some ch)) := by rw [e2]; exact (World.cell?_setCell_other _ ⟨c, 146, none⟩ ⟨c, 15, none⟩ _ (by simp)).trans h15
  have g171 : w2.cell? ⟨c, 171, none⟩ = some (.int .i64 n) := by rw [e2]; exact (World.cell?_setCell_other _ ⟨c, 146, none⟩ ⟨c, 171, none⟩ _ (by simp)).trans h171
  have gt : w2.cell? ⟨wk, 0, none⟩ = some (.int .i64 st) := by rw [e2]; exact (cell_heap (heap_other _ ⟨c, 146, none⟩ _ wk hne) 0).trans ht
  have gc : w2.heap[ch]? = some (.chan cap buf false s r false) := by rw [e2]; exact (heap_other _ ⟨c, 146, none⟩ _ ch hcc).trans hch
  have hln := fun ty => run_len_chan (P := Yba.prog) 42 ty Yba.underlying42 gc
  rw [hbs] at hln
  clear gc hch
  have bel2 : Below w.heap.size w w2 := by rw [e2]; exact HB.out.setCell (p := ⟨c, 146, none⟩) hwc _
  have HB2 : Hd _ := bel2
  clear HB e2 h146 h15 h171 ht bel2
  go_wp2_with (go_at_call 9; refine (load_any _ _ _ g171).mono ?_; rintro e w' ⟨rfl, rfl⟩)
  go_ret
  exact ⟨rfl, HB2.out⟩

set_option maxRecDepth 1000000 in
set_option maxHeartbeats 4000000 in
theorem yes_any {w v : World} {c wk ch cap s r n ib ioff len icap : Nat} {buf : Array Value} {x : Int} (A : Aft v c wk ch cap s r buf x ((n : Int) - 1) 0) (hbs : (buf.size : Int) = (n : Int) - 1) (hn0 : 0 < n) (hn64 : n ≤ 64) (hlen : 0 < len) (hit : v.cell? ⟨ib, ioff, none⟩ = some (.int .i64 x)) (hne : wk ≠ c) (hcc : ch ≠ c) (hic : ib ≠ c) (hwc : w.heap.size ≤ c) (hbel : Below w.heap.size w v) {s0 s1 s2 s3 s4 s5 s7 s8 s9 s10 s11 s12 s13 s14 s15 s16 s19 s20 s23 s25 s26 s27 s28 s29 s30 s31 s32 s33 s34 s35 s36 s37 s38 s39 s40 s41 s42 s43 s44 s45 s46 s47 s48 s49 s50 s51 s52 s53 s54 s55 s56 s57 s58 s59 s60 s61 s62 s63 s64 s65 s66 s67 s68 s69 s70 s71 s72 s73 s74 s75 s76 s77 s78 s79 s80 s81 s82 s83 s84 s85 s86 s87 s88 s89 s90 s91 s92 s93 s94 s95 s96 s97 s98 s99 s100 s101 s102 s103 s104 s105 s106 s107 s108 s109 s110 s111 s112 s113 s114 s115 s116 s117 s118 s119 s120 s121 s122 s123 s124 s125 s126 s127 s128 s129 s130 s131 s132 s133 s134 s135 s136 s137 s138 s139 s140 s141 s142 s143 s144 s145 s146 s147 s148 s149 s150 s151 s152 s153 s154 s155 s156 s157 s158 s159 s160 s161 s162 s163 s164 s165 s166 s167 s168 s169 s170 s171 s172 s173 s174 s175 s176 s177 s178 s179 s180 s181 s182 s183 s184 s185 s186 s187 s188 : Value} :
    Code.wp Yba.prog (pm 29) (bodyPost Yba.prog Yba.f3 (fun e w' => e = Ending.returned (Value.bool true) ∧ Below w.heap.size w w')) ⟨#[s0, s1, s2, s3, s4, s5, .slice (some ⟨ib, ioff, none⟩) len icap, s7, s8, s9, s10, s11, s12, s13, s14, s15, s16, .pointer (some ⟨c, 0, none⟩), .int .i64 n, s19, s20, .pointer (some ⟨wk, 0, none⟩), .bool true, s23, .bool true, s25, s26, s27, s28, s29, s30, s31, s32, s33, s34, s35, s36, s37, s38, s39, s40, s41, s42, s43, s44, s45, s46, s47, s48, s49, s50, s51, s52, s53, s54, s55, s56, s57, s58, s59, s60, s61, s62, s63, s64, s65, s66, s67, s68, s69, s70, s71, s72, s73, s74, s75, s76, s77, s78, s79, s80, s81, s82, s83, s84, s85, s86, s87, s88, s89, s90, s91, s92, s93, s94, s95, s96, s97, s98, s99, s100, s101, s102, s103, s104, s105, s106, s107, s108, s109, s110, s111, s112, s113, s114, s115, s116, s117, s118, s119, s120, s121, s122, s123, s124, s125, s126, s127, s128, s129, s130, s131, s132, s133, s134, s135, s136, s137, s138, s139, s140, s141, s142, s143, s144, s145, s146, s147, s148, s149, s150, s151, s152, s153, s154, s155, s156, s157, s158, s159, s160, s161, s162, s163, s164, s165, s166, s167, s168, s169, s170, s171, s172, s173, s174, s175, s176, s177, s178, s179, s180, s181, s182, s183, s184, s185, s186, s187, s188], []⟩ v := by
  conv => arg 2; whnf
  have h146 := A.c146
  have z146 := A.fz 146
  have HA : Hd _ := And.intro A (And.intro hbel hit)
  clear A hbel hit
  go_wp2_with fail
  refine (try_free ⟨c, 146, none⟩ v h146 z146).mono ?_
  rintro e w1 ⟨rfl, e1⟩
  have k146 : w1.cell? ⟨c, 146, none⟩ = some (.int .i32 1) := by rw [e1]; exact World.cell?_setCell_same _ ⟨c, 146, none⟩ _ h146
  have k2 : w1.frozen? ⟨c, 146, none⟩ = false := by rw [e1]; simp [z146]
  have H1 : Hd _ := e1
  clear e1 h146 z146
  go_wp2_with fail
  refine (unlock_held muLib ⟨c, 146, none⟩ _ k146 k2).mono ?_
  rintro e w2 ⟨rfl, e2⟩
  obtain ⟨A, hbel, hit⟩ := HA.out
  have e1 := H1.out
  have hh : ∀ b, b ≠ c → w2.heap[b]? = v.heap[b]? := fun b hb => by rw [e2, e1]; exact (heap_other _ ⟨c, 146, none⟩ _ b hb).trans (heap_other _ ⟨c, 146, none⟩ _ b hb)
  have hcl : ∀ j, j ≠ 146 → w2.cell? ⟨c, j, none⟩ = v.cell? ⟨c, j, none⟩ := fun j hj => by rw [e2, e1]; exact (World.cell?_setCell_other _ ⟨c, 146, none⟩ ⟨c, j, none⟩ _ (by simp)).trans (World.cell?_setCell_other _ ⟨c, 146, none⟩ ⟨c, j, none⟩ _ (by simp))
  have g15 : w2.cell? ⟨c, 15, none⟩ = some (.chan (some ch)) := (hcl 15 (by omega)).trans A.c15
  have g171 : w2.cell? ⟨c, 171, none⟩ = some (.int .i64 ((n : Int) - 1)) := (hcl 171 (by omega)).trans A.c171
  have gt : w2.cell? ⟨wk, 0, none⟩ = some (.int .i64 x) := (cell_heap (hh wk hne) 0).trans A.t0
  have gi : w2.cell? ⟨ib, ioff, none⟩ = some (.int .i64 x) := (cell_heap (hh ib hic) ioff).trans hit
  have gc : w2.heap[ch]? = some (.chan cap buf false s r false) := (hh ch hcc).trans A.hb
  have hln := fun m ty => run_len_chan (P := Yba.prog) (w := w2.drewN m) 42 ty Yba.underlying42 gc
  rw [hbs] at hln
  have bel2 : Below w.heap.size w w2 := by rw [e2, e1]; exact (hbel.setCell (p := ⟨c, 146, none⟩) hwc _).setCell (p := ⟨c, 146, none⟩) hwc _
  have HB2 : Hd _ := bel2
  clear A hbel hit e1 e2 H1 HA hh hcl gc k146 k2 bel2
  go_wp2
  go_quiet (exact Calls.quiet_of_same (load_any _ _ _ g171))
  go_wp2
  go_ret
  exact ⟨rfl, HB2.out.trans (below_drewN _ _ _)⟩

end Go.Proofs.Ybulklwm
