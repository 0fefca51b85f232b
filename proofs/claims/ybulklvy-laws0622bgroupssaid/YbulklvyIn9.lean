/-
  'LawS0622BGroups' (function 4): the concert groups, the loops inside.
-/
import Derived.Test.YbulklvyHeld
namespace Go.Proofs.Ybulklvy
open Go.ChangeShapes Go.WideShapes Go.ChangeAt Go.RowKit Go.Instr
set_option linter.unusedVariables false

/-- A group's holders. -/
def g8 (g : List Int) : List Nat := g.map fun h => (h % 8).toNat
theorem g8_len (g : List Int) : (g8 g).length = g.length := by simp [g8]
theorem g8_snoc {g : List Int} {k : Nat} {h : Int} (e : g[k]? = some h) : g8 (g.take (k + 1)) = g8 (g.take k) ++ [(h % 8).toNat] := by rw [take_snoc e]; simp [g8]
theorem g8_at {g : List Int} {k : Nat} {h : Int} (e : g[k]? = some h) : (g8 g)[k]? = some (h % 8).toNat := by simp [g8, e]
theorem g8_lt (g : List Int) : ∀ k ∈ g8 g, k < 8 := by
  intro k hk
  obtain ⟨x, _, rfl⟩ := List.mem_map.1 hk
  omega

set_option maxRecDepth 1000000 in
set_option maxHeartbeats 8000000 in
theorem node70 {v w : World} {V NB : Nat} {acs : List Ac} (hok : ∀ a ∈ acs, a.ok) (hla : acs.length ≤ 1024) {g : List Int} {sa : Option Addr} {sc' : Nat} (hg : ∀ x ∈ g, 0 ≤ x ∧ x ≤ 255) (hgl : g.length ≤ 64)
    (R : RowAt u8c 1 w.heap.size v sa g) (hw : w.heap.size ≤ NB) (S : CellsAt v V (arr8 (fun q => .int .i64 (shr acs q))) 57) (hV : V < NB) (N0 : Vals v 9 NB g.length (fun _ => .string ⟨#[]⟩))
    {s0 s1 s2 s3 s4 s5 s6 s7 s8 s9 s10 s11 s12 s13 s14 s15 s16 s17 s18 s19 s20 s22 s23 s24 s25 s26 s27 s28 s29 s30 s31 s32 s33 s34 s35 s36 s37 s38 s39 s40 s41 s42 s43 s44 s45 s49 s50 s51 s52 s53 s54 s55 s56 s57 s58 s59 s60 s61 s62 s63 s64 s65 s66 s67 s68 s69 s70 s71 s72 s73 s74 s75 s76 s77 s78 s79 s80 s81 s82 s83 s84 s85 s86 s87 s88 s89 s90 s91 s92 s93 s94 s95 s96 s97 s98 s99 s100 s101 s102 s103 s104 s105 s106 s107 s108 s109 s110 s111 s112 s113 s114 s115 s116 s117 s118 s119 s120 s121 s122 s123 s124 s125 s126 s127 s128 s129 s130 s131 s132 s133 s134 s135 s136 s137 s138 s139 s140 s141 s142 s143 s144 s145 s146 s147 s148 s149 s150 s151 s152 s153 s154 s155 s156 s157 s158 s159 s160 s161 s162 s163 s164 s165 s166 s167 s168 s169 s170 s171 s172 s173 s174 s175 s176 s177 s178 s179 s180 s181 s182 s183 s184 s185 s186 s187 s188 s189 s190 s191 s192 s193 s194 s195 s196 s197 s198 s199 s200 s201 s202 s203 s204 s205 s206 s207 s208 s209 s210 s211 s212 s213 s214 s215 s216 s217 s218 s219 s220 s221 s222 s223 s224 s225 s226 s227 s228 s229 s230 s231 s232 s233 s234 s235 s236 s237 s238 s239 s240 s241 s242 s243 s244 s245 s246 s247 s248 s249 s250 s251 s252 s253 s254 s255 s256 s257 s258 s259 s260 s261 s262 s263 s264 s265 s266 s267 s268 s269 s270 s271 s272 s273 s274 s275 s276 s277 s278 s279 s280 s281 s282 s283 s284 s285 s286 s287 s288 s289 s290 s291 s292 s293 s294 s295 s296 s297 s298 s299 s300 s301 s302 s303 s304 s305 s306 s307 s308 s309 s310 s311 s312 s313 s314 s315 s316 s317 s318 s319 s320 s321 s322 s323 s324 s325 s326 s327 s328 s329 s330 s331 s332 s333 s334 s335 s336 s337 s338 s339 s340 s341 s342 s343 s344 s345 s346 s347 s348 s349 s350 s351 s352 s353 s354 s355 s356 s357 s358 s359 s360 s361 s362 s363 s364 s365 s366 s367 s368 s369 s370 s371 s372 s373 s374 s375 s376 s377 s378 s379 s380 s381 s382 s383 s384 s385 s386 s387 s388 s389 s390 s391 s392 s393 s394 s395 s396 s397 s398 s399 s400 s401 s402 s403 s404 s405 s406 s407 : Value} {Q : Exit → Act → World → Prop} {K : Act → World → Prop} (hK : ∀ a w, Code.wp Yba.prog (rig (pc 70)) Q a w → K a w)
    (hQ : Hid (∀ (t49 t50 t51 t282 t283 t284 t285 t286 t287 t288 t289 t290 t291 t292 t293 t294 t295 t296 t297 t298 t299 t300 t301 t302 : Value) (wx : World) (p : Nat → Value), Vals wx 9 NB g.length p → (∀ i h, g[i]? = some h → p i = .string (nm (h % 8).toNat)) → Below NB v wx → wx.heap.size = v.heap.size → Q .normal ⟨#[s0, s1, s2, s3, s4, s5, s6, s7, s8, s9, s10, s11, s12, s13, s14, s15, s16, s17, s18, s19, s20, .pointer (some ⟨V, 0, none⟩), s22, s23, s24, s25, s26, s27, s28, s29, s30, s31, s32, s33, s34, s35, s36, s37, s38, s39, s40, s41, s42, s43, s44, s45, .slice sa g.length sc', .slice (some ⟨NB, 0, none⟩) g.length g.length, .int .i64 (gsum acs (g8 g)), t49, t50, t51, s52, s53, s54, s55, s56, s57, s58, s59, s60, s61, s62, s63, s64, s65, s66, s67, s68, s69, s70, s71, s72, s73, s74, s75, s76, s77, s78, s79, s80, s81, s82, s83, s84, s85, s86, s87, s88, s89, s90, s91, s92, s93, s94, s95, s96, s97, s98, s99, s100, s101, s102, s103, s104, s105, s106, s107, s108, s109, s110, s111, s112, s113, s114, s115, s116, s117, s118, s119, s120, s121, s122, s123, s124, s125, s126, s127, s128, s129, s130, s131, s132, s133, s134, s135, s136, s137, s138, s139, s140, s141, s142, s143, s144, s145, s146, s147, s148, s149, s150, s151, s152, s153, s154, s155, s156, s157, s158, s159, s160, s161, s162, s163, s164, s165, s166, s167, s168, s169, s170, s171, s172, s173, s174, s175, s176, s177, s178, s179, s180, s181, s182, s183, s184, s185, s186, s187, s188, s189, s190, s191, s192, s193, s194, s195, s196, s197, s198, s199, s200, s201, s202, s203, s204, s205, s206, s207, s208, s209, s210, s211, s212, s213, s214, s215, s216, s217, s218, s219, s220, s221, s222, s223, s224, s225, s226, s227, s228, s229, s230, s231, s232, s233, s234, s235, s236, s237, s238, s239, s240, s241, s242, s243, s244, s245, s246, s247, s248, s249, s250, s251, s252, s253, s254, s255, s256, s257, s258, s259, s260, s261, s262, s263, s264, s265, s266, s267, s268, s269, s270, s271, s272, s273, s274, s275, s276, s277, s278, s279, s280, s281, t282, t283, t284, t285, t286, t287, t288, t289, t290, t291, t292, t293, t294, t295, t296, t297, t298, t299, t300, t301, t302, s303, s304, s305, s306, s307, s308, s309, s310, s311, s312, s313, s314, s315, s316, s317, s318, s319, s320, s321, s322, s323, s324, s325, s326, s327, s328, s329, s330, s331, s332, s333, s334, s335, s336, s337, s338, s339, s340, s341, s342, s343, s344, s345, s346, s347, s348, s349, s350, s351, s352, s353, s354, s355, s356, s357, s358, s359, s360, s361, s362, s363, s364, s365, s366, s367, s368, s369, s370, s371, s372, s373, s374, s375, s376, s377, s378, s379, s380, s381, s382, s383, s384, s385, s386, s387, s388, s389, s390, s391, s392, s393, s394, s395, s396, s397, s398, s399, s400, s401, s402, s403, s404, s405, s406, s407], []⟩ wx)) :
    Code.wp Yba.prog (lef (pc 70)) (Exit.then K Q) ⟨#[s0, s1, s2, s3, s4, s5, s6, s7, s8, s9, s10, s11, s12, s13, s14, s15, s16, s17, s18, s19, s20, .pointer (some ⟨V, 0, none⟩), s22, s23, s24, s25, s26, s27, s28, s29, s30, s31, s32, s33, s34, s35, s36, s37, s38, s39, s40, s41, s42, s43, s44, s45, .slice sa g.length sc', .slice (some ⟨NB, 0, none⟩) g.length g.length, .int .i64 0, s49, s50, s51, s52, s53, s54, s55, s56, s57, s58, s59, s60, s61, s62, s63, s64, s65, s66, s67, s68, s69, s70, s71, s72, s73, s74, s75, s76, s77, s78, s79, s80, s81, s82, s83, s84, s85, s86, s87, s88, s89, s90, s91, s92, s93, s94, s95, s96, s97, s98, s99, s100, s101, s102, s103, s104, s105, s106, s107, s108, s109, s110, s111, s112, s113, s114, s115, s116, s117, s118, s119, s120, s121, s122, s123, s124, s125, s126, s127, s128, s129, s130, s131, s132, s133, s134, s135, s136, s137, s138, s139, s140, s141, s142, s143, s144, s145, s146, s147, s148, s149, s150, s151, s152, s153, s154, s155, s156, s157, s158, s159, s160, s161, s162, s163, s164, s165, s166, s167, s168, s169, s170, s171, s172, s173, s174, s175, s176, s177, s178, s179, s180, s181, s182, s183, s184, s185, s186, s187, s188, s189, s190, s191, s192, s193, s194, s195, s196, s197, s198, s199, s200, s201, s202, s203, s204, s205, s206, s207, s208, s209, s210, s211, s212, s213, s214, s215, s216, s217, s218, s219, s220, s221, s222, s223, s224, s225, s226, s227, s228, s229, s230, s231, s232, s233, s234, s235, s236, s237, s238, s239, s240, s241, s242, s243, s244, s245, s246, s247, s248, s249, s250, s251, s252, s253, s254, s255, s256, s257, s258, s259, s260, s261, s262, s263, s264, s265, s266, s267, s268, s269, s270, s271, s272, s273, s274, s275, s276, s277, s278, s279, s280, s281, s282, s283, s284, s285, s286, s287, s288, s289, s290, s291, s292, s293, s294, s295, s296, s297, s298, s299, s300, s301, s302, s303, s304, s305, s306, s307, s308, s309, s310, s311, s312, s313, s314, s315, s316, s317, s318, s319, s320, s321, s322, s323, s324, s325, s326, s327, s328, s329, s330, s331, s332, s333, s334, s335, s336, s337, s338, s339, s340, s341, s342, s343, s344, s345, s346, s347, s348, s349, s350, s351, s352, s353, s354, s355, s356, s357, s358, s359, s360, s361, s362, s363, s364, s365, s366, s367, s368, s369, s370, s371, s372, s373, s374, s375, s376, s377, s378, s379, s380, s381, s382, s383, s384, s385, s386, s387, s388, s389, s390, s391, s392, s393, s394, s395, s396, s397, s398, s399, s400, s401, s402, s403, s404, s405, s406, s407], []⟩ v := by
  conv => arg 2; whnf
  conv at hK => enter [a, w, 1, 2]; whnf
  have HR : Hid _ := R
  have HG : Hid _ := hg
  have HO : Hid _ := hok
  clear R hg hok
  go_wp2
  go_loopw [48, 284] (fun s i wr => ∃ (k : Nat) (p : Nat → Value), k ≤ g.length ∧ i = .int .i64 k ∧ s = .int .i64 (gsum acs (g8 (g.take k))) ∧ Vals wr 9 NB g.length p ∧ (∀ i h, i < k → g[i]? = some h → p i = .string (nm (h % 8).toNat)) ∧ Below NB v wr ∧ wr.heap.size = v.heap.size) (fun _ i _ => g.length - (intOf i).toNat)
  case atStart => exact ⟨0, _, Nat.zero_le _, rfl, rfl, N0, fun i h hi => by omega, Below.refl _ _, rfl⟩
  case round =>
    obtain ⟨k, p, hk, rfl, rfl, N1, hp, bel, hs⟩ := hrel
    by_cases hlt : k < g.length
    · obtain ⟨h, hh⟩ : ∃ h, g[k]? = some h := ⟨g[k], List.getElem?_eq_getElem hlt⟩
      obtain ⟨h0, h1⟩ := HG.out h (List.mem_of_getElem? hh)
      obtain ⟨b, off, hx, hb, hc⟩ := (RowAt.below HR.out bel hw).at hh
      have c0 : wr.cell? ⟨b, off + k, none⟩ = some (.int .u8 h) := by have := hc 0 _ rfl; simpa using this
      have hk8 : (h % 8).toNat < 8 := by omega
      have i0 : 0 ≤ h % 8 := by omega
      have i1 : h % 8 < 8 := by omega
      have s0 : wr.cell? ⟨V, (h % 8).toNat, none⟩ = some (.int .i64 (shr acs (h % 8).toNat)) := ((S.below bel hV).cell _).trans (arr8_at _ hk8)
      have n0 : wr.cell? ⟨NB, k, none⟩ = some (p k) := N1.cell hlt
      have n1 := N1.frozen k
      have hj0 : (0 : Int) ≤ (k : Int) := Int.natCast_nonneg _
      have hj1 : (k : Int) < (g.length : Int) := by omega
      have sb := shr_bd acs (h % 8).toNat HO.out
      have gb := gsum_bd acs HO.out (g8 (g.take k))
      have gb2 : gsum acs (g8 (g.take k)) ≤ 4294967295 * 1024 * 64 := Int.le_trans gb.2 (by
        have a1 : (acs.length : Int) ≤ 1024 := by omega
        have a2 : ((g8 (g.take k)).length : Int) ≤ 64 := by rw [g8_len, List.length_take]; omega
        have m1 : 4294967295 * (acs.length : Int) ≤ 4294967295 * 1024 := by omega
        exact Int.mul_le_mul m1 a2 (by omega) (by omega))
      have gb1 := gb.1
      have sb1 := sb.1
      have sb2 : shr acs (h % 8).toNat ≤ 4294967295 * 1024 := by omega
      have hne : V ≠ NB := by omega
      have gs := gsum_snoc acs (g8 (g.take k)) (h % 8).toNat
      have HH : Hid _ := And.intro S (And.intro N0 (And.intro N1 (And.intro bel (And.intro hp (And.intro hh (And.intro gs hs))))))
      clear S N0 N1 bel hc hp hh gb sb gs hla
      subst hx
      go_wp2_with (go_at_call 9; refine (name_int _ _ (by omega) (by omega)).mono ?_; rintro e w' ⟨rfl, rfl⟩)
      go_roundw
      case rel =>
        obtain ⟨S, N0, N1, bel, hp, hh, gs, hs⟩ := HH.out
        refine ⟨k + 1, _, by omega, by go_num, ?_, N1.set k (.string (nm (h % 8).toNat)), ?_, bel.setCell (Nat.le_refl _) _, by simpa [World.setCell] using hs⟩
        · rw [g8_snoc hh, gs]
        · intro i h' hi hi'
          by_cases e : i = k
          · subst e; rw [hh] at hi'; cases hi'; simp
          · simp only [if_neg e]; exact hp i h' (by omega) hi'
      case measure => simp [intOf]; omega
    · have hk2 : k = g.length := by omega
      subst hk2
      rw [List.take_of_length_le (Nat.le_refl _)]
      have HH : Hid _ := And.intro N1 (And.intro bel hp)
      clear S N0 N1 bel hp
      go_wp2
      obtain ⟨N1, bel, hp⟩ := HH.out
      exact hQ.out _ _ _ _ _ _ _ _ _ _ _ _ _ _ _ _ _ _ _ _ _ _ _ _ wr p N1 (fun i h hi => hp i h (List.getElem?_eq_some_iff.1 hi).1 hi) bel hs

set_option maxRecDepth 1000000 in
set_option maxHeartbeats 8000000 in
theorem node77 {v w : World} {HB : Nat} {H : Nat → Int} {s : Int} {g : List Int} {sa : Option Addr} {sc' : Nat} (hg : ∀ x ∈ g, 0 ≤ x ∧ x ≤ 255) (hgl : g.length ≤ 64)
    (R : RowAt u8c 1 w.heap.size v sa g) (hw : w.heap.size ≤ HB) (S : CellsAt v HB (arr8 (fun q => .int .i64 (H q))) 57)
    {s0 s1 s2 s3 s4 s5 s6 s7 s8 s9 s10 s11 s12 s13 s14 s15 s16 s17 s18 s19 s20 s21 s22 s23 s24 s25 s26 s27 s28 s29 s30 s31 s32 s33 s34 s35 s36 s37 s38 s39 s40 s41 s43 s44 s45 s47 s49 s50 s51 s52 s53 s54 s55 s56 s57 s58 s59 s60 s61 s62 s63 s64 s65 s66 s67 s68 s69 s70 s71 s72 s73 s74 s75 s76 s77 s78 s79 s80 s81 s82 s83 s84 s85 s86 s87 s88 s89 s90 s91 s92 s93 s94 s95 s96 s97 s98 s99 s100 s101 s102 s103 s104 s105 s106 s107 s108 s109 s110 s111 s112 s113 s114 s115 s116 s117 s118 s119 s120 s121 s122 s123 s124 s125 s126 s127 s128 s129 s130 s131 s132 s133 s134 s135 s136 s137 s138 s139 s140 s141 s142 s143 s144 s145 s146 s147 s148 s149 s150 s151 s152 s153 s154 s155 s156 s157 s158 s159 s160 s161 s162 s163 s164 s165 s166 s167 s168 s169 s170 s171 s172 s173 s174 s175 s176 s177 s178 s179 s180 s181 s182 s183 s184 s185 s186 s187 s188 s189 s190 s191 s192 s193 s194 s195 s196 s197 s198 s199 s200 s201 s202 s203 s204 s205 s206 s207 s208 s209 s210 s211 s212 s213 s214 s215 s216 s217 s218 s219 s220 s221 s222 s223 s224 s225 s226 s227 s228 s229 s230 s231 s232 s233 s234 s235 s236 s237 s238 s239 s240 s241 s242 s243 s244 s245 s246 s247 s248 s249 s250 s251 s252 s253 s254 s255 s256 s257 s258 s259 s260 s261 s262 s263 s264 s265 s266 s267 s268 s269 s270 s271 s272 s273 s274 s275 s276 s277 s278 s279 s280 s281 s282 s283 s284 s285 s286 s287 s288 s289 s290 s291 s292 s293 s294 s295 s296 s297 s298 s299 s300 s301 s302 s303 s304 s305 s306 s307 s308 s309 s310 s311 s312 s313 s314 s315 s316 s317 s318 s319 s320 s321 s322 s323 s324 s325 s326 s327 s328 s329 s330 s331 s332 s333 s334 s335 s336 s337 s338 s339 s340 s341 s342 s343 s344 s345 s346 s347 s348 s349 s350 s351 s352 s353 s354 s355 s356 s357 s358 s359 s360 s361 s362 s363 s364 s365 s366 s367 s368 s369 s370 s371 s372 s373 s374 s375 s376 s377 s378 s379 s380 s381 s382 s383 s384 s385 s386 s387 s388 s389 s390 s391 s392 s393 s394 s395 s396 s397 s398 s399 s400 s401 s402 s403 s404 s405 s406 s407 : Value} {Q : Exit → Act → World → Prop} {K : Act → World → Prop} (hK : ∀ a w, Code.wp Yba.prog (rig (pc 77)) Q a w → K a w)
    (hQ : Hid (∀ (t53 t303 t304 t305 t306 t307 t308 t309 t310 t311 t312 t313 t314 : Value) (wx : World), CellsAt wx HB (arr8 (fun q => .int .i64 (if q ∈ g8 g then s else H q))) 57 → Below HB v wx → (∀ b, b ≠ HB → wx.heap[b]? = v.heap[b]?) → wx.heap.size = v.heap.size → Q .normal ⟨#[s0, s1, s2, s3, s4, s5, s6, s7, s8, s9, s10, s11, s12, s13, s14, s15, s16, s17, s18, s19, s20, s21, s22, s23, s24, s25, s26, s27, s28, s29, s30, s31, s32, s33, s34, s35, s36, s37, s38, s39, s40, s41, .pointer (some ⟨HB, 0, none⟩), s43, s44, s45, .slice sa g.length sc', s47, .int .i64 s, s49, s50, s51, s52, t53, s54, s55, s56, s57, s58, s59, s60, s61, s62, s63, s64, s65, s66, s67, s68, s69, s70, s71, s72, s73, s74, s75, s76, s77, s78, s79, s80, s81, s82, s83, s84, s85, s86, s87, s88, s89, s90, s91, s92, s93, s94, s95, s96, s97, s98, s99, s100, s101, s102, s103, s104, s105, s106, s107, s108, s109, s110, s111, s112, s113, s114, s115, s116, s117, s118, s119, s120, s121, s122, s123, s124, s125, s126, s127, s128, s129, s130, s131, s132, s133, s134, s135, s136, s137, s138, s139, s140, s141, s142, s143, s144, s145, s146, s147, s148, s149, s150, s151, s152, s153, s154, s155, s156, s157, s158, s159, s160, s161, s162, s163, s164, s165, s166, s167, s168, s169, s170, s171, s172, s173, s174, s175, s176, s177, s178, s179, s180, s181, s182, s183, s184, s185, s186, s187, s188, s189, s190, s191, s192, s193, s194, s195, s196, s197, s198, s199, s200, s201, s202, s203, s204, s205, s206, s207, s208, s209, s210, s211, s212, s213, s214, s215, s216, s217, s218, s219, s220, s221, s222, s223, s224, s225, s226, s227, s228, s229, s230, s231, s232, s233, s234, s235, s236, s237, s238, s239, s240, s241, s242, s243, s244, s245, s246, s247, s248, s249, s250, s251, s252, s253, s254, s255, s256, s257, s258, s259, s260, s261, s262, s263, s264, s265, s266, s267, s268, s269, s270, s271, s272, s273, s274, s275, s276, s277, s278, s279, s280, s281, s282, s283, s284, s285, s286, s287, s288, s289, s290, s291, s292, s293, s294, s295, s296, s297, s298, s299, s300, s301, s302, t303, t304, t305, t306, t307, t308, t309, t310, t311, t312, t313, t314, s315, s316, s317, s318, s319, s320, s321, s322, s323, s324, s325, s326, s327, s328, s329, s330, s331, s332, s333, s334, s335, s336, s337, s338, s339, s340, s341, s342, s343, s344, s345, s346, s347, s348, s349, s350, s351, s352, s353, s354, s355, s356, s357, s358, s359, s360, s361, s362, s363, s364, s365, s366, s367, s368, s369, s370, s371, s372, s373, s374, s375, s376, s377, s378, s379, s380, s381, s382, s383, s384, s385, s386, s387, s388, s389, s390, s391, s392, s393, s394, s395, s396, s397, s398, s399, s400, s401, s402, s403, s404, s405, s406, s407], []⟩ wx)) :
    Code.wp Yba.prog (lef (pc 77)) (Exit.then K Q) ⟨#[s0, s1, s2, s3, s4, s5, s6, s7, s8, s9, s10, s11, s12, s13, s14, s15, s16, s17, s18, s19, s20, s21, s22, s23, s24, s25, s26, s27, s28, s29, s30, s31, s32, s33, s34, s35, s36, s37, s38, s39, s40, s41, .pointer (some ⟨HB, 0, none⟩), s43, s44, s45, .slice sa g.length sc', s47, .int .i64 s, s49, s50, s51, s52, s53, s54, s55, s56, s57, s58, s59, s60, s61, s62, s63, s64, s65, s66, s67, s68, s69, s70, s71, s72, s73, s74, s75, s76, s77, s78, s79, s80, s81, s82, s83, s84, s85, s86, s87, s88, s89, s90, s91, s92, s93, s94, s95, s96, s97, s98, s99, s100, s101, s102, s103, s104, s105, s106, s107, s108, s109, s110, s111, s112, s113, s114, s115, s116, s117, s118, s119, s120, s121, s122, s123, s124, s125, s126, s127, s128, s129, s130, s131, s132, s133, s134, s135, s136, s137, s138, s139, s140, s141, s142, s143, s144, s145, s146, s147, s148, s149, s150, s151, s152, s153, s154, s155, s156, s157, s158, s159, s160, s161, s162, s163, s164, s165, s166, s167, s168, s169, s170, s171, s172, s173, s174, s175, s176, s177, s178, s179, s180, s181, s182, s183, s184, s185, s186, s187, s188, s189, s190, s191, s192, s193, s194, s195, s196, s197, s198, s199, s200, s201, s202, s203, s204, s205, s206, s207, s208, s209, s210, s211, s212, s213, s214, s215, s216, s217, s218, s219, s220, s221, s222, s223, s224, s225, s226, s227, s228, s229, s230, s231, s232, s233, s234, s235, s236, s237, s238, s239, s240, s241, s242, s243, s244, s245, s246, s247, s248, s249, s250, s251, s252, s253, s254, s255, s256, s257, s258, s259, s260, s261, s262, s263, s264, s265, s266, s267, s268, s269, s270, s271, s272, s273, s274, s275, s276, s277, s278, s279, s280, s281, s282, s283, s284, s285, s286, s287, s288, s289, s290, s291, s292, s293, s294, s295, s296, s297, s298, s299, s300, s301, s302, s303, s304, s305, s306, s307, s308, s309, s310, s311, s312, s313, s314, s315, s316, s317, s318, s319, s320, s321, s322, s323, s324, s325, s326, s327, s328, s329, s330, s331, s332, s333, s334, s335, s336, s337, s338, s339, s340, s341, s342, s343, s344, s345, s346, s347, s348, s349, s350, s351, s352, s353, s354, s355, s356, s357, s358, s359, s360, s361, s362, s363, s364, s365, s366, s367, s368, s369, s370, s371, s372, s373, s374, s375, s376, s377, s378, s379, s380, s381, s382, s383, s384, s385, s386, s387, s388, s389, s390, s391, s392, s393, s394, s395, s396, s397, s398, s399, s400, s401, s402, s403, s404, s405, s406, s407], []⟩ v := by
  conv => arg 2; whnf
  conv at hK => enter [a, w, 1, 2]; whnf
  have HR : Hid _ := R
  have HG : Hid _ := hg
  clear R hg
  go_wp2
  go_loopw [305] (fun i wr => ∃ k : Nat, k ≤ g.length ∧ i = .int .i64 k ∧ CellsAt wr HB (arr8 (fun q => .int .i64 (if q ∈ g8 (g.take k) then s else H q))) 57 ∧ Below HB v wr ∧ (∀ b, b ≠ HB → wr.heap[b]? = v.heap[b]?) ∧ wr.heap.size = v.heap.size) (fun i _ => g.length - (intOf i).toNat)
  case atStart => exact ⟨0, Nat.zero_le _, rfl, Eq.trans S (by congr 2), Below.refl _ _, fun _ _ => rfl, rfl⟩
  case round =>
    obtain ⟨k, hk, rfl, S1, bel, hbk, hs⟩ := hrel
    by_cases hlt : k < g.length
    · obtain ⟨h, hh⟩ : ∃ h, g[k]? = some h := ⟨g[k], List.getElem?_eq_getElem hlt⟩
      obtain ⟨h0, h1⟩ := HG.out h (List.mem_of_getElem? hh)
      obtain ⟨b, off, hx, hb, hc⟩ := (RowAt.below HR.out bel hw).at hh
      have c0 : wr.cell? ⟨b, off + k, none⟩ = some (.int .u8 h) := by have := hc 0 _ rfl; simpa using this
      have hk8 : (h % 8).toNat < 8 := by omega
      have i0 : 0 ≤ h % 8 := by omega
      have i1 : h % 8 < 8 := by omega
      have s0 : wr.cell? ⟨HB, (h % 8).toNat, none⟩ = some (.int .i64 (if (h % 8).toNat ∈ g8 (g.take k) then s else H (h % 8).toNat)) := (S1.cell _).trans (arr8_at _ hk8)
      have s1 := S1.frozen (h % 8).toNat
      have hj0 : (0 : Int) ≤ (k : Int) := Int.natCast_nonneg _
      have hj1 : (k : Int) < (g.length : Int) := by omega
      have HH : Hid _ := And.intro S1 (And.intro bel (And.intro hbk (And.intro hh hs)))
      clear S S1 bel hbk hc hh
      subst hx
      go_wp2
      go_roundw
      case rel =>
        obtain ⟨S1, bel, hbk, hh, hs⟩ := HH.out
        refine ⟨k + 1, by omega, by go_num, ?_, bel.setCell (Nat.le_refl _) _, fun b hb => (heap_setCell_other _ _ _ _ hb).trans (hbk b hb), by simpa [World.setCell] using hs⟩
        have S2 := S1.set (h % 8).toNat (.int .i64 s)
        rw [arr8_set _ _ _ hk8] at S2
        refine Eq.trans S2 ?_
        congr 2
        refine arr8_ext fun q hq => ?_
        rw [g8_snoc hh]
        by_cases e : q = (h % 8).toNat
        · rw [if_pos e, if_pos (by simp [e])]
        · rw [if_neg e]
          simp [e]
      case measure => simp [intOf]; omega
    · have hk2 : k = g.length := by omega
      subst hk2
      rw [List.take_of_length_le (Nat.le_refl _)] at S1
      have HH : Hid _ := And.intro S1 (And.intro bel hbk)
      clear S S1 bel hbk
      go_wp2
      obtain ⟨S1, bel, hbk⟩ := HH.out
      exact hQ.out _ _ _ _ _ _ _ _ _ _ _ _ _ wr S1 bel hbk hs

end Go.Proofs.Ybulklvy
