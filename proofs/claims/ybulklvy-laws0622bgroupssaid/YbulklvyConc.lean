/-
  'LawS0622BGroups' (function 4): the concert groups.
-/
import Derived.Test.YbulklvyIn9
namespace Go.Proofs.Ybulklvy
open Go.ChangeShapes Go.WideShapes Go.ChangeAt Go.RowKit Go.Instr
set_option linter.unusedVariables false

theorem cell_of_heap {w w' : World} {b : Nat} (h : w'.heap[b]? = w.heap[b]?) (j : Nat) : w'.cell? ⟨b, j, none⟩ = w.cell? ⟨b, j, none⟩ := by simp [World.cell?, h]
/-- The group g stands under the slice u. -/
def Gr (wx : World) (C : Nat) (u : Value) (g : List Int) : Prop := ∃ blk, u = .slice (some ⟨blk, 0, none⟩) g.length g.length ∧ C < blk ∧ blk < wx.heap.size ∧ ∀ j h, g[j]? = some h → wx.cell? ⟨blk, j, none⟩ = some (.string (nm (h % 8).toNat))

set_option maxRecDepth 1000000 in
set_option maxHeartbeats 8000000 in
theorem node65 {v w : World} {V HB C : Nat} {acs : List Ac} (hok : ∀ a ∈ acs, a.ok) (hla : acs.length ≤ 1024) {gs : List (List Int)} {pc' : Option Addr} {cc : Nat} (RC : ConcIn v w.heap.size pc' gs) (hg : ∀ g ∈ gs, ∀ x ∈ g, 0 ≤ x ∧ x ≤ 255) (hgl : ∀ g ∈ gs, g.length ≤ 64) (hgn : gs.length ≤ 64)
    (hw : w.heap.size ≤ HB) (S : CellsAt v V (arr8 (fun q => .int .i64 (shr acs q))) 57) (hV : V < HB) (H0 : CellsAt v HB (arr8 (fun q => .int .i64 (shr acs q))) 57) (hHC : HB < C) (C0 : Vals v 22 C gs.length (fun _ => Nl))
    {s0 s1 s2 s3 s4 s5 s6 s8 s9 s10 s11 s12 s13 s14 s15 s16 s17 s18 s19 s20 s22 s23 s24 s25 s26 s27 s28 s29 s30 s31 s32 s33 s34 s35 s36 s37 s38 s39 s40 s41 s43 s45 s46 s47 s48 s49 s50 s51 s52 s53 s54 s55 s56 s57 s58 s59 s60 s61 s62 s63 s64 s65 s66 s67 s68 s69 s70 s71 s72 s73 s74 s75 s76 s77 s78 s79 s80 s81 s82 s83 s84 s85 s86 s87 s88 s89 s90 s91 s92 s93 s94 s95 s96 s97 s98 s99 s100 s101 s102 s103 s104 s105 s106 s107 s108 s109 s110 s111 s112 s113 s114 s115 s116 s117 s118 s119 s120 s121 s122 s123 s124 s125 s126 s127 s128 s129 s130 s131 s132 s133 s134 s135 s136 s137 s138 s139 s140 s141 s142 s143 s144 s145 s146 s147 s148 s149 s150 s151 s152 s153 s154 s155 s156 s157 s158 s159 s160 s161 s162 s163 s164 s165 s166 s167 s168 s169 s170 s171 s172 s173 s174 s175 s176 s177 s178 s179 s180 s181 s182 s183 s184 s185 s186 s187 s188 s189 s190 s191 s192 s193 s194 s195 s196 s197 s198 s199 s200 s201 s202 s203 s204 s205 s206 s207 s208 s209 s210 s211 s212 s213 s214 s215 s216 s217 s218 s219 s220 s221 s222 s223 s224 s225 s226 s227 s228 s229 s230 s231 s232 s233 s234 s235 s236 s237 s238 s239 s240 s241 s242 s243 s244 s245 s246 s247 s248 s249 s250 s251 s252 s253 s254 s255 s256 s257 s258 s259 s260 s261 s262 s263 s264 s265 s266 s267 s268 s269 s270 s271 s272 s273 s274 s275 s276 s277 s278 s279 s280 s281 s282 s283 s284 s285 s286 s287 s288 s289 s290 s291 s292 s293 s294 s295 s296 s297 s298 s299 s300 s301 s302 s303 s304 s305 s306 s307 s308 s309 s310 s311 s312 s313 s314 s315 s316 s317 s318 s319 s320 s321 s322 s323 s324 s325 s326 s327 s328 s329 s330 s331 s332 s333 s334 s335 s336 s337 s338 s339 s340 s341 s342 s343 s344 s345 s346 s347 s348 s349 s350 s351 s352 s353 s354 s355 s356 s357 s358 s359 s360 s361 s362 s363 s364 s365 s366 s367 s368 s369 s370 s371 s372 s373 s374 s375 s376 s377 s378 s379 s380 s381 s382 s383 s384 s385 s386 s387 s388 s389 s390 s391 s392 s393 s394 s395 s396 s397 s398 s399 s400 s401 s402 s403 s404 s405 s406 s407 : Value} {Q : Exit → Act → World → Prop}
    (hQ : Hid (∀ (t45 t46 t47 t48 t49 t50 t51 t53 t272 t273 t274 t275 t276 t277 t278 t279 t280 t281 t282 t283 t284 t285 t286 t287 t288 t289 t290 t291 t292 t293 t294 t295 t296 t297 t298 t299 t300 t301 t302 t303 t304 t305 t306 t307 t308 t309 t310 t311 t312 t313 t314 t315 t316 t317 t318 t319 : Value) (wx : World) (p : Nat → Value), Vals wx 22 C gs.length p → (∀ i g, gs[i]? = some g → Gr wx C (p i) g) → CellsAt wx HB (arr8 (fun q => .int .i64 (held acs (gs.map g8) q))) 57 → Below HB v wx → Q .normal ⟨#[s0, s1, s2, s3, s4, s5, s6, .slice pc' gs.length cc, s8, s9, s10, s11, s12, s13, s14, s15, s16, s17, s18, s19, s20, .pointer (some ⟨V, 0, none⟩), s22, s23, s24, s25, s26, s27, s28, s29, s30, s31, s32, s33, s34, s35, s36, s37, s38, s39, s40, s41, .pointer (some ⟨HB, 0, none⟩), s43, .slice (some ⟨C, 0, none⟩) gs.length gs.length, t45, t46, t47, t48, t49, t50, t51, s52, t53, s54, s55, s56, s57, s58, s59, s60, s61, s62, s63, s64, s65, s66, s67, s68, s69, s70, s71, s72, s73, s74, s75, s76, s77, s78, s79, s80, s81, s82, s83, s84, s85, s86, s87, s88, s89, s90, s91, s92, s93, s94, s95, s96, s97, s98, s99, s100, s101, s102, s103, s104, s105, s106, s107, s108, s109, s110, s111, s112, s113, s114, s115, s116, s117, s118, s119, s120, s121, s122, s123, s124, s125, s126, s127, s128, s129, s130, s131, s132, s133, s134, s135, s136, s137, s138, s139, s140, s141, s142, s143, s144, s145, s146, s147, s148, s149, s150, s151, s152, s153, s154, s155, s156, s157, s158, s159, s160, s161, s162, s163, s164, s165, s166, s167, s168, s169, s170, s171, s172, s173, s174, s175, s176, s177, s178, s179, s180, s181, s182, s183, s184, s185, s186, s187, s188, s189, s190, s191, s192, s193, s194, s195, s196, s197, s198, s199, s200, s201, s202, s203, s204, s205, s206, s207, s208, s209, s210, s211, s212, s213, s214, s215, s216, s217, s218, s219, s220, s221, s222, s223, s224, s225, s226, s227, s228, s229, s230, s231, s232, s233, s234, s235, s236, s237, s238, s239, s240, s241, s242, s243, s244, s245, s246, s247, s248, s249, s250, s251, s252, s253, s254, s255, s256, s257, s258, s259, s260, s261, s262, s263, s264, s265, s266, s267, s268, s269, s270, s271, t272, t273, t274, t275, t276, t277, t278, t279, t280, t281, t282, t283, t284, t285, t286, t287, t288, t289, t290, t291, t292, t293, t294, t295, t296, t297, t298, t299, t300, t301, t302, t303, t304, t305, t306, t307, t308, t309, t310, t311, t312, t313, t314, t315, t316, t317, t318, t319, s320, s321, s322, s323, s324, s325, s326, s327, s328, s329, s330, s331, s332, s333, s334, s335, s336, s337, s338, s339, s340, s341, s342, s343, s344, s345, s346, s347, s348, s349, s350, s351, s352, s353, s354, s355, s356, s357, s358, s359, s360, s361, s362, s363, s364, s365, s366, s367, s368, s369, s370, s371, s372, s373, s374, s375, s376, s377, s378, s379, s380, s381, s382, s383, s384, s385, s386, s387, s388, s389, s390, s391, s392, s393, s394, s395, s396, s397, s398, s399, s400, s401, s402, s403, s404, s405, s406, s407], []⟩ wx)) :
    Code.wp Yba.prog (pc 65) Q ⟨#[s0, s1, s2, s3, s4, s5, s6, .slice pc' gs.length cc, s8, s9, s10, s11, s12, s13, s14, s15, s16, s17, s18, s19, s20, .pointer (some ⟨V, 0, none⟩), s22, s23, s24, s25, s26, s27, s28, s29, s30, s31, s32, s33, s34, s35, s36, s37, s38, s39, s40, s41, .pointer (some ⟨HB, 0, none⟩), s43, .slice (some ⟨C, 0, none⟩) gs.length gs.length, s45, s46, s47, s48, s49, s50, s51, s52, s53, s54, s55, s56, s57, s58, s59, s60, s61, s62, s63, s64, s65, s66, s67, s68, s69, s70, s71, s72, s73, s74, s75, s76, s77, s78, s79, s80, s81, s82, s83, s84, s85, s86, s87, s88, s89, s90, s91, s92, s93, s94, s95, s96, s97, s98, s99, s100, s101, s102, s103, s104, s105, s106, s107, s108, s109, s110, s111, s112, s113, s114, s115, s116, s117, s118, s119, s120, s121, s122, s123, s124, s125, s126, s127, s128, s129, s130, s131, s132, s133, s134, s135, s136, s137, s138, s139, s140, s141, s142, s143, s144, s145, s146, s147, s148, s149, s150, s151, s152, s153, s154, s155, s156, s157, s158, s159, s160, s161, s162, s163, s164, s165, s166, s167, s168, s169, s170, s171, s172, s173, s174, s175, s176, s177, s178, s179, s180, s181, s182, s183, s184, s185, s186, s187, s188, s189, s190, s191, s192, s193, s194, s195, s196, s197, s198, s199, s200, s201, s202, s203, s204, s205, s206, s207, s208, s209, s210, s211, s212, s213, s214, s215, s216, s217, s218, s219, s220, s221, s222, s223, s224, s225, s226, s227, s228, s229, s230, s231, s232, s233, s234, s235, s236, s237, s238, s239, s240, s241, s242, s243, s244, s245, s246, s247, s248, s249, s250, s251, s252, s253, s254, s255, s256, s257, s258, s259, s260, s261, s262, s263, s264, s265, s266, s267, s268, s269, s270, s271, s272, s273, s274, s275, s276, s277, s278, s279, s280, s281, s282, s283, s284, s285, s286, s287, s288, s289, s290, s291, s292, s293, s294, s295, s296, s297, s298, s299, s300, s301, s302, s303, s304, s305, s306, s307, s308, s309, s310, s311, s312, s313, s314, s315, s316, s317, s318, s319, s320, s321, s322, s323, s324, s325, s326, s327, s328, s329, s330, s331, s332, s333, s334, s335, s336, s337, s338, s339, s340, s341, s342, s343, s344, s345, s346, s347, s348, s349, s350, s351, s352, s353, s354, s355, s356, s357, s358, s359, s360, s361, s362, s363, s364, s365, s366, s367, s368, s369, s370, s371, s372, s373, s374, s375, s376, s377, s378, s379, s380, s381, s382, s383, s384, s385, s386, s387, s388, s389, s390, s391, s392, s393, s394, s395, s396, s397, s398, s399, s400, s401, s402, s403, s404, s405, s406, s407], []⟩ v := by
  conv => arg 2; whnf
  have HR : Hid _ := RC
  have HG : Hid _ := hg
  have HO : Hid _ := hok
  have HL : Hid _ := hgl
  have HC := C0.lt
  clear RC hg hok hgl
  go_wp2
  go_loopw [274] (fun i wr => ∃ (k : Nat) (p : Nat → Value), k ≤ gs.length ∧ i = .int .i64 k ∧ Vals wr 22 C gs.length p ∧ (∀ i g, i < k → gs[i]? = some g → Gr wr C (p i) g) ∧ CellsAt wr HB (arr8 (fun q => .int .i64 (held acs ((gs.take k).map g8) q))) 57 ∧ Below HB v wr ∧ v.heap.size ≤ wr.heap.size) (fun i _ => gs.length - (intOf i).toNat)
  case atStart => exact ⟨0, _, Nat.zero_le _, rfl, C0, fun i g hi => by omega, H0, Below.refl _ _, Nat.le_refl _⟩
  case round =>
    obtain ⟨k, p, hk, rfl, C1, hp, H1, bel, hs⟩ := hrel
    by_cases hlt : k < gs.length
    · obtain ⟨g, hgk⟩ : ∃ g, gs[k]? = some g := ⟨gs[k], List.getElem?_eq_getElem hlt⟩
      obtain ⟨sls, hr1, hr2, hr3⟩ := ConcIn.below HR.out bel hw
      obtain ⟨⟨sa, sn, scap⟩, hsl⟩ : ∃ z, sls[k]? = some z := ⟨sls[k]'(by rw [hr2]; exact hlt), List.getElem?_eq_getElem (by rw [hr2]; exact hlt)⟩
      obtain ⟨b, off, hx, hb, hc⟩ := hr1.at hsl
      obtain ⟨hn, RG⟩ := hr3 k _ g hsl hgk
      dsimp only at hn RG
      have y0 : wr.cell? ⟨b, off + k, none⟩ = some (.slice sa g.length scap) := by have := hc 0 _ rfl; rw [← hn]; simpa using this
      have lg1 := HL.out g (List.mem_of_getElem? hgk)
      have lg2 := HG.out g (List.mem_of_getElem? hgk)
      have hj0 : (0 : Int) ≤ (k : Int) := Int.natCast_nonneg _
      have hj1 : (k : Int) < (gs.length : Int) := by omega
      obtain ⟨v1, hmk, N1, gr1⟩ := make_vals wr 22 9 _ 16 Yba.underlying22 info9 rfl (by omega) g.length (by omega)
      have b1 : Below wr.heap.size wr v1 := (Below.refl _ _).grown gr1 (Nat.le_refl _) (by simp)
      have HH : Hid _ := And.intro C1 (And.intro hp (And.intro H1 (And.intro bel (And.intro hgk (And.intro N1 (And.intro b1 (And.intro RG (And.intro S lg2))))))))
      clear C0 C1 hp H1 bel hgk N1 gr1 hr1 hr2 hr3 hsl hc hn b1 RG lg2 S H0
      subst hx
      go_upto_region 70 with fail
      obtain ⟨C1, hp, H1, bel, hgk, N1, b1, RG, S, lg2⟩ := HH.out
      have hCw : C < wr.heap.size := by omega
      refine node70 (w := w) HO.out hla lg2 lg1 (RG.below b1 (by omega)) (by omega) (((S.below bel hV).below b1 (by omega))) (by omega) N1 (by assumption) ?_
      intro u49 u50 u51 u282 u283 u284 u285 u286 u287 u288 u289 u290 u291 u292 u293 u294 u295 u296 u297 u298 u299 u300 u301 u302 x1 p9 N2 hp9 b2 hs2
      clear hmk
      go_upto_region 77 with fail
      have bb := b1.trans (b2.mono (Nat.le_refl _))
      refine node77 (w := w) (H := held acs ((gs.take k).map g8)) lg2 lg1 (RG.below bb (by omega)) hw (H1.below bb (by omega)) (by assumption) ?_
      intro u53 u303 u304 u305 u306 u307 u308 u309 u310 u311 u312 u313 u314 x2 H2 b3 hb3 hs3
      have C2 : Vals x2 22 C gs.length p := C1.block ((hb3 C (by omega)).trans (bb.block C (by omega)))
      have d0 : x2.cell? ⟨C, k, none⟩ = some (p k) := C2.cell hlt
      have d1 := C2.frozen k
      have hx1 : v1.heap.size ≤ x1.heap.size := by omega
      have hv1 := N1.lt
      have HH2 : Hid _ := And.intro C2 (And.intro H2 (And.intro b3 (And.intro hb3 (And.intro N2 (And.intro hp9 bb)))))
      have HH3 : Hid _ := And.intro hp (And.intro bel hgk)
      clear HH C1 hp H1 bel hgk N1 b1 RG S lg2 N2 hp9 b2 bb H2 b3 hb3 C2
      go_wp2
      go_roundw
      case rel =>
        obtain ⟨C2, H2, b3, hb3, N2, hp9, bb⟩ := HH2.out
        obtain ⟨hp, bel, hgk⟩ := HH3.out
        refine ⟨k + 1, _, by omega, by go_num, C2.set k (.slice (some ⟨wr.heap.size, 0, none⟩) g.length g.length), ?_, ?_, ?_, by simp [World.setCell]; omega⟩
        · intro i g' hi hg'
          by_cases e : i = k
          · subst e
            rw [hgk] at hg'
            cases hg'
            refine ⟨wr.heap.size, by simp, by omega, by simp [World.setCell]; omega, fun j h hj => ?_⟩
            rw [cell_of_heap (heap_setCell_other _ _ _ _ (by show wr.heap.size ≠ C; omega)), cell_of_heap (hb3 _ (by omega)), ← hp9 j h hj]
            exact N2.cell (List.getElem?_eq_some_iff.1 hj).1
          · obtain ⟨blk, h1, h2, h3, h4⟩ := hp i g' (by omega) hg'
            refine ⟨blk, by simp only [if_neg e]; exact h1, h2, by simp [World.setCell]; omega, fun j h hj => ?_⟩
            rw [cell_of_heap (heap_setCell_other _ _ _ _ (by show blk ≠ C; omega)), cell_of_heap (hb3 _ (by omega)), cell_of_heap (bb.block blk h3)]
            exact h4 j h hj
        · rw [take_snoc hgk, List.map_append, List.map_cons, List.map_nil, held_snoc]
          exact H2.of (heap_setCell_other _ _ _ _ (by show HB ≠ C; omega))
        · exact (bel.trans ((bb.mono (by omega)).trans b3)).setCell (by show HB ≤ C; omega) _
      case measure => simp [intOf]; omega
    · have hk2 : k = gs.length := by omega
      subst hk2
      rw [List.take_of_length_le (Nat.le_refl _)] at H1
      have HH : Hid _ := And.intro C1 (And.intro hp (And.intro H1 bel))
      clear S C0 C1 hp H1 bel H0
      go_wp2
      obtain ⟨C1, hp, H1, bel⟩ := HH.out
      exact hQ.out _ _ _ _ _ _ _ _ _ _ _ _ _ _ _ _ _ _ _ _ _ _ _ _ _ _ _ _ _ _ _ _ _ _ _ _ _ _ _ _ _ _ _ _ _ _ _ _ _ _ _ _ _ _ _ _ wr p C1 (fun i g hg => hp i g (List.getElem?_eq_some_iff.1 hg).1 hg) H1 bel

end Go.Proofs.Ybulklvy
