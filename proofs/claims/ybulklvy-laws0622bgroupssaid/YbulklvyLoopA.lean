/-
  'LawS0622BGroups' (function 4): the loop over 'attendance'.
-/
import Derived.Test.YbulklvyCode
namespace Go.Proofs.Ybulklvy
open Go.ChangeShapes Go.WideShapes Go.ChangeAt Go.RowKit Go.Instr
set_option linter.unusedVariables false

section
variable {w : World} {zs : List Za} {pz pa po pk pn pc' : Option Addr} {xa xo xk xn : List Int} {gs : List (List Int)} {cz ca co ck cn cc : Nat}
set_option maxRecDepth 1000000 in
set_option maxHeartbeats 8000000 in
theorem loop_a (I : In w zs pz pa po pk pn pc' xa xo xk xn gs) {v : World} {xs : List Value} {V M : Nat} {listed minor : Bool} {qo qn qk : Value} {p0 : Nat → Bool} {jo jk jn : List Nat}
    (hn1 : 0 < zs.length) (hl0 : zs.length ≤ 1024) (hlx : xa.length ≤ 1024) (KK : Core w v zs xs V M listed minor Nl qo qn qk Nl p0) (hMk : Mk zs.length listed p0 [] jo jk jn)
    {s0 s3 s4 s5 s6 s7 s8 s9 s10 s11 s12 s13 s14 s15 s16 s17 s18 s20 s21 s22 s23 s24 s25 s26 s27 s30 s31 s32 s33 s34 s35 s36 s37 s38 s39 s40 s41 s42 s43 s44 s45 s46 s47 s48 s49 s50 s51 s52 s53 s54 s55 s56 s57 s58 s59 s60 s61 s62 s63 s64 s65 s66 s67 s68 s69 s70 s71 s72 s73 s74 s75 s76 s77 s78 s79 s80 s81 s82 s83 s84 s85 s86 s87 s88 s89 s90 s91 s92 s93 s94 s95 s96 s97 s98 s99 s100 s101 s102 s103 s104 s105 s106 s107 s108 s109 s110 s111 s112 s113 s114 s115 s116 s117 s118 s119 s120 s121 s122 s123 s124 s125 s126 s127 s128 s129 s130 s131 s132 s133 s134 s135 s136 s137 s138 s139 s140 s141 s142 s143 s144 s145 s146 s147 s148 s149 s150 s151 s152 s153 s154 s155 s156 s157 s158 s159 s160 s161 s162 s163 s164 s165 s166 s167 s168 s169 s170 s171 s172 s173 s174 s175 s176 s177 s178 s179 s180 s181 s182 s183 s184 s185 s186 s187 s188 s189 s190 s191 s192 s193 s194 s195 s196 s197 s198 s199 s200 s201 s202 s203 s204 s205 s206 s207 s208 s209 s210 s211 s212 s213 s214 s215 s216 s217 s218 s219 s220 s221 s222 s223 s224 s225 s226 s227 s228 s229 s230 s231 s232 s233 s234 s235 s236 s237 s238 s239 s240 s241 s242 s243 s244 s245 s246 s247 s248 s249 s250 s251 s252 s253 s254 s255 s256 s257 s258 s259 s260 s261 s262 s263 s264 s265 s266 s267 s268 s269 s270 s271 s272 s273 s274 s275 s276 s277 s278 s279 s280 s281 s282 s283 s284 s285 s286 s287 s288 s289 s290 s291 s292 s293 s294 s295 s296 s297 s298 s299 s300 s301 s302 s303 s304 s305 s306 s307 s308 s309 s310 s311 s312 s313 s314 s315 s316 s317 s318 s319 s320 s321 s322 s323 s324 s325 s326 s327 s328 s329 s330 s331 s332 s333 s334 s335 s336 s337 s338 s339 s340 s341 s342 s343 s344 s345 s346 s347 s348 s349 s350 s351 s352 s353 s354 s355 s356 s357 s358 s359 s360 s361 s362 s363 s364 s365 s366 s367 s368 s369 s370 s371 s372 s373 s374 s375 s376 s377 s378 s379 s380 s381 s382 s383 s384 s385 s386 s387 s388 s389 s390 s391 s392 s393 s394 s395 s396 s397 s398 s399 s400 s401 s402 s403 s404 s405 s406 s407 : Value} {Q : Exit → Act → World → Prop}
    (hQ : Hid (∀ (t31 t32 t155 t156 t157 t158 t159 t160 t161 t162 t163 t164 t165 t166 t167 t168 t169 t170 t171 t172 t173 t174 t175 t176 t177 t178 t179 t180 : Value) (wx : World) (q : Value) (p : Nat → Bool), Core w wx zs xs V M listed minor q qo qn qk Nl p → Fin wx v.heap.size wx.heap.size 87 2 atC q (jx zs.length xa) → Mk zs.length listed p (jx zs.length xa) jo jk jn → v.heap.size ≤ wx.heap.size → (∀ b, M + 2 ≤ b → b < v.heap.size → wx.heap[b]? = v.heap[b]?) → Q .normal ⟨#[s0, .bool listed, .slice pa xa.length ca, s3, s4, s5, s6, s7, s8, s9, s10, s11, s12, s13, s14, s15, s16, s17, s18, .int .i64 zs.length, s20, s21, s22, s23, s24, s25, s26, s27, .pointer (some ⟨M, 0, none⟩), .slice (some ⟨M + 1, 0, none⟩) zs.length zs.length, s30, t31, t32, s33, s34, s35, s36, s37, s38, s39, s40, s41, s42, s43, s44, s45, s46, s47, s48, s49, s50, s51, s52, s53, s54, s55, s56, s57, s58, s59, s60, s61, s62, s63, s64, s65, s66, s67, s68, s69, s70, s71, s72, s73, s74, s75, s76, s77, s78, s79, s80, s81, s82, s83, s84, s85, s86, s87, s88, s89, s90, s91, s92, s93, s94, s95, s96, s97, s98, s99, s100, s101, s102, s103, s104, s105, s106, s107, s108, s109, s110, s111, s112, s113, s114, s115, s116, s117, s118, s119, s120, s121, s122, s123, s124, s125, s126, s127, s128, s129, s130, s131, s132, s133, s134, s135, s136, s137, s138, s139, s140, s141, s142, s143, s144, s145, s146, s147, s148, s149, s150, s151, s152, s153, s154, t155, t156, t157, t158, t159, t160, t161, t162, t163, t164, t165, t166, t167, t168, t169, t170, t171, t172, t173, t174, t175, t176, t177, t178, t179, t180, s181, s182, s183, s184, s185, s186, s187, s188, s189, s190, s191, s192, s193, s194, s195, s196, s197, s198, s199, s200, s201, s202, s203, s204, s205, s206, s207, s208, s209, s210, s211, s212, s213, s214, s215, s216, s217, s218, s219, s220, s221, s222, s223, s224, s225, s226, s227, s228, s229, s230, s231, s232, s233, s234, s235, s236, s237, s238, s239, s240, s241, s242, s243, s244, s245, s246, s247, s248, s249, s250, s251, s252, s253, s254, s255, s256, s257, s258, s259, s260, s261, s262, s263, s264, s265, s266, s267, s268, s269, s270, s271, s272, s273, s274, s275, s276, s277, s278, s279, s280, s281, s282, s283, s284, s285, s286, s287, s288, s289, s290, s291, s292, s293, s294, s295, s296, s297, s298, s299, s300, s301, s302, s303, s304, s305, s306, s307, s308, s309, s310, s311, s312, s313, s314, s315, s316, s317, s318, s319, s320, s321, s322, s323, s324, s325, s326, s327, s328, s329, s330, s331, s332, s333, s334, s335, s336, s337, s338, s339, s340, s341, s342, s343, s344, s345, s346, s347, s348, s349, s350, s351, s352, s353, s354, s355, s356, s357, s358, s359, s360, s361, s362, s363, s364, s365, s366, s367, s368, s369, s370, s371, s372, s373, s374, s375, s376, s377, s378, s379, s380, s381, s382, s383, s384, s385, s386, s387, s388, s389, s390, s391, s392, s393, s394, s395, s396, s397, s398, s399, s400, s401, s402, s403, s404, s405, s406, s407], []⟩ wx)) :
    Code.wp Yba.prog (pc 28) Q ⟨#[s0, .bool listed, .slice pa xa.length ca, s3, s4, s5, s6, s7, s8, s9, s10, s11, s12, s13, s14, s15, s16, s17, s18, .int .i64 zs.length, s20, s21, s22, s23, s24, s25, s26, s27, .pointer (some ⟨M, 0, none⟩), .slice (some ⟨M + 1, 0, none⟩) zs.length zs.length, s30, s31, s32, s33, s34, s35, s36, s37, s38, s39, s40, s41, s42, s43, s44, s45, s46, s47, s48, s49, s50, s51, s52, s53, s54, s55, s56, s57, s58, s59, s60, s61, s62, s63, s64, s65, s66, s67, s68, s69, s70, s71, s72, s73, s74, s75, s76, s77, s78, s79, s80, s81, s82, s83, s84, s85, s86, s87, s88, s89, s90, s91, s92, s93, s94, s95, s96, s97, s98, s99, s100, s101, s102, s103, s104, s105, s106, s107, s108, s109, s110, s111, s112, s113, s114, s115, s116, s117, s118, s119, s120, s121, s122, s123, s124, s125, s126, s127, s128, s129, s130, s131, s132, s133, s134, s135, s136, s137, s138, s139, s140, s141, s142, s143, s144, s145, s146, s147, s148, s149, s150, s151, s152, s153, s154, s155, s156, s157, s158, s159, s160, s161, s162, s163, s164, s165, s166, s167, s168, s169, s170, s171, s172, s173, s174, s175, s176, s177, s178, s179, s180, s181, s182, s183, s184, s185, s186, s187, s188, s189, s190, s191, s192, s193, s194, s195, s196, s197, s198, s199, s200, s201, s202, s203, s204, s205, s206, s207, s208, s209, s210, s211, s212, s213, s214, s215, s216, s217, s218, s219, s220, s221, s222, s223, s224, s225, s226, s227, s228, s229, s230, s231, s232, s233, s234, s235, s236, s237, s238, s239, s240, s241, s242, s243, s244, s245, s246, s247, s248, s249, s250, s251, s252, s253, s254, s255, s256, s257, s258, s259, s260, s261, s262, s263, s264, s265, s266, s267, s268, s269, s270, s271, s272, s273, s274, s275, s276, s277, s278, s279, s280, s281, s282, s283, s284, s285, s286, s287, s288, s289, s290, s291, s292, s293, s294, s295, s296, s297, s298, s299, s300, s301, s302, s303, s304, s305, s306, s307, s308, s309, s310, s311, s312, s313, s314, s315, s316, s317, s318, s319, s320, s321, s322, s323, s324, s325, s326, s327, s328, s329, s330, s331, s332, s333, s334, s335, s336, s337, s338, s339, s340, s341, s342, s343, s344, s345, s346, s347, s348, s349, s350, s351, s352, s353, s354, s355, s356, s357, s358, s359, s360, s361, s362, s363, s364, s365, s366, s367, s368, s369, s370, s371, s372, s373, s374, s375, s376, s377, s378, s379, s380, s381, s382, s383, s384, s385, s386, s387, s388, s389, s390, s391, s392, s393, s394, s395, s396, s397, s398, s399, s400, s401, s402, s403, s404, s405, s406, s407], []⟩ v := by
  conv => arg 2; whnf
  have HKK : Hid _ := KK
  have HMk : Hid _ := hMk
  have HlM : Hid (M + 2 ≤ v.heap.size) := KK.hS
  have HI : Hid _ := I
  clear KK hMk I
  go_wp2
  go_loopw [157] (fun i wr => ∃ k q p, k ≤ xa.length ∧ i = .int .i64 k ∧ Core w wr zs xs V M listed minor q qo qn qk Nl p ∧ Fin wr v.heap.size wr.heap.size 87 2 atC q (jx zs.length (xa.take k)) ∧ Mk zs.length listed p (jx zs.length (xa.take k)) jo jk jn ∧ v.heap.size ≤ wr.heap.size ∧ (∀ b, M + 2 ≤ b → b < v.heap.size → wr.heap[b]? = v.heap[b]?)) (fun i _ => xa.length - (intOf i).toNat)
  case atStart => exact ⟨0, Nl, p0, Nat.zero_le _, rfl, HKK.out, Fin.nil _ _ _ _ _ _, HMk.out, Nat.le_refl _, fun _ _ _ => rfl⟩
  case round =>
    clear HKK HMk
    obtain ⟨k, q, p, hk, rfl, K, F, hMk, hlo, hbk⟩ := hrel
    by_cases hlt : k < xa.length
    · obtain ⟨x, hx⟩ : ∃ x, xa[k]? = some x := ⟨xa[k], List.getElem?_eq_getElem hlt⟩
      obtain ⟨hx0, hx1⟩ := HI.out.oa x (List.mem_of_getElem? hx)
      obtain ⟨b, off, hpa, hb, hc⟩ := (HI.out.ra.below K.bel (Nat.le_refl _)).at hx
      have c0 : wr.cell? ⟨b, off + k, none⟩ = some (.int .u16 x) := by have := hc 0 _ rfl; simpa using this
      have y1 : wr.cell? ⟨M, 14, none⟩ = some q := K.m.cell 14
      have e0 : 0 ≤ x % (zs.length : Int) := Int.emod_nonneg _ (by omega)
      have e1 : x % (zs.length : Int) < zs.length := Int.emod_lt_of_pos _ (by omega)
      have hq : Hid (atC (x % (zs.length : Int)).toNat = [.int .i64 (x % (zs.length : Int)), .string ⟨#[]⟩]) := by show _ = _; simp only [atC]; rw [Int.toNat_of_nonneg e0]
      have hl3 : (jx zs.length (xa.take k)).length = k := by rw [jx_len, List.length_take]; omega
      have F1 := F.1
      rw [hl3] at F1
      have hsj : Hid (jx zs.length (xa.take (k + 1)) = jx zs.length (xa.take k) ++ [(x % (zs.length : Int)).toNat]) := by show _ = _; rw [take_snoc hx, jx_snoc]
      have hml := HlM.out
      have HK : Hid _ := K
      have HF : Hid _ := F1
      have HB : Hid _ := hbk
      have HM : Hid _ := hMk
      have Hl3 : Hid _ := hl3
      clear K F F1 hMk hx hc hl3 hbk
      subst hpa
      have Hi : Hid _ := info_parts info87
      have hnew := heap_alloc_new wr
      cases listed
      · go_wp2_with
          (at_builtin
           obtain ⟨i0, hi0, hz0, hz1, hz2⟩ := Hi.out
           refine wpList_append_lies _ rfl _ _ _ rfl v.heap.size 87 i0 _ 2 24 Yba.underlying74 hi0 hz0 hz1 hz2 rfl (by omega) q k (flatG atC (jx zs.length (xa.take k))) rfl (World.ownsRow.alloc HF.out _)
             ⟨wr.heap.size, 0, none⟩ 1 1 [.int .i64 (x % (zs.length : Int)), .string ⟨#[]⟩] rfl rfl (World.news_of_block (cs := #[.int .i64 (x % (zs.length : Int)), .string ⟨#[]⟩]) (t := 87) (fr := (0, 0)) (hnew _)) (by simp [Value.oneCell'])
             (by omega) (by unfold maxLen; omega) (by omega) (by simp; omega) (wr.heap.size + 1) (by simp) ?_
           intro gg cap1 w1 hown1 hgrow hat hlt1
           clear hi0 hz0 hz1 hz2
           have hsz1 : wr.heap.size + 1 ≤ w1.heap.size := by have := hgrow.size; simp at this; omega
           have K1 : Core w w1 zs xs V M false minor q qo qn qk Nl p := HK.out.of (fun b hb => app_block HF.out hgrow hlo b (by omega)) (app_below HF.out hgrow hlo (by have := HK.out.hM; have := HK.out.hV; omega) HK.out.bel) (by omega)
           have z2 : w1.cell? ⟨M, 14, none⟩ = some q := K1.m.cell 14
           have z2f := K1.m.frozen 14
           have z3 : w1.cell? ⟨M + 1, (x % (zs.length : Int)).toNat, none⟩ = some (.bool (p (x % (zs.length : Int)).toNat)) := K1.mks.cell (by omega)
           have z3f := K1.mks.frozen (x % (zs.length : Int)).toNat
           have HK1 : Hid _ := K1
           clear K1)
        go_roundw
        case rel =>
          have hown2 := hown1
          rw [← hq.out] at hown2
          have R : (w1.setCell ⟨M, 14, none⟩ (.slice (some ⟨gg, 0, none⟩) (k + 1) cap1)).ownsRow v.heap.size 87 2 (.slice (some ⟨gg, 0, none⟩) (k + 1) cap1) (jx zs.length (xa.take (k + 1))).length (flatG atC (jx zs.length (xa.take (k + 1)))) := by
            rw [hsj.out, flatG_snoc, List.length_append, Hl3.out]
            exact (ownsRow_setCell_below hown2 (by show M < _; omega) _)
          have hbk : ∀ b, M + 2 ≤ b → b < v.heap.size → (w1.setCell ⟨M, 14, none⟩ (.slice (some ⟨gg, 0, none⟩) (k + 1) cap1)).heap[b]? = v.heap[b]? := fun b h1 h2 => (heap_setCell_other _ _ _ _ (by show b ≠ M; omega)).trans ((app_block HF.out hgrow hlo b h2).trans (HB.out b h1 h2))
          refine ⟨k + 1, _, _, by omega, by go_num, (HK1.out.setM 14 (.slice (some ⟨gg, 0, none⟩) (k + 1) cap1) rfl), Fin.self R, ?_, by simp [World.setCell]; omega, hbk⟩
          rw [hsj.out]
          exact Mk.skipA HM.out _
        case measure => simp [intOf]; omega
      · go_wp2_with
          (at_builtin
           obtain ⟨i0, hi0, hz0, hz1, hz2⟩ := Hi.out
           refine wpList_append_lies _ rfl _ _ _ rfl v.heap.size 87 i0 _ 2 24 Yba.underlying74 hi0 hz0 hz1 hz2 rfl (by omega) q k (flatG atC (jx zs.length (xa.take k))) rfl (World.ownsRow.alloc HF.out _)
             ⟨wr.heap.size, 0, none⟩ 1 1 [.int .i64 (x % (zs.length : Int)), .string ⟨#[]⟩] rfl rfl (World.news_of_block (cs := #[.int .i64 (x % (zs.length : Int)), .string ⟨#[]⟩]) (t := 87) (fr := (0, 0)) (hnew _)) (by simp [Value.oneCell'])
             (by omega) (by unfold maxLen; omega) (by omega) (by simp; omega) (wr.heap.size + 1) (by simp) ?_
           intro gg cap1 w1 hown1 hgrow hat hlt1
           clear hi0 hz0 hz1 hz2
           have hsz1 : wr.heap.size + 1 ≤ w1.heap.size := by have := hgrow.size; simp at this; omega
           have K1 : Core w w1 zs xs V M true minor q qo qn qk Nl p := HK.out.of (fun b hb => app_block HF.out hgrow hlo b (by omega)) (app_below HF.out hgrow hlo (by have := HK.out.hM; have := HK.out.hV; omega) HK.out.bel) (by omega)
           have z2 : w1.cell? ⟨M, 14, none⟩ = some q := K1.m.cell 14
           have z2f := K1.m.frozen 14
           have z3 : w1.cell? ⟨M + 1, (x % (zs.length : Int)).toNat, none⟩ = some (.bool (p (x % (zs.length : Int)).toNat)) := K1.mks.cell (by omega)
           have z3f := K1.mks.frozen (x % (zs.length : Int)).toNat
           have HK1 : Hid _ := K1
           clear K1)
        go_roundw
        case rel =>
          have hown2 := hown1
          rw [← hq.out] at hown2
          have R : ((w1.setCell ⟨M, 14, none⟩ (.slice (some ⟨gg, 0, none⟩) (k + 1) cap1)).setCell ⟨M + 1, (x % (zs.length : Int)).toNat, none⟩ (.bool true)).ownsRow v.heap.size 87 2 (.slice (some ⟨gg, 0, none⟩) (k + 1) cap1) (jx zs.length (xa.take (k + 1))).length (flatG atC (jx zs.length (xa.take (k + 1)))) := by
            rw [hsj.out, flatG_snoc, List.length_append, Hl3.out]
            exact (ownsRow_setCell_below (ownsRow_setCell_below hown2 (by show M < _; omega) _) (by show M + 1 < _; omega) _)
          have hbk : ∀ b, M + 2 ≤ b → b < v.heap.size → ((w1.setCell ⟨M, 14, none⟩ (.slice (some ⟨gg, 0, none⟩) (k + 1) cap1)).setCell ⟨M + 1, (x % (zs.length : Int)).toNat, none⟩ (.bool true)).heap[b]? = v.heap[b]? := fun b h1 h2 => (heap_setCell_other _ _ _ _ (by show b ≠ M + 1; omega)).trans ((heap_setCell_other _ _ _ _ (by show b ≠ M; omega)).trans ((app_block HF.out hgrow hlo b h2).trans (HB.out b h1 h2)))
          refine ⟨k + 1, _, _, by omega, by go_num, ((HK1.out.setM 14 (.slice (some ⟨gg, 0, none⟩) (k + 1) cap1) rfl).mark (x % (zs.length : Int)).toNat true), Fin.self R, ?_, by simp [World.setCell]; omega, hbk⟩
          rw [hsj.out]
          exact Mk.markA HM.out _
        case measure => simp [intOf]; omega
    · have hk2 : k = xa.length := by omega
      subst hk2
      rw [List.take_of_length_le (Nat.le_refl _)] at F hMk
      have HE : Hid _ := And.intro K (And.intro F (And.intro hMk (And.intro hlo hbk)))
      clear K F hMk hbk
      go_wp2
      obtain ⟨K, F, hMk, hlo, hbk⟩ := HE.out
      exact hQ.out _ _ _ _ _ _ _ _ _ _ _ _ _ _ _ _ _ _ _ _ _ _ _ _ _ _ _ _ wr q p K F hMk hlo hbk
end
end Go.Proofs.Ybulklvy
