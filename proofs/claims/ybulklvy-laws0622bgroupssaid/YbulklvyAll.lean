/-
  'LawS0622BGroups' (function 4): the loop that fills 'all' and 'min'.
-/
import Derived.Test.YbulklvyConc
namespace Go.Proofs.Ybulklvy
open Go.ChangeShapes Go.WideShapes Go.ChangeAt Go.RowKit Go.Instr
set_option linter.unusedVariables false

def aB (zs : List Za) (mk : Nat → Bool) (i : Nat) : Bool := match zs[i]? with
  | some z => mk i && !decide ((z.ro % 3).toNat = 1)
  | none => false
def mB (zs : List Za) (mk bb : Nat → Bool) (T : Int) (f : Nat → Int) (i : Nat) : Bool := match zs[i]? with
  | some z => (mk i && !decide ((z.ro % 3).toNat = 1)) && !bb (z.h % 8).toNat && decide (0 < T) && decide (f (z.h % 8).toNat * 20 < T)
  | none => false
/-- Filled as far as k. -/
def upto (k : Nat) (q : Nat → Bool) (i : Nat) : Bool := if i < k then q i else false
theorem upto_step {w : World} {g n k : Nat} {q : Nat → Bool} {x : Bool} (h : Bools w g g n (upto k q)) (e : q k = x) : Bools (w.setCell ⟨g, k, none⟩ (.bool x)) g g n (upto (k + 1) q) := by
  refine (h.set k x).congr fun i hi => ?_
  unfold upto
  by_cases c : i = k
  · subst c; rw [if_pos rfl, if_pos (by omega), e]
  · rw [if_neg c]
    by_cases c2 : i < k
    · rw [if_pos c2, if_pos (by omega)]
    · rw [if_neg c2, if_neg (by omega)]

theorem am_step {v wr : World} {A B2 n k : Nat} (hAB : A < B2) {qa qm : Nat → Bool} {x y : Bool} {o : Obj} (A1 : Bools wr A A n (upto k qa)) (B1 : Bools wr (B2) (B2) n (upto k qm)) (bel : Below A v wr) (hs : B2 < wr.heap.size) (ea : qa k = x) (eb : qm k = y) :
    Bools (((wr.setCell ⟨A, k, none⟩ (.bool x)).setCell ⟨B2, k, none⟩ (.bool y)).alloc o) A A n (upto (k + 1) qa) ∧ Bools (((wr.setCell ⟨A, k, none⟩ (.bool x)).setCell ⟨B2, k, none⟩ (.bool y)).alloc o) (B2) (B2) n (upto (k + 1) qm) ∧
    Below A v (((wr.setCell ⟨A, k, none⟩ (.bool x)).setCell ⟨B2, k, none⟩ (.bool y)).alloc o) ∧ B2 < (((wr.setCell ⟨A, k, none⟩ (.bool x)).setCell ⟨B2, k, none⟩ (.bool y)).alloc o).heap.size := by
  refine ⟨?_, ?_, ?_, by simp [World.setCell]; omega⟩
  · exact ((upto_step A1 ea).block (heap_setCell_other _ _ _ _ (by show A ≠ B2; omega))).block (Below.heap_alloc _ _ _ (by simp [World.setCell]; omega))
  · exact (upto_step (B1.block (heap_setCell_other _ _ _ _ (by show B2 ≠ A; omega))) eb).block (Below.heap_alloc _ _ _ (by simp [World.setCell]; omega))
  · exact ((bel.setCell (p := ⟨A, k, none⟩) (Nat.le_refl _) _).setCell (p := ⟨B2, k, none⟩) (by show A ≤ B2; omega) _).alloc (by simp [World.setCell]; omega) _

set_option maxRecDepth 1000000 in
set_option maxHeartbeats 8000000 in
theorem node87 {v : World} {zs : List Za} {pz : Option Addr} {cz N : Nat} (RZ : RowAt Za.cells 3 N v pz zs) (oz : ∀ z ∈ zs, z.ok) (hl : zs.length ≤ 1024) {MB Br HB A B2 : Nat} (hAB : A < B2) {mk bb : Nat → Bool} {T : Int} {f : Nat → Int} (hN : N ≤ A)
    (Bm : Bools v MB MB zs.length mk) (BR : CellsAt v Br (arr8 (fun q => .bool (bb q))) 58) (BH : CellsAt v HB (arr8 (fun q => .int .i64 (f q))) 57) (hf : ∀ q, 0 ≤ f q ∧ f q ≤ 281474976710656) (hT0 : 0 ≤ T) (hT1 : T ≤ 4398046511104) (hMB : MB < A) (hBr : Br < A) (hHB : HB < A)
    (A0 : Bools v A A zs.length (fun _ => false)) (B0 : Bools v (B2) (B2) zs.length (fun _ => false))
    {s1 s2 s3 s4 s5 s6 s7 s8 s9 s10 s11 s12 s13 s14 s15 s16 s17 s18 s19 s20 s21 s24 s25 s26 s27 s28 s30 s31 s32 s33 s34 s35 s36 s37 s38 s39 s40 s41 s43 s44 s45 s46 s47 s48 s49 s50 s51 s52 s53 s56 s57 s58 s59 s60 s61 s62 s63 s64 s65 s66 s67 s68 s69 s70 s71 s72 s73 s74 s75 s76 s77 s78 s79 s80 s81 s82 s83 s84 s85 s86 s87 s88 s89 s90 s91 s92 s93 s94 s95 s96 s97 s98 s99 s100 s101 s102 s103 s104 s105 s106 s107 s108 s109 s110 s111 s112 s113 s114 s115 s116 s117 s118 s119 s120 s121 s122 s123 s124 s125 s126 s127 s128 s129 s130 s131 s132 s133 s134 s135 s136 s137 s138 s139 s140 s141 s142 s143 s144 s145 s146 s147 s148 s149 s150 s151 s152 s153 s154 s155 s156 s157 s158 s159 s160 s161 s162 s163 s164 s165 s166 s167 s168 s169 s170 s171 s172 s173 s174 s175 s176 s177 s178 s179 s180 s181 s182 s183 s184 s185 s186 s187 s188 s189 s190 s191 s192 s193 s194 s195 s196 s197 s198 s199 s200 s201 s202 s203 s204 s205 s206 s207 s208 s209 s210 s211 s212 s213 s214 s215 s216 s217 s218 s219 s220 s221 s222 s223 s224 s225 s226 s227 s228 s229 s230 s231 s232 s233 s234 s235 s236 s237 s238 s239 s240 s241 s242 s243 s244 s245 s246 s247 s248 s249 s250 s251 s252 s253 s254 s255 s256 s257 s258 s259 s260 s261 s262 s263 s264 s265 s266 s267 s268 s269 s270 s271 s272 s273 s274 s275 s276 s277 s278 s279 s280 s281 s282 s283 s284 s285 s286 s287 s288 s289 s290 s291 s292 s293 s294 s295 s296 s297 s298 s299 s300 s301 s302 s303 s304 s305 s306 s307 s308 s309 s310 s311 s312 s313 s314 s315 s316 s317 s318 s319 s320 s321 s322 s323 s324 s325 s326 s327 s328 s329 s330 s331 s332 s333 s334 s335 s336 s337 s338 s339 s340 s341 s342 s343 s344 s345 s346 s347 s348 s349 s350 s351 s352 s353 s354 s355 s356 s357 s358 s359 s360 s361 s362 s363 s364 s365 s366 s367 s368 s369 s370 s371 s372 s373 s374 s375 s376 s377 s378 s379 s380 s381 s382 s383 s384 s385 s386 s387 s388 s389 s390 s391 s392 s393 s394 s395 s396 s397 s398 s399 s400 s401 s402 s403 s404 s405 s406 s407 : Value} {Q : Exit → Act → World → Prop}
    (hQ : Hid (∀ (t56 t57 t58 t328 t329 t330 t331 t332 t333 t334 t335 t336 t337 t338 t339 t340 t341 t342 t343 t344 t345 t346 t347 t348 t349 t350 t351 t352 t353 t354 t355 t356 t357 t358 t359 t360 t361 t362 t363 t364 t365 t366 t367 t368 t369 t370 t371 t372 t373 t374 t375 t376 t377 : Value) (wx : World), Bools wx A A zs.length (aB zs mk) → Bools wx (B2) (B2) zs.length (mB zs mk bb T f) → Below A v wx → Q .normal ⟨#[.slice pz zs.length cz, s1, s2, s3, s4, s5, s6, s7, s8, s9, s10, s11, s12, s13, s14, s15, s16, s17, s18, s19, s20, s21, .pointer (some ⟨Br, 0, none⟩), .int .i64 T, s24, s25, s26, s27, s28, .slice (some ⟨MB, 0, none⟩) zs.length zs.length, s30, s31, s32, s33, s34, s35, s36, s37, s38, s39, s40, s41, .pointer (some ⟨HB, 0, none⟩), s43, s44, s45, s46, s47, s48, s49, s50, s51, s52, s53, .slice (some ⟨A, 0, none⟩) zs.length zs.length, .slice (some ⟨B2, 0, none⟩) zs.length zs.length, t56, t57, t58, s59, s60, s61, s62, s63, s64, s65, s66, s67, s68, s69, s70, s71, s72, s73, s74, s75, s76, s77, s78, s79, s80, s81, s82, s83, s84, s85, s86, s87, s88, s89, s90, s91, s92, s93, s94, s95, s96, s97, s98, s99, s100, s101, s102, s103, s104, s105, s106, s107, s108, s109, s110, s111, s112, s113, s114, s115, s116, s117, s118, s119, s120, s121, s122, s123, s124, s125, s126, s127, s128, s129, s130, s131, s132, s133, s134, s135, s136, s137, s138, s139, s140, s141, s142, s143, s144, s145, s146, s147, s148, s149, s150, s151, s152, s153, s154, s155, s156, s157, s158, s159, s160, s161, s162, s163, s164, s165, s166, s167, s168, s169, s170, s171, s172, s173, s174, s175, s176, s177, s178, s179, s180, s181, s182, s183, s184, s185, s186, s187, s188, s189, s190, s191, s192, s193, s194, s195, s196, s197, s198, s199, s200, s201, s202, s203, s204, s205, s206, s207, s208, s209, s210, s211, s212, s213, s214, s215, s216, s217, s218, s219, s220, s221, s222, s223, s224, s225, s226, s227, s228, s229, s230, s231, s232, s233, s234, s235, s236, s237, s238, s239, s240, s241, s242, s243, s244, s245, s246, s247, s248, s249, s250, s251, s252, s253, s254, s255, s256, s257, s258, s259, s260, s261, s262, s263, s264, s265, s266, s267, s268, s269, s270, s271, s272, s273, s274, s275, s276, s277, s278, s279, s280, s281, s282, s283, s284, s285, s286, s287, s288, s289, s290, s291, s292, s293, s294, s295, s296, s297, s298, s299, s300, s301, s302, s303, s304, s305, s306, s307, s308, s309, s310, s311, s312, s313, s314, s315, s316, s317, s318, s319, s320, s321, s322, s323, s324, s325, s326, s327, t328, t329, t330, t331, t332, t333, t334, t335, t336, t337, t338, t339, t340, t341, t342, t343, t344, t345, t346, t347, t348, t349, t350, t351, t352, t353, t354, t355, t356, t357, t358, t359, t360, t361, t362, t363, t364, t365, t366, t367, t368, t369, t370, t371, t372, t373, t374, t375, t376, t377, s378, s379, s380, s381, s382, s383, s384, s385, s386, s387, s388, s389, s390, s391, s392, s393, s394, s395, s396, s397, s398, s399, s400, s401, s402, s403, s404, s405, s406, s407], []⟩ wx)) :
    Code.wp Yba.prog (pc 87) Q ⟨#[.slice pz zs.length cz, s1, s2, s3, s4, s5, s6, s7, s8, s9, s10, s11, s12, s13, s14, s15, s16, s17, s18, s19, s20, s21, .pointer (some ⟨Br, 0, none⟩), .int .i64 T, s24, s25, s26, s27, s28, .slice (some ⟨MB, 0, none⟩) zs.length zs.length, s30, s31, s32, s33, s34, s35, s36, s37, s38, s39, s40, s41, .pointer (some ⟨HB, 0, none⟩), s43, s44, s45, s46, s47, s48, s49, s50, s51, s52, s53, .slice (some ⟨A, 0, none⟩) zs.length zs.length, .slice (some ⟨B2, 0, none⟩) zs.length zs.length, s56, s57, s58, s59, s60, s61, s62, s63, s64, s65, s66, s67, s68, s69, s70, s71, s72, s73, s74, s75, s76, s77, s78, s79, s80, s81, s82, s83, s84, s85, s86, s87, s88, s89, s90, s91, s92, s93, s94, s95, s96, s97, s98, s99, s100, s101, s102, s103, s104, s105, s106, s107, s108, s109, s110, s111, s112, s113, s114, s115, s116, s117, s118, s119, s120, s121, s122, s123, s124, s125, s126, s127, s128, s129, s130, s131, s132, s133, s134, s135, s136, s137, s138, s139, s140, s141, s142, s143, s144, s145, s146, s147, s148, s149, s150, s151, s152, s153, s154, s155, s156, s157, s158, s159, s160, s161, s162, s163, s164, s165, s166, s167, s168, s169, s170, s171, s172, s173, s174, s175, s176, s177, s178, s179, s180, s181, s182, s183, s184, s185, s186, s187, s188, s189, s190, s191, s192, s193, s194, s195, s196, s197, s198, s199, s200, s201, s202, s203, s204, s205, s206, s207, s208, s209, s210, s211, s212, s213, s214, s215, s216, s217, s218, s219, s220, s221, s222, s223, s224, s225, s226, s227, s228, s229, s230, s231, s232, s233, s234, s235, s236, s237, s238, s239, s240, s241, s242, s243, s244, s245, s246, s247, s248, s249, s250, s251, s252, s253, s254, s255, s256, s257, s258, s259, s260, s261, s262, s263, s264, s265, s266, s267, s268, s269, s270, s271, s272, s273, s274, s275, s276, s277, s278, s279, s280, s281, s282, s283, s284, s285, s286, s287, s288, s289, s290, s291, s292, s293, s294, s295, s296, s297, s298, s299, s300, s301, s302, s303, s304, s305, s306, s307, s308, s309, s310, s311, s312, s313, s314, s315, s316, s317, s318, s319, s320, s321, s322, s323, s324, s325, s326, s327, s328, s329, s330, s331, s332, s333, s334, s335, s336, s337, s338, s339, s340, s341, s342, s343, s344, s345, s346, s347, s348, s349, s350, s351, s352, s353, s354, s355, s356, s357, s358, s359, s360, s361, s362, s363, s364, s365, s366, s367, s368, s369, s370, s371, s372, s373, s374, s375, s376, s377, s378, s379, s380, s381, s382, s383, s384, s385, s386, s387, s388, s389, s390, s391, s392, s393, s394, s395, s396, s397, s398, s399, s400, s401, s402, s403, s404, s405, s406, s407], []⟩ v := by
  conv => arg 2; whnf
  have HZ : Hid _ := RZ
  have HO : Hid _ := oz
  have Hf : Hid _ := hf
  have hsB := B0.lt.2
  clear RZ oz hf
  go_wp2
  go_loopw [330] (fun i wr => ∃ k : Nat, k ≤ zs.length ∧ i = .int .i64 k ∧ Bools wr A A zs.length (upto k (aB zs mk)) ∧ Bools wr (B2) (B2) zs.length (upto k (mB zs mk bb T f)) ∧ Below A v wr ∧ B2 < wr.heap.size) (fun i _ => zs.length - (intOf i).toNat)
  case atStart => exact ⟨0, Nat.zero_le _, rfl, A0.congr (fun i hi => rfl), B0.congr (fun i hi => rfl), Below.refl _ _, hsB⟩
  case round =>
    obtain ⟨k, hk, rfl, A1, B1, bel, hs⟩ := hrel
    by_cases hlt : k < zs.length
    · obtain ⟨z, hz⟩ : ∃ z, zs[k]? = some z := ⟨zs[k], List.getElem?_eq_getElem hlt⟩
      obtain ⟨⟨h0, h1⟩, ⟨sh0, sh1⟩, r0, r1⟩ := HO.out z (List.mem_of_getElem? hz)
      obtain ⟨b, off, hx, hb, hc⟩ := (RowAt.below HZ.out bel hN).at hz
      have c0 : wr.cell? ⟨b, off + k * 3, none⟩ = some (.int .u8 z.h) := hc 0 _ rfl
      have c1 : wr.cell? ⟨b, off + k * 3 + 1, none⟩ = some (.int .u32 z.sh) := hc 1 _ rfl
      have c2 : wr.cell? ⟨b, off + k * 3 + 2, none⟩ = some (.int .u8 z.ro) := hc 2 _ rfl
      have hk8 : (z.h % 8).toNat < 8 := by omega
      have i0 : 0 ≤ z.h % 8 := by omega
      have i1 : z.h % 8 < 8 := by omega
      have m0 : wr.cell? ⟨MB, k, none⟩ = some (.bool (mk k)) := (Bm.block (bel.block _ hMB)).cell hlt
      have b0 : wr.cell? ⟨Br, (z.h % 8).toNat, none⟩ = some (.bool (bb (z.h % 8).toNat)) := ((BR.below bel hBr).cell _).trans (arr8_at _ hk8)
      have g0 : wr.cell? ⟨HB, (z.h % 8).toNat, none⟩ = some (.int .i64 (f (z.h % 8).toNat)) := ((BH.below bel hHB).cell _).trans (arr8_at _ hk8)
      have a0 := A1.cell hlt
      have a1 := A1.frozen k
      have d0 := B1.cell hlt
      have d1 := B1.frozen k
      obtain ⟨f0, f1⟩ := Hf.out (z.h % 8).toNat
      have hr3 : (z.ro % 3).toNat < 3 := by omega
      have re := role_eqL _ hr3
      have hj0 : (0 : Int) ≤ (k : Int) := Int.natCast_nonneg _
      have hj1 : (k : Int) < (zs.length : Int) := by omega
      have l1 : MB < wr.heap.size := by omega
      have l2 : Br < wr.heap.size := by omega
      have l3 : HB < wr.heap.size := by omega
      have l4 : A < wr.heap.size := by omega
      have l5 : B2 < wr.heap.size := by omega
      have l6 : b < wr.heap.size := by omega
      have HF : Hid _ := And.intro hz (And.intro A1 (And.intro B1 bel))
      clear hz A1 B1 bel hc A0 B0 Bm BR BH
      subst hx
      cases hm : mk k
      · rw [hm] at m0
        have HM : Hid _ := hm
        clear hm re
        go_wp2_with (go_at_call 8; refine (role_any _ _ r0 r1).mono ?_; rintro e w' ⟨rfl, rfl⟩)
        go_roundw
        case rel =>
          obtain ⟨hz, A1, B1, bel⟩ := HF.out
          refine ⟨k + 1, by omega, by go_num, ?_⟩
          refine am_step hAB A1 B1 bel hs ?_ ?_
          · simp [aB, hz, HM.out]
          · simp [mB, hz, HM.out]
        case measure => simp [intOf]; omega
      · rw [hm] at m0
        by_cases hr : (z.ro % 3).toNat = 1
        · rw [decide_eq_true hr] at re
          have HM : Hid (mk k = true ∧ (z.ro % 3).toNat = 1) := And.intro hm hr
          clear hm hr
          go_wp2_with (go_at_call 8; refine (role_any _ _ r0 r1).mono ?_; rintro e w' ⟨rfl, rfl⟩)
          go_roundw
          case rel =>
            obtain ⟨hz, A1, B1, bel⟩ := HF.out
            refine ⟨k + 1, by omega, by go_num, ?_⟩
            refine am_step hAB A1 B1 bel hs ?_ ?_
            · simp [aB, hz, HM.out]
            · simp [mB, hz, HM.out]
          case measure => simp [intOf]; omega
        · rw [decide_eq_false hr] at re
          cases hbb : bb (z.h % 8).toNat
          · rw [hbb] at b0
            by_cases hT : 0 < T
            · by_cases hh : f (z.h % 8).toNat * 20 < T
              · have HM : Hid (mk k = true ∧ ¬ (z.ro % 3).toNat = 1 ∧ bb (z.h % 8).toNat = false ∧ 0 < T ∧ f (z.h % 8).toNat * 20 < T) := And.intro hm (And.intro hr (And.intro hbb (And.intro hT hh)))
                clear hm hr hbb
                go_wp2_with (go_at_call 8; refine (role_any _ _ r0 r1).mono ?_; rintro e w' ⟨rfl, rfl⟩)
                go_roundw
                case rel =>
                  obtain ⟨hz, A1, B1, bel⟩ := HF.out
                  refine ⟨k + 1, by omega, by go_num, ?_⟩
                  refine am_step hAB A1 B1 bel hs ?_ ?_
                  · simp [aB, hz, HM.out]
                  · simp [mB, hz, HM.out]
                case measure => simp [intOf]; omega
              · have HM : Hid (mk k = true ∧ ¬ (z.ro % 3).toNat = 1 ∧ bb (z.h % 8).toNat = false ∧ 0 < T ∧ ¬ f (z.h % 8).toNat * 20 < T) := And.intro hm (And.intro hr (And.intro hbb (And.intro hT hh)))
                clear hm hr hbb
                go_wp2_with (go_at_call 8; refine (role_any _ _ r0 r1).mono ?_; rintro e w' ⟨rfl, rfl⟩)
                go_roundw
                case rel =>
                  obtain ⟨hz, A1, B1, bel⟩ := HF.out
                  refine ⟨k + 1, by omega, by go_num, ?_⟩
                  refine am_step hAB A1 B1 bel hs ?_ ?_
                  · simp [aB, hz, HM.out]
                  · simp [mB, hz, HM.out]
                case measure => simp [intOf]; omega
            · have HM : Hid (mk k = true ∧ ¬ (z.ro % 3).toNat = 1 ∧ bb (z.h % 8).toNat = false ∧ ¬ 0 < T) := And.intro hm (And.intro hr (And.intro hbb hT))
              clear hm hr hbb
              go_wp2_with (go_at_call 8; refine (role_any _ _ r0 r1).mono ?_; rintro e w' ⟨rfl, rfl⟩)
              go_roundw
              case rel =>
                obtain ⟨hz, A1, B1, bel⟩ := HF.out
                refine ⟨k + 1, by omega, by go_num, ?_⟩
                refine am_step hAB A1 B1 bel hs ?_ ?_
                · simp [aB, hz, HM.out]
                · simp [mB, hz, HM.out]
                  intro hpos
                  have hneg := HM.out.2.2.2
                  omega
              case measure => simp [intOf]; omega
          · rw [hbb] at b0
            have HM : Hid (mk k = true ∧ ¬ (z.ro % 3).toNat = 1 ∧ bb (z.h % 8).toNat = true) := And.intro hm (And.intro hr hbb)
            clear hm hr hbb
            go_wp2_with (go_at_call 8; refine (role_any _ _ r0 r1).mono ?_; rintro e w' ⟨rfl, rfl⟩)
            go_roundw
            case rel =>
              obtain ⟨hz, A1, B1, bel⟩ := HF.out
              refine ⟨k + 1, by omega, by go_num, ?_⟩
              refine am_step hAB A1 B1 bel hs ?_ ?_
              · simp [aB, hz, HM.out]
              · simp [mB, hz, HM.out]
            case measure => simp [intOf]; omega
    · have hk2 : k = zs.length := by omega
      subst hk2
      have HH : Hid _ := And.intro A1 (And.intro B1 bel)
      clear A0 B0 A1 B1 bel Bm BR BH
      go_wp2
      obtain ⟨A1, B1, bel⟩ := HH.out
      exact hQ.out _ _ _ _ _ _ _ _ _ _ _ _ _ _ _ _ _ _ _ _ _ _ _ _ _ _ _ _ _ _ _ _ _ _ _ _ _ _ _ _ _ _ _ _ _ _ _ _ _ _ _ _ _ wr (A1.congr fun i hi => by simp [upto, hi]) (B1.congr fun i hi => by simp [upto, hi]) bel

end Go.Proofs.Ybulklvy
