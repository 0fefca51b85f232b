/-
  'LawS0622BGroups' (function 4): all behind the register's loop, put together.
-/
import Derived.Test.YbulklvyRegs
import Derived.Test.YbulklvyEnd
namespace Go.Proofs.Ybulklvy
open Go.ChangeShapes Go.WideShapes Go.ChangeAt Go.RowKit Go.Instr
set_option linter.unusedVariables false

theorem split25 : rig (pc 25) = Code.seq (lef (pc 26)) (Code.seq (pc 27) (pc 59)) := by kernel_rfl
theorem split59 : pc 59 = Code.seq (lef (pc 59)) (Code.seq (pc 60) (pc 64)) := by kernel_rfl
theorem split64 : pc 64 = Code.seq (lef (pc 64)) (Code.seq (pc 65) (pc 84)) := by kernel_rfl
theorem split84 : pc 84 = Code.seq (lef (pc 84)) (Code.seq (lef (pc 85)) (Code.seq (lef (pc 86)) (Code.seq (pc 87) (pc 94)))) := by kernel_rfl

/-- The meeting as the callee reads it. -/
theorem meet_of {w v : World} {zs : List Za} {xs : List Value} {V M H : Nat} {listed minor : Bool} {a o k n c : Value} {p : Nat → Bool} {ja jo jk jn : List Nat} (K : Core w v zs xs V M listed minor a o n k c p) (hF : Filled (zs.map Za.ac) zs.length xs) (oz : ∀ z ∈ zs, z.ok) (hl : zs.length ≤ 1024)
    (F1 : Fin v H v.heap.size 87 2 atC a ja) (F2 : Fin v H v.heap.size 92 10 blC o jo) (F3 : Fin v H v.heap.size 94 4 enC k jk) (F4 : Fin v H v.heap.size 92 10 nwC n jn)
    (ta : ∀ j ∈ ja, j < zs.length) (tq : ∀ j ∈ jo, j < zs.length) (tk : ∀ j ∈ jk, j < zs.length) (tn : ∀ j ∈ jn, j < zs.length) (la : ja.length ≤ 1024) (lo : jo.length ≤ 1024) (lk : jk.length ≤ 1024) (lN : jn.length ≤ 1024) :
    ∃ pa po pk pn ca co ck cn, MeetAt v M v.heap.size w.heap.size (zs.map Za.ac) listed minor ja jo jk jn pa po pk pn ca co ck cn := by
  obtain ⟨pa, ca, rfl, R1⟩ := F1.row at_len
  obtain ⟨po, co, rfl, R2⟩ := F2.row bl10_len
  obtain ⟨pk, ck, rfl, R3⟩ := F3.row en_len
  obtain ⟨pn, cn, rfl, R4⟩ := F4.row nw_len
  have e : (zs.map Za.ac).length = zs.length := by simp
  refine ⟨pa, po, pk, pn, ca, co, ck, cn, K.m.lt, K.m.cell 4, ?_, K.m.cell 13, K.m.cell 14, K.m.cell 15, K.m.cell 16, K.m.cell 17, ?_, R1, R2, R3, R4, ?_, ?_, ?_, ?_, ?_, by rw [e]; exact hl, la, lo, lk, lN⟩
  · rw [e]; exact K.m.cell 12
  · exact filled_row (by rw [e]; exact hF) e K.own
  · intro a ha
    obtain ⟨z, hz, rfl⟩ := List.mem_map.1 ha
    exact za_ok (oz z hz)
  · rw [e]; exact ta
  · rw [e]; exact tq
  · rw [e]; exact tk
  · rw [e]; exact tn

section
variable {w : World} {zs : List Za} {pz pa po pk pn pc' : Option Addr} {xa xo xk xn : List Int} {gs : List (List Int)} {cz ca co ck cn cc : Nat}

set_option maxRecDepth 1000000 in
set_option maxHeartbeats 8000000 in
theorem tail25 (I : In w zs pz pa po pk pn pc' xa xo xk xn gs) {wr : World} {xs : List Value} {V : Nat} {listed minor : Bool}
    (hl0 : zs.length ≤ 1024) (hla : xa.length ≤ 1024) (hlo : xo.length ≤ 1024) (hlk : xk.length ≤ 1024) (hln : xn.length ≤ 1024) (hgn : gs.length ≤ 64) (hall : ∀ g ∈ gs, g.length ≤ 64)
    (hO : wr.ownsRow w.heap.size 65 5 (.slice (some ⟨w.heap.size, 0, none⟩) zs.length zs.length) zs.length xs) (hF : Filled (zs.map Za.ac) zs.length xs)
    (hS : CellsAt wr V (arr8 (fun q => .int .i64 (shr (zs.map Za.ac) q))) 57) (hBr : CellsAt wr (V + 1) (arr8 (fun q => .bool (bar (zs.map Za.ac) q))) 58) (hbel : Below w.heap.size w wr) (hV : w.heap.size < V) (hsz : V + 2 ≤ wr.heap.size)
    {s8 s9 s10 s11 s12 s13 s14 s15 s16 s17 s18 s24 s25 s26 s27 s28 s29 s30 s31 s32 s33 s34 s35 s36 s37 s38 s39 s40 s41 s42 s43 s44 s45 s46 s47 s48 s49 s50 s51 s52 s53 s54 s55 s56 s57 s58 s59 s60 s61 s62 s63 s64 s65 s66 s67 s68 s69 s70 s71 s72 s73 s74 s75 s76 s77 s78 s79 s80 s81 s82 s83 s84 s85 s86 s87 s88 s89 s90 s91 s92 s93 s94 s95 s96 s97 s98 s99 s100 s101 s102 s103 s104 s105 s106 s107 s108 s109 s110 s111 s112 s113 s114 s115 s116 s117 s118 s119 s120 s121 s122 s123 s124 s125 s126 s127 s128 s129 s130 s131 s132 s133 s134 s135 s136 s137 s138 s139 s140 s141 s142 s143 s144 s145 s146 s147 s148 s149 s150 s151 s152 s153 s154 s155 s156 s157 s158 s159 s160 s161 s162 s163 s164 s165 s166 s167 s168 s169 s170 s171 s172 s173 s174 s175 s176 s177 s178 s179 s180 s181 s182 s183 s184 s185 s186 s187 s188 s189 s190 s191 s192 s193 s194 s195 s196 s197 s198 s199 s200 s201 s202 s203 s204 s205 s206 s207 s208 s209 s210 s211 s212 s213 s214 s215 s216 s217 s218 s219 s220 s221 s222 s223 s224 s225 s226 s227 s228 s229 s230 s231 s232 s233 s234 s235 s236 s237 s238 s239 s240 s241 s242 s243 s244 s245 s246 s247 s248 s249 s250 s251 s252 s253 s254 s255 s256 s257 s258 s259 s260 s261 s262 s263 s264 s265 s266 s267 s268 s269 s270 s271 s272 s273 s274 s275 s276 s277 s278 s279 s280 s281 s282 s283 s284 s285 s286 s287 s288 s289 s290 s291 s292 s293 s294 s295 s296 s297 s298 s299 s300 s301 s302 s303 s304 s305 s306 s307 s308 s309 s310 s311 s312 s313 s314 s315 s316 s317 s318 s319 s320 s321 s322 s323 s324 s325 s326 s327 s328 s329 s330 s331 s332 s333 s334 s335 s336 s337 s338 s339 s340 s341 s342 s343 s344 s345 s346 s347 s348 s349 s350 s351 s352 s353 s354 s355 s356 s357 s358 s359 s360 s361 s362 s363 s364 s365 s366 s367 s368 s369 s370 s371 s372 s373 s374 s375 s376 s377 s378 s379 s380 s381 s382 s383 s384 s385 s386 s387 s388 s389 s390 s391 s392 s393 s394 s395 s396 s397 s398 s399 s400 s401 s402 s403 s404 s405 s406 s407 : Value} {K : Act → World → Prop}
    (hK : ∀ a w', Code.wp Yba.prog (rig (pc 25)) (bodyPost Yba.prog Yba.f4 (fun e w' => e = Ending.returned (Value.bool true) ∧ Below w.heap.size w w')) a w' → K a w') :
    Code.wp Yba.prog (lef (pc 25)) (Exit.then K (bodyPost Yba.prog Yba.f4 (fun e w' => e = Ending.returned (Value.bool true) ∧ Below w.heap.size w w'))) ⟨#[.slice pz zs.length cz, .bool listed, .slice pa xa.length ca, .slice po xo.length co, .slice pk xk.length ck, .slice pn xn.length cn, .bool minor, .slice pc' gs.length cc, s8, s9, s10, s11, s12, s13, s14, s15, s16, s17, s18, .int .i64 zs.length, .slice (some ⟨w.heap.size, 0, none⟩) zs.length zs.length, .pointer (some ⟨V, 0, none⟩), .pointer (some ⟨V + 1, 0, none⟩), .int .i64 (tot (zs.map Za.ac)), s24, s25, s26, s27, s28, s29, s30, s31, s32, s33, s34, s35, s36, s37, s38, s39, s40, s41, s42, s43, s44, s45, s46, s47, s48, s49, s50, s51, s52, s53, s54, s55, s56, s57, s58, s59, s60, s61, s62, s63, s64, s65, s66, s67, s68, s69, s70, s71, s72, s73, s74, s75, s76, s77, s78, s79, s80, s81, s82, s83, s84, s85, s86, s87, s88, s89, s90, s91, s92, s93, s94, s95, s96, s97, s98, s99, s100, s101, s102, s103, s104, s105, s106, s107, s108, s109, s110, s111, s112, s113, s114, s115, s116, s117, s118, s119, s120, s121, s122, s123, s124, s125, s126, s127, s128, s129, s130, s131, s132, s133, s134, s135, s136, s137, s138, s139, s140, s141, s142, s143, s144, s145, s146, s147, s148, s149, s150, s151, s152, s153, s154, s155, s156, s157, s158, s159, s160, s161, s162, s163, s164, s165, s166, s167, s168, s169, s170, s171, s172, s173, s174, s175, s176, s177, s178, s179, s180, s181, s182, s183, s184, s185, s186, s187, s188, s189, s190, s191, s192, s193, s194, s195, s196, s197, s198, s199, s200, s201, s202, s203, s204, s205, s206, s207, s208, s209, s210, s211, s212, s213, s214, s215, s216, s217, s218, s219, s220, s221, s222, s223, s224, s225, s226, s227, s228, s229, s230, s231, s232, s233, s234, s235, s236, s237, s238, s239, s240, s241, s242, s243, s244, s245, s246, s247, s248, s249, s250, s251, s252, s253, s254, s255, s256, s257, s258, s259, s260, s261, s262, s263, s264, s265, s266, s267, s268, s269, s270, s271, s272, s273, s274, s275, s276, s277, s278, s279, s280, s281, s282, s283, s284, s285, s286, s287, s288, s289, s290, s291, s292, s293, s294, s295, s296, s297, s298, s299, s300, s301, s302, s303, s304, s305, s306, s307, s308, s309, s310, s311, s312, s313, s314, s315, s316, s317, s318, s319, s320, s321, s322, s323, s324, s325, s326, s327, s328, s329, s330, s331, s332, s333, s334, s335, s336, s337, s338, s339, s340, s341, s342, s343, s344, s345, s346, s347, s348, s349, s350, s351, s352, s353, s354, s355, s356, s357, s358, s359, s360, s361, s362, s363, s364, s365, s366, s367, s368, s369, s370, s371, s372, s373, s374, s375, s376, s377, s378, s379, s380, s381, s382, s383, s384, s385, s386, s387, s388, s389, s390, s391, s392, s393, s394, s395, s396, s397, s398, s399, s400, s401, s402, s403, s404, s405, s406, s407], []⟩ wr := by
  have oks : ∀ a ∈ zs.map Za.ac, a.ok := fun a ha => by
    obtain ⟨z, hz, rfl⟩ := List.mem_map.1 ha
    exact za_ok (I.oz z hz)
  have hlm : (zs.map Za.ac).length ≤ 1024 := by simpa using hl0
  refine reg25 (fun _ _ _ _ _ v1 e1 => ?_)
  refine hK _ _ ?_
  rw [split25]
  have s1 : v1.heap.size = wr.heap.size + 1 := by rw [e1]; simp
  have m1 : CellsAt v1 wr.heap.size (mArr minor (.slice (some ⟨w.heap.size, 0, none⟩) zs.length zs.length) listed Nl Nl Nl Nl Nl) 83 := by rw [e1]; exact heap_alloc_new wr _
  have b1 : Below wr.heap.size wr v1 := by rw [e1]; exact (Below.refl _ _).alloc (Nat.le_refl _) _
  refine wp_seq (reg26 hl0 (fun _ _ v2 Bm b2 => ?_))
  have sB := Bm.lt.2
  rw [s1] at Bm sB b2
  have b12 : Below wr.heap.size wr v2 := b1.trans (b2.mono (by omega))
  have K2 : Core w v2 zs xs V wr.heap.size listed minor Nl Nl Nl Nl Nl (fun _ => false) := ⟨ownsRow_block hO (fun g hg => by cases hg; exact b12.block w.heap.size (by omega)), hS.of (b12.block _ (by omega)), hBr.of (b12.block _ (by omega)), m1.below b2 (by omega), Bm, hbel.trans (b12.mono (by omega)), hV, hsz, by omega⟩
  rw [s1]
  refine wp_seq (if_part I hl0 hla hlo hlk hln K2 (fun _ _ _ _ _ _ _ _ _ _ _ _ _ _ _ _ _ _ _ _ _ _ _ _ _ _ _ _ _ _ _ _ _ _ _ _ _ _ _ _ _ _ _ _ _ _ _ _ _ _ _ _ _ _ _ _ _ _ _ _ _ _ _ _ _ _ _ _ _ _ _ _ _ _ _ _ _ _ _ _ _ _ _ _ _ _ _ _ _ _ _ _ _ _ _ _ _ _ _ _ _ _ _ _ _ _ _ _ _ _ _ _ _ _ _ v6 F6 => ?_))
  clear K2 Bm b2 b12 b1 m1 sB e1 s1
  obtain ⟨_, _, _, _, _, _, _, _, _, K6, _⟩ := id F6
  have hV6 : V < v6.heap.size := K6.sh.lt
  have hM6 := K6.hS
  have hw6 : w.heap.size ≤ v6.heap.size := K6.bel.size
  show Code.wp Yba.prog (pc 59) _ _ _
  rw [split59]
  refine wp_seq (reg59 (fun v7 H7 b7 s7 => ?_))
  refine wp_seq (node60 (shr (zs.map Za.ac)) (K6.sh.below b7 hV6) H7 hV6 (fun _ _ _ _ _ _ _ _ _ _ v8 H8 b8 s8 => ?_))
  show Code.wp Yba.prog (pc 64) _ _ _
  rw [split64]
  refine wp_seq (reg64 hgn (fun _ _ _ v9 C9 b9 => ?_))
  have b69 : Below v6.heap.size v6 v9 := b7.trans (b8.trans (b9.mono (by omega)))
  refine wp_seq (node65 (w := w) oks hlm (I.rc.below (K6.bel.trans (b69.mono hw6)) (Nat.le_refl _)) I.oc hall hgn hw6 (K6.sh.below b69 hV6) hV6 (H8.below b9 (by omega)) (by omega) C9 (fun _ _ _ _ _ _ _ _ _ _ _ _ _ _ _ _ _ _ _ _ _ _ _ _ _ _ _ _ _ _ _ _ _ _ _ _ _ _ _ _ _ _ _ _ _ _ _ _ _ _ _ _ _ _ _ _ v10 p10 C10 G10 H10 b10 => ?_))
  have F10 := F6.below (b69.trans b10)
  have s10 : v9.heap.size ≤ v10.heap.size := b10.size
  have s9 := C9.lt
  clear K6 F6 H7 b7 H8 b8 C9 b9 b10 b69
  obtain ⟨ja, jo, jk, jn, a, o, k, n, p, K10, ⟨H, hH, F1, F2, F3, F4⟩, hMk, ta, tq, tk, tn, la, lo, lk, lN⟩ := F10
  show Code.wp Yba.prog (pc 84) _ _ _
  rw [split84]
  refine wp_seq (reg84 K10.m rfl (fun _ _ _ _ v11 e11 => ?_))
  have hb11 : ∀ b, b ≠ wr.heap.size → v11.heap[b]? = v10.heap[b]? := fun b hb => by rw [e11]; exact heap_setCell_other _ _ _ _ hb
  have s11 : v11.heap.size = v10.heap.size := by rw [e11]; simp [World.setCell]
  have K11 : Core w v11 zs xs V wr.heap.size listed minor a o n k (.slice (some ⟨v8.heap.size, 0, none⟩) gs.length gs.length) p := by rw [e11]; exact K10.setM 6 _ rfl
  have C11 : Vals v11 22 v8.heap.size gs.length p10 := C10.block (hb11 _ (by omega))
  have H11 := H10.of (hb11 _ (by omega))
  have hC8 := C11.lt
  clear K10 C10 H10 e11
  refine wp_seq (reg85 hl0 (fun _ _ v12 A12 g12 => ?_))
  have b12 : Below v11.heap.size v11 v12 := (Below.refl _ _).grown g12 (Nat.le_refl _) (by simp)
  have hA12 := A12.lt.2
  refine wp_seq (reg86 hl0 (fun _ _ v13 A13 g13 => ?_))
  have b13 : Below v12.heap.size v12 v13 := (Below.refl _ _).grown g13 (Nat.le_refl _) (by simp)
  have b1113 : Below v11.heap.size v11 v13 := b12.trans (b13.mono b12.size)
  have hw11 : w.heap.size ≤ v11.heap.size := K11.bel.size
  have hM11 := K11.hS
  have hM11' := K11.hM
  have tb := tot_bd (zs.map Za.ac) oks
  refine wp_seq (node87 (I.rz.below (K11.bel.trans (b1113.mono hw11)) (Nat.le_refl _)) I.oz hl0 hA12 hw11 (K11.mks.block (b1113.block _ (by omega))) (K11.br.below b1113 (by omega)) (H11.below b1113 (by omega)) (held_bd (zs.map Za.ac) oks (gs.map g8) (fun g hg => by obtain ⟨g', hg', rfl⟩ := List.mem_map.1 hg; rw [g8_len]; exact hall g' hg') hlm) tb.1 (by omega) (by omega) (by omega) (by omega) (A12.block (b13.block _ hA12)) A13 (fun _ _ _ _ _ _ _ _ _ _ _ _ _ _ _ _ _ _ _ _ _ _ _ _ _ _ _ _ _ _ _ _ _ _ _ _ _ _ _ _ _ _ _ _ _ _ _ _ _ _ _ _ _ v14 A14 B14 b14 => ?_))
  have b : Below v11.heap.size v11 v14 := b1113.trans b14
  have K14 := K11.of (fun c hc => b.block c (by omega)) (K11.bel.trans (b.mono hw11)) (Nat.le_trans hM11 b.size)
  have hs14 := b.size
  have mv : ∀ {e s : Nat} {f : Nat → List Value} {u : Value} {js : List Nat}, Fin v10 H v10.heap.size e s f u js → Fin v14 H v14.heap.size e s f u js := fun F => ((F.of (fun c h1 h2 => hb11 c (by omega))).of (fun c h1 h2 => b.block c (by omega))).mono (Nat.le_refl _) (by omega)
  obtain ⟨pa', po', pk', pn', ca', co', ck', cn', MT⟩ := meet_of K14 hF I.oz hl0 (mv F1) (mv F2) (mv F3) (mv F4) ta tq tk tn la lo lk lN
  have eg : (gs.map g8).length = gs.length := by simp
  refine tail94 (G := gs.map g8) MT (Nat.le_refl _) (by rw [eg]; exact K14.m.cell 6) (conc_of rfl (C11.block (b.block _ hC8)) (fun i g hg => ?_)) ?_ ?_ (by omega) (by simp) (A14.congr (fun i hi => aB_eq hMk hi)) (B14.congr (fun i hi => by rw [mB_eq hi, aB_eq hMk hi])) K14.bel
  · obtain ⟨blk, h1, h2, h3, h4⟩ := G10 i g hg
    exact ⟨blk, h1, h2, by omega, fun j h hj => by rw [cell_of_heap (b.block blk (by omega)), cell_of_heap (hb11 blk (by omega))]; exact h4 j h hj⟩
  · intro g hg
    obtain ⟨g', _, rfl⟩ := List.mem_map.1 hg
    exact g8_lt g'
  · intro g hg
    obtain ⟨g', hg', rfl⟩ := List.mem_map.1 hg
    rw [g8_len]
    exact hall g' hg'
end
end Go.Proofs.Ybulklvy
