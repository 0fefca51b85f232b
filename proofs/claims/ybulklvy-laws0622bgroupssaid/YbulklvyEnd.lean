/-
  'LawS0622BGroups' (function 4): the groups are counted and held against the law's own.
-/
import Derived.Test.YbulklvyCode
namespace Go.Proofs.Ybulklvy
open Go.ChangeShapes Go.WideShapes Go.ChangeAt Go.RowKit Go.Instr
set_option linter.unusedVariables false

set_option maxRecDepth 1000000 in
set_option maxHeartbeats 8000000 in
theorem tail94 {w v : World} {M N rg n A Bk : Nat} {acs : List Ac} {listed minor : Bool} {ja jo jk jn : List Nat} {pa po pk pn : Option Addr} {ca co ck cn : Nat} (MT : MeetAt v M N rg acs listed minor ja jo jk jn pa po pk pn ca co ck cn) (hNs : N ≤ v.heap.size)
    {pcg : Option Addr} {cc : Nat} {G : List (List Nat)} (c6 : v.cell? ⟨M, 6, none⟩ = some (.slice pcg G.length cc)) (hC : Conc v N pcg G) (hg8 : ∀ g ∈ G, ∀ k ∈ g, k < 8) (hgl : ∀ g ∈ G, g.length ≤ 64) (hgs : G.length ≤ 64) (hn : acs.length = n)
    (AL : Bools v A A n (attB acs listed ja jo jk jn)) (MI : Bools v Bk Bk n (fun i => minB acs G i && attB acs listed ja jo jk jn i)) (bel : Below w.heap.size w v) {s0 s1 s2 s3 s4 s5 s7 s8 s9 s10 s11 s12 s13 s14 s15 s16 s17 s18 s19 s20 s21 s22 s23 s24 s25 s26 s27 s29 s30 s31 s32 s33 s34 s35 s36 s37 s38 s39 s40 s41 s42 s43 s44 s45 s46 s47 s48 s49 s50 s51 s52 s53 s56 s57 s58 s59 s60 s61 s62 s63 s64 s65 s66 s67 s68 s69 s70 s71 s72 s73 s74 s75 s76 s77 s78 s79 s80 s81 s82 s83 s84 s85 s86 s87 s88 s89 s90 s91 s92 s93 s94 s95 s96 s97 s98 s99 s100 s101 s102 s103 s104 s105 s106 s107 s108 s109 s110 s111 s112 s113 s114 s115 s116 s117 s118 s119 s120 s121 s122 s123 s124 s125 s126 s127 s128 s129 s130 s131 s132 s133 s134 s135 s136 s137 s138 s139 s140 s141 s142 s143 s144 s145 s146 s147 s148 s149 s150 s151 s152 s153 s154 s155 s156 s157 s158 s159 s160 s161 s162 s163 s164 s165 s166 s167 s168 s169 s170 s171 s172 s173 s174 s175 s176 s177 s178 s179 s180 s181 s182 s183 s184 s185 s186 s187 s188 s189 s190 s191 s192 s193 s194 s195 s196 s197 s198 s199 s200 s201 s202 s203 s204 s205 s206 s207 s208 s209 s210 s211 s212 s213 s214 s215 s216 s217 s218 s219 s220 s221 s222 s223 s224 s225 s226 s227 s228 s229 s230 s231 s232 s233 s234 s235 s236 s237 s238 s239 s240 s241 s242 s243 s244 s245 s246 s247 s248 s249 s250 s251 s252 s253 s254 s255 s256 s257 s258 s259 s260 s261 s262 s263 s264 s265 s266 s267 s268 s269 s270 s271 s272 s273 s274 s275 s276 s277 s278 s279 s280 s281 s282 s283 s284 s285 s286 s287 s288 s289 s290 s291 s292 s293 s294 s295 s296 s297 s298 s299 s300 s301 s302 s303 s304 s305 s306 s307 s308 s309 s310 s311 s312 s313 s314 s315 s316 s317 s318 s319 s320 s321 s322 s323 s324 s325 s326 s327 s328 s329 s330 s331 s332 s333 s334 s335 s336 s337 s338 s339 s340 s341 s342 s343 s344 s345 s346 s347 s348 s349 s350 s351 s352 s353 s354 s355 s356 s357 s358 s359 s360 s361 s362 s363 s364 s365 s366 s367 s368 s369 s370 s371 s372 s373 s374 s375 s376 s377 s378 s379 s380 s381 s382 s383 s384 s385 s386 s387 s388 s389 s390 s391 s392 s393 s394 s395 s396 s397 s398 s399 s400 s401 s402 s403 s404 s405 s406 s407 : Value} :
    Code.wp Yba.prog (pc 94) (bodyPost Yba.prog Yba.f4 (fun e w' => e = Ending.returned (Value.bool true) ∧ Below w.heap.size w w')) ⟨#[s0, s1, s2, s3, s4, s5, .bool minor, s7, s8, s9, s10, s11, s12, s13, s14, s15, s16, s17, s18, s19, s20, s21, s22, s23, s24, s25, s26, s27, .pointer (some ⟨M, 0, none⟩), s29, s30, s31, s32, s33, s34, s35, s36, s37, s38, s39, s40, s41, s42, s43, s44, s45, s46, s47, s48, s49, s50, s51, s52, s53, .slice (some ⟨A, 0, none⟩) n n, .slice (some ⟨Bk, 0, none⟩) n n, s56, s57, s58, s59, s60, s61, s62, s63, s64, s65, s66, s67, s68, s69, s70, s71, s72, s73, s74, s75, s76, s77, s78, s79, s80, s81, s82, s83, s84, s85, s86, s87, s88, s89, s90, s91, s92, s93, s94, s95, s96, s97, s98, s99, s100, s101, s102, s103, s104, s105, s106, s107, s108, s109, s110, s111, s112, s113, s114, s115, s116, s117, s118, s119, s120, s121, s122, s123, s124, s125, s126, s127, s128, s129, s130, s131, s132, s133, s134, s135, s136, s137, s138, s139, s140, s141, s142, s143, s144, s145, s146, s147, s148, s149, s150, s151, s152, s153, s154, s155, s156, s157, s158, s159, s160, s161, s162, s163, s164, s165, s166, s167, s168, s169, s170, s171, s172, s173, s174, s175, s176, s177, s178, s179, s180, s181, s182, s183, s184, s185, s186, s187, s188, s189, s190, s191, s192, s193, s194, s195, s196, s197, s198, s199, s200, s201, s202, s203, s204, s205, s206, s207, s208, s209, s210, s211, s212, s213, s214, s215, s216, s217, s218, s219, s220, s221, s222, s223, s224, s225, s226, s227, s228, s229, s230, s231, s232, s233, s234, s235, s236, s237, s238, s239, s240, s241, s242, s243, s244, s245, s246, s247, s248, s249, s250, s251, s252, s253, s254, s255, s256, s257, s258, s259, s260, s261, s262, s263, s264, s265, s266, s267, s268, s269, s270, s271, s272, s273, s274, s275, s276, s277, s278, s279, s280, s281, s282, s283, s284, s285, s286, s287, s288, s289, s290, s291, s292, s293, s294, s295, s296, s297, s298, s299, s300, s301, s302, s303, s304, s305, s306, s307, s308, s309, s310, s311, s312, s313, s314, s315, s316, s317, s318, s319, s320, s321, s322, s323, s324, s325, s326, s327, s328, s329, s330, s331, s332, s333, s334, s335, s336, s337, s338, s339, s340, s341, s342, s343, s344, s345, s346, s347, s348, s349, s350, s351, s352, s353, s354, s355, s356, s357, s358, s359, s360, s361, s362, s363, s364, s365, s366, s367, s368, s369, s370, s371, s372, s373, s374, s375, s376, s377, s378, s379, s380, s381, s382, s383, s384, s385, s386, s387, s388, s389, s390, s391, s392, s393, s394, s395, s396, s397, s398, s399, s400, s401, s402, s403, s404, s405, s406, s407], []⟩ v := by
  conv => arg 2; whnf
  subst hn
  have hln := MT.ln
  have CA : Hid _ := counted_any MT hNs pcg cc G c6 hC hg8 hgl hgs
  have HB : Hid _ := And.intro AL (And.intro MI bel)
  clear MT c6 hC hg8 hgl AL MI bel
  generalize attB acs listed ja jo jk jn = q at CA HB ⊢
  generalize minB acs G = qm at CA HB ⊢
  generalize hna : acs.length = n at CA HB hln ⊢
  clear hna
  cases minor
  · go_wp2_with (go_at_call 10; refine Calls.mono (Hid.out CA) ?_; rintro e w1 ⟨g1, va, r, c, B1, A1, b1, c0, c1, c2, hr, hf, ht⟩; obtain rfl := hf rfl; clear hf ht; have k0 : w1.cell? ⟨r, 0, none⟩ = some (.string ⟨#[97, 108, 108]⟩) := c0; clear c0; have HC : Hid _ := And.intro B1 (And.intro A1 b1); clear B1 A1 b1)
    obtain ⟨B1, A1, b1⟩ := HC.out
    obtain ⟨AL, MI, bel⟩ := HB.out
    refine Calls.mono (check_true ⟨#[97, 108, 108]⟩ g1 A n _ _ _ q va w1 B1 (AL.below b1) A1 (by omega)) ?_
    rintro e w2 ⟨rfl, b2⟩
    go_wp2
    go_ret
    exact ⟨rfl, bel.trans ((b1.mono bel.size).trans (b2.mono (Nat.le_trans bel.size b1.size)))⟩
  · go_wp2_with (go_at_call 10; refine Calls.mono (Hid.out CA) ?_; rintro e w1 ⟨g1, va, r, c, B1, A1, b1, c0, c1, c2, hr, hf, ht⟩; obtain ⟨rfl, g2, vb, B2, A2, d0, d1, d2⟩ := ht rfl; clear hf ht; have k0 : w1.cell? ⟨r, 0, none⟩ = some (.string ⟨#[97, 108, 108]⟩) := c0; clear c0; have k3 : w1.cell? ⟨r, 3, none⟩ = some (.string ⟨#[109, 105, 110, 111, 114, 105, 116, 121]⟩) := d0; clear d0; have HC : Hid _ := And.intro B1 (And.intro A1 (And.intro b1 (And.intro B2 A2))); clear B1 A1 b1 B2 A2)
    obtain ⟨B1, A1, b1, B2, A2⟩ := HC.out
    obtain ⟨AL, MI, bel⟩ := HB.out
    refine Calls.mono (check_true ⟨#[97, 108, 108]⟩ g1 A n _ _ _ q va w1 B1 (AL.below b1) A1 (by omega)) ?_
    rintro e w2 ⟨rfl, b2⟩
    have e3 : w2.cell? ⟨r, 3, none⟩ = some (.string ⟨#[109, 105, 110, 111, 114, 105, 116, 121]⟩) := (b2.cell (p := ⟨r, 3, none⟩) hr).trans k3
    have e4 : w2.cell? ⟨r, 4, none⟩ = some (.slice (some ⟨g2, 0, none⟩) n n) := (b2.cell (p := ⟨r, 4, none⟩) hr).trans d1
    have e5 : w2.cell? ⟨r, 5, none⟩ = some vb := (b2.cell (p := ⟨r, 5, none⟩) hr).trans d2
    have HD : Hid _ := And.intro B2 (And.intro A2 (And.intro MI (And.intro bel (And.intro b1 b2))))
    clear B1 A1 b1 B2 A2 AL MI bel b2
    go_wp2_with fail
    obtain ⟨B2, A2, MI, bel, b1, b2⟩ := HD.out
    refine Calls.mono (check_true ⟨#[109, 105, 110, 111, 114, 105, 116, 121]⟩ g2 Bk n _ _ _ (fun i => qm i && q i) vb w2 (B2.below b2) ((MI.below b1).below b2) (owns_below A2 b2) (by omega)) ?_
    rintro e w3 ⟨rfl, b3⟩
    go_wp2
    go_ret
    exact ⟨rfl, bel.trans ((b1.mono bel.size).trans ((b2.mono (Nat.le_trans bel.size b1.size)).trans (b3.mono (Nat.le_trans bel.size (Nat.le_trans b1.size b2.size)))))⟩
end Go.Proofs.Ybulklvy
