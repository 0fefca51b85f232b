/-
  'LawS0622BGroups' (function 4): the walk where no list is too long.
-/
import Derived.Test.YbulklvyTail
namespace Go.Proofs.Ybulklvy
open Go.ChangeShapes Go.WideShapes Go.ChangeAt Go.RowKit Go.Instr
set_option linter.unusedVariables false

section
variable {w : World} {zs : List Za} {pz pa po pk pn pc : Option Addr} {xa xo xk xn : List Int} {gs : List (List Int)} {cz ca co ck cn cc : Nat}

theorem heap2 (w : World) (o0 o1 : Obj) : ((w.alloc o0).alloc o1).heap[w.heap.size + 1]? = some o1 := by
  have e : ((w.alloc o0).alloc o1).heap = (w.heap.push o0).push o1 := rfl
  rw [e]
  simp only [Array.getElem?_push, Array.size_push]
  simp

theorem row_some {w : World} {base e s g n c : Nat} {xs : List Value} (h : w.ownsRow base e s (.slice (some ⟨g, 0, none⟩) n c) n xs) {j : Nat} (hj : j < n * s) : ∃ v, w.cell? ⟨g, j, none⟩ = some v := by
  rw [World.ownsRow.cellAt h j hj]
  exact ⟨_, List.getElem?_eq_getElem (by rw [h.1]; exact hj)⟩

theorem new5 (w : World) (a1 a2 a3 a4 a5 : Addr) (v1 v2 v3 v4 v5 : Value) (cs : Array Value) (t j : Nat) : ((((((w.setCell a1 v1).setCell a2 v2).setCell a3 v3).setCell a4 v4).setCell a5 v5).alloc (.cells cs t)).cell? ⟨w.heap.size, j, none⟩ = cs[j]? := by
  have e : (((((w.setCell a1 v1).setCell a2 v2).setCell a3 v3).setCell a4 v4).setCell a5 v5).heap.size = w.heap.size := by simp [World.setCell]
  have h := heap_alloc_new (((((w.setCell a1 v1).setCell a2 v2).setCell a3 v3).setCell a4 v4).setCell a5 v5) (.cells cs t)
  rw [e] at h
  simp only [World.cell?, h]
  rfl
theorem drew_cell (w : World) (a : Addr) : w.drew.cell? a = w.cell? a := rfl
theorem drew_heap (w : World) (b : Nat) : w.drew.heap[b]? = w.heap[b]? := rfl
theorem new5d (w : World) (a1 a2 a3 a4 a5 : Addr) (v1 v2 v3 v4 v5 : Value) (cs : Array Value) (t j : Nat) (v : Value) (h : cs[j]? = some v) : ((((((w.setCell a1 v1).setCell a2 v2).setCell a3 v3).setCell a4 v4).setCell a5 v5).alloc (.cells cs t)).drew.cell? ⟨w.heap.size, j, none⟩ = some v :=
  (drew_cell _ _).trans ((new5 w a1 a2 a3 a4 a5 v1 v2 v3 v4 v5 cs t j).trans h)
theorem new5h (w : World) (a1 a2 a3 a4 a5 : Addr) (v1 v2 v3 v4 v5 : Value) (o : Obj) : ((((((w.setCell a1 v1).setCell a2 v2).setCell a3 v3).setCell a4 v4).setCell a5 v5).alloc o).heap[w.heap.size]? = some o := by
  have e : (((((w.setCell a1 v1).setCell a2 v2).setCell a3 v3).setCell a4 v4).setCell a5 v5).heap.size = w.heap.size := by simp [World.setCell]
  have h := heap_alloc_new (((((w.setCell a1 v1).setCell a2 v2).setCell a3 v3).setCell a4 v4).setCell a5 v5) o
  rw [e] at h
  exact h
theorem old5h (w : World) (g : Nat) (j1 j2 j3 j4 j5 : Nat) (v1 v2 v3 v4 v5 : Value) (o : Obj) (b : Nat) (h1 : b < w.heap.size) (h2 : b ≠ g) : ((((((w.setCell ⟨g, j1, none⟩ v1).setCell ⟨g, j2, none⟩ v2).setCell ⟨g, j3, none⟩ v3).setCell ⟨g, j4, none⟩ v4).setCell ⟨g, j5, none⟩ v5).alloc o).heap[b]? = w.heap[b]? := by
  rw [Below.heap_alloc _ _ _ (by simpa [World.setCell] using h1), heap_setCell_other _ _ _ _ h2, heap_setCell_other _ _ _ _ h2, heap_setCell_other _ _ _ _ h2, heap_setCell_other _ _ _ _ h2, heap_setCell_other _ _ _ _ h2]

theorem drew_size (w : World) : w.drew.heap.size = w.heap.size := rfl
theorem ownsRow_set {w : World} {base e s g n c b : Nat} {xs : List Value} {j : Nat} {u : Value} (h : w.ownsRow base e s (.slice (some ⟨g, 0, none⟩) n c) n xs) (hb : b ≠ g) : (w.setCell ⟨b, j, none⟩ u).ownsRow base e s (.slice (some ⟨g, 0, none⟩) n c) n xs := by
  rcases h.2 with ⟨h', _⟩ | ⟨g', cap', cur, h', hbb, hg, hnc, hcm, hcs, htake⟩
  · simp at h'
  · simp only [Value.slice.injEq, Option.some.injEq, Addr.mk.injEq, and_true, true_and] at h'
    obtain ⟨rfl, rfl⟩ := h'
    exact ⟨h.1, .inr ⟨g, c, cur, rfl, hbb, (heap_setCell_other _ _ _ _ (fun e => hb e.symm)).trans hg, hnc, hcm, hcs, htake⟩⟩
theorem ownsRow_other {w : World} {base e s g n c b : Nat} {xs : List Value} {j : Nat} {u : Value} (h : w.ownsRow base e s (.slice (some ⟨g, 0, none⟩) n c) n xs) (hb : b ≠ g) : (w.setCell ⟨b, j, none⟩ u).drew.ownsRow base e s (.slice (some ⟨g, 0, none⟩) n c) n xs := by
  exact World.ownsRow.drew (ownsRow_set h hb)
theorem arr8_congr {f g : Nat → Value} (h : ∀ q, q < 8 → f q = g q) : arr8 f = arr8 g := by
  unfold arr8
  rw [h 0 (by omega), h 1 (by omega), h 2 (by omega), h 3 (by omega), h 4 (by omega), h 5 (by omega), h 6 (by omega), h 7 (by omega)]

set_option maxRecDepth 100000 in
set_option maxHeartbeats 8000000 in
theorem law_small (I : In w zs pz pa po pk pn pc xa xo xk xn gs) (listed minor : Bool) (b0 : zs.length ≤ 1024) (b1 : xa.length ≤ 1024) (b2 : xo.length ≤ 1024) (b3 : xk.length ≤ 1024) (b4 : xn.length ≤ 1024) (b5 : gs.length ≤ 64) :
    Calls Yba.prog 4 #[.slice pz zs.length cz, .bool listed, .slice pa xa.length ca, .slice po xo.length co, .slice pk xk.length ck, .slice pn xn.length cn, .bool minor, .slice pc gs.length cc] w fun e w' => e = .returned (.bool true) ∧ Below w.heap.size w w' := by
  have lg := I.lg
  unfold maxLen at lg
  go_enter Yba.func4, Yba.ntmps4
  go_wp2
  go_loop [18, 90] (fun _ i => ∃ k, k ≤ gs.length ∧ i = .int .i64 k ∧ ∀ g ∈ gs.take k, g.length ≤ 64) (fun _ i => gs.length - (intOf i).toNat)
  case atStart => exact ⟨0, Nat.zero_le _, rfl, by simp⟩
  case round =>
    obtain ⟨k, hk, rfl, hall⟩ := hrel
    by_cases hlt : k < gs.length
    · obtain ⟨g, hg⟩ : ∃ g, gs[k]? = some g := ⟨gs[k], List.getElem?_eq_getElem hlt⟩
      obtain ⟨sls, hr1, hr2, hr3⟩ := I.rc
      obtain ⟨⟨sa, sn, scap⟩, hsl⟩ : ∃ z, sls[k]? = some z := ⟨sls[k]'(by rw [hr2]; exact hlt), List.getElem?_eq_getElem (by rw [hr2]; exact hlt)⟩
      obtain ⟨b, off, hx, hb, hc⟩ := hr1.at hsl
      obtain ⟨hn, _⟩ := hr3 k _ g hsl hg
      dsimp only at hn
      have y0 : w.cell? ⟨b, off + k, none⟩ = some (.slice sa g.length scap) := by have := hc 0 _ rfl; rw [← hn]; simpa using this
      have lg1 := lg g (List.mem_of_getElem? hg)
      have Hg : Hid _ := hg
      have Hall : Hid _ := hall
      have HI : Hid _ := I
      subst hx
      clear hc hr1 hr2 hr3 hsl hg hall hn lg I
      by_cases hbig : 64 < g.length
      · go_wp2
        go_ret
        exact ⟨rfl, Below.refl _ _⟩
      · go_wp2
        go_round
        case rel =>
          refine ⟨k + 1, by omega, by go_num, ?_⟩
          rw [take_snoc Hg.out]
          intro g' hg'
          rcases List.mem_append.1 hg' with h | h
          · exact Hall.out g' h
          · simp at h; subst h; omega
        case measure => simp [intOf]; omega
    · have hk2 : k = gs.length := by omega
      subst hk2
      rw [List.take_of_length_le (Nat.le_refl _)] at hall
      clear lg hk hlt
      as_aux_lemma =>
        obtain ⟨i0, hi0, hz0, hz1, hz2⟩ := info_parts info65
        obtain ⟨v0, hmk, ho0, hg0⟩ := run_make_full (P := Yba.prog) w w.heap.size 56 65 i0 _ 5 Yba.underlying56 hi0 hz0 hz1 .i64 .i64 zs.length (by rw [hz2]; omega) (by unfold maxLen; omega) (Nat.le_refl _)
        have bv0 : Below w.heap.size w v0 := (Below.refl _ _).grown hg0 (Nat.le_refl _) (by simp)
        have zv0 := (ho0.lt w.heap.size rfl).2
        go_wp2
        go_loopw [23, 104] (fun t i wr => ∃ k xs, k ≤ zs.length ∧ i = .int .i64 k ∧ t = .int .i64 (tot ((zs.map Za.ac).take k)) ∧ wr.ownsRow w.heap.size 65 5 (.slice (some ⟨w.heap.size, 0, none⟩) zs.length zs.length) zs.length xs ∧ Filled (zs.map Za.ac) k xs ∧
            CellsAt wr v0.heap.size (arr8 (fun q => .int .i64 (shr ((zs.map Za.ac).take k) q))) 57 ∧ CellsAt wr (v0.heap.size + 1) (arr8 (fun q => .bool (bar ((zs.map Za.ac).take k) q))) 58 ∧ Below w.heap.size w wr ∧ v0.heap.size + 2 ≤ wr.heap.size) (fun _ i _ => zs.length - (intOf i).toNat)
        case atStart =>
          refine ⟨0, _, Nat.zero_le _, rfl, rfl, (ho0.alloc _).alloc _, fun i hi => by omega, ?_, ?_, (bv0.alloc (by omega) _).alloc (by simp; omega) _, by simp⟩
          · exact (Below.heap_alloc (v0.alloc _) _ _ (by simp)).trans (heap_alloc_new v0 _)
          · exact heap2 v0 _ _
        case round =>
          clear hmk ho0 hg0 bv0
          obtain ⟨k, xs, hk, rfl, rfl, hO, hF, hS, hBr, hbel, hsz⟩ := hrel
          have hxl := hO.1
          by_cases hlt : k < zs.length
          · obtain ⟨z, hz⟩ : ∃ z, zs[k]? = some z := ⟨zs[k], List.getElem?_eq_getElem hlt⟩
            obtain ⟨⟨h0, h1⟩, ⟨sh0, sh1⟩, r0, r1⟩ := I.oz z (List.mem_of_getElem? hz)
            obtain ⟨b, off, hx, hb, hc⟩ := (I.rz.below hbel (Nat.le_refl _)).at hz
            have c0 : wr.cell? ⟨b, off + k * 3, none⟩ = some (.int .u8 z.h) := hc 0 _ rfl
            have c1 : wr.cell? ⟨b, off + k * 3 + 1, none⟩ = some (.int .u32 z.sh) := hc 1 _ rfl
            have c2 : wr.cell? ⟨b, off + k * 3 + 2, none⟩ = some (.int .u8 z.ro) := hc 2 _ rfl
            have hac : (zs.map Za.ac)[k]? = some z.ac := by simp [hz]
            subst hx
            go_wp2_with (go_at_call 8; refine (role_any _ _ r0 r1).mono ?_; rintro e w' ⟨rfl, rfl⟩)
            have hk8 : (z.h % 8).toNat < 8 := by omega
            have hks : z.ac.k = (z.h % 8).toNat := rfl
            have x0 := row_some hO (j := k * 5) (by omega)
            have x1 := row_some hO (j := k * 5 + 1) (by omega)
            have x2 := row_some hO (j := k * 5 + 2) (by omega)
            have x3 := row_some hO (j := k * 5 + 3) (by omega)
            have x4 := row_some hO (j := k * 5 + 4) (by omega)
            obtain ⟨q0, x0⟩ := x0
            obtain ⟨q1, x1⟩ := x1
            obtain ⟨q2, x2⟩ := x2
            obtain ⟨q3, x3⟩ := x3
            obtain ⟨q4, x4⟩ := x4
            have f0 := World.ownsRow.frozenAt hO (k * 5)
            have f1 := World.ownsRow.frozenAt hO (k * 5 + 1)
            have f2 := World.ownsRow.frozenAt hO (k * 5 + 2)
            have f3 := World.ownsRow.frozenAt hO (k * 5 + 3)
            have f4 := World.ownsRow.frozenAt hO (k * 5 + 4)
            have hlw : w.heap.size < wr.heap.size := by omega
            have hj0 : (0 : Int) ≤ (k : Int) := Int.natCast_nonneg _
            have hj1 : (k : Int) < (zs.length : Int) := by omega
            have Hz : Hid _ := hz
            have HI : Hid _ := I
            clear hc hz I
            go_cut [] (fun wx => Hid (∃ xs', wx.ownsRow w.heap.size 65 5 (.slice (some ⟨w.heap.size, 0, none⟩) zs.length zs.length) zs.length xs' ∧ Filled (zs.map Za.ac) (k + 1) xs' ∧ CellsAt wx wr.heap.size #[.int .u8 z.h, .int .u32 z.sh, .int .u8 z.ro] 60 ∧
              CellsAt wx v0.heap.size (arr8 (fun q => .int .i64 (shr ((zs.map Za.ac).take k) q))) 57 ∧ CellsAt wx (v0.heap.size + 1) (arr8 (fun q => .bool (bar ((zs.map Za.ac).take k) q))) 58 ∧ Below w.heap.size w wx ∧ wr.heap.size + 1 ≤ wx.heap.size))
            case first =>
              go_region_held3 (fun w' => w'.cell? ⟨wr.heap.size, 1, none⟩ = some (.int .u32 z.sh))
                (first | ((with_reducible refine new5d wr _ _ _ _ _ _ _ _ _ _ _ _ 1 _ ?_); rfl) | (go_keep; done))
                ((go_at_call 9; refine (name_int _ _ (by omega) (by omega)).mono ?_; rintro e w' ⟨rfl, rfl⟩))
              go_wp2
              go_meet
              case rel =>
                have ew : IntKind.i64.wrap z.sh = z.ac.sh := Go.IntWalk.i64_in z.sh ⟨by omega, by omega⟩
                have hl : (k + 1) * 5 ≤ xs.length := by omega
                rw [ew]
                have F' := filled_step hF hac hl
                have O' := ((((((hO.stored (k * 5) (.string (nm z.ac.k))).1.stored (k * 5 + 1) (.string (nm z.ac.k))).1.stored (k * 5 + 2) (.int .i64 z.ac.sh)).1.stored (k * 5 + 3) (.string (rs z.ac.r))).1.stored (k * 5 + 4) (.int .i64 0)).1.alloc (.cells #[.int .u8 z.h, .int .u32 z.sh, .int .u8 z.ro] 60)).drew
                refine ⟨_, O', F', ?_, ?_, ?_, ?_, ?_⟩
                · refine (drew_heap _ _).trans ?_
                  exact new5h wr _ _ _ _ _ _ _ _ _ _ _
                · exact hS.of ((drew_heap _ _).trans <| old5h wr _ _ _ _ _ _ _ _ _ _ _ _ _ (by omega) (by omega))
                · exact hBr.of ((drew_heap _ _).trans <| old5h wr _ _ _ _ _ _ _ _ _ _ _ _ _ (by omega) (by omega))
                · exact ((((((hbel.setCell (Nat.le_refl _) _).setCell (Nat.le_refl _) _).setCell (Nat.le_refl _) _).setCell (Nat.le_refl _) _).setCell (Nat.le_refl _) _).alloc (by simp [World.setCell]; omega) _).drew
                · simp [World.setCell]
            case rest =>
              clear hO hF hS hBr hbel x0 x1 x2 x3 x4 f0 f1 f2 f3 f4 c0 c1 c2
              obtain ⟨xs', O', F', A', S', B', bel', z'⟩ := hcut.out
              clear hcut
              have a0 := A'.cell 0
              have a1 := A'.cell 1
              have okz : ∀ a ∈ (zs.map Za.ac).take k, a.ok := fun a ha => by
                obtain ⟨y, hy, rfl⟩ := List.mem_map.1 (List.mem_of_mem_take ha)
                exact za_ok (HI.out.oz y hy)
              have sb := shr_bd _ (z.h % 8).toNat okz
              have tb := tot_bd _ okz
              have ltk : ((zs.map Za.ac).take k).length ≤ 1024 := by simp; omega
              have s0 : wc.cell? ⟨v0.heap.size, (z.h % 8).toNat, none⟩ = some (.int .i64 (shr ((zs.map Za.ac).take k) (z.h % 8).toNat)) := (S'.cell _).trans (arr8_at _ hk8)
              have s1 := S'.frozen (z.h % 8).toNat
              have i0 : 0 ≤ z.h % 8 := by omega
              have ne1 : wr.heap.size ≠ v0.heap.size := by omega
              have i1 : z.h % 8 < 8 := by omega
              have hzk := Hz.out
              have tk : (zs.map Za.ac).take (k + 1) = (zs.map Za.ac).take k ++ [z.ac] := take_snoc hac
              have R20 : Hid ((wc.setCell ⟨v0.heap.size, (z.h % 8).toNat, none⟩ (.int .i64 (IntKind.i64.wrap (shr ((zs.map Za.ac).take k) (z.h % 8).toNat + IntKind.i64.wrap z.sh)))).drew.ownsRow w.heap.size 65 5 (.slice (some ⟨w.heap.size, 0, none⟩) zs.length zs.length) zs.length xs' ∧
                  CellsAt (wc.setCell ⟨v0.heap.size, (z.h % 8).toNat, none⟩ (.int .i64 (IntKind.i64.wrap (shr ((zs.map Za.ac).take k) (z.h % 8).toNat + IntKind.i64.wrap z.sh)))).drew wr.heap.size #[.int .u8 z.h, .int .u32 z.sh, .int .u8 z.ro] 60 ∧
                  CellsAt (wc.setCell ⟨v0.heap.size, (z.h % 8).toNat, none⟩ (.int .i64 (IntKind.i64.wrap (shr ((zs.map Za.ac).take k) (z.h % 8).toNat + IntKind.i64.wrap z.sh)))).drew v0.heap.size (arr8 (fun q => .int .i64 (shr ((zs.map Za.ac).take (k + 1)) q))) 57 ∧
                  CellsAt (wc.setCell ⟨v0.heap.size, (z.h % 8).toNat, none⟩ (.int .i64 (IntKind.i64.wrap (shr ((zs.map Za.ac).take k) (z.h % 8).toNat + IntKind.i64.wrap z.sh)))).drew (v0.heap.size + 1) (arr8 (fun q => .bool (bar ((zs.map Za.ac).take k) q))) 58 ∧
                  Below w.heap.size w (wc.setCell ⟨v0.heap.size, (z.h % 8).toNat, none⟩ (.int .i64 (IntKind.i64.wrap (shr ((zs.map Za.ac).take k) (z.h % 8).toNat + IntKind.i64.wrap z.sh)))).drew ∧
                  wr.heap.size + 1 ≤ (wc.setCell ⟨v0.heap.size, (z.h % 8).toNat, none⟩ (.int .i64 (IntKind.i64.wrap (shr ((zs.map Za.ac).take k) (z.h % 8).toNat + IntKind.i64.wrap z.sh)))).drew.heap.size) := by
                rw [Go.IntWalk.i64_in z.sh ⟨by omega, by omega⟩, Go.IntWalk.i64_in (shr ((zs.map Za.ac).take k) (z.h % 8).toNat + z.sh) ⟨by omega, by omega⟩]
                refine ⟨ownsRow_other O' (by omega), ?_, ?_, ?_, (bel'.setCell (p := ⟨v0.heap.size, (z.h % 8).toNat, none⟩) (by show w.heap.size ≤ v0.heap.size; omega) _).drew, by rw [drew_size]; simpa [World.setCell] using z'⟩
                · exact A'.of ((drew_heap _ _).trans (heap_setCell_other _ _ _ _ ne1))
                · have S2 := S'.set (z.h % 8).toNat (.int .i64 (shr ((zs.map Za.ac).take k) (z.h % 8).toNat + z.sh))
                  rw [arr8_set _ _ _ hk8] at S2
                  refine (drew_heap _ _).trans (Eq.trans S2 ?_)
                  congr 2
                  refine arr8_congr fun q _ => ?_
                  rw [tk, shr_snoc]
                  by_cases e : q = (z.h % 8).toNat
                  · subst e; simp [hks]; rfl
                  · rw [if_neg e, if_neg (by rw [hks]; exact fun h => e h.symm)]
                · exact B'.of ((drew_heap _ _).trans (heap_setCell_other _ _ _ _ (by show v0.heap.size + 1 ≠ v0.heap.size; omega)))
              clear okz
              go_upto_region 20 with fail
              go_cut [] (fun wx => Hid (wx.ownsRow w.heap.size 65 5 (.slice (some ⟨w.heap.size, 0, none⟩) zs.length zs.length) zs.length xs' ∧ CellsAt wx wr.heap.size #[.int .u8 z.h, .int .u32 z.sh, .int .u8 z.ro] 60 ∧
                CellsAt wx v0.heap.size (arr8 (fun q => .int .i64 (shr ((zs.map Za.ac).take (k + 1)) q))) 57 ∧ CellsAt wx (v0.heap.size + 1) (arr8 (fun q => .bool (bar ((zs.map Za.ac).take k) q))) 58 ∧ Below w.heap.size w wx ∧ wr.heap.size + 1 ≤ wx.heap.size))
              case first =>
                go_region_with (fail)
                all_goals go_wp2
                all_goals go_meet
                all_goals exact R20
              case rest =>
                clear O' S' A' B' bel' z' R20 a0 a1 s0 s1
                obtain ⟨O2, A2, S2, B2, bel2, z2⟩ := hcut.out
                have a1 := A2.cell 1
                have hr3 : (z.ro % 3).toNat < 3 := by omega
                have rn := role_neL _ hr3
                have b0' : wc.cell? ⟨v0.heap.size + 1, (z.h % 8).toNat, none⟩ = some (.bool (bar ((zs.map Za.ac).take k) (z.h % 8).toNat)) := (B2.cell _).trans (arr8_at _ hk8)
                have b1' := B2.frozen (z.h % 8).toNat
                by_cases hr : (z.ro % 3).toNat = 0
                · rw [hr] at rn ⊢
                  go_wp2
                  go_roundw
                  case rel =>
                    refine ⟨k + 1, xs', by omega, by go_num, ?_, O2, F', S2, ?_, bel2, by omega⟩
                    · rw [tk, tot_snoc]; rfl
                    · refine Eq.trans B2 ?_
                      congr 2
                      refine arr8_congr fun q _ => ?_
                      rw [tk, bar_snoc]
                      have : z.ac.r = 0 := hr
                      simp [this]
                  case measure => simp [intOf]; omega
                · rw [decide_eq_false hr] at rn
                  go_wp2
                  go_roundw
                  case rel =>
                    refine ⟨k + 1, xs', by omega, by go_num, ?_, ownsRow_set O2 (by omega), F', S2.of (heap_setCell_other _ _ _ _ (by show v0.heap.size ≠ v0.heap.size + 1; omega)), ?_, bel2.setCell (p := ⟨v0.heap.size + 1, (z.h % 8).toNat, none⟩) (by show w.heap.size ≤ v0.heap.size + 1; omega) _, by simp [World.setCell]; omega⟩
                    · rw [tk, tot_snoc]; rfl
                    · have B3 := B2.set (z.h % 8).toNat (.bool true)
                      rw [arr8_set _ _ _ hk8] at B3
                      refine Eq.trans B3 ?_
                      congr 2
                      refine arr8_congr fun q _ => ?_
                      rw [tk, bar_snoc]
                      have hr' : z.ac.r ≠ 0 := hr
                      by_cases e : q = (z.h % 8).toNat
                      · subst e; simp [hr', hks]
                      · rw [if_neg e]; have e' : z.ac.k ≠ q := fun h => e (h.symm.trans hks); simp [e']
                  case measure => simp [intOf]; omega
          · have hk2 : k = zs.length := by omega
            subst hk2
            rw [List.take_of_length_le (by simp)] at hS hBr ⊢
            clear hk hlt
            go_upto_region 25 with fail
            exact tail25 I b0 b1 b2 b3 b4 b5 hall hO hF hS hBr hbel zv0 hsz (by assumption)
end
end Go.Proofs.Ybulklvy
