/-
  'LawS0621BExact' (function 4): the walk.
-/
import Derived.Test.YbulklvkHears
namespace Go.Proofs.Ybulklvk
open Go.ChangeShapes Go.WideShapes Go.ChangeAt Go.RowKit Go.Instr
set_option linter.unusedVariables false
attribute [local go_sem] run_store_float

structure Zl where
  a : Int
  b : Int
  c : Int
  d : Int
  e : Int

/-- The slice of raw links that came in. -/
def IsLinks (w : World) (a : Option Addr) (zs : List Zl) : Prop :=
  ∀ k z, zs[k]? = some z → ∃ b off, a = some ⟨b, off, none⟩ ∧ b < w.heap.size ∧ w.cell? ⟨b, off + k * 5, none⟩ = some (.int .u8 z.a) ∧ w.cell? ⟨b, off + k * 5 + 1, none⟩ = some (.int .u8 z.b) ∧
    w.cell? ⟨b, off + k * 5 + 2, none⟩ = some (.int .i64 z.c) ∧ w.cell? ⟨b, off + k * 5 + 3, none⟩ = some (.int .i64 z.d) ∧ w.cell? ⟨b, off + k * 5 + 4, none⟩ = some (.int .u8 z.e) ∧
    (0 ≤ z.a ∧ z.a ≤ 255) ∧ (0 ≤ z.b ∧ z.b ≤ 255) ∧ (0 ≤ z.e ∧ z.e ≤ 255)

def lossOf (e : Int) : Nat := if e % 3 = 1 then 4607182418800017408 else if e % 3 = 2 then 13826050856027422720 else 0
def Zl.lk (z : Zl) : Lk := ⟨z.a % 4, z.b % 4, z.c, z.d, lossOf z.e⟩
def le0 (x : Nat) : Bool := FloatKind.f64.format.order x 0 == some .lt || FloatKind.f64.format.order x 0 == some .eq
def wantB (ls : List Lk) (me src d : Int) : Bool := ls.any fun l => l.to == me && l.fr == src && decide (l.st ≤ d) && decide (d ≤ l.en) && le0 l.ls

theorem ret_b {a b : Bool} (h : a = b) : Ending.returned (.bool a) = .returned (.bool b) := by rw [h]
theorem heap3_new (w : World) (o0 o1 o2 : Obj) : (((w.alloc o0).alloc o1).alloc o2).heap[w.heap.size + 1 + 1]? = some o2 := by
  have e : (((w.alloc o0).alloc o1).alloc o2).heap = ((w.heap.push o0).push o1).push o2 := rfl
  rw [e]
  simp only [Array.getElem?_push, Array.size_push]
  simp
theorem heap3_mid (w : World) (o0 o1 o2 : Obj) : (((w.alloc o0).alloc o1).alloc o2).heap[w.heap.size + 1]? = some o1 := by
  have e : (((w.alloc o0).alloc o1).alloc o2).heap = ((w.heap.push o0).push o1).push o2 := rfl
  rw [e]
  simp only [Array.getElem?_push, Array.size_push]
  simp
theorem agg_cell {w : World} {b t : Nat} {cs : Array Value} (h : w.heap[b]? = some (.cells cs t (0, 0))) (j : Nat) : w.cell? ⟨b, j, none⟩ = cs[j]? := by simp [World.cell?, h]

theorem newHearing_n (ls : List Lk) (n : Nat) (hL : ls.length = n) (g0 cap b0 : Nat) (id seed : Int) (w : World) (hown : w.ownsRow b0 74 5 (.slice (some ⟨g0, 0, none⟩) n cap) n (flat ls)) (hn : n ≤ 1024) :
    Calls Yba.prog 17 #[.slice (some ⟨g0, 0, none⟩) n cap, .int .u64 id, .int .u64 seed] w fun e w' => e = .returned (.pointer (some ⟨w.heap.size + 3, 0, none⟩)) ∧
      Below w.heap.size w w' ∧ HearAt w' (w.heap.size + 3) w.heap.size (w.heap.size + 2) (w.heap.size + 1) ∧ Groups w' w.heap.size (w.heap.size + 4) (grp ls id) ∧ w.heap.size + 4 ≤ w'.heap.size := by
  subst hL
  exact newHearing_any ls g0 cap b0 id seed w hown hn

/-! ### The plain law -/
theorem loss1 {e : Int} (h : e % 3 = 1) : lossOf e = 4607182418800017408 := by simp [lossOf, h]
theorem loss2 {e : Int} (h : e % 3 = 2) : lossOf e = 13826050856027422720 := by simp [lossOf, h]
theorem loss0 {e : Int} (h : e % 3 = 0) : lossOf e = 0 := by simp [lossOf, h]
theorem le0_1 : le0 4607182418800017408 = false := by kernel_rfl
theorem le0_2 : le0 13826050856027422720 = true := by kernel_rfl
theorem le0_0 : le0 0 = true := by kernel_rfl
theorem loss_cases (e : Int) : (gt0 (lossOf e) = true ∧ ge1 (lossOf e) = true ∧ le0 (lossOf e) = false) ∨ (gt0 (lossOf e) = false ∧ le0 (lossOf e) = true) := by
  rcases (by omega : e % 3 = 1 ∨ e % 3 = 2 ∨ e % 3 = 0) with h | h | h
  · rw [loss1 h]; exact .inl ⟨by kernel_rfl, by kernel_rfl, by kernel_rfl⟩
  · rw [loss2 h]; exact .inr ⟨by kernel_rfl, by kernel_rfl⟩
  · rw [loss0 h]; exact .inr ⟨by kernel_rfl, by kernel_rfl⟩

theorem want_iff (ls : List Lk) (me src d : Int) : wantB ls me src d = true ↔ ∃ l ∈ ls, l.to = me ∧ l.fr = src ∧ l.st ≤ d ∧ d ≤ l.en ∧ le0 l.ls = true := by
  simp [wantB, and_assoc]

theorem exact_law (zs : List Zl) (me src d : Int) (v : Bool) (h1 : must (grp (zs.map Zl.lk) me src) d → v = true) (h2 : v = true → may (grp (zs.map Zl.lk) me src) d) : (v == wantB (zs.map Zl.lk) me src d) = true := by
  rw [beq_iff_eq, Bool.eq_iff_iff, want_iff]
  constructor
  · intro hv
    obtain ⟨l, hm, a, b, c⟩ := h2 hv
    simp only [grp, List.mem_filter, Bool.and_eq_true, beq_iff_eq] at hm
    obtain ⟨hm, ht, hf⟩ := hm
    obtain ⟨z, _, rfl⟩ := List.mem_map.1 hm
    refine ⟨_, hm, ht, hf, a, b, ?_⟩
    rcases loss_cases z.e with ⟨q1, q2, _⟩ | ⟨_, q⟩
    · exact absurd ⟨q1, q2⟩ c
    · exact q
  · rintro ⟨l, hm, ht, hf, a, b, c⟩
    refine h1 ⟨l, by simp [grp, hm, ht, hf], a, b, ?_⟩
    obtain ⟨z, _, rfl⟩ := List.mem_map.1 hm
    rcases loss_cases z.e with ⟨_, _, q⟩ | ⟨q, _⟩
    · exact absurd c (by show ¬ le0 (lossOf z.e) = true; rw [q]; simp)
    · exact q

theorem take_step (zs : List Zl) (k : Nat) (z : Zl) (h : zs[k]? = some z) : (zs.map Zl.lk).take (k + 1) = (zs.map Zl.lk).take k ++ [z.lk] := by
  obtain ⟨hk, rfl⟩ := List.getElem?_eq_some_iff.1 h
  rw [List.take_succ_eq_append_getElem (by simpa using hk)]
  simp

theorem want_miss {zs : List Zl} {k : Nat} {z : Zl} {me src d : Int} (h : zs[k]? = some z) (hn : ¬ (z.b % 4 = me ∧ z.a % 4 = src ∧ z.c ≤ d ∧ d ≤ z.d ∧ le0 (lossOf z.e) = true)) :
    Value.bool (wantB ((zs.map Zl.lk).take k) me src d) = Value.bool (wantB ((zs.map Zl.lk).take (k + 1)) me src d) := by
  congr 1
  rw [take_step zs k z h, Bool.eq_iff_iff, want_iff, want_iff]
  constructor
  · rintro ⟨l, hm, r⟩; exact ⟨l, by simp [hm], r⟩
  · rintro ⟨l, hm, r⟩
    rcases List.mem_append.1 hm with hm | hm
    · exact ⟨l, hm, r⟩
    · simp at hm; subst hm; exact absurd r hn
theorem want_hit {zs : List Zl} {k : Nat} {z : Zl} {me src d : Int} (h : zs[k]? = some z) (hn : z.b % 4 = me ∧ z.a % 4 = src ∧ z.c ≤ d ∧ d ≤ z.d ∧ le0 (lossOf z.e) = true) :
    Value.bool true = Value.bool (wantB ((zs.map Zl.lk).take (k + 1)) me src d) := by
  congr 1
  symm
  rw [take_step zs k z h, want_iff]
  exact ⟨z.lk, by simp, hn⟩

theorem own_step {w : World} {base : Nat} {v : Value} {zs : List Zl} {k : Nat} {z : Zl} (h : zs[k]? = some z) {x : Nat} (hx : lossOf z.e = x)
    (ho : w.ownsRow base 74 5 v (k + 1) (flat ((zs.map Zl.lk).take k) ++ [.int .u64 (z.a % 4), .int .u64 (z.b % 4), .int .i64 z.c, .int .i64 z.d, .float .f64 x])) :
    w.ownsRow base 74 5 v (k + 1) (flat ((zs.map Zl.lk).take (k + 1))) := by
  rw [take_step zs k z h, flat_snoc]
  subst hx
  exact ho

set_option maxRecDepth 100000 in
set_option maxHeartbeats 4000000 in
theorem exact_walk (a : Option Addr) (cap : Nat) (zs : List Zl) (id from_ d seed : Int) (w : World) (hz : IsLinks w a zs) (hid : 0 ≤ id ∧ id ≤ 255) (hfr : 0 ≤ from_ ∧ from_ ≤ 255) (hlen : zs.length ≤ maxLen) :
    Calls Yba.prog 4 #[.slice a zs.length cap, .int .u8 id, .int .u8 from_, .int .i64 d, .int .u64 seed] w fun e w' => e = .returned (.bool true) ∧ Below w.heap.size w w' := by
  unfold maxLen at hlen
  obtain ⟨hid0, hid1⟩ := hid
  obtain ⟨hfr0, hfr1⟩ := hfr
  by_cases hbig : 1024 < zs.length
  · go_enter Yba.func4, Yba.ntmps4
    go_wp2
    go_ret
    exact ⟨rfl, Below.refl _ _⟩
  · obtain ⟨i0, hi0, hz0, hz1, hz2⟩ := info_parts info74
    obtain ⟨wm, hmk, hom, hgm⟩ := run_makeSlice_owned (P := Yba.prog) w w.heap.size 69 74 i0 _ 5 Yba.underlying69 hi0 hz0 hz1 .i64 .i64 zs.length (by omega) (by rw [hz2]; omega) (by unfold maxLen; omega) (Nat.le_refl _)
    go_enter Yba.func4, Yba.ntmps4
    go_wp2
    go_loopw [14, 15, 16] (fun l wn i wr => ∃ k g c : Nat, k ≤ zs.length ∧ i = .int .i64 k ∧ wn = .bool (wantB ((zs.map Zl.lk).take k) (id % 4) (from_ % 4) d) ∧ l = .slice (some ⟨g, 0, none⟩) k c ∧
        wr.ownsRow w.heap.size 74 5 (.slice (some ⟨g, 0, none⟩) k c) k (flat ((zs.map Zl.lk).take k)) ∧ Below w.heap.size w wr) (fun _ _ i _ => zs.length - (intOf i).toNat)
    case atStart => exact ⟨0, w.heap.size, zs.length, Nat.zero_le _, rfl, by simp [wantB], rfl, by simpa [flat] using hom, (Below.refl _ _).grown hgm (Nat.le_refl _) (by simp)⟩
    case round =>
      clear hmk hom hgm
      obtain ⟨k, g, c, hk, rfl, rfl, rfl, hown, hbel⟩ := hrel
      by_cases hlt : k < zs.length
      · obtain ⟨z, hzk⟩ : ∃ z, zs[k]? = some z := ⟨zs[k], List.getElem?_eq_getElem hlt⟩
        obtain ⟨b, off, rfl, hb, c0, c1, c2, c3, c4, ⟨ba0, ba1⟩, ⟨bb0, bb1⟩, be0, be1⟩ := hz k z hzk
        rw [← hbel.cell hb] at c0 c1 c2 c3 c4
        have Hz : Hid _ := hz
        have Hzk : Hid _ := hzk
        have hsz := hbel.size
        have am := row_ne hown wr.heap.size (by omega)
        have am1 := row_ne hown (wr.heap.size + 1) (by omega)
        clear hz hzk
        have hnew3 := heap3_new wr
        have hmid3 := heap3_mid wr
        rcases (by omega : z.e % 3 = 1 ∨ z.e % 3 = 2 ∨ z.e % 3 = 0) with h3 | h3 | h3
        · have h31 : (z.e % 3 == 1) = true := by simp [h3]
          have H3 : Hid (z.e % 3 = 1) := h3
          clear h3
          have hq : (FloatKind.f64.format.order 4607182418800017408 0 == some .lt || FloatKind.f64.format.order 4607182418800017408 0 == some .eq) = false := by kernel_rfl
          go_wp2_with
            (at_builtin
             refine wpList_append_lies _ rfl _ _ _ rfl w.heap.size 74 i0 _ 5 40 Yba.underlying69 hi0 hz0 hz1 hz2 rfl (by omega) _ k (flat ((zs.map Zl.lk).take k)) rfl (((hown.alloc _).alloc _).alloc _)
               ⟨wr.heap.size + 1 + 1, 0, none⟩ 1 1 [.int .u64 (z.a % 4), .int .u64 (z.b % 4), .int .i64 z.c, .int .i64 z.d, .float .f64 4607182418800017408] rfl rfl (World.news_of_block (t := 74) (fr := (0, 0)) (hnew3 _ _ _)) (by simp [Value.oneCell'])
               (by omega) (by unfold maxLen; omega) (by omega) (by simp; omega) (wr.heap.size + 1 + 1 + 1) (by simp) ?_
             intro gg cap1 w1 hown1 hgrow hat hlt1
             have hL := (hgrow.block (wr.heap.size + 1) (by simp) (Ne.symm am1)).trans (hmid3 _ _ _)
             have d0 := agg_cell hL 0
             have d1 := agg_cell hL 1
             have d2 := agg_cell hL 2
             have d3 := agg_cell hL 3
             clear hL
             simp only [List.getElem?_toArray, List.getElem?_cons_zero, List.getElem?_cons_succ] at d0 d1 d2 d3)
          all_goals
            go_roundw
            case rel =>
              have hl := loss1 H3.out
              refine ⟨k + 1, gg, cap1, by omega, by go_num, ?_, rfl, own_step Hzk.out hl hown1, ((((hbel.alloc hbel.size _).alloc (by simp; omega) _).alloc (by simp; omega) _).grown hgrow (by simp; omega) (fun j hj => (hown.lt j hj).1))⟩
              first
                | exact want_hit Hzk.out ⟨by assumption, by assumption, by assumption, by assumption, by rw [hl]; exact le0_1⟩
                | exact want_miss Hzk.out (fun ⟨r1, r2, r3, r4, r5⟩ => by first | omega | (rw [hl, le0_1] at r5; cases r5))
            case measure => simp [intOf]; omega
        · have h31 : (z.e % 3 == 1) = false := by simp [h3]
          have h32 : (z.e % 3 == 2) = true := by simp [h3]
          have H3 : Hid (z.e % 3 = 2) := h3
          clear h3
          have hq : (FloatKind.f64.format.order 13826050856027422720 0 == some .lt || FloatKind.f64.format.order 13826050856027422720 0 == some .eq) = true := by kernel_rfl
          go_wp2_with
            (at_builtin
             refine wpList_append_lies _ rfl _ _ _ rfl w.heap.size 74 i0 _ 5 40 Yba.underlying69 hi0 hz0 hz1 hz2 rfl (by omega) _ k (flat ((zs.map Zl.lk).take k)) rfl (((hown.alloc _).alloc _).alloc _)
               ⟨wr.heap.size + 1 + 1, 0, none⟩ 1 1 [.int .u64 (z.a % 4), .int .u64 (z.b % 4), .int .i64 z.c, .int .i64 z.d, .float .f64 13826050856027422720] rfl rfl (World.news_of_block (t := 74) (fr := (0, 0)) (hnew3 _ _ _)) (by simp [Value.oneCell'])
               (by omega) (by unfold maxLen; omega) (by omega) (by simp; omega) (wr.heap.size + 1 + 1 + 1) (by simp) ?_
             intro gg cap1 w1 hown1 hgrow hat hlt1
             have hL := (hgrow.block (wr.heap.size + 1) (by simp) (Ne.symm am1)).trans (hmid3 _ _ _)
             have d0 := agg_cell hL 0
             have d1 := agg_cell hL 1
             have d2 := agg_cell hL 2
             have d3 := agg_cell hL 3
             clear hL
             simp only [List.getElem?_toArray, List.getElem?_cons_zero, List.getElem?_cons_succ] at d0 d1 d2 d3)
          all_goals
            go_roundw
            case rel =>
              have hl := loss2 H3.out
              refine ⟨k + 1, gg, cap1, by omega, by go_num, ?_, rfl, own_step Hzk.out hl hown1, ((((hbel.alloc hbel.size _).alloc (by simp; omega) _).alloc (by simp; omega) _).grown hgrow (by simp; omega) (fun j hj => (hown.lt j hj).1))⟩
              first
                | exact want_hit Hzk.out ⟨by assumption, by assumption, by assumption, by assumption, by rw [hl]; exact le0_2⟩
                | exact want_miss Hzk.out (fun ⟨r1, r2, r3, r4, r5⟩ => by first | omega | (rw [hl, le0_2] at r5; cases r5))
            case measure => simp [intOf]; omega
        · have h31 : (z.e % 3 == 1) = false := by simp [h3]
          have h32 : (z.e % 3 == 2) = false := by simp [h3]
          have H3 : Hid (z.e % 3 = 0) := h3
          clear h3
          have hq : (FloatKind.f64.format.order 0 0 == some .lt || FloatKind.f64.format.order 0 0 == some .eq) = true := by kernel_rfl
          go_wp2_with
            (at_builtin
             refine wpList_append_lies _ rfl _ _ _ rfl w.heap.size 74 i0 _ 5 40 Yba.underlying69 hi0 hz0 hz1 hz2 rfl (by omega) _ k (flat ((zs.map Zl.lk).take k)) rfl (((hown.alloc _).alloc _).alloc _)
               ⟨wr.heap.size + 1 + 1, 0, none⟩ 1 1 [.int .u64 (z.a % 4), .int .u64 (z.b % 4), .int .i64 z.c, .int .i64 z.d, .float .f64 0] rfl rfl (World.news_of_block (t := 74) (fr := (0, 0)) (hnew3 _ _ _)) (by simp [Value.oneCell'])
               (by omega) (by unfold maxLen; omega) (by omega) (by simp; omega) (wr.heap.size + 1 + 1 + 1) (by simp) ?_
             intro gg cap1 w1 hown1 hgrow hat hlt1
             have hL := (hgrow.block (wr.heap.size + 1) (by simp) (Ne.symm am1)).trans (hmid3 _ _ _)
             have d0 := agg_cell hL 0
             have d1 := agg_cell hL 1
             have d2 := agg_cell hL 2
             have d3 := agg_cell hL 3
             clear hL
             simp only [List.getElem?_toArray, List.getElem?_cons_zero, List.getElem?_cons_succ] at d0 d1 d2 d3)
          all_goals
            go_roundw
            case rel =>
              have hl := loss0 H3.out
              refine ⟨k + 1, gg, cap1, by omega, by go_num, ?_, rfl, own_step Hzk.out hl hown1, ((((hbel.alloc hbel.size _).alloc (by simp; omega) _).alloc (by simp; omega) _).grown hgrow (by simp; omega) (fun j hj => (hown.lt j hj).1))⟩
              first
                | exact want_hit Hzk.out ⟨by assumption, by assumption, by assumption, by assumption, by rw [hl]; exact le0_0⟩
                | exact want_miss Hzk.out (fun ⟨r1, r2, r3, r4, r5⟩ => by first | omega | (rw [hl, le0_0] at r5; cases r5))
            case measure => simp [intOf]; omega
      · have hk2 : k = zs.length := by omega
        subst hk2
        have hL : (zs.map Zl.lk).length = zs.length := by simp
        have hown2 : wr.ownsRow w.heap.size 74 5 (.slice (some ⟨g, 0, none⟩) zs.length c) zs.length (flat (zs.map Zl.lk)) := by
          rw [List.take_of_length_le (by simp)] at hown; exact hown
        have hsz := hbel.size
        have hgl : (grp (zs.map Zl.lk) (id % 4) (from_ % 4)).length ≤ 1024 := by
          have h1 := List.length_filter_le (fun l : Lk => l.to == id % 4 && l.fr == from_ % 4) (zs.map Zl.lk)
          rw [hL] at h1
          unfold grp
          omega
        have hw : wantB ((zs.map Zl.lk).take zs.length) (id % 4) (from_ % 4) d = wantB (zs.map Zl.lk) (id % 4) (from_ % 4) d := by rw [List.take_of_length_le (by simp)]
        rw [hw]
        clear hw hown hz
        go_wp2_with (first
          | (go_at_call 17; refine (newHearing_n (zs.map Zl.lk) zs.length hL g c w.heap.size (id % 4) seed _ hown2 (by omega)).mono ?_; rintro e w1 ⟨rfl, hb1, hh1, hG1, hs1⟩)
          | (go_at_call 18; refine (hears_groups _ _ wr.heap.size _ _ _ w.heap.size _ _ _ hh1 hG1 (by omega) (by omega) (by omega) hgl (by omega) (by omega)).mono ?_; rintro e w2 ⟨v, rfl, hm1, hm2, hb2⟩))
        go_ret
        exact ⟨ret_b (exact_law zs _ _ d v hm1 hm2), (hbel.trans (hb1.mono hsz)).trans hb2⟩
end Go.Proofs.Ybulklvk
