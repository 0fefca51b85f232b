/-
  'LawS0621BBounds' (function 5): the walk.
-/
import Derived.Test.YbulklvkHears
namespace Go.Proofs.Ybulklvk
open Go.ChangeShapes Go.WideShapes Go.ChangeAt Go.RowKit Go.Instr
set_option linter.unusedVariables false
attribute [local go_sem] run_store_float

structure Zr where
  a : Int
  b : Int
  c : Int
  d : Int
  e : Nat

/-- The slice of raw links that came in. -/
def IsRaw (w : World) (a : Option Addr) (zs : List Zr) : Prop :=
  ∀ k z, zs[k]? = some z → ∃ b off, a = some ⟨b, off, none⟩ ∧ b < w.heap.size ∧ w.cell? ⟨b, off + k * 5, none⟩ = some (.int .u8 z.a) ∧ w.cell? ⟨b, off + k * 5 + 1, none⟩ = some (.int .u8 z.b) ∧
    w.cell? ⟨b, off + k * 5 + 2, none⟩ = some (.int .i64 z.c) ∧ w.cell? ⟨b, off + k * 5 + 3, none⟩ = some (.int .i64 z.d) ∧ w.cell? ⟨b, off + k * 5 + 4, none⟩ = some (.float .f64 z.e) ∧
    (0 ≤ z.a ∧ z.a ≤ 255) ∧ (0 ≤ z.b ∧ z.b ≤ 255)

def Zr.lk (z : Zr) : Lk := ⟨z.a % 4, z.b % 4, z.c, z.d, z.e⟩
/-- Some link from src into me is up at d whose loss is not > 0 (not >= 1). -/
def mustB (ls : List Lk) (me src d : Int) : Bool := ls.any fun l => l.to == me && l.fr == src && decide (l.st ≤ d) && decide (d ≤ l.en) && !gt0 l.ls
def mayB (ls : List Lk) (me src d : Int) : Bool := ls.any fun l => l.to == me && l.fr == src && decide (l.st ≤ d) && decide (d ≤ l.en) && !ge1 l.ls

/-! ### The plain law -/
open Ieee in
theorem read1 : FloatKind.f64.format.read 4607182418800017408 = .number false 4503599627370496 (-52) := by kernel_rfl
open Ieee in
theorem read0 : FloatKind.f64.format.read 0 = .number false 0 (-1074) := by kernel_rfl

open Ieee in
/-- What is at least 1 is greater than 0. -/
theorem gt0_of_ge1 (x : Nat) (h : ge1 x = true) : gt0 x = true := by
  unfold ge1 Format.order at h
  unfold gt0 Format.order
  rw [read1] at h
  rw [read0]
  generalize FloatKind.f64.format.read x = D at h ⊢
  cases D with
  | nan s f => simp [Datum.order] at h
  | infinity s => cases s <;> simp [Datum.order] at h ⊢
  | number s m e =>
    simp only [Datum.order] at h ⊢
    have pos : ∀ k : Nat, (0 : Int) < signed false 4503599627370496 k := by
      intro k
      simp only [signed, Bool.false_eq_true, if_false, Nat.shiftLeft_eq]
      have : 0 < 4503599627370496 * 2 ^ k := Nat.mul_pos (by decide) (Nat.two_pow_pos k)
      omega
    have hp := pos ((-52) - min e (-52)).toNat
    have hge : signed false 4503599627370496 ((-52) - min e (-52)).toNat ≤ signed s m (e - min e (-52)).toNat := by
      simp only [Bool.or_eq_true, beq_iff_eq, Option.some.injEq] at h
      rcases h with h | h
      · have := Int.compare_eq_gt.1 h
        omega
      · have := Int.compare_eq_eq.1 h
        omega
    have hs : 0 < signed s m (e - min e (-52)).toNat := by omega
    have hm : s = false ∧ 0 < m := by
      cases s
      · refine ⟨rfl, ?_⟩
        cases m with
        | zero => simp [signed] at hs
        | succ m => omega
      · exfalso
        have h0 : signed true m (e - min e (-52)).toNat ≤ 0 := by
          unfold signed
          rw [if_pos rfl]
          exact Int.neg_nonpos_of_nonneg (Int.natCast_nonneg _)
        omega
    obtain ⟨rfl, hm⟩ := hm
    have h2 : 0 < m * 2 ^ (e - min e (-1074)).toNat := Nat.mul_pos hm (Nat.two_pow_pos _)
    rw [beq_iff_eq, Option.some.injEq, Int.compare_eq_gt]
    simp only [signed, Bool.false_eq_true, if_false, Nat.shiftLeft_eq, Nat.zero_mul]
    omega

theorem must_iff (ls : List Lk) (me src d : Int) : mustB ls me src d = true ↔ ∃ l ∈ ls, l.to = me ∧ l.fr = src ∧ l.st ≤ d ∧ d ≤ l.en ∧ gt0 l.ls = false := by
  simp [mustB, and_assoc]
theorem may_iff (ls : List Lk) (me src d : Int) : mayB ls me src d = true ↔ ∃ l ∈ ls, l.to = me ∧ l.fr = src ∧ l.st ≤ d ∧ d ≤ l.en ∧ ge1 l.ls = false := by
  simp [mayB, and_assoc]

theorem must_law (ls : List Lk) (me src d : Int) (h : mustB ls me src d = true) : must (grp ls me src) d := by
  obtain ⟨l, hm, ht, hf, a, b, c⟩ := (must_iff ls me src d).1 h
  exact ⟨l, by simp [grp, hm, ht, hf], a, b, c⟩
theorem may_law (ls : List Lk) (me src d : Int) (h : may (grp ls me src) d) : mayB ls me src d = true := by
  obtain ⟨l, hm, a, b, c⟩ := h
  simp only [grp, List.mem_filter, Bool.and_eq_true, beq_iff_eq] at hm
  obtain ⟨hm, ht, hf⟩ := hm
  refine (may_iff ls me src d).2 ⟨l, hm, ht, hf, a, b, ?_⟩
  cases e : ge1 l.ls
  · rfl
  · exact absurd ⟨gt0_of_ge1 _ e, e⟩ c

theorem take_step_r (zs : List Zr) (k : Nat) (z : Zr) (h : zs[k]? = some z) : (zs.map Zr.lk).take (k + 1) = (zs.map Zr.lk).take k ++ [z.lk] := by
  obtain ⟨hk, rfl⟩ := List.getElem?_eq_some_iff.1 h
  rw [List.take_succ_eq_append_getElem (by simpa using hk)]
  simp

def Zr.up (z : Zr) (me src d : Int) : Prop := z.b % 4 = me ∧ z.a % 4 = src ∧ z.c ≤ d ∧ d ≤ z.d

theorem must_step {zs : List Zr} {k : Nat} {z : Zr} {me src d : Int} (h : zs[k]? = some z) (v : Bool) (hv : v = true ↔ mustB ((zs.map Zr.lk).take k) me src d = true ∨ (z.up me src d ∧ gt0 z.e = false)) :
    Value.bool v = Value.bool (mustB ((zs.map Zr.lk).take (k + 1)) me src d) := by
  congr 1
  rw [take_step_r zs k z h, Bool.eq_iff_iff, hv, must_iff, must_iff]
  constructor
  · rintro (⟨l, hm, r⟩ | ⟨⟨r1, r2, r3, r4⟩, r5⟩)
    · exact ⟨l, by simp [hm], r⟩
    · exact ⟨z.lk, by simp, r1, r2, r3, r4, r5⟩
  · rintro ⟨l, hm, r⟩
    rcases List.mem_append.1 hm with hm | hm
    · exact .inl ⟨l, hm, r⟩
    · simp at hm; subst hm; exact .inr ⟨⟨r.1, r.2.1, r.2.2.1, r.2.2.2.1⟩, r.2.2.2.2⟩
theorem may_step {zs : List Zr} {k : Nat} {z : Zr} {me src d : Int} (h : zs[k]? = some z) (v : Bool) (hv : v = true ↔ mayB ((zs.map Zr.lk).take k) me src d = true ∨ (z.up me src d ∧ ge1 z.e = false)) :
    Value.bool v = Value.bool (mayB ((zs.map Zr.lk).take (k + 1)) me src d) := by
  congr 1
  rw [take_step_r zs k z h, Bool.eq_iff_iff, hv, may_iff, may_iff]
  constructor
  · rintro (⟨l, hm, r⟩ | ⟨⟨r1, r2, r3, r4⟩, r5⟩)
    · exact ⟨l, by simp [hm], r⟩
    · exact ⟨z.lk, by simp, r1, r2, r3, r4, r5⟩
  · rintro ⟨l, hm, r⟩
    rcases List.mem_append.1 hm with hm | hm
    · exact .inl ⟨l, hm, r⟩
    · simp at hm; subst hm; exact .inr ⟨⟨r.1, r.2.1, r.2.2.1, r.2.2.2.1⟩, r.2.2.2.2⟩

theorem own_step_r {w : World} {base : Nat} {v : Value} {zs : List Zr} {k : Nat} {z : Zr} (h : zs[k]? = some z)
    (ho : w.ownsRow base 74 5 v (k + 1) (flat ((zs.map Zr.lk).take k) ++ [.int .u64 (z.a % 4), .int .u64 (z.b % 4), .int .i64 z.c, .int .i64 z.d, .float .f64 z.e])) :
    w.ownsRow base 74 5 v (k + 1) (flat ((zs.map Zr.lk).take (k + 1))) := by
  rw [take_step_r zs k z h, flat_snoc]
  exact ho

theorem ret_b {a b : Bool} (h : a = b) : Ending.returned (.bool a) = .returned (.bool b) := by rw [h]
theorem heap3_new (w : World) (o0 o1 o2 : Obj) : (((w.alloc o0).alloc o1).alloc o2).heap[w.heap.size + 1 + 1]? = some o2 := by
  have e : (((w.alloc o0).alloc o1).alloc o2).heap = ((w.heap.push o0).push o1).push o2 := rfl
  rw [e]
  simp only [Array.getElem?_push, Array.size_push]
  simp
theorem heap3_mid (w : World) (o0 o1 o2 : Obj) : (((w.alloc o0).alloc o1).alloc o2).heap[w.heap.size + 1]? = some o1 := by
  have e : (((w.alloc o0).alloc o1).alloc o2).heap = ((w.heap.push o0).push o1).push o2 := rfl
  rw [e]
  simp only [Array.getElem?_push, Array.size_push]
  simp
theorem heap3_fst (w : World) (o0 o1 o2 : Obj) : (((w.alloc o0).alloc o1).alloc o2).heap[w.heap.size]? = some o0 := by
  have e : (((w.alloc o0).alloc o1).alloc o2).heap = ((w.heap.push o0).push o1).push o2 := rfl
  rw [e]
  simp only [Array.getElem?_push, Array.size_push]
  rw [if_neg (by omega), if_neg (by omega)]
  simp
theorem agg_cell {w : World} {b t : Nat} {cs : Array Value} (h : w.heap[b]? = some (.cells cs t (0, 0))) (j : Nat) : w.cell? ⟨b, j, none⟩ = cs[j]? := by simp [World.cell?, h]

theorem newHearing_n (ls : List Lk) (n : Nat) (hL : ls.length = n) (g0 cap b0 : Nat) (id seed : Int) (w : World) (hown : w.ownsRow b0 74 5 (.slice (some ⟨g0, 0, none⟩) n cap) n (flat ls)) (hn : n ≤ 1024) :
    Calls Yba.prog 17 #[.slice (some ⟨g0, 0, none⟩) n cap, .int .u64 id, .int .u64 seed] w fun e w' => e = .returned (.pointer (some ⟨w.heap.size + 3, 0, none⟩)) ∧
      Below w.heap.size w w' ∧ HearAt w' (w.heap.size + 3) w.heap.size (w.heap.size + 2) (w.heap.size + 1) ∧ Groups w' w.heap.size (w.heap.size + 4) (grp ls id) ∧ w.heap.size + 4 ≤ w'.heap.size := by
  subst hL
  exact newHearing_any ls g0 cap b0 id seed w hown hn

theorem hit_iff {A v : Bool} {U : Prop} (hv : v = true) (hu : U) : v = true ↔ A = true ∨ U := by simp [hv, hu]
theorem miss_iff {A : Bool} {U : Prop} (hu : ¬ U) : A = true ↔ A = true ∨ U := by simp [hu]
theorem ng {x : Nat} (h : (!FloatKind.f64.format.order x 0 == some Ordering.gt) = true) : gt0 x = false := by simpa [gt0] using h
theorem yg {x : Nat} (h : (!FloatKind.f64.format.order x 0 == some Ordering.gt) = false) : ¬ gt0 x = false := by simpa [gt0] using h
theorem n1 {x : Nat} (h : (!FloatKind.f64.format.order x 4607182418800017408 == some Ordering.gt) = true ∧ (!FloatKind.f64.format.order x 4607182418800017408 == some Ordering.eq) = true) : ge1 x = false := by simpa [ge1] using h
theorem y1 {x : Nat} (h : (!FloatKind.f64.format.order x 4607182418800017408 == some Ordering.gt) = false ∨ (!FloatKind.f64.format.order x 4607182418800017408 == some Ordering.eq) = false) : ¬ ge1 x = false := by
  intro e
  simp [ge1] at e h
  rcases h with h | h <;> simp_all

set_option maxRecDepth 100000 in
set_option maxHeartbeats 4000000 in
theorem bounds_walk (a : Option Addr) (cap : Nat) (zs : List Zr) (id from_ d seed : Int) (w : World) (hz : IsRaw w a zs) (hid : 0 ≤ id ∧ id ≤ 255) (hfr : 0 ≤ from_ ∧ from_ ≤ 255) (hlen : zs.length ≤ maxLen) :
    Calls Yba.prog 5 #[.slice a zs.length cap, .int .u8 id, .int .u8 from_, .int .i64 d, .int .u64 seed] w fun e w' => e = .returned (.bool true) ∧ Below w.heap.size w w' := by
  unfold maxLen at hlen
  obtain ⟨hid0, hid1⟩ := hid
  obtain ⟨hfr0, hfr1⟩ := hfr
  by_cases hbig : 1024 < zs.length
  · go_enter Yba.func5, Yba.ntmps5
    go_wp2
    go_ret
    exact ⟨rfl, Below.refl _ _⟩
  · obtain ⟨i0, hi0, hz0, hz1, hz2⟩ := info_parts info74
    obtain ⟨wm, hmk, hom, hgm⟩ := run_makeSlice_owned (P := Yba.prog) w w.heap.size 69 74 i0 _ 5 Yba.underlying69 hi0 hz0 hz1 .i64 .i64 zs.length (by omega) (by rw [hz2]; omega) (by unfold maxLen; omega) (Nat.le_refl _)
    go_enter Yba.func5, Yba.ntmps5
    go_wp2
    go_loopw [14, 15, 16, 17] (fun l mu ma i wr => ∃ k g c : Nat, k ≤ zs.length ∧ i = .int .i64 k ∧ mu = .bool (mustB ((zs.map Zr.lk).take k) (id % 4) (from_ % 4) d) ∧ ma = .bool (mayB ((zs.map Zr.lk).take k) (id % 4) (from_ % 4) d) ∧ l = .slice (some ⟨g, 0, none⟩) k c ∧
        wr.ownsRow w.heap.size 74 5 (.slice (some ⟨g, 0, none⟩) k c) k (flat ((zs.map Zr.lk).take k)) ∧ Below w.heap.size w wr) (fun _ _ _ i _ => zs.length - (intOf i).toNat)
    case atStart => exact ⟨0, w.heap.size, zs.length, Nat.zero_le _, rfl, by simp [mustB], by simp [mayB], rfl, by simpa [flat] using hom, (Below.refl _ _).grown hgm (Nat.le_refl _) (by simp)⟩
    case round =>
      clear hmk hom hgm
      obtain ⟨k, g, c, hk, rfl, rfl, rfl, rfl, hown, hbel⟩ := hrel
      by_cases hlt : k < zs.length
      · obtain ⟨z, hzk⟩ : ∃ z, zs[k]? = some z := ⟨zs[k], List.getElem?_eq_getElem hlt⟩
        obtain ⟨b, off, rfl, hb, c0, c1, c2, c3, c4, ⟨ba0, ba1⟩, bb0, bb1⟩ := hz k z hzk
        rw [← hbel.cell hb] at c0 c1 c2 c3 c4
        have Hz : Hid _ := hz
        have Hzk : Hid _ := hzk
        have hsz := hbel.size
        have am := row_ne hown wr.heap.size (by omega)
        have am1 := row_ne hown (wr.heap.size + 1) (by omega)
        clear hz hzk
        have hnew3 := heap3_new wr
        have hmid3 := heap3_mid wr
        have hfst3 := heap3_fst wr
        have hdummy := True.intro
        · go_wp2_with
            (at_builtin
             refine wpList_append_lies _ rfl _ _ _ rfl w.heap.size 74 i0 _ 5 40 Yba.underlying69 hi0 hz0 hz1 hz2 rfl (by omega) _ k (flat ((zs.map Zr.lk).take k)) rfl (((hown.alloc _).alloc _).alloc _)
               ⟨wr.heap.size + 1 + 1, 0, none⟩ 1 1 [.int .u64 (z.a % 4), .int .u64 (z.b % 4), .int .i64 z.c, .int .i64 z.d, .float .f64 z.e] rfl rfl (World.news_of_block (t := 74) (fr := (0, 0)) (hnew3 _ _ _)) (by simp [Value.oneCell'])
               (by omega) (by unfold maxLen; omega) (by omega) (by simp; omega) (wr.heap.size + 1 + 1 + 1) (by simp) ?_
             intro gg cap1 w1 hown1 hgrow hat hlt1
             have hL := (hgrow.block (wr.heap.size + 1) (by simp) (Ne.symm am1)).trans (hmid3 _ _ _)
             have hF := (hgrow.block wr.heap.size (by simp; omega) (Ne.symm am)).trans (hfst3 _ _ _)
             have d0 := agg_cell hL 0
             have d1 := agg_cell hL 1
             have d2 := agg_cell hL 2
             have d3 := agg_cell hL 3
             have d4 := agg_cell hF 4
             clear hL hF
             simp only [List.getElem?_toArray, List.getElem?_cons_zero, List.getElem?_cons_succ] at d0 d1 d2 d3 d4)
          all_goals
            go_roundw
            case rel =>
              refine ⟨k + 1, gg, cap1, by omega, by go_num, must_step Hzk.out _ ?_, may_step Hzk.out _ ?_, rfl, own_step_r Hzk.out hown1, ((((hbel.alloc hbel.size _).alloc (by simp; omega) _).alloc (by simp; omega) _).grown hgrow (by simp; omega) (fun j hj => (hown.lt j hj).1))⟩
              · first
                  | exact hit_iff rfl ⟨⟨by assumption, by assumption, by assumption, by assumption⟩, ng (by assumption)⟩
                  | exact miss_iff (fun ⟨_, r5⟩ => absurd r5 (yg (by assumption)))
                  | exact miss_iff (fun ⟨⟨r1, r2, r3, r4⟩, r5⟩ => by omega)
              · first
                  | exact hit_iff rfl ⟨⟨by assumption, by assumption, by assumption, by assumption⟩, n1 (by assumption)⟩
                  | exact miss_iff (fun ⟨_, r5⟩ => absurd r5 (y1 (by assumption)))
                  | exact miss_iff (fun ⟨⟨r1, r2, r3, r4⟩, r5⟩ => by omega)
            case measure => simp [intOf]; omega
      · have hk2 : k = zs.length := by omega
        subst hk2
        have hL : (zs.map Zr.lk).length = zs.length := by simp
        have hown2 : wr.ownsRow w.heap.size 74 5 (.slice (some ⟨g, 0, none⟩) zs.length c) zs.length (flat (zs.map Zr.lk)) := by
          rw [List.take_of_length_le (by simp)] at hown; exact hown
        have hsz := hbel.size
        have hgl : (grp (zs.map Zr.lk) (id % 4) (from_ % 4)).length ≤ 1024 := by
          have h1 := List.length_filter_le (fun l : Lk => l.to == id % 4 && l.fr == from_ % 4) (zs.map Zr.lk)
          rw [hL] at h1
          unfold grp
          omega
        rw [show (zs.map Zr.lk).take zs.length = zs.map Zr.lk from List.take_of_length_le (by simp)]
        have l1 := must_law (zs.map Zr.lk) (id % 4) (from_ % 4) d
        have l2 := may_law (zs.map Zr.lk) (id % 4) (from_ % 4) d
        generalize mustB (zs.map Zr.lk) (id % 4) (from_ % 4) d = mu at l1 ⊢
        generalize mayB (zs.map Zr.lk) (id % 4) (from_ % 4) d = ma at l2 ⊢
        have L1 : Hid _ := l1
        have L2 : Hid _ := l2
        clear hown hz l1 l2
        go_wp2_with (go_at_call 17; refine (newHearing_n (zs.map Zr.lk) zs.length hL g c w.heap.size (id % 4) seed _ hown2 (by omega)).mono ?_; rintro e w1 ⟨rfl, hb1, hh1, hG1, hs1⟩)
        refine (hears_groups _ _ wr.heap.size _ _ _ w.heap.size _ _ _ hh1 hG1 (by omega) (by omega) (by omega) hgl (by omega) (by omega)).mono ?_
        rintro e w2 ⟨v, rfl, hm1, hm2, hb2⟩
        have q1 : mu = true → v = true := fun h => hm1 (L1.out h)
        have q2 : v = true → ma = true := fun h => L2.out (hm2 h)
        have HB : Hid _ := hb2
        clear hm1 hm2
        cases v
        · cases mu
          · clear q1 q2
            go_wp2
            go_ret
            exact ⟨rfl, (hbel.trans (hb1.mono hsz)).trans HB.out⟩
          · cases q1 rfl
        · have e := q2 rfl
          subst e
          clear q1 q2
          cases mu
          all_goals
            go_wp2
            go_ret
            exact ⟨rfl, (hbel.trans (hb1.mono hsz)).trans HB.out⟩
end Go.Proofs.Ybulklvk
