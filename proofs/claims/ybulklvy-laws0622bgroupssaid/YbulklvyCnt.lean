/-
  'attendingMinority', 'countedGroups' (functions 15, 10).
-/
import Derived.Test.YbulklvyMin
namespace Go.Proofs.Ybulklvy
open Go.ChangeShapes Go.WideShapes Go.ChangeAt Go.RowKit Go.Instr
set_option linter.unusedVariables false

section
variable {w w' : World} {m N rg : Nat} {acs : List Ac} {listed minor : Bool} {ja jo jk jn : List Nat} {pa po pk pn : Option Addr} {ca co ck cn : Nat}

set_option maxRecDepth 100000 in
set_option maxHeartbeats 4000000 in
theorem attMin_any (h : MeetAt w m N rg acs listed minor ja jo jk jn pa po pk pn ca co ck cn) (hNs : N ≤ w.heap.size) (pc : Option Addr) (cc : Nat) (gs : List (List Nat)) (c6 : w.cell? ⟨m, 6, none⟩ = some (.slice pc gs.length cc)) (hC : Conc w N pc gs)
    (hg8 : ∀ g ∈ gs, ∀ k ∈ g, k < 8) (hgl : ∀ g ∈ gs, g.length ≤ 64) (hgs : gs.length ≤ 64) (g1 base : Nat) (q1 : Nat → Bool) (hB1 : Bools w base g1 acs.length q1) :
    Calls Yba.prog 15 #[.pointer (some ⟨m, 0, none⟩), .slice (some ⟨g1, 0, none⟩) acs.length acs.length] w fun e w' => RetBools acs.length (fun i => minB acs gs i && q1 i) w e w' := by
  have ln := h.ln
  have hl1 := hB1.lt
  have C : Hid _ := minority_any h hNs pc cc gs c6 hC hg8 hgl hgs
  generalize minB acs gs = qm at C ⊢
  go_enter Yba.func15, Yba.ntmps15
  go_wp2_with fail
  refine Calls.mono (Hid.out C) ?_
  rintro e w1 ⟨g2, rfl, B2, b2⟩
  have L2 := B2.lt
  have hB1 := hB1.below b2
  go_wp2
  go_loopw [6, 11] (fun _ i wr => ∃ k, k ≤ acs.length ∧ i = .int .i64 k ∧ Bools wr w.heap.size g2 acs.length (fun i => if i < k then qm i && q1 i else qm i) ∧ Bools wr base g1 acs.length q1 ∧ Below w.heap.size w wr) (fun _ i _ => acs.length - (intOf i).toNat)
  case atStart => exact ⟨0, Nat.zero_le _, rfl, by simpa using B2, hB1, b2⟩
  case round =>
    clear B2 hB1
    obtain ⟨k, hk, rfl, B2, B1, bw⟩ := hrel
    by_cases hlt : k < acs.length
    · have x2 := B2.cell hlt
      have x1 := B1.cell hlt
      have fz := B2.frozen k
      have hj0 : (0 : Int) ≤ (k : Int) := Int.natCast_nonneg _
      have hj1 : (k : Int) < (acs.length : Int) := by omega
      rw [if_neg (Nat.lt_irrefl k)] at x2
      have fin : ∀ v, (v = (qm k && q1 k)) → Bools (wr.setCell ⟨g2, k, none⟩ (.bool v)) w.heap.size g2 acs.length (fun i => if i < k + 1 then qm i && q1 i else qm i) ∧ Bools (wr.setCell ⟨g2, k, none⟩ (.bool v)) base g1 acs.length q1 := by
        intro v hv
        refine ⟨(B2.set k v).congr (fun i hi => ?_), B1.block (Below.heap_setCell _ _ _ _ (by show g1 ≠ g2; omega))⟩
        by_cases e : i = k
        · subst e; rw [if_pos rfl, if_pos (by omega), hv]
        · by_cases e2 : i < k
          · rw [if_neg e, if_pos e2, if_pos (by omega)]
          · rw [if_neg e, if_neg e2, if_neg (by omega)]
      have Hf : Hid _ := fin
      clear fin
      cases hqo : qm k
      all_goals
        rw [hqo] at x2 Hf
        clear hqo
        go_wp2
        go_roundw
        case rel =>
          have f := Hf.out _ rfl
          exact ⟨k + 1, by omega, by go_num, by simpa using f.1, by simpa using f.2, bw.setCell (p := ⟨g2, k, none⟩) L2.1 _⟩
        case measure => simp [intOf]; omega
    · have hk2 : k = acs.length := by omega
      subst hk2
      go_wp2
      go_ret
      exact ⟨_, rfl, B2.congr (fun i hi => by rw [if_pos hi]), bw⟩

def allS : ByteArray := ⟨#[97, 108, 108]⟩
def minS : ByteArray := ⟨#[109, 105, 110, 111, 114, 105, 116, 121]⟩

/-- What 'countedGroups' leaves. -/
def Counted (n : Nat) (q qm : Nat → Bool) (minor : Bool) (w : World) (e : Ending) (w' : World) : Prop :=
  ∃ g1 va r c, Bools w' w.heap.size g1 n q ∧ Ints w' w.heap.size va (idx n q) ∧ Below w.heap.size w w' ∧ w'.cell? ⟨r, 0, none⟩ = some (.string allS) ∧ w'.cell? ⟨r, 1, none⟩ = some (.slice (some ⟨g1, 0, none⟩) n n) ∧ w'.cell? ⟨r, 2, none⟩ = some va ∧ r < w'.heap.size ∧
    (minor = false → e = .returned (.slice (some ⟨r, 0, none⟩) 1 c)) ∧
    (minor = true → e = .returned (.slice (some ⟨r, 0, none⟩) 2 c) ∧ ∃ g2 vb, Bools w' w.heap.size g2 n (fun i => qm i && q i) ∧ Ints w' w.heap.size vb (idx n (fun i => qm i && q i)) ∧ w'.cell? ⟨r, 3, none⟩ = some (.string minS) ∧ w'.cell? ⟨r, 4, none⟩ = some (.slice (some ⟨g2, 0, none⟩) n n) ∧ w'.cell? ⟨r, 5, none⟩ = some vb)

theorem info100 : (Yba.prog.info? 100).map (fun i => (i.zero, i.size, i.bytes)) = some (some (.agg #[.string ⟨#[]⟩, .slice none 0 0, .slice none 0 0]), 3, 64) := by kernel_rfl

set_option maxRecDepth 100000 in
set_option maxHeartbeats 4000000 in
theorem counted_any (h : MeetAt w m N rg acs listed minor ja jo jk jn pa po pk pn ca co ck cn) (hNs : N ≤ w.heap.size) (pc : Option Addr) (cc : Nat) (gs : List (List Nat)) (c6 : w.cell? ⟨m, 6, none⟩ = some (.slice pc gs.length cc)) (hC : Conc w N pc gs)
    (hg8 : ∀ g ∈ gs, ∀ k ∈ g, k < 8) (hgl : ∀ g ∈ gs, g.length ≤ 64) (hgs : gs.length ≤ 64) :
    Calls Yba.prog 10 #[.pointer (some ⟨m, 0, none⟩)] w fun e w' => Counted acs.length (attB acs listed ja jo jk jn) (minB acs gs) minor w e w' := by
  have ln := h.ln
  have hmN := h.hm
  obtain ⟨i0, hi0, hz0, hz1, hz2⟩ := info_parts info100
  have C1 : Hid _ := attends_any h hNs
  generalize attB acs listed ja jo jk jn = q at C1 ⊢
  go_enter Yba.func10, Yba.ntmps10
  go_wp2_with fail
  refine Calls.mono (Hid.out C1) ?_
  rintro e w1 ⟨g1, rfl, B1, b1⟩
  go_wp2_with fail
  refine (newGroup_any ⟨#[97, 108, 108]⟩ g1 acs.length _ q w1 B1 ln).mono ?_
  rintro e w2 ⟨va, rfl, I1, b2⟩
  have B1 := B1.below b2
  have z1 := b1.size
  have bw := b1.trans (b2.mono z1)
  unfold grpV
  obtain ⟨aa, la, ka, rfl⟩ := ints_form I1
  have hcur := h.below bw hNs
  have d4 := hcur.c4
  have hmw : m < w2.heap.size := by have := bw.size; omega
  have hLB := B1.lt
  have hLI := fun k e => (World.ownsRow.lt I1 k e)
  have zz2 := bw.size
  have hX : CellsAt (w2.alloc (.cells #[.string ⟨#[97, 108, 108]⟩, .slice (some ⟨g1, 0, none⟩) acs.length acs.length, .slice aa la ka] 100)) w2.heap.size _ _ := heap_alloc_new w2 _
  have bX : Below w2.heap.size w2 (w2.alloc (.cells #[.string ⟨#[97, 108, 108]⟩, .slice (some ⟨g1, 0, none⟩) acs.length acs.length, .slice aa la ka] 100)) := (Below.refl _ _).alloc (Nat.le_refl _) _
  have hO := World.ownsRow_lit (base := w.heap.size) (e := 100) (size := 3) w2 #[.string ⟨#[97, 108, 108]⟩, .slice (some ⟨g1, 0, none⟩) acs.length acs.length, .slice aa la ka] 1 bw.size (by unfold maxLen; omega) (by simp)
  have B1X := B1.below bX
  have I1X : Ints _ w.heap.size _ _ := (Ints.mono I1 z1)
  have I1X := owns_below I1X bX
  have bwX := bw.trans (bX.mono bw.size)
  cases minor
  · go_wp2_with fail
    go_ret
    exact ⟨g1, _, w2.heap.size, 1, B1X, I1X, bwX, hX.cell 0, hX.cell 1, hX.cell 2, by simp, fun _ => rfl, fun e => by cases e⟩
  · go_wp2_with fail
    have zX : (w2.alloc (.cells #[.string ⟨#[97, 108, 108]⟩, .slice (some ⟨g1, 0, none⟩) acs.length acs.length, .slice aa la ka] 100)).heap.size = w2.heap.size + 1 := by simp
    generalize (w2.alloc (.cells #[.string ⟨#[97, 108, 108]⟩, .slice (some ⟨g1, 0, none⟩) acs.length acs.length, .slice aa la ka] 100)) = w3 at hX bX hO B1X I1X bwX zX ⊢
    have hcX := h.below bwX hNs
    have c6X := (bwX.cell (p := ⟨m, 6, none⟩) (by show m < w.heap.size; omega)).trans c6
    refine (attMin_any hcX (Nat.le_trans hNs bwX.size) pc cc gs c6X (hC.below bwX hNs) hg8 hgl hgs g1 _ q B1X).mono ?_
    rintro e w4 ⟨g2, rfl, B2, b4⟩
    have z3 := bwX.size
    have bw4 := bwX.trans (b4.mono z3)
    have z4 := bw4.size
    go_wp2_with fail
    refine (newGroup_any ⟨#[109, 105, 110, 111, 114, 105, 116, 121]⟩ g2 acs.length _ _ w4 B2 ln).mono ?_
    rintro e w5 ⟨vb, rfl, I2, b5⟩
    unfold grpV
    obtain ⟨ab, lb, kb, rfl⟩ := ints_form I2
    have B1' := (B1X.below b4).below b5
    have I1' := owns_below (owns_below I1X b4) b5
    have B2' := (B2.mono z3).below b5
    have I2' := Ints.mono I2 z4
    have hO' := owns_below (owns_below hO b4) b5
    have bw5 := bw4.trans (b5.mono z4)
    have z5 := bw5.size
    have zz4 := b4.size
    have zz5 := b5.size
    have hnew := heap_alloc_new w5
    go_wp2_with
      (at_builtin
       refine wpList_append_lies _ rfl _ _ _ rfl w.heap.size 100 i0 _ 3 64 Yba.underlying95 hi0 hz0 hz1 hz2 rfl (by omega) _ 1 _ rfl (World.ownsRow.alloc hO' _)
         ⟨w5.heap.size, 0, none⟩ 1 1 [.string ⟨#[109, 105, 110, 111, 114, 105, 116, 121]⟩, .slice (some ⟨g2, 0, none⟩) acs.length acs.length, .slice ab lb kb] rfl rfl (World.news_of_block (t := 100) (fr := (0, 0)) (hnew _)) (by simp [Value.oneCell'])
         (by omega) (by unfold maxLen; omega) (by omega) (by simp; omega) (w5.heap.size + 1) (by simp) ?_
       intro gg cap1 w6 hown1 hgrow hat hlt1)
    go_ret
    have hgr6 : w5.grownBy w6 (some w2.heap.size) := (World.grownBy_alloc w5 _ _).trans hgrow
    have hL1 := B1'.lt
    have hL2 := B2'.lt
    refine ⟨g1, _, gg, cap1, ?_, ?_, bw5.grown hgr6 z5 (fun j hj => by cases hj; omega), World.ownsRow.cellAt hown1 0 (by omega), World.ownsRow.cellAt hown1 1 (by omega), World.ownsRow.cellAt hown1 2 (by omega), hlt1, (fun e => by cases e), (fun _ => ⟨rfl, g2, _, ?_, ?_, World.ownsRow.cellAt hown1 3 (by omega), World.ownsRow.cellAt hown1 4 (by omega), World.ownsRow.cellAt hown1 5 (by omega)⟩)⟩
    · exact B1'.block (hgr6.block _ hL1.2 (fun e => by cases e; omega))
    · refine World.ownsRow.kept I1' hgr6 ?_
      cases hv : (Value.slice aa la ka).ownBlock with
      | none => exact .inl rfl
      | some b => exact .inr (fun e => by have := (hLI b hv).2; cases e; omega)
    · exact B2'.block (hgr6.block _ hL2.2 (fun e => by have := B2.lt; cases e; omega))
    · refine World.ownsRow.kept I2' hgr6 ?_
      cases hv : (Value.slice ab lb kb).ownBlock with
      | none => exact .inl rfl
      | some b => exact .inr (fun e => by have := (World.ownsRow.lt I2 b hv).1; cases e; omega)
end
end Go.Proofs.Ybulklvy
