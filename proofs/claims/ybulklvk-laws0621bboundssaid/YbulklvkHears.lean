/-
  '(*Hearing).Hears': a link that is up and cannot lose is heard; what is heard came over a link that is up and does not lose everything.
-/
import Derived.Test.YbulklvkHear
namespace Go.Proofs.Ybulklvk
open Go.ChangeShapes Go.WideShapes Go.ChangeAt Go.RowKit Go.Instr
set_option linter.unusedVariables false
attribute [local go_sem] run_store_float

def must (ls : List Lk) (d : Int) : Prop := ∃ l ∈ ls, l.st ≤ d ∧ d ≤ l.en ∧ gt0 l.ls = false
def may (ls : List Lk) (d : Int) : Prop := ∃ l ∈ ls, l.st ≤ d ∧ d ≤ l.en ∧ ¬ (gt0 l.ls = true ∧ ge1 l.ls = true)

/-- What a call of 'Hears' leaves. -/
def Heard (ls : List Lk) (d : Int) (N : Nat) (w : World) (e : Ending) (w' : World) : Prop := ∃ v : Bool, e = .returned (.bool v) ∧ (must ls d → v = true) ∧ (v = true → may ls d) ∧ Below N w w'

theorem HearAt.pcg {w w' : World} {g mb r p : Nat} (h : HearAt w g mb r p) (hg : w.grownBy w' (some p)) (hp : PcgAt w' p) (h1 : p ≠ g) (h2 : p ≠ r) : HearAt w' g mb r p := by
  have lt : ∀ {b : Nat} {o : Obj}, w.heap[b]? = some o → b < w.heap.size := fun e => (Array.getElem?_eq_some_iff.1 e).1
  exact ⟨(hg.block _ (lt h.hg) (fun e => h1 (by cases e; rfl))).trans h.hg, (hg.block _ (lt h.hr) (fun e => h2 (by cases e; rfl))).trans h.hr, hp⟩

theorem grown_allocN (w : World) (o : Obj) (n : Nat) (row : Option Nat) : w.grownBy ((w.alloc o).drewN n) row := by
  have h := World.grownBy_alloc w o row
  exact ⟨h.os, h.tape, h.output, h.size, h.block⟩

theorem grown_alloc1 (w : World) (o : Obj) (row : Option Nat) : w.grownBy (w.alloc o).drew row := grown_allocN w o 1 row

theorem none_yet {ls : List Lk} {k : Nat} {d : Int} {l : Lk} (h : ∀ j l, j < k → ls[j]? = some l → l.st ≤ d → d ≤ l.en → gt0 l.ls = true) (hl : ls[k]? = some l) (hk : l.st ≤ d → d ≤ l.en → gt0 l.ls = true) :
    ∀ j l, j < k + 1 → ls[j]? = some l → l.st ≤ d → d ≤ l.en → gt0 l.ls = true := by
  intro j m hj hm
  by_cases e : j = k
  · subst e
    rw [hl] at hm
    cases hm
    exact hk
  · exact h j m (by omega) hm

theorem no_must {ls : List Lk} {d : Int} (h : ∀ j l, j < ls.length → ls[j]? = some l → l.st ≤ d → d ≤ l.en → gt0 l.ls = true) : ¬ must ls d := by
  rintro ⟨l, hm, h1, h2, h3⟩
  obtain ⟨j, hj⟩ := List.getElem?_of_mem hm
  have := h j l (List.getElem?_eq_some_iff.1 hj).1 hj h1 h2
  rw [h3] at this
  cases this

set_option maxRecDepth 100000 in
set_option maxHeartbeats 2000000 in
theorem hears_any (ls : List Lk) (g mb r p base g1 cap N : Nat) (x d : Int) (w : World) (hh : HearAt w g mb r p) (hrow : w.ownsRow base 74 5 (.slice (some ⟨g1, 0, none⟩) ls.length cap) ls.length (flat ls))
    (hlook : (Instr.lookup 92 (.map (some mb)) (.int .u64 x) false).run Yba.prog w = .ok (.slice (some ⟨g1, 0, none⟩) ls.length cap) w)
    (hpb : p < base) (hpg : p ≠ g) (hpr : p ≠ r) (hn : ls.length ≤ 1024) (hN : N ≤ p) (hNs : N ≤ w.heap.size) :
    Calls Yba.prog 18 #[.pointer (some ⟨g, 0, none⟩), .int .u64 x, .int .i64 d] w fun e w' => Heard ls d N w e w' := by
  have hcm : w.cell? ⟨g, 0, none⟩ = some (.map (some mb)) := by have := hh.hg; simp [World.cell?, this]
  go_enter Yba.func18, Yba.ntmps18
  go_wp2
  clear hcm hlook
  go_loopw [16] (fun i wr => ∃ k : Nat, k ≤ ls.length ∧ i = .int .i64 k ∧ Below N w wr ∧ HearAt wr g mb r p ∧ wr.ownsRow base 74 5 (.slice (some ⟨g1, 0, none⟩) ls.length cap) ls.length (flat ls) ∧ N ≤ wr.heap.size ∧ ∀ j l, j < k → ls[j]? = some l → l.st ≤ d → d ≤ l.en → gt0 l.ls = true) (fun i _ => ls.length - (intOf i).toNat)
  case atStart => exact ⟨0, Nat.zero_le _, rfl, Below.refl _ _, hh, hrow, hNs, fun j l hj => by omega⟩
  case round =>
    clear hh hrow hNs
    obtain ⟨k, hk, rfl, hbel, hh, hrow, hNs, hall⟩ := hrel
    by_cases hlt : k < ls.length
    · obtain ⟨l, hl⟩ : ∃ l, ls[k]? = some l := ⟨ls[k], List.getElem?_eq_getElem hlt⟩
      have c0 : wr.cell? ⟨g1, k * 5, none⟩ = some (.int .u64 l.fr) := (row_cell hrow k 0 (by omega) l hl)
      have c1 : wr.cell? ⟨g1, k * 5 + 1, none⟩ = some (.int .u64 l.to) := (row_cell hrow k 1 (by omega) l hl)
      have c2 : wr.cell? ⟨g1, k * 5 + 2, none⟩ = some (.int .i64 l.st) := (row_cell hrow k 2 (by omega) l hl)
      have c3 : wr.cell? ⟨g1, k * 5 + 3, none⟩ = some (.int .i64 l.en) := (row_cell hrow k 3 (by omega) l hl)
      have c4 : wr.cell? ⟨g1, k * 5 + 4, none⟩ = some (.float .f64 l.ls) := (row_cell hrow k 4 (by omega) l hl)
      have Hl : Hid (ls[k]? = some l) := hl
      have Hall : Hid _ := hall
      clear hl hall
      by_cases hst : l.st ≤ d
      · by_cases hen : d ≤ l.en
        · have hcr : wr.cell? ⟨g, 1, none⟩ = some (.pointer (some ⟨r, 0, none⟩)) := by have := hh.hg; simp [World.cell?, this]
          have hgl : g < wr.heap.size := (Array.getElem?_eq_some_iff.1 hh.hg).1
          have hpl : p < wr.heap.size := by obtain ⟨_, _, e⟩ := hh.hp; exact (Array.getElem?_eq_some_iff.1 e).1
          have hrA : ∀ o, (wr.alloc o).drew.cell? ⟨r, 0, none⟩ = some (.iface 95 (.pointer (some ⟨p, 0, none⟩))) := fun o => by
            have := (hh.kept (grown_alloc1 wr o none) (by simp) (by simp) (by simp)).hr
            simp only [World.cell?, this]; rfl
          have hpA : ∀ o, PcgAt (wr.alloc o).drew p := fun o => (hh.kept (grown_alloc1 wr o none) (by simp) (by simp) (by simp)).hp
          go_wp2
          go_region_held3 (fun w' => w'.cell? ⟨g, 1, none⟩ = some (.pointer (some ⟨r, 0, none⟩)) ∧ w'.cell? ⟨wr.heap.size, 2, none⟩ = some (.int .i64 l.st) ∧ w'.cell? ⟨wr.heap.size, 3, none⟩ = some (.int .i64 l.en) ∧ w'.cell? ⟨wr.heap.size, 4, none⟩ = some (.float .f64 l.ls))
            (first
              | (go_split_ands
                 refine ⟨by go_keep, by go_keep, by go_keep, by go_keep⟩)
              | (go_split_ands
                 refine ⟨?_, ?_, ?_, ?_⟩ <;> (rw [hgrow.cell_far _ (by simp <;> omega) (by simp <;> omega)]; assumption)))
            ((go_at_call 27; refine (lost_any _ _ p _ (hrA _) (hpA _)).mono ?_; rintro e w2 ⟨⟨v, rfl, hv0, hv1⟩, hgrow, hp2⟩))
          have hg2 := (grown_alloc1 wr _ _).trans hgrow
          cases v
          · go_wp2
            go_ret
            refine ⟨true, rfl, fun _ => rfl, fun _ => ⟨l, List.mem_of_getElem? Hl.out, hst, hen, ?_⟩, hbel.grown hg2 hNs (fun j hj => by cases hj; exact hN)⟩
            rintro ⟨h1, h2⟩
            cases hv1 h1 h2
          · go_wp2
            go_roundw
            case rel =>
              refine ⟨k + 1, by omega, by go_num, hbel.grown hg2 hNs (fun j hj => by cases hj; exact hN), hh.pcg hg2 hp2 hpg hpr, hrow.kept hg2 (.inr ?_), by have := hg2.size; omega, none_yet Hall.out Hl.out (fun h1 h2 => ?_)⟩
              · intro e
                have := (hrow.lt g1 rfl).1
                simp [Value.ownBlock] at e
                omega
              · cases e : gt0 l.ls
                · cases hv0 e
                · rfl
            case measure => simp [intOf]; omega
        · have hd : decide (d ≤ l.en) = false := by simpa using hen
          go_wp2
          go_quiet (fail)
          go_wp2
          go_roundw
          case rel =>
            have hga := grown_allocN wr (Obj.cells #[Value.int IntKind.u64 l.fr, Value.int IntKind.u64 l.to, Value.int IntKind.i64 l.st, Value.int IntKind.i64 l.en, Value.float FloatKind.f64 l.ls] 74) nq none
            exact ⟨k + 1, by omega, by go_num, hbel.grown hga hNs (by simp), hh.kept hga (by simp) (by simp) (by simp), hrow.kept hga (.inr (by simp [Value.ownBlock])), by have := hga.size; omega, none_yet Hall.out Hl.out (fun h1 h2 => by omega)⟩
          case measure => simp [intOf]; omega
      · have hd : decide (l.st ≤ d) = false := by simpa using hst
        go_wp2
        go_quiet (fail)
        go_wp2
        go_roundw
        case rel =>
          have hga := grown_allocN wr (Obj.cells #[Value.int IntKind.u64 l.fr, Value.int IntKind.u64 l.to, Value.int IntKind.i64 l.st, Value.int IntKind.i64 l.en, Value.float FloatKind.f64 l.ls] 74) nq none
          exact ⟨k + 1, by omega, by go_num, hbel.grown hga hNs (by simp), hh.kept hga (by simp) (by simp) (by simp), hrow.kept hga (.inr (by simp [Value.ownBlock])), by have := hga.size; omega, none_yet Hall.out Hl.out (fun h1 h2 => by omega)⟩
        case measure => simp [intOf]; omega
    · go_wp2
      go_ret
      have hk2 : k = ls.length := by omega
      subst hk2
      exact ⟨false, rfl, fun h => absurd h (no_must hall), by simp, hbel⟩

set_option maxRecDepth 100000 in
set_option maxHeartbeats 2000000 in
/-- .. and where no link into the node comes from that sender. -/
theorem hears_none (g mb r p N : Nat) (x d : Int) (w : World) (hh : HearAt w g mb r p)
    (hlook : (Instr.lookup 92 (.map (some mb)) (.int .u64 x) false).run Yba.prog w = .ok (.slice none 0 0) w) :
    Calls Yba.prog 18 #[.pointer (some ⟨g, 0, none⟩), .int .u64 x, .int .i64 d] w fun e w' => Heard [] d N w e w' := by
  have hcm : w.cell? ⟨g, 0, none⟩ = some (.map (some mb)) := by have := hh.hg; simp [World.cell?, this]
  go_enter Yba.func18, Yba.ntmps18
  go_wp2
  go_loop [16] (fun i => i = .int .i64 0) (fun i => 0)
  case atStart => rfl
  case round =>
    subst hrel
    go_wp2
    go_ret
    exact ⟨false, rfl, (by rintro ⟨l, hm, _⟩; cases hm), by simp, Below.refl _ _⟩

/-- 'Hears' on what 'NewHearing' made. -/
theorem hears_groups (G : Int → List Lk) (g mb r p base N : Nat) (x d : Int) (w : World) (hh : HearAt w g mb r p) (hG : Groups w mb base G)
    (hpb : p < base) (hpg : p ≠ g) (hpr : p ≠ r) (hn : (G x).length ≤ 1024) (hN : N ≤ p) (hNs : N ≤ w.heap.size) :
    Calls Yba.prog 18 #[.pointer (some ⟨g, 0, none⟩), .int .u64 x, .int .i64 d] w fun e w' => Heard (G x) d N w e w' := by
  obtain ⟨es, clock, hb, hks, hrow, hdis, hmb⟩ := hG
  have hl := run_look x w mb es clock hb hks
  have ho := hrow x
  rcases ho.2 with ⟨hv, h0⟩ | ⟨g1, cap, cur, hv, _⟩
  · rw [hv] at hl
    rw [List.length_eq_zero_iff.1 h0]
    exact hears_none g mb r p N x d w hh hl
  · rw [hv] at hl ho
    exact hears_any (G x) g mb r p base g1 cap N x d w hh ho hl hpb hpg hpr hn hN hNs
end Go.Proofs.Ybulklvk
