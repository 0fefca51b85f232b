/-
  'Minority' (function 21).
-/
import Derived.Test.YbulklvyMap
namespace Go.Proofs.Ybulklvy
open Go.ChangeShapes Go.WideShapes Go.ChangeAt Go.RowKit Go.Instr
open Go.ChangeMaps (setBlock)
set_option linter.unusedVariables false

/-! ### The plain functions -/
def tot (acs : List Ac) : Int := acs.foldl (fun s a => s + a.sh) 0
def shr (acs : List Ac) (k : Nat) : Int := acs.foldl (fun s a => if a.k = k then s + a.sh else s) 0
def bar (acs : List Ac) (k : Nat) : Bool := acs.any fun a => decide (a.k = k) && !decide (a.r = 0)

theorem tot_snoc (l : List Ac) (a : Ac) : tot (l ++ [a]) = tot l + a.sh := by simp [tot]
theorem shr_snoc (l : List Ac) (a : Ac) (k : Nat) : shr (l ++ [a]) k = if a.k = k then shr l k + a.sh else shr l k := by simp [shr]
theorem bar_snoc (l : List Ac) (a : Ac) (k : Nat) : bar (l ++ [a]) k = (bar l k || (decide (a.k = k) && !decide (a.r = 0))) := by simp [bar]

theorem snoc_ind {α : Type} {P : List α → Prop} (h0 : P []) (hs : ∀ l a, P l → P (l ++ [a])) (l : List α) : P l := by
  have h : ∀ m : List α, P m.reverse := by
    intro m
    induction m with
    | nil => exact h0
    | cons a m ih => rw [List.reverse_cons]; exact hs _ _ ih
  have := h l.reverse
  rwa [List.reverse_reverse] at this
theorem tot_bd (l : List Ac) : (∀ a ∈ l, a.ok) → 0 ≤ tot l ∧ tot l ≤ 4294967295 * l.length := by
  refine snoc_ind (P := fun l => (∀ a ∈ l, a.ok) → 0 ≤ tot l ∧ tot l ≤ 4294967295 * l.length) (fun _ => by simp [tot]) (fun l a ih h => ?_) l
  have h1 := ih (fun b hb => h b (by simp [hb]))
  obtain ⟨_, h2, h3, _⟩ := h a (by simp)
  rw [tot_snoc]
  simp
  omega
theorem shr_bd (l : List Ac) (k : Nat) : (∀ a ∈ l, a.ok) → 0 ≤ shr l k ∧ shr l k ≤ 4294967295 * l.length := by
  refine snoc_ind (P := fun l => (∀ a ∈ l, a.ok) → 0 ≤ shr l k ∧ shr l k ≤ 4294967295 * l.length) (fun _ => by simp [shr]) (fun l a ih h => ?_) l
  have h1 := ih (fun b hb => h b (by simp [hb]))
  obtain ⟨_, h2, h3, _⟩ := h a (by simp)
  rw [shr_snoc]
  split <;> simp <;> omega
theorem take_ok {l : List Ac} (h : ∀ a ∈ l, a.ok) (k : Nat) : ∀ a ∈ l.take k, a.ok := fun a ha => h a (List.mem_of_mem_take ha)

/-- A group's shares, and what each holder is held to have behind it. -/
def gsum (acs : List Ac) (g : List Nat) : Int := g.foldl (fun s h => s + shr acs h) 0
def heldStep (acs : List Ac) (H : Nat → Int) (g : List Nat) : Nat → Int := fun k => if k ∈ g then gsum acs g else H k
def held (acs : List Ac) (gs : List (List Nat)) : Nat → Int := gs.foldl (heldStep acs) (shr acs)
theorem gsum_snoc (acs : List Ac) (g : List Nat) (h : Nat) : gsum acs (g ++ [h]) = gsum acs g + shr acs h := by simp [gsum]
theorem held_snoc (acs : List Ac) (gs : List (List Nat)) (g : List Nat) : held acs (gs ++ [g]) = heldStep acs (held acs gs) g := by simp [held]
theorem gsum_bd (acs : List Ac) (hok : ∀ a ∈ acs, a.ok) (g : List Nat) : 0 ≤ gsum acs g ∧ gsum acs g ≤ 4294967295 * acs.length * g.length := by
  refine snoc_ind (P := fun g => 0 ≤ gsum acs g ∧ gsum acs g ≤ 4294967295 * acs.length * g.length) (by simp [gsum]) (fun g h ih => ?_) g
  have h1 := shr_bd acs h hok
  rw [gsum_snoc, List.length_append, List.length_singleton, Int.natCast_add, Int.mul_add]
  omega
theorem held_bd (acs : List Ac) (hok : ∀ a ∈ acs, a.ok) (gs : List (List Nat)) (hg : ∀ g ∈ gs, g.length ≤ 64) (hl : acs.length ≤ 1024) (k : Nat) : 0 ≤ held acs gs k ∧ held acs gs k ≤ 281474976710656 := by
  revert hg
  refine snoc_ind (P := fun gs => (∀ g ∈ gs, g.length ≤ 64) → 0 ≤ held acs gs k ∧ held acs gs k ≤ 281474976710656) (fun _ => ?_) (fun gs g ih hg => ?_) gs
  · have := shr_bd acs k hok
    simp [held]
    omega
  · have h1 := ih (fun g' h' => hg g' (by simp [h']))
    have h2 := gsum_bd acs hok g
    have h3 : g.length ≤ 64 := hg g (by simp)
    rw [held_snoc]
    unfold heldStep
    split
    · refine ⟨h2.1, Int.le_trans h2.2 ?_⟩
      have e : (4294967295 * (acs.length : Int)) * (g.length : Int) ≤ (4294967295 * 1024) * 64 := Int.mul_le_mul (by omega) (by omega) (by omega) (by omega)
      omega
    · exact h1

/-- The concert groups in memory. -/
structure Sl where
  a : Option Addr
  n : Nat
  cap : Nat
def Sl.cells (s : Sl) : List Value := [.slice s.a s.n s.cap]
theorem sl_len (s : Sl) : s.cells.length = 1 := rfl
def sc (k : Nat) : List Value := [.string (nm k)]
theorem sc_len (k : Nat) : (sc k).length = 1 := rfl

def Conc (w : World) (N : Nat) (pc : Option Addr) (gs : List (List Nat)) : Prop :=
  ∃ sls : List Sl, RowAt Sl.cells 1 N w pc sls ∧ sls.length = gs.length ∧ ∀ (i : Nat) (s : Sl) (g : List Nat), sls[i]? = some s → gs[i]? = some g → s.n = g.length ∧ RowAt sc 1 N w s.a g

theorem Conc.below {w w' : World} {N B : Nat} {pc : Option Addr} {gs : List (List Nat)} (h : Conc w N pc gs) (hb : Below B w w') (hN : N ≤ B) : Conc w' N pc gs := by
  obtain ⟨sls, h1, h2, h3⟩ := h
  exact ⟨sls, h1.below hb hN, h2, fun i s g hs hg => ⟨(h3 i s g hs hg).1, (h3 i s g hs hg).2.below hb hN⟩⟩

section
variable {w w' : World} {m N rg : Nat} {acs : List Ac} {listed minor : Bool} {ja jo jk jn : List Nat} {pa po pk pn : Option Addr} {ca co ck cn : Nat}

def minB (acs : List Ac) (gs : List (List Nat)) (i : Nat) : Bool :=
  match acs[i]? with
  | some a => !bar acs a.k && decide (0 < tot acs) && decide (held acs gs a.k ≤ (tot acs - 1) / 20)
  | none => false

theorem Bools.mono {w : World} {base base' g n : Nat} {p : Nat → Bool} (h : Bools w base g n p) (hb : base' ≤ base) : Bools w base' g n p := by
  refine ⟨h.1, ?_⟩
  rcases h.2 with h2 | ⟨g', cap, cur, hv, hg, r⟩
  · exact .inl h2
  · exact .inr ⟨g', cap, cur, hv, Nat.le_trans hb hg, r⟩

/-- Block r is an iterator over the map in block b, which holds es; what it has handed out bears the stamps 'seen'. -/
def Iters (es : Array MapEntry) (clock b r : Nat) (seen : Array Nat) (w : World) : Prop := w.heap[r]? = some (.mapIter (some b) clock seen clock) ∧ w.heap[b]? = some (.map es clock)
def leftW (es : Array MapEntry) (r : Nat) (w : World) : Nat := match w.heap[r]? with
  | some (.mapIter _ _ seen _) => (leftOf es seen).size
  | _ => 0
/-- What has been copied of the map F, whose entries are es. -/
def Copied (es : Array MapEntry) (F F' : ByteArray → Value) (seen : Array Nat) : Prop :=
  (∀ e ∈ es.toList, e.born ∈ seen → ∀ x, e.key = .string x → F' x = F x) ∧ ∀ x, F' x = F x ∨ F' x = .int .i64 0

/-- The two maps that the first loop fills: block b: the shares by holder; block b + 1: who is barred. -/
def Sums (l : List Ac) (w : World) (b : Nat) : Prop :=
  ∃ F Fb, MapS w b (.int .i64 0) F ∧ MapS w (b + 1) (.bool false) Fb ∧ (∀ q, q < 8 → F (nm q) = .int .i64 (shr l q)) ∧ ∀ q, q < 8 → Fb (nm q) = .bool (bar l q)

set_option maxRecDepth 100000 in
set_option maxHeartbeats 8000000 in
theorem minority_any (h : MeetAt w m N rg acs listed minor ja jo jk jn pa po pk pn ca co ck cn) (hNs : N ≤ w.heap.size) (pc : Option Addr) (cc : Nat) (gs : List (List Nat)) (c6 : w.cell? ⟨m, 6, none⟩ = some (.slice pc gs.length cc)) (hC : Conc w N pc gs)
    (hg8 : ∀ g ∈ gs, ∀ k ∈ g, k < 8) (hgl : ∀ g ∈ gs, g.length ≤ 64) (hgs : gs.length ≤ 64) :
    Calls Yba.prog 21 #[.pointer (some ⟨m, 0, none⟩)] w fun e w' => RetBools acs.length (minB acs gs) w e w' := by
  have c12 := h.c12
  have ln := h.ln
  have hmN := h.hm
  have hmk : ∀ w : World, (Instr.makeMap 111 none).run Yba.prog w = .ok (.map (some w.heap.size)) (w.alloc (.map #[] 0)) := fun w => by kernel_rfl
  have hmk2 : ∀ w : World, (Instr.makeMap 112 none).run Yba.prog w = .ok (.map (some w.heap.size)) (w.alloc (.map #[] 0)) := fun w => by kernel_rfl
  have hmk3 : ∀ (w : World) (q : Int), (Instr.makeMap 111 (some (.int .i64 q))).run Yba.prog w = .ok (.map (some w.heap.size)) (w.alloc (.map #[] 0)) := fun w q => by kernel_rfl
  have hmw : m < w.heap.size := by omega
  go_enter Yba.func21, Yba.ntmps21
  go_wp2
  go_loopw [3, 7, 28] (fun t _ i wr => ∃ k, k ≤ acs.length ∧ i = .int .i64 k ∧ t = .int .i64 (tot (acs.take k)) ∧ Sums (acs.take k) wr w.heap.size ∧ Below w.heap.size w wr ∧ w.heap.size + 2 ≤ wr.heap.size) (fun _ _ i _ => acs.length - (intOf i).toNat)
  case atStart =>
    refine ⟨0, Nat.zero_le _, rfl, rfl, ⟨_, _, MapS.new ?_, MapS.new ?_, fun q hq => rfl, fun q hq => rfl⟩, ((Below.refl _ _).alloc (Nat.le_refl _) _).alloc (by simp) _, by simp⟩
    · exact (Below.heap_alloc (w.alloc _) _ _ (by simp)).trans (heap_alloc_new w _)
    · have h1 := heap_alloc_new (w.alloc (.map #[] 0)) (.map #[] 0)
      have e : (w.alloc (Obj.map #[] 0)).heap.size = w.heap.size + 1 := by simp
      rw [e] at h1
      exact h1
  case round =>
    obtain ⟨k, hk, rfl, rfl, hS, hbel, hsz⟩ := hrel
    by_cases hlt : k < acs.length
    · obtain ⟨a, ha⟩ : ∃ a, acs[k]? = some a := ⟨acs[k], List.getElem?_eq_getElem hlt⟩
      have hok := h.oks a (List.mem_of_getElem? ha)
      obtain ⟨ok1, ok2, ok3, ok4⟩ := hok
      obtain ⟨b, off, hx, hb, hc⟩ := (h.rr.below hbel hNs).at ha
      cases hx
      have c0 : wr.cell? ⟨rg, k * 5, none⟩ = some (.string (nm a.k)) := by have := hc 0 _ rfl; simpa using this
      have c1 : wr.cell? ⟨rg, k * 5 + 1, none⟩ = some (.string (nm a.k)) := by have := hc 1 _ rfl; simpa using this
      have c2 : wr.cell? ⟨rg, k * 5 + 2, none⟩ = some (.int .i64 a.sh) := by have := hc 2 _ rfl; simpa using this
      have c3 : wr.cell? ⟨rg, k * 5 + 3, none⟩ = some (.string (rs a.r)) := by have := hc 3 _ rfl; simpa using this
      have c4 : wr.cell? ⟨rg, k * 5 + 4, none⟩ = some (.int .i64 0) := by have := hc 4 _ rfl; simpa using this
      have hlk : (acs.take k).length ≤ k := List.length_take_le _ _
      obtain ⟨t0, t1⟩ := tot_bd _ (take_ok h.oks k)
      obtain ⟨u0, u1⟩ := shr_bd _ a.k (take_ok h.oks k)
      obtain ⟨F, Fb, hM, hMb, hF, hFb⟩ := hS
      have hM1 := hM.of (Below.heap_alloc wr (.cells #[.string (nm a.k), .string (nm a.k), .int .i64 a.sh, .string (rs a.r), .int .i64 0] 65) _ (by omega))
      have lk := hM1.look Yba.underlying111 zero2 (nm a.k)
      rw [hF a.k ok1] at lk
      obtain ⟨w2, mu, hM2, hg2⟩ := hM1.upd Yba.underlying111 (nm a.k) (.int .i64 (shr (acs.take k) a.k + a.sh))
      have hA : CellsAt (wr.alloc (.cells #[.string (nm a.k), .string (nm a.k), .int .i64 a.sh, .string (rs a.r), .int .i64 0] 65)) wr.heap.size _ _ := heap_alloc_new wr _
      have hA2 := hA.of (w' := w2) (hg2.block _ (by simp) (by simp; omega))
      have d1 := hA2.cell 1
      have d3 := hA2.cell 3
      simp only [List.getElem?_toArray, List.getElem?_cons_zero, List.getElem?_cons_succ] at d1 d3
      have hMb2 := hMb.of (w' := w2) ((hg2.block _ (by simp; omega) (by simp)).trans (Below.heap_alloc _ _ _ (by omega)))
      have bel2 : Below w.heap.size w w2 := (hbel.alloc (by omega) _).grown hg2 (by simp; omega) (fun j hj => by cases hj; exact Nat.le_refl _)
      have z2 : wr.heap.size + 1 ≤ w2.heap.size := by have := hg2.size; simpa using this
      have HTS : Hid _ := tot_snoc (acs.take k) a
      have HT : Hid _ := take_snoc ha
      have newF : ∀ q, q < 8 → (if nm q = nm a.k then Value.int .i64 (shr (acs.take k) a.k + a.sh) else F (nm q)) = .int .i64 (shr (acs.take k ++ [a]) q) := by
        intro q hq
        rw [shr_snoc]
        by_cases e : q = a.k
        · subst e; simp
        · rw [if_neg (fun e2 => e (nm_inj hq ok1 e2)), if_neg (fun e2 => e e2.symm), hF q hq]
      have HnF : Hid _ := newF
      have HFb : Hid _ := hFb
      have hh : Hid _ := h
      have rq := role_neL a.r ok4
      have hj0 : (0 : Int) ≤ (k : Int) := Int.natCast_nonneg _
      have hj1 : (k : Int) < (acs.length : Int) := by omega
      clear hc ha newF hFb hF h hM hM1 hMb hA hA2
      by_cases hr : a.r = 0
      · have rq2 : ((rs a.r).toList == []) = true := by rw [rq]; simp [hr]
        have Hr : Hid _ := hr
        clear rq hr
        go_wp2
        go_roundw
        case rel =>
          refine ⟨k + 1, by omega, by go_num, by rw [HT.out, HTS.out], ?_, bel2, by omega⟩
          rw [HT.out]
          exact ⟨_, _, hM2, hMb2, fun q hq => HnF.out q hq, fun q hq => by rw [HFb.out q hq, bar_snoc, Hr.out]; simp⟩
        case measure => simp [intOf]; omega
      · have rq2 : ((rs a.r).toList == []) = false := by rw [rq]; simp [hr]
        have Hr : Hid _ := hr
        obtain ⟨w3, mu3, hMb3, hg3⟩ := hMb2.upd Yba.underlying112 (nm a.k) (.bool true)
        clear rq hr
        go_wp2
        go_roundw
        case rel =>
          have z3 := hg3.size
          refine ⟨k + 1, by omega, by go_num, by rw [HT.out, HTS.out], ?_, bel2.grown hg3 (by omega) (fun j hj => by cases hj; omega), by omega⟩
          rw [HT.out]
          refine ⟨_, _, hM2.of (hg3.block _ (by omega) (by simp)), hMb3, fun q hq => HnF.out q hq, fun q hq => ?_⟩
          rw [bar_snoc]
          have hr0 := Hr.out
          by_cases e : q = a.k
          · subst e; simp; exact .inr hr0
          · rw [if_neg (fun e2 => e (nm_inj hq ok1 e2)), HFb.out q hq]
            simp
            exact fun e2 => absurd e2.symm e
        case measure => simp [intOf]; omega
    · have hk2 : k = acs.length := by omega
      subst hk2
      rw [List.take_of_length_le (Nat.le_refl _)] at hS
      rw [List.take_of_length_le (Nat.le_refl _)]
      clear hk hlt
      as_aux_lemma =>
        rename World => v1
        obtain ⟨F, Fb, hM, hMb, hF, hFb⟩ := hS
        have HF : Hid _ := hF
        have HFb : Hid _ := hFb
        have hcur := h.below hbel hNs
        obtain ⟨es, clock, hb, hks, hst, hlook⟩ := hM
        have hlen : (Builtin.len_ #[111] 3 #[.map (some w.heap.size)]).run Yba.prog v1 = .ok (.int .i64 es.size) v1 := by
          simp [Builtin.len_, run_underlying Yba.underlying111, MapKept.run_getObj_map hb, Result.andThen, goInt]
        have hbA : (v1.alloc (.map #[] 0)).heap[w.heap.size]? = some (.map es clock) := (Below.heap_alloc _ _ _ (by omega)).trans hb
        have hrange : (Instr.range 111 (.map (some w.heap.size))).run Yba.prog (v1.alloc (.map #[] 0)) = .ok (.pointer (some ⟨v1.heap.size + 1, 0, none⟩)) ((v1.alloc (.map #[] 0)).alloc (.mapIter (some w.heap.size) clock #[] clock)) := by
          simp [Instr.range, run_underlying Yba.underlying111, MapKept.run_getObj_map hbA, Result.andThen]
        have Hlook : Hid _ := hlook
        have Hb : Hid _ := hb
        have HbA : Hid _ := hbA
        clear hF hFb hb hbA hlook
        go_wp2
        go_loopw [9] (fun _ wr2 => ∃ seen F', Iters es clock w.heap.size (v1.heap.size + 1) seen wr2 ∧ MapS wr2 v1.heap.size (.int .i64 0) F' ∧ Copied es F F' seen ∧ Below v1.heap.size v1 wr2 ∧ v1.heap.size + 2 ≤ wr2.heap.size) (fun _ wr2 => leftW es (v1.heap.size + 1) wr2)
        case atStart =>
          have e : (v1.alloc (Obj.map #[] 0)).heap.size = v1.heap.size + 1 := by simp
          refine ⟨#[], _, ⟨?_, (Below.heap_alloc _ _ _ (by rw [e]; omega)).trans HbA.out⟩, MapS.new ((Below.heap_alloc _ _ _ (by rw [e]; omega)).trans (heap_alloc_new v1 _)), ⟨fun e he h0 => by simp at h0, fun x => .inr rfl⟩, ((Below.refl _ _).alloc (Nat.le_refl _) _).alloc (by simp) _, by simp⟩
          have h1 := heap_alloc_new (v1.alloc (.map #[] 0)) (.mapIter (some w.heap.size) clock #[] clock)
          rw [e] at h1
          exact h1
        case round =>
          obtain ⟨seen, F', hit, hM', hcp, hb2, hs2⟩ := hrel
          have hbl := hbel.size
          rcases run_next_at (P := Yba.prog) wr 0 (v1.heap.size + 1) w.heap.size clock clock seen es clock hit.1 hit.2 hst.1 (Nat.le_refl _) with ⟨hl0, hrun⟩ | ⟨e, he, w1, hw1, hrun⟩
          · have hall := all_seen es seen hl0
            have hFF : ∀ x, F' x = F x := by
              intro x
              rcases hcp.2 x with h1 | h1
              · exact h1
              · rcases find_spec (.int .i64 0) x (.int .i64 0) es.toList 0 hks with ⟨j, e0, _, h2, h3, _⟩ | ⟨_, h2, _⟩
                · have hm := List.mem_of_getElem? h2
                  exact hcp.1 e0 hm (by simpa using hall e0 hm) x h3
                · rw [h1, ← Hlook.out x, h2]
            have hMS : MapS wr w.heap.size (.int .i64 0) F := ⟨es, clock, hit.2, hks, hst, Hlook.out⟩
            have hMH : MapS wr v1.heap.size (.int .i64 0) F := by
              obtain ⟨a1, a2, a3, a4, a5, a6⟩ := hM'
              exact ⟨a1, a2, a3, a4, a5, fun x => (a6 x).trans (hFF x)⟩
            have hMB := hMb.of (w' := wr) (hb2.block _ (by omega))
            have hbw := hbel.trans (hb2.mono hbl)
            clear hit hM' hcp hFF hall hl0 hks hst Hlook Hb HbA hlen hrange hMb hb2
            as_aux_lemma =>
              rename World => v2
              have hcur := h.below hbw hNs
              have d6 := (hbw.cell (p := ⟨m, 6, none⟩) hmw).trans c6
              have HC2 := hC.below hbw hNs
              have hHlt := hMH.lt
              have hneH : v1.heap.size ≠ w.heap.size := by omega
              have hneH1 : v1.heap.size ≠ w.heap.size + 1 := by omega
              go_wp2
              go_loopw [68] (fun i wr3 => ∃ k H', k ≤ gs.length ∧ i = .int .i64 k ∧ MapS wr3 v1.heap.size (.int .i64 0) H' ∧ (∀ q, q < 8 → H' (nm q) = .int .i64 (held acs (gs.take k) q)) ∧ MapS wr3 w.heap.size (.int .i64 0) F ∧ MapS wr3 (w.heap.size + 1) (.bool false) Fb ∧ Below w.heap.size w wr3 ∧ v1.heap.size < wr3.heap.size) (fun i _ => gs.length - (intOf i).toNat)
              case atStart => exact ⟨0, F, Nat.zero_le _, rfl, hMH, fun q hq => by rw [HF.out q hq]; rfl, hMS, hMB, hbw, hHlt⟩
              case round =>
                clear hcur d6 HC2 hMH hMS hMB hbw hHlt
                obtain ⟨k, H', hk, rfl, hMH, hH', hMS, hMB, hbw, hHlt⟩ := hrel
                by_cases hlt : k < gs.length
                · obtain ⟨g, hg⟩ : ∃ g, gs[k]? = some g := ⟨gs[k], List.getElem?_eq_getElem hlt⟩
                  obtain ⟨sls, hr1, hr2, hr3⟩ := hC.below hbw hNs
                  obtain ⟨⟨sa, sn, scap⟩, hsl⟩ : ∃ z, sls[k]? = some z := ⟨sls[k]'(by rw [hr2]; exact hlt), List.getElem?_eq_getElem (by rw [hr2]; exact hlt)⟩
                  obtain ⟨b, off, hx, hb, hc⟩ := hr1.at hsl
                  have y0 : wr.cell? ⟨b, off + k, none⟩ = some (.slice sa sn scap) := by have := hc 0 _ rfl; simpa using this
                  obtain ⟨hn, hrow⟩ := hr3 k _ g hsl hg
                  dsimp only at hn hrow
                  have hg64 : g.length ≤ 64 := hgl g (List.mem_of_getElem? hg)
                  have hgk : ∀ q ∈ g, q < 8 := hg8 g (List.mem_of_getElem? hg)
                  rw [hn] at y0
                  subst hx
                  have Hg : Hid _ := hg
                  have HH' : Hid _ := hH'
                  have hh : Hid _ := h
                  have hj0 : (0 : Int) ≤ (k : Int) := Int.natCast_nonneg _
                  have hj1 : (k : Int) < (gs.length : Int) := by omega
                  have oks := h.oks
                  clear hc hr1 hr2 hr3 hsl hg hH' hn hC
                  go_wp2
                  go_loop [13, 15, 74] (fun s _ i => ∃ j, j ≤ g.length ∧ i = .int .i64 j ∧ s = .int .i64 (gsum acs (g.take j))) (fun _ _ i => g.length - (intOf i).toNat)
                  case atStart => exact ⟨0, Nat.zero_le _, rfl, rfl⟩
                  case round =>
                    obtain ⟨j, hjl, rfl, rfl⟩ := hrel
                    by_cases hjt : j < g.length
                    · obtain ⟨q, hq⟩ : ∃ q, g[j]? = some q := ⟨g[j], List.getElem?_eq_getElem hjt⟩
                      have hq8 := hgk q (List.mem_of_getElem? hq)
                      obtain ⟨b5, o5, hx5, hb5, hc5⟩ := hrow.at hq
                      have y5 : wr.cell? ⟨b5, o5 + j, none⟩ = some (.string (nm q)) := by have := hc5 0 _ rfl; simpa using this
                      have lk := hMS.look Yba.underlying111 zero2 (nm q)
                      rw [HF.out q hq8] at lk
                      obtain ⟨u0, u1⟩ := shr_bd acs q oks
                      obtain ⟨s0, s1⟩ := gsum_bd acs oks (g.take j)
                      have s2 : gsum acs (g.take j) ≤ 281474976710656 := by
                        have hjl2 : (g.take j).length ≤ 64 := Nat.le_trans (List.length_take_le _ _) (by omega)
                        have e : (4294967295 * (acs.length : Int)) * ((g.take j).length : Int) ≤ (4294967295 * 1024) * 64 := Int.mul_le_mul (by omega) (by omega) (by omega) (by omega)
                        omega
                      have HS : Hid _ := gsum_snoc acs (g.take j) q
                      have HQ : Hid _ := take_snoc hq
                      subst hx5
                      have Hrow : Hid _ := hrow
                      have k0 : (0 : Int) ≤ (j : Int) := Int.natCast_nonneg _
                      have k1 : (j : Int) < (g.length : Int) := by omega
                      clear hc5 hq s1 hrow
                      go_wp2
                      go_round
                      case rel => exact ⟨j + 1, by omega, by go_num, by rw [HQ.out, HS.out]⟩
                      case measure => simp [intOf]; omega
                    · have hj2 : j = g.length := by omega
                      subst hj2
                      rw [List.take_of_length_le (Nat.le_refl _)]
                      clear hjl hjt
                      as_aux_lemma =>
                        rename World => v3
                        go_wp2
                        go_loopw [17, 86] (fun _ i wr4 => ∃ j H2, j ≤ g.length ∧ i = .int .i64 j ∧ MapS wr4 v1.heap.size (.int .i64 0) H2 ∧ (∀ q, q < 8 → H2 (nm q) = if q ∈ g.take j then .int .i64 (gsum acs g) else H' (nm q)) ∧ v3.grownBy wr4 (some v1.heap.size)) (fun _ i _ => g.length - (intOf i).toNat)
                        case atStart => exact ⟨0, H', Nat.zero_le _, rfl, hMH, fun q hq => by simp, ⟨rfl, rfl, rfl, Nat.le_refl _, fun _ _ _ => rfl⟩⟩
                        case round =>
                          obtain ⟨j, H2, hjl, rfl, hM2, hH2, hgr⟩ := hrel
                          by_cases hjt : j < g.length
                          · obtain ⟨q, hq⟩ : ∃ q, g[j]? = some q := ⟨g[j], List.getElem?_eq_getElem hjt⟩
                            have hq8 := hgk q (List.mem_of_getElem? hq)
                            obtain ⟨b5, o5, hx5, hb5, hc5⟩ := hrow.at hq
                            have y5 : wr.cell? ⟨b5, o5 + j, none⟩ = some (.string (nm q)) := by
                              have h5 := hc5 0 _ rfl
                              exact (hgr.cell_far ⟨b5, o5 + j, none⟩ (by show b5 < _; have := hbw.size; omega) (by simp; omega)).trans (by simpa using h5)
                            obtain ⟨w5, mu, hM5, hg5⟩ := hM2.upd Yba.underlying111 (nm q) (.int .i64 (gsum acs g))
                            have HQ : Hid _ := take_snoc hq
                            have HH2 : Hid _ := hH2
                            subst hx5
                            have k0 : (0 : Int) ≤ (j : Int) := Int.natCast_nonneg _
                            have k1 : (j : Int) < (g.length : Int) := by omega
                            have Hrow : Hid _ := hrow
                            clear hc5 hq hH2 hrow
                            go_wp2
                            go_roundw
                            case rel =>
                              refine ⟨j + 1, _, by omega, by go_num, hM5, fun p hp => ?_, hgr.trans hg5⟩
                              rw [HQ.out]
                              by_cases e : p = q
                              · subst e; simp
                              · rw [if_neg (fun e2 => e (nm_inj hp hq8 e2)), HH2.out p hp]
                                simp [e]
                            case measure => simp [intOf]; omega
                          · have hj2 : j = g.length := by omega
                            subst hj2
                            rw [List.take_of_length_le (Nat.le_refl _)] at hH2
                            have HH2 : Hid _ := hH2
                            clear hH2
                            go_wp2
                            go_roundw
                            case rel =>
                              refine ⟨k + 1, H2, by omega, by go_num, hM2, fun q hq => ?_, hMS.of (hgr.block _ (by have := hMS.lt; omega) (by simp; omega)), hMB.of (hgr.block _ (by have := hMB.lt; omega) (by simp; omega)), hbw.grown hgr (by have := hbw.size; omega) (fun j hj => by cases hj; omega), by have := hgr.size; omega⟩
                              rw [HH2.out q hq, HH'.out q hq, take_snoc Hg.out, held_snoc]
                              unfold heldStep
                              split <;> rfl
                            case measure => simp [intOf]; omega
                · have hk2 : k = gs.length := by omega
                  subst hk2
                  rw [List.take_of_length_le (Nat.le_refl _)] at hH'
                  clear hk hlt
                  as_aux_lemma =>
                    rename World => v3
                    have hcur := h.below hbw hNs
                    have d12 := hcur.c12
                    obtain ⟨v4, hmkb, hB0, hg4⟩ := make_bools v3 acs.length (by omega)
                    have b4 : Below v3.heap.size v3 v4 := (Below.refl _ _).grown hg4 (Nat.le_refl _) (by simp)
                    have hbw4 := hbw.trans (b4.mono hbw.size)
                    have d12' := (h.below hbw4 hNs).c12
                    have zw := hbw.size
                    have HH' : Hid _ := hH'
                    clear hH'
                    go_wp2
                    go_loopw [19, 20, 106] (fun _ _ i wr6 => ∃ k, k ≤ acs.length ∧ i = .int .i64 k ∧ Bools wr6 v3.heap.size v3.heap.size acs.length (fun i => if i < k then minB acs gs i else false) ∧ Below v3.heap.size v3 wr6) (fun _ _ i _ => acs.length - (intOf i).toNat)
                    case atStart => exact ⟨0, Nat.zero_le _, rfl, by simpa using hB0, b4⟩
                    case round =>
                      clear hcur d12 hmkb hB0 hg4 b4 hbw4 d12'
                      obtain ⟨k, hk, rfl, hB, hb6⟩ := hrel
                      have hbw6 := hbw.trans (hb6.mono zw)
                      have hg6 := hB.lt
                      by_cases hlt : k < acs.length
                      · obtain ⟨a, ha⟩ : ∃ a, acs[k]? = some a := ⟨acs[k], List.getElem?_eq_getElem hlt⟩
                        obtain ⟨ok1, ok2, ok3, ok4⟩ := h.oks a (List.mem_of_getElem? ha)
                        obtain ⟨b, off, hx, hb, hc⟩ := (h.rr.below hbw6 hNs).at ha
                        cases hx
                        have c0 : wr.cell? ⟨rg, k * 5, none⟩ = some (.string (nm a.k)) := by have := hc 0 _ rfl; simpa using this
                        have c1 : wr.cell? ⟨rg, k * 5 + 1, none⟩ = some (.string (nm a.k)) := by have := hc 1 _ rfl; simpa using this
                        have c2 : wr.cell? ⟨rg, k * 5 + 2, none⟩ = some (.int .i64 a.sh) := by have := hc 2 _ rfl; simpa using this
                        have c3 : wr.cell? ⟨rg, k * 5 + 3, none⟩ = some (.string (rs a.r)) := by have := hc 3 _ rfl; simpa using this
                        have c4 : wr.cell? ⟨rg, k * 5 + 4, none⟩ = some (.int .i64 0) := by have := hc 4 _ rfl; simpa using this
                        have l1 := fun o => (hMB.of (w' := wr.alloc o) ((Below.heap_alloc _ _ _ (by have := hMB.lt; omega)).trans (hb6.block _ hMB.lt))).look Yba.underlying112 zero4 (nm a.k)
                        have l2 := fun o => (hMH.of (w' := wr.alloc o) ((Below.heap_alloc _ _ _ (by have := hMH.lt; omega)).trans (hb6.block _ hMH.lt))).look Yba.underlying111 zero2 (nm a.k)
                        simp only [HFb.out a.k ok1] at l1
                        simp only [HH'.out a.k ok1] at l2
                        obtain ⟨t0, t1⟩ := tot_bd acs h.oks
                        obtain ⟨e0, e1⟩ := held_bd acs h.oks gs hgl ln a.k
                        have hmin : minB acs gs k = (!bar acs a.k && decide (0 < tot acs) && decide (held acs gs a.k ≤ (tot acs - 1) / 20)) := by unfold minB; rw [ha]
                        have Hmin : Hid _ := hmin
                        have fz := hB.frozen k
                        have kc := hB.cell hlt
                        have hj0 : (0 : Int) ≤ (k : Int) := Int.natCast_nonneg _
                        have hj1 : (k : Int) < (acs.length : Int) := by omega
                        have fin : ∀ v, v = minB acs gs k → ∀ o, Bools ((wr.setCell ⟨v3.heap.size, k, none⟩ (.bool v)).alloc o) v3.heap.size v3.heap.size acs.length (fun i => if i < k + 1 then minB acs gs i else false) := by
                          intro v hv o
                          refine ((hB.set k v).below ((Below.refl _ _).alloc (Nat.le_refl _) o)).congr (fun i hi => ?_)
                          by_cases e : i = k
                          · subst e; rw [if_pos rfl, if_pos (by omega), hv]
                          · by_cases e2 : i < k
                            · rw [if_neg e, if_pos e2, if_pos (by omega)]
                            · rw [if_neg e, if_neg e2, if_neg (by omega)]
                        have Hfin : Hid _ := fin
                        have hh : Hid _ := h
                        have ne : wr.heap.size ≠ v3.heap.size := by omega
                        clear hc ha hmin fin h
                        cases hba : bar acs a.k
                        · by_cases htp : 0 < tot acs
                          · simp only [hba] at l1
                            have Hba : Hid _ := hba
                            clear hba
                            go_wp2
                            go_roundw
                            case rel => exact ⟨k + 1, by omega, by go_num, Hfin.out _ (by rw [Hmin.out, Hba.out]; simp [htp]) _, (hb6.setCell (Nat.le_refl _) _).alloc (by simp; omega) _⟩
                            case measure => simp [intOf]; omega
                          · simp only [hba] at l1
                            have Hba : Hid _ := hba
                            clear hba
                            go_wp2
                            go_roundw
                            case rel => exact ⟨k + 1, by omega, by go_num, Hfin.out _ (by rw [Hmin.out, Hba.out]; rw [decide_eq_false (by omega : ¬ 0 < tot acs)]; simp) _, (hb6.setCell (Nat.le_refl _) _).alloc (by simp; omega) _⟩
                            case measure => simp [intOf]; omega
                        · simp only [hba] at l1
                          have Hba : Hid _ := hba
                          clear hba
                          go_wp2
                          go_roundw
                          case rel => exact ⟨k + 1, by omega, by go_num, Hfin.out _ (by rw [Hmin.out, Hba.out]; simp) _, (hb6.setCell (Nat.le_refl _) _).alloc (by simp; omega) _⟩
                          case measure => simp [intOf]; omega
                      · have hk2 : k = acs.length := by omega
                        subst hk2
                        go_wp2
                        go_ret
                        exact ⟨_, rfl, (hB.congr (fun i hi => by rw [if_pos hi])).mono zw, hbw6⟩
          · obtain ⟨hem, hns⟩ := mem_left he
            obtain ⟨x, hx⟩ := key_form (hks e hem)
            rw [hx] at hrun
            have hw1h : w1.heap = wr.heap := by rcases hw1 with rfl | rfl <;> rfl
            have hblk := MapKept.heap_set (w := w1) (r := v1.heap.size + 1) (o' := .mapIter (some w.heap.size) clock (seen.push e.born) clock) (by rw [hw1h]; exact hit.1)
            generalize hw2 : setBlock w1 (v1.heap.size + 1) (.mapIter (some w.heap.size) clock (seen.push e.born) clock) = w2 at hrun
            have g1 : w2.heap[v1.heap.size + 1]? = some (.mapIter (some w.heap.size) clock (seen.push e.born) clock) := by rw [← hw2]; exact hblk.1
            have g2 : ∀ b, b ≠ v1.heap.size + 1 → w2.heap[b]? = wr.heap[b]? := fun b hb => by rw [← hw2, ← hw1h]; exact hblk.2 b hb
            have g3 : wr.grownBy w2 (some (v1.heap.size + 1)) := by
              refine ⟨?_, ?_, ?_, ?_, fun b _ hb => g2 b (fun e => hb (by rw [e]))⟩
              · rw [← hw2]; rcases hw1 with rfl | rfl <;> rfl
              · rw [← hw2]; rcases hw1 with rfl | rfl <;> rfl
              · rw [← hw2]; rcases hw1 with rfl | rfl <;> rfl
              · rw [← hw2]; simp [setBlock, hw1h]
            have g4 : w2.heap[w.heap.size]? = some (.map es clock) := (g2 _ (by omega)).trans hit.2
            have hen := run_entry_at (P := Yba.prog) w2 (v1.heap.size + 1) w.heap.size clock seen es clock e g1 g4 hem hst.2.1
            rw [hx] at hen
            have hM2 := hM'.of (w' := w2) (g2 _ (by omega))
            obtain ⟨w3, mu, hM3, hg3⟩ := hM2.upd Yba.underlying111 x e.val
            have hval : e.val = F x := by rw [← Hlook.out x]; exact (look_mem hst.2.2 hem hx).symm
            have g5 : w3.heap[v1.heap.size + 1]? = some (.mapIter (some w.heap.size) clock (seen.push e.born) clock) := (hg3.block _ (Array.getElem?_eq_some_iff.1 g1).1 (by simp)).trans g1
            have g6 : w3.heap[w.heap.size]? = some (.map es clock) := (hg3.block _ (Array.getElem?_eq_some_iff.1 g4).1 (by simp; omega)).trans g4
            have hmeas : leftW es (v1.heap.size + 1) w3 < leftW es (v1.heap.size + 1) wr := by
              simp only [leftW, g5, hit.1]
              exact left_shrinks es seen e he
            have hbN : Below v1.heap.size v1 w3 := (hb2.grown g3 (by omega) (fun j hj => by cases hj; omega)).grown hg3 (by have := g3.size; omega) (fun j hj => by cases hj; exact Nat.le_refl _)
            have hsN : v1.heap.size + 2 ≤ w3.heap.size := by have := g3.size; have := hg3.size; omega
            have hcN : Copied es F (fun y => if y = x then e.val else F' y) (seen.push e.born) := by
              refine ⟨fun e' he' hb' y hy => ?_, fun y => ?_⟩
              · by_cases q : y = x
                · subst q; simp [hval]
                · dsimp only
                  rw [if_neg q]
                  rcases (by simpa using hb' : e'.born ∈ seen ∨ e'.born = e.born) with hb' | hb'
                  · exact hcp.1 e' he' hb' y hy
                  · have : e' = e := by
                      have h1 := find_born e' es.toList hst.2.1 he'
                      have h2 := find_born e es.toList hst.2.1 hem
                      rw [hb', h2] at h1
                      exact (Option.some.inj h1).symm
                    rw [this, hx] at hy
                    cases hy
                    exact absurd rfl q
              · by_cases q : y = x
                · subst q; exact .inl (by simp [hval])
                · simp only [if_neg q]; exact hcp.2 y
            have HR : Hid _ := And.intro (And.intro g5 g6) (And.intro hM3 (And.intro hcN (And.intro hbN hsN)))
            have Hmeas : Hid _ := hmeas
            clear hw2 hblk g1 g2 g3 g4 g5 g6 hval hcN hmeas hM2 hM3 hit hw1h hw1 he hns hx hbN hsN
            go_wp2
            go_roundw
            case rel => exact ⟨_, _, HR.out⟩
            case measure => exact Hmeas.out
end
end Go.Proofs.Ybulklvy
