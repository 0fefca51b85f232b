/-
  'AttendsOnsite', 'AttendsNetwork', 'Attends' (functions 19, 20, 13).
-/
import Derived.Test.YbulklvyBase
namespace Go.Proofs.Ybulklvy
open Go.ChangeShapes Go.WideShapes Go.ChangeAt Go.RowKit Go.Instr
set_option linter.unusedVariables false

/-- A meeting in memory: its cells in block m, what they lead to below block N. -/
structure MeetAt (w : World) (m N rg : Nat) (acs : List Ac) (listed minor : Bool) (ja jo jk jn : List Nat) (pa po pk pn : Option Addr) (ca co ck cn : Nat) : Prop where
  hm : m < N
  c4 : w.cell? ⟨m, 4, none⟩ = some (.bool minor)
  c12 : w.cell? ⟨m, 12, none⟩ = some (.slice (some ⟨rg, 0, none⟩) acs.length acs.length)
  c13 : w.cell? ⟨m, 13, none⟩ = some (.bool listed)
  c14 : w.cell? ⟨m, 14, none⟩ = some (.slice pa ja.length ca)
  c15 : w.cell? ⟨m, 15, none⟩ = some (.slice po jo.length co)
  c16 : w.cell? ⟨m, 16, none⟩ = some (.slice pn jn.length cn)
  c17 : w.cell? ⟨m, 17, none⟩ = some (.slice pk jk.length ck)
  rr : RowAt Ac.cells 5 N w (some ⟨rg, 0, none⟩) acs
  ra : RowAt atC 2 N w pa ja
  ro : RowAt blC 10 N w po jo
  rk : RowAt enC 4 N w pk jk
  rn : RowAt nwC 10 N w pn jn
  oks : ∀ a ∈ acs, a.ok
  ta : ∀ j ∈ ja, j < acs.length
  tq : ∀ j ∈ jo, j < acs.length
  tk : ∀ j ∈ jk, j < acs.length
  tn : ∀ j ∈ jn, j < acs.length
  ln : acs.length ≤ 1024
  la : ja.length ≤ 1024
  lo : jo.length ≤ 1024
  lk : jk.length ≤ 1024
  lN : jn.length ≤ 1024

section
variable {w w' : World} {m N rg : Nat} {acs : List Ac} {listed minor : Bool} {ja jo jk jn : List Nat} {pa po pk pn : Option Addr} {ca co ck cn : Nat}

theorem MeetAt.below (h : MeetAt w m N rg acs listed minor ja jo jk jn pa po pk pn ca co ck cn) {B : Nat} (hb : Below B w w') (hN : N ≤ B) : MeetAt w' m N rg acs listed minor ja jo jk jn pa po pk pn ca co ck cn :=
  have e : ∀ o, w'.cell? ⟨m, o, none⟩ = w.cell? ⟨m, o, none⟩ := fun o => hb.cell (p := ⟨m, o, none⟩) (Nat.lt_of_lt_of_le h.hm hN)
  ⟨h.hm, (e 4).trans h.c4, (e 12).trans h.c12, (e 13).trans h.c13, (e 14).trans h.c14, (e 15).trans h.c15, (e 16).trans h.c16, (e 17).trans h.c17,
   h.rr.below hb hN, h.ra.below hb hN, h.ro.below hb hN, h.rk.below hb hN, h.rn.below hb hN, h.oks, h.ta, h.tq, h.tk, h.tn, h.ln, h.la, h.lo, h.lk, h.lN⟩

/-- What has been marked: p was so before, and now also the first k of js. -/
def Marks (n : Nat) (p q : Nat → Bool) (js : List Nat) : Prop := ∀ i, i < n → (q i = true ↔ p i = true ∨ i ∈ js)

/-- A function's answer: n bools in new memory. -/
def RetBools (n : Nat) (q : Nat → Bool) (w : World) (e : Ending) (w' : World) : Prop := ∃ g, e = .returned (.slice (some ⟨g, 0, none⟩) n n) ∧ Bools w' w.heap.size g n q ∧ Below w.heap.size w w'

def roleAt (acs : List Ac) (i : Nat) : Nat := (acs[i]?.map Ac.r).getD 0
def onB (acs : List Ac) (listed : Bool) (ja jo jk : List Nat) (i : Nat) : Bool := (if listed then decide (i ∈ ja) else (decide (i ∈ jo) || decide (i ∈ jk))) && !decide (roleAt acs i = 1)
def netB (acs : List Ac) (jn : List Nat) (i : Nat) : Bool := decide (i ∈ jn) && !decide (roleAt acs i = 1)

theorem marks_start (n : Nat) (p : Nat → Bool) : Marks n p p [] := fun i _ => by simp
theorem marks_step {n : Nat} {p q : Nat → Bool} {js : List Nat} {k j : Nat} (h : Marks n p q (js.take k)) (hj : js[k]? = some j) : Marks n p (fun i => if i = j then true else q i) (js.take (k + 1)) := by
  intro i hi
  rw [take_snoc hj]
  have := h i hi
  by_cases e : i = j
  · subst e; simp
  · simp [e, this]

set_option maxRecDepth 100000 in
set_option maxHeartbeats 4000000 in
theorem onsite_any (h : MeetAt w m N rg acs listed minor ja jo jk jn pa po pk pn ca co ck cn) (hNs : N ≤ w.heap.size) :
    Calls Yba.prog 19 #[.pointer (some ⟨m, 0, none⟩)] w fun e w' => RetBools acs.length (onB acs listed ja jo jk) w e w' := by
  have c12 := h.c12
  have ln := h.ln
  have la := h.la
  have lo := h.lo
  have lk := h.lk
  have hmN := h.hm
  obtain ⟨wm, hmk, hB0, hg0⟩ := make_bools w acs.length (by omega)
  have bm : Below w.heap.size w wm := (Below.refl _ _).grown hg0 (Nat.le_refl _) (by simp)
  have hwm := h.below bm hNs
  have d13 := hwm.c13
  have d14 := hwm.c14
  have d15 := hwm.c15
  go_enter Yba.func19, Yba.ntmps19
  go_upto_if 21 with fail
  go_cut [] (fun wx => Hid (∃ q, Bools wx w.heap.size w.heap.size acs.length q ∧ Below w.heap.size w wx ∧ ∀ i, i < acs.length → (q i = true ↔ (if listed then i ∈ ja else i ∈ jo ∨ i ∈ jk))))
  case first => as_aux_lemma =>
    cases listed
    · go_wp2
      go_loopw [7, 41] (fun _ i wr => ∃ k q, k ≤ jo.length ∧ i = .int .i64 k ∧ Marks acs.length (fun _ => false) q (jo.take k) ∧ Bools wr w.heap.size w.heap.size acs.length q ∧ Below w.heap.size w wr) (fun _ i _ => jo.length - (intOf i).toNat)
      case atStart => exact ⟨0, _, Nat.zero_le _, rfl, marks_start _ _, hB0, bm⟩
      case round =>
        obtain ⟨k, q, hk, rfl, hq, hB, hbel⟩ := hrel
        have hg := hB.lt
        have hsz := hbel.size
        by_cases hlt : k < jo.length
        · obtain ⟨j, hj⟩ : ∃ j, jo[k]? = some j := ⟨jo[k], List.getElem?_eq_getElem hlt⟩
          have hjn : j < acs.length := h.tq j (List.mem_of_getElem? hj)
          obtain ⟨b, off, hx, hb, hc⟩ := (h.ro.below hbel hNs).at hj
          have c0 : wr.cell? ⟨b, off + k * 10, none⟩ = some (.int .i64 j) := hc 0 _ rfl
          have c1 : wr.cell? ⟨b, off + k * 10 + 1, none⟩ = some (.int .i64 0) := hc 1 _ rfl
          have c2 : wr.cell? ⟨b, off + k * 10 + 2, none⟩ = some (.int .i64 0) := hc 2 _ rfl
          have c3 : wr.cell? ⟨b, off + k * 10 + 3, none⟩ = some (.int .i64 0) := hc 3 _ rfl
          have c4 : wr.cell? ⟨b, off + k * 10 + 4, none⟩ = some (.int .i64 0) := hc 4 _ rfl
          have c5 : wr.cell? ⟨b, off + k * 10 + 5, none⟩ = some (.int .i64 0) := hc 5 _ rfl
          have c6 : wr.cell? ⟨b, off + k * 10 + 6, none⟩ = some (.bool false) := hc 6 _ rfl
          have c7 : wr.cell? ⟨b, off + k * 10 + 7, none⟩ = some (.int .i64 0) := hc 7 _ rfl
          have c8 : wr.cell? ⟨b, off + k * 10 + 8, none⟩ = some (.int .i64 0) := hc 8 _ rfl
          have c9 : wr.cell? ⟨b, off + k * 10 + 9, none⟩ = some (.int .i64 0) := hc 9 _ rfl
          have fz := hB.frozen j
          have kc := hB.cell hjn
          have hj0 : (0 : Int) ≤ (j : Int) := Int.natCast_nonneg _
          have hj1 : (j : Int) < (acs.length : Int) := by omega
          subst hx
          have Hj : Hid _ := hj
          have hh : Hid _ := h
          have ne : wr.heap.size ≠ w.heap.size := by omega
          clear hc hj h
          go_wp2
          go_roundw
          case rel =>
            refine ⟨k + 1, _, by omega, by go_num, marks_step hq Hj.out, (hB.set j true).below ((Below.refl _ _).alloc (Nat.le_refl _) _), (hbel.setCell (Nat.le_refl _) _).alloc (by simp; omega) _⟩
          case measure => simp [intOf]; omega
        · have hk2 : k = jo.length := by omega
          subst hk2
          rw [List.take_of_length_le (Nat.le_refl _)] at hq
          have hc := h.below hbel hNs
          have d17 := hc.c17
          have hB1 : Hid _ := hB
          have hb1 : Hid _ := hbel
          have hq1 : Hid _ := hq
          go_wp2
          clear hc d17
          go_loopw [9, 55] (fun _ i wr' => ∃ k q', k ≤ jk.length ∧ i = .int .i64 k ∧ Marks acs.length q q' (jk.take k) ∧ Bools wr' w.heap.size w.heap.size acs.length q' ∧ Below w.heap.size w wr') (fun _ i _ => jk.length - (intOf i).toNat)
          case atStart => exact ⟨0, _, Nat.zero_le _, rfl, marks_start _ _, hB, hbel⟩
          case round =>
            clear hB hbel hq hk hsz hg hlt
            rename World => wr
            obtain ⟨k, q, hk, rfl, hq, hB, hbel⟩ := hrel
            have hg := hB.lt
            have hsz := hbel.size
            by_cases hlt : k < jk.length
            · obtain ⟨j, hj⟩ : ∃ j, jk[k]? = some j := ⟨jk[k], List.getElem?_eq_getElem hlt⟩
              have hjn : j < acs.length := h.tk j (List.mem_of_getElem? hj)
              obtain ⟨b, off, hx, hb, hc⟩ := (h.rk.below hbel hNs).at hj
              have c0 : wr.cell? ⟨b, off + k * 4, none⟩ = some (.int .i64 j) := hc 0 _ rfl
              have c1 : wr.cell? ⟨b, off + k * 4 + 1, none⟩ = some (.string ⟨#[]⟩) := hc 1 _ rfl
              have c2 : wr.cell? ⟨b, off + k * 4 + 2, none⟩ = some (.slice none 0 0) := hc 2 _ rfl
              have c3 : wr.cell? ⟨b, off + k * 4 + 3, none⟩ = some (.int .i64 0) := hc 3 _ rfl
              have fz := hB.frozen j
              have kc := hB.cell hjn
              have hj0 : (0 : Int) ≤ (j : Int) := Int.natCast_nonneg _
              have hj1 : (j : Int) < (acs.length : Int) := by omega
              subst hx
              have Hj : Hid _ := hj
              have hh : Hid _ := h
              have ne : wr.heap.size ≠ w.heap.size := by omega
              clear hc hj h
              go_wp2
              go_roundw
              case rel =>
                refine ⟨k + 1, _, by omega, by go_num, marks_step hq Hj.out, (hB.set j true).below ((Below.refl _ _).alloc (Nat.le_refl _) _), (hbel.setCell (Nat.le_refl _) _).alloc (by simp; omega) _⟩
              case measure => simp [intOf]; omega
            · have hk2 : k = jk.length := by omega
              subst hk2
              rw [List.take_of_length_le (Nat.le_refl _)] at hq
              go_wp2
              go_meet
              case rel =>
                refine ⟨_, hB, hbel, fun i hi => ?_⟩
                have e1 := hq1.out i hi
                have e2 := hq i hi
                simp at e1 e2 ⊢
                rw [e2, e1]
    · go_wp2
      go_loopw [5, 27] (fun _ i wr => ∃ k q, k ≤ ja.length ∧ i = .int .i64 k ∧ Marks acs.length (fun _ => false) q (ja.take k) ∧ Bools wr w.heap.size w.heap.size acs.length q ∧ Below w.heap.size w wr) (fun _ i _ => ja.length - (intOf i).toNat)
      case atStart => exact ⟨0, _, Nat.zero_le _, rfl, marks_start _ _, hB0, bm⟩
      case round =>
        obtain ⟨k, q, hk, rfl, hq, hB, hbel⟩ := hrel
        have hg := hB.lt
        have hsz := hbel.size
        by_cases hlt : k < ja.length
        · obtain ⟨j, hj⟩ : ∃ j, ja[k]? = some j := ⟨ja[k], List.getElem?_eq_getElem hlt⟩
          have hjn : j < acs.length := h.ta j (List.mem_of_getElem? hj)
          obtain ⟨b, off, hx, hb, hc⟩ := (h.ra.below hbel hNs).at hj
          have c0 : wr.cell? ⟨b, off + k * 2, none⟩ = some (.int .i64 j) := hc 0 _ rfl
          have c1 : wr.cell? ⟨b, off + k * 2 + 1, none⟩ = some (.string ⟨#[]⟩) := hc 1 _ rfl
          have fz := hB.frozen j
          have kc := hB.cell hjn
          have hj0 : (0 : Int) ≤ (j : Int) := Int.natCast_nonneg _
          have hj1 : (j : Int) < (acs.length : Int) := by omega
          subst hx
          have Hj : Hid _ := hj
          have hh : Hid _ := h
          have ne : wr.heap.size ≠ w.heap.size := by omega
          clear hc hj h
          go_wp2
          go_roundw
          case rel =>
            refine ⟨k + 1, _, by omega, by go_num, marks_step hq Hj.out, (hB.set j true).below ((Below.refl _ _).alloc (Nat.le_refl _) _), (hbel.setCell (Nat.le_refl _) _).alloc (by simp; omega) _⟩
          case measure => simp [intOf]; omega
        · have hk2 : k = ja.length := by omega
          subst hk2
          rw [List.take_of_length_le (Nat.le_refl _)] at hq
          go_wp2
          go_meet
          case rel =>
            refine ⟨_, hB, hbel, fun i hi => ?_⟩
            have e1 := hq i hi
            simp at e1 ⊢
            exact e1
  case rest => as_aux_lemma =>
    obtain ⟨q0, hB1, hb1, hq0⟩ := hcut.out
    have hc := h.below hb1 hNs
    have f12 := hc.c12
    have Hq0 : Hid _ := hq0
    clear hcut hmk hB0 hg0 bm hwm d13 d14 d15 hq0
    go_wp2
    go_loopw [10, 11, 69] (fun _ _ i wr => ∃ k, k ≤ acs.length ∧ i = .int .i64 k ∧ Bools wr w.heap.size w.heap.size acs.length (fun i => if i < k then q0 i && !decide (roleAt acs i = 1) else q0 i) ∧ Below w.heap.size w wr) (fun _ _ i _ => acs.length - (intOf i).toNat)
    case atStart => exact ⟨0, Nat.zero_le _, rfl, by simpa using hB1, hb1⟩
    case round =>
      clear hB1 hb1 hc f12 c12
      obtain ⟨k, hk, rfl, hB, hbel⟩ := hrel
      have hsz := hbel.size
      by_cases hlt : k < acs.length
      · obtain ⟨a, ha⟩ : ∃ a, acs[k]? = some a := ⟨acs[k], List.getElem?_eq_getElem hlt⟩
        obtain ⟨ok1, ok2, ok3, ok4⟩ := h.oks a (List.mem_of_getElem? ha)
        obtain ⟨b, off, hx, hb, hc⟩ := (h.rr.below hbel hNs).at ha
        cases hx
        have c0 : wr.cell? ⟨rg, k * 5, none⟩ = some (.string (nm a.k)) := by have := hc 0 _ rfl; simpa using this
        have c1 : wr.cell? ⟨rg, k * 5 + 1, none⟩ = some (.string (nm a.k)) := by have := hc 1 _ rfl; simpa using this
        have c2 : wr.cell? ⟨rg, k * 5 + 2, none⟩ = some (.int .i64 a.sh) := by have := hc 2 _ rfl; simpa using this
        have c3 : wr.cell? ⟨rg, k * 5 + 3, none⟩ = some (.string (rs a.r)) := by have := hc 3 _ rfl; simpa using this
        have c4 : wr.cell? ⟨rg, k * 5 + 4, none⟩ = some (.int .i64 0) := by have := hc 4 _ rfl; simpa using this
        have hr : roleAt acs k = a.r := by simp [roleAt, ha]
        have rq := role_eqL a.r ok4
        have fz := hB.frozen k
        have kc := hB.cell hlt
        have hj0 : (0 : Int) ≤ (k : Int) := Int.natCast_nonneg _
        have hj1 : (k : Int) < (acs.length : Int) := by omega
        have ne : wr.heap.size ≠ w.heap.size := by have := hB.lt; omega
        have hg := hB.lt
        have hh : Hid _ := h
        have Hr : Hid _ := hr
        have step : ∀ (v : Nat → Bool), (∀ i, i < acs.length → v i = (if i < k + 1 then q0 i && !decide (roleAt acs i = 1) else q0 i)) → ∀ wx, Bools wx w.heap.size w.heap.size acs.length v → Bools wx w.heap.size w.heap.size acs.length (fun i => if i < k + 1 then q0 i && !decide (roleAt acs i = 1) else q0 i) := fun v hv wx hx => hx.congr hv
        clear hc ha h hr
        by_cases ht : a.r = 1
        · have rq2 : ((rs a.r).toList == [116, 114, 101, 97, 115, 117, 114, 121]) = true := by rw [rq]; simp [ht]
          have Ht : Hid _ := ht
          clear rq ht
          go_wp2
          go_roundw
          case rel =>
            refine ⟨k + 1, by omega, by go_num, step _ ?_ _ ((hB.set k false).below ((Below.refl _ _).alloc (Nat.le_refl _) _)), (hbel.setCell (Nat.le_refl _) _).alloc (by simp; omega) _⟩
            intro i hi
            by_cases e : i = k
            · subst e; simp [Hr.out, Ht.out]
            · by_cases e2 : i < k
              · rw [if_neg e, if_pos e2, if_pos (by omega)]
              · rw [if_neg e, if_neg e2, if_neg (by omega)]
          case measure => simp [intOf]; omega
        · have rq2 : ((rs a.r).toList == [116, 114, 101, 97, 115, 117, 114, 121]) = false := by rw [rq]; simp [ht]
          have Ht : Hid _ := ht
          clear rq ht
          go_wp2
          go_roundw
          case rel =>
            refine ⟨k + 1, by omega, by go_num, step _ ?_ _ (hB.below ((Below.refl _ _).alloc (Nat.le_refl _) _)), hbel.alloc (by omega) _⟩
            intro i hi
            by_cases e : i = k
            · subst e; simp [Hr.out]; exact fun _ => Ht.out
            · by_cases e2 : i < k
              · rw [if_pos e2, if_pos (by omega)]
              · rw [if_neg e2, if_neg (by omega)]
          case measure => simp [intOf]; omega
      · have hk2 : k = acs.length := by omega
        subst hk2
        go_wp2
        go_ret
        refine ⟨_, rfl, hB.congr (fun i hi => ?_), hbel⟩
        have e1 := Hq0.out i hi
        rw [if_pos hi]
        unfold onB
        congr 1
        cases listed
        · rw [Bool.eq_iff_iff, e1]; simp
        · rw [Bool.eq_iff_iff, e1]; simp

theorem set_alloc_new (w : World) (a : Addr) (v : Value) (cs : Array Value) (t : Nat) : ((w.setCell a v).alloc (.cells cs t)).cell? ⟨w.heap.size, 0, none⟩ = cs[0]? := by
  have e : (w.setCell a v).heap.size = w.heap.size := by simp [World.setCell]
  have h := heap_alloc_new (w.setCell a v) (.cells cs t)
  rw [e] at h
  simp only [World.cell?, h]
  rfl
theorem set_alloc_old (w : World) (a : Addr) (v : Value) (o : Obj) (b off : Nat) (h1 : b < w.heap.size) (h2 : b ≠ a.block) : ((w.setCell a v).alloc o).cell? ⟨b, off, none⟩ = w.cell? ⟨b, off, none⟩ := by
  have e : (w.setCell a v).heap.size = w.heap.size := by simp [World.setCell]
  exact (World.cell?_of_block (Below.heap_alloc _ _ _ (by rw [e]; exact h1))).trans (World.cell?_of_block (Below.heap_setCell _ _ _ _ h2))

set_option maxRecDepth 100000 in
set_option maxHeartbeats 4000000 in
theorem network_any (h : MeetAt w m N rg acs listed minor ja jo jk jn pa po pk pn ca co ck cn) (hNs : N ≤ w.heap.size) :
    Calls Yba.prog 20 #[.pointer (some ⟨m, 0, none⟩)] w fun e w' => RetBools acs.length (netB acs jn) w e w' := by
  have c12 := h.c12
  have ln := h.ln
  have lN := h.lN
  have hmN := h.hm
  obtain ⟨wm, hmk, hB0, hg0⟩ := make_bools w acs.length (by omega)
  have bm : Below w.heap.size w wm := (Below.refl _ _).grown hg0 (Nat.le_refl _) (by simp)
  have hwm := h.below bm hNs
  have d16 := hwm.c16
  go_enter Yba.func20, Yba.ntmps20
  go_wp2
  go_loopw [5, 17] (fun _ i wr => ∃ k q, k ≤ jn.length ∧ i = .int .i64 k ∧ (∀ i, i < acs.length → (q i = true ↔ i ∈ jn.take k ∧ ¬ roleAt acs i = 1)) ∧ Bools wr w.heap.size w.heap.size acs.length q ∧ Below w.heap.size w wr) (fun _ i _ => jn.length - (intOf i).toNat)
  case atStart => exact ⟨0, _, Nat.zero_le _, rfl, by simp, hB0, bm⟩
  case round =>
    clear hmk hB0 hg0 bm hwm d16 c12
    obtain ⟨k, q, hk, rfl, hq, hB, hbel⟩ := hrel
    have hg := hB.lt
    have hsz := hbel.size
    by_cases hlt : k < jn.length
    · obtain ⟨j, hj⟩ : ∃ j, jn[k]? = some j := ⟨jn[k], List.getElem?_eq_getElem hlt⟩
      have hjn : j < acs.length := h.tn j (List.mem_of_getElem? hj)
      obtain ⟨a, ha⟩ : ∃ a, acs[j]? = some a := ⟨acs[j], List.getElem?_eq_getElem hjn⟩
      obtain ⟨ok1, ok2, ok3, ok4⟩ := h.oks a (List.mem_of_getElem? ha)
      have hcur := h.below hbel hNs
      obtain ⟨b, off, hx, hb, hc⟩ := hcur.rn.at hj
      obtain ⟨b2, off2, hx2, hb2, hc2⟩ := hcur.rr.at ha
      cases hx2
      have c12 := hcur.c12
      have c0 : wr.cell? ⟨b, off + k * 10, none⟩ = some (.int .i64 j) := hc 0 _ rfl
      have c1 : wr.cell? ⟨b, off + k * 10 + 1, none⟩ = some (.int .i64 0) := hc 1 _ rfl
      have c2 : wr.cell? ⟨b, off + k * 10 + 2, none⟩ = some (.int .i64 0) := hc 2 _ rfl
      have c3 : wr.cell? ⟨b, off + k * 10 + 3, none⟩ = some (.int .i64 0) := hc 3 _ rfl
      have c4 : wr.cell? ⟨b, off + k * 10 + 4, none⟩ = some (.int .i64 0) := hc 4 _ rfl
      have c5 : wr.cell? ⟨b, off + k * 10 + 5, none⟩ = some (.int .i64 0) := hc 5 _ rfl
      have c6 : wr.cell? ⟨b, off + k * 10 + 6, none⟩ = some (.bool false) := hc 6 _ rfl
      have c7 : wr.cell? ⟨b, off + k * 10 + 7, none⟩ = some (.int .i64 0) := hc 7 _ rfl
      have c8 : wr.cell? ⟨b, off + k * 10 + 8, none⟩ = some (.int .i64 1) := hc 8 _ rfl
      have c9 : wr.cell? ⟨b, off + k * 10 + 9, none⟩ = some (.int .i64 0) := hc 9 _ rfl
      have r3 : wr.cell? ⟨rg, j * 5 + 3, none⟩ = some (.string (rs a.r)) := by have := hc2 3 _ rfl; simpa using this
      have rq := role_eqL a.r ok4
      have hr : roleAt acs j = a.r := by simp [roleAt, ha]
      have fz := hB.frozen j
      have kc := hB.cell hjn
      have hj0 : (0 : Int) ≤ (j : Int) := Int.natCast_nonneg _
      have hj1 : (j : Int) < (acs.length : Int) := by omega
      have ne : wr.heap.size ≠ w.heap.size := by omega
      have hmw : m < wr.heap.size := by omega
      have neM : m ≠ w.heap.size := by omega
      have neR : rg ≠ w.heap.size := by omega
      have k1 : ∀ (v : Value) (cs : Array Value) (t : Nat), ((wr.setCell ⟨w.heap.size, j, none⟩ v).alloc (.cells cs t)).cell? ⟨wr.heap.size, 0, none⟩ = cs[0]? := fun v cs t => set_alloc_new wr _ v cs t
      have k2 : ∀ (v : Value) (o : Obj) (b off : Nat), b < wr.heap.size → b ≠ w.heap.size → ((wr.setCell ⟨w.heap.size, j, none⟩ v).alloc o).cell? ⟨b, off, none⟩ = wr.cell? ⟨b, off, none⟩ := fun v o b off h1 h2 => set_alloc_old wr ⟨w.heap.size, j, none⟩ v o b off h1 h2
      have hrw : rg < wr.heap.size := by omega
      subst hx
      have Hj : Hid _ := hj
      have Hr : Hid _ := hr
      have Hq : Hid _ := hq
      have hh : Hid _ := h
      clear hc hc2 hj h hq hr hcur ha
      go_wp2
      go_region_held3 (fun w' => w'.cell? ⟨wr.heap.size, 0, none⟩ = some (.int .i64 j) ∧ w'.cell? ⟨m, 12, none⟩ = some (.slice (some ⟨rg, 0, none⟩) acs.length acs.length) ∧ w'.cell? ⟨rg, j * 5 + 3, none⟩ = some (.string (rs a.r)))
        (first
          | (go_split_ands
             refine ⟨by go_keep, by go_keep, by go_keep⟩)
          | (go_split_ands
             exact ⟨(k1 _ _ _).trans rfl, (k2 _ _ m 12 hmw neM).trans c12, (k2 _ _ rg (j * 5 + 3) hrw neR).trans r3⟩)) (fail)
      go_wp2
      go_roundw
      case rel =>
        refine ⟨k + 1, _, by omega, by go_num, ?_, Bools.below ((hB.set j _).below ((Below.refl _ _).alloc (Nat.le_refl _) _)) ((Below.refl _ _).drew), ((hbel.setCell (Nat.le_refl _) _).alloc (by simp; omega) _).drew⟩
        intro i hi
        rw [take_snoc Hj.out]
        have e1 := Hq.out i hi
        by_cases e : i = j
        · subst e; simp [Hr.out]
        · simp [e]; simpa using e1
      case measure => simp [intOf]; omega
    · have hk2 : k = jn.length := by omega
      subst hk2
      rw [List.take_of_length_le (Nat.le_refl _)] at hq
      have Hq : Hid _ := hq
      clear hq
      go_wp2
      go_ret
      refine ⟨_, rfl, hB.congr (fun i hi => ?_), hbel⟩
      rw [Bool.eq_iff_iff, Hq.out i hi]
      simp [netB]

def attB (acs : List Ac) (listed : Bool) (ja jo jk jn : List Nat) (i : Nat) : Bool := onB acs listed ja jo jk i || netB acs jn i

set_option maxRecDepth 100000 in
set_option maxHeartbeats 4000000 in
theorem attends_any (h : MeetAt w m N rg acs listed minor ja jo jk jn pa po pk pn ca co ck cn) (hNs : N ≤ w.heap.size) :
    Calls Yba.prog 13 #[.pointer (some ⟨m, 0, none⟩)] w fun e w' => RetBools acs.length (attB acs listed ja jo jk jn) w e w' := by
  have ln := h.ln
  have C1 : Hid _ := onsite_any h hNs
  have C2 : Hid (∀ w', Below w.heap.size w w' → Calls Yba.prog 20 #[.pointer (some ⟨m, 0, none⟩)] w' fun e w'' => RetBools acs.length (netB acs jn) w' e w'') := fun w' hb => network_any (h.below hb hNs) (Nat.le_trans hNs hb.size)
  generalize hO : onB acs listed ja jo jk = qo at C1
  generalize hQ : netB acs jn = qn at C2
  have HO : Hid _ := hO
  have HQ : Hid _ := hQ
  clear hO hQ h
  go_enter Yba.func13, Yba.ntmps13
  go_wp2_with fail
  refine Calls.mono (Hid.out C1) ?_
  rintro e w1 ⟨g1, rfl, B1, b1⟩
  go_wp2_with fail
  refine Calls.mono (Hid.out C2 _ b1) ?_
  rintro e w2 ⟨g2, rfl, B2, b2⟩
  have L0 := B1.lt
  have B1 := B1.below b2
  have L2 := B2.lt
  have z1 := b1.size
  have ne : g2 ≠ g1 := by omega
  have bw := b1.trans (b2.mono z1)
  go_wp2
  go_loopw [4, 5, 11] (fun _ _ i wr => ∃ k, k ≤ acs.length ∧ i = .int .i64 k ∧ Bools wr w.heap.size g1 acs.length (fun i => if i < k then qo i || qn i else qo i) ∧ Bools wr w1.heap.size g2 acs.length qn ∧ Below w.heap.size w wr) (fun _ _ i _ => acs.length - (intOf i).toNat)
  case atStart => exact ⟨0, Nat.zero_le _, rfl, by simpa using B1, B2, bw⟩
  case round =>
    clear B1 B2 bw L2
    obtain ⟨k, hk, rfl, B1, B2, bw⟩ := hrel
    by_cases hlt : k < acs.length
    · have x1 := B1.cell hlt
      have x2 := B2.cell hlt
      have fz := B1.frozen k
      have hj0 : (0 : Int) ≤ (k : Int) := Int.natCast_nonneg _
      have hj1 : (k : Int) < (acs.length : Int) := by omega
      rw [if_neg (Nat.lt_irrefl k)] at x1
      have fin : ∀ v, (v = (qo k || qn k)) → Bools (wr.setCell ⟨g1, k, none⟩ (.bool v)) w.heap.size g1 acs.length (fun i => if i < k + 1 then qo i || qn i else qo i) ∧ Bools (wr.setCell ⟨g1, k, none⟩ (.bool v)) w1.heap.size g2 acs.length qn := by
        intro v hv
        refine ⟨(B1.set k v).congr (fun i hi => ?_), B2.block (Below.heap_setCell _ _ _ _ ne)⟩
        by_cases e : i = k
        · subst e; rw [if_pos rfl, if_pos (by omega), hv]
        · by_cases e2 : i < k
          · rw [if_neg e, if_pos e2, if_pos (by omega)]
          · rw [if_neg e, if_neg e2, if_neg (by omega)]
      have Hf : Hid _ := fin
      clear fin
      cases hqo : qo k
      all_goals
        rw [hqo] at x1 Hf
        clear hqo
        go_wp2
        go_roundw
        case rel =>
          have f := Hf.out _ rfl
          exact ⟨k + 1, by omega, by go_num, by simpa using f.1, by simpa using f.2, bw.setCell (p := ⟨g1, k, none⟩) L0.1 _⟩
        case measure => simp [intOf]; omega
    · have hk2 : k = acs.length := by omega
      subst hk2
      go_wp2
      go_ret
      refine ⟨_, rfl, B1.congr (fun i hi => ?_), bw⟩
      rw [if_pos hi, attB, HO.out, HQ.out]
end
end Go.Proofs.Ybulklvy
