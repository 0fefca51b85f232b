/-
  'surplus' (12), 'roomWanted' (14), 'dequeue' (13), 'takeQueued' (6).
-/
import Derived.Test.YbulklwmLone
import Derived.WalkSpells
import Derived.Deep.QuietTactic
import Derived.BigQuiet
namespace Go.Proofs.Ybulklwm
open Go.ChangeShapes Go.WideShapes Go.ChangeAt Go.RowKit Go.Instr Go.Conc Go.MuLone
set_option linter.unusedVariables false

/-- The core's cells that the road reads. -/
structure Cor (w : World) (c : Nat) (cp rn lv wt qd : Int) (qv : Value) (mu : Int) : Prop where
  c13 : w.cell? ⟨c, 13, none⟩ = some (.int .i64 cp)
  c15 : w.cell? ⟨c, 15, none⟩ = some qv
  c146 : w.cell? ⟨c, 146, none⟩ = some (.int .i32 mu)
  c149 : w.cell? ⟨c, 149, none⟩ = some (.int .u32 0)
  c150 : w.cell? ⟨c, 150, none⟩ = some (.int .u32 0)
  c154 : w.cell? ⟨c, 154, none⟩ = some (.int .u64 0)
  c168 : w.cell? ⟨c, 168, none⟩ = some (.int .i64 lv)
  c169 : w.cell? ⟨c, 169, none⟩ = some (.int .i64 rn)
  c170 : w.cell? ⟨c, 170, none⟩ = some (.int .i64 wt)
  c171 : w.cell? ⟨c, 171, none⟩ = some (.int .i64 qd)
  fz : ∀ j, w.frozen? ⟨c, j, none⟩ = false
  b1 : -128 ≤ cp ∧ cp ≤ 127
  b2 : 0 ≤ rn ∧ rn ≤ 255
  b3 : 0 ≤ lv ∧ lv ≤ 255
  b4 : 0 ≤ wt ∧ wt ≤ 255
  b5 : 0 ≤ qd ∧ qd ≤ 64

theorem cell_heap {w w' : World} {b : Nat} (h : w'.heap[b]? = w.heap[b]?) (j : Nat) : w'.cell? ⟨b, j, none⟩ = w.cell? ⟨b, j, none⟩ := by simp [World.cell?, h]
theorem frozen_heap {w w' : World} {b : Nat} (h : w'.heap[b]? = w.heap[b]?) (j : Nat) : w'.frozen? ⟨b, j, none⟩ = w.frozen? ⟨b, j, none⟩ := by simp [World.frozen?, h]
theorem chan_other (w : World) (c c' cap : Nat) (buf : Array Value) (closed : Bool) (s r : Nat) (tm : Bool) (h : c' ≠ c) : (w.setChan c cap buf closed s r tm).heap[c']? = w.heap[c']? := by
  simp [World.setChan, Array.getElem?_setIfInBounds_ne (Ne.symm h)]
theorem Cor.of {w w' : World} {c : Nat} {cp rn lv wt qd mu : Int} {qv : Value} (K : Cor w c cp rn lv wt qd qv mu) (h : w'.heap[c]? = w.heap[c]?) : Cor w' c cp rn lv wt qd qv mu :=
  ⟨(cell_heap h _).trans K.c13, (cell_heap h _).trans K.c15, (cell_heap h _).trans K.c146, (cell_heap h _).trans K.c149, (cell_heap h _).trans K.c150, (cell_heap h _).trans K.c154, (cell_heap h _).trans K.c168, (cell_heap h _).trans K.c169, (cell_heap h _).trans K.c170, (cell_heap h _).trans K.c171, fun j => (frozen_heap h j).trans (K.fz j), K.b1, K.b2, K.b3, K.b4, K.b5⟩

theorem Cor.setQd {w : World} {c : Nat} {cp rn lv wt qd mu : Int} {qv : Value} (K : Cor w c cp rn lv wt qd qv mu) (q : Int) (h0 : 0 ≤ q) (h1 : q ≤ 64) : Cor (w.setCell ⟨c, 171, none⟩ (.int .i64 q)) c cp rn lv wt q qv mu :=
  ⟨(World.cell?_setCell_other _ ⟨c, 171, none⟩ ⟨c, 13, none⟩ _ (by simp)).trans K.c13, (World.cell?_setCell_other _ ⟨c, 171, none⟩ ⟨c, 15, none⟩ _ (by simp)).trans K.c15, (World.cell?_setCell_other _ ⟨c, 171, none⟩ ⟨c, 146, none⟩ _ (by simp)).trans K.c146, (World.cell?_setCell_other _ ⟨c, 171, none⟩ ⟨c, 149, none⟩ _ (by simp)).trans K.c149, (World.cell?_setCell_other _ ⟨c, 171, none⟩ ⟨c, 150, none⟩ _ (by simp)).trans K.c150, (World.cell?_setCell_other _ ⟨c, 171, none⟩ ⟨c, 154, none⟩ _ (by simp)).trans K.c154, (World.cell?_setCell_other _ ⟨c, 171, none⟩ ⟨c, 168, none⟩ _ (by simp)).trans K.c168, (World.cell?_setCell_other _ ⟨c, 171, none⟩ ⟨c, 169, none⟩ _ (by simp)).trans K.c169, (World.cell?_setCell_other _ ⟨c, 171, none⟩ ⟨c, 170, none⟩ _ (by simp)).trans K.c170, World.cell?_setCell_same _ ⟨c, 171, none⟩ _ K.c171, fun j => by simp [K.fz], K.b1, K.b2, K.b3, K.b4, h0, h1⟩
theorem heap_other (w : World) (p : Addr) (v : Value) (b : Nat) (h : b ≠ p.block) : (w.setCell p v).heap[b]? = w.heap[b]? := heap_setCell_other _ _ _ _ h
theorem drewN_heap (w : World) (n b : Nat) : (w.drewN n).heap[b]? = w.heap[b]? := rfl
theorem below_drewN (B : Nat) (w : World) (n : Nat) : Below B w (w.drewN n) := ⟨rfl, rfl, rfl, Nat.le_refl _, fun _ _ => rfl⟩
/-- What the law looks at behind 'takeQueued'. -/
structure Aft (w : World) (c wk ch cap s r : Nat) (buf : Array Value) (x qd mu : Int) : Prop where
  c15 : w.cell? ⟨c, 15, none⟩ = some (.chan (some ch))
  c146 : w.cell? ⟨c, 146, none⟩ = some (.int .i32 mu)
  c171 : w.cell? ⟨c, 171, none⟩ = some (.int .i64 qd)
  fz : ∀ j, w.frozen? ⟨c, j, none⟩ = false
  hb : w.heap[ch]? = some (.chan cap buf false s r false)
  t0 : w.cell? ⟨wk, 0, none⟩ = some (.int .i64 x)

/-- The innermost 'region n; rest'. -/
def tailAt (n : Nat) : Code → Option Code
  | .seq (.region id ops d) b => if id = n then some (.seq (.region id ops d) b) else tailAt n b
  | .seq a b => match tailAt n a with
    | some c => some c
    | none => tailAt n b
  | .block _ c => tailAt n c
  | .loop c => tailAt n c
  | .scope c => tailAt n c
  | .cond _ a b => match tailAt n a with
    | some c => some c
    | none => tailAt n b
  | _ => none

theorem eq_chan_some (ch : Nat) (w : World) : (binOp .eql 42 (.chan (some ch)) (.chan none)).run Yba.prog w = .ok (.bool false) w := by kernel_rfl
theorem eq_chan_none (w : World) : (binOp .eql 42 (.chan none) (.chan none)).run Yba.prog w = .ok (.bool true) w := by kernel_rfl
attribute [local go_sem] eq_chan_some eq_chan_none

def sur (cp rn lv : Int) : Int := if cp < 0 then 0 else max (rn - cp - lv) 0

section
variable {w : World} {c : Nat} {cp rn lv wt qd mu : Int} {qv : Value}

set_option maxRecDepth 100000 in
theorem surplus_any (K : Cor w c cp rn lv wt qd qv mu) : Calls Yba.prog 12 #[.pointer (some ⟨c, 0, none⟩)] w fun e w' => e = .returned (.int .i64 (sur cp rn lv)) ∧ ∃ n, w' = w.drewN n := by
  have h13 := K.c13
  have h168 := K.c168
  have h169 := K.c169
  obtain ⟨p1, p2⟩ := K.b1
  obtain ⟨q1, q2⟩ := K.b2
  obtain ⟨r1, r2⟩ := K.b3
  clear K
  go_enter Yba.func12, Yba.ntmps12
  by_cases hn : cp < 0
  · go_wp2_with (go_at_call 9; refine (load_any _ _ _ h13).mono ?_; rintro e w' ⟨rfl, rfl⟩)
    go_ret
    exact ⟨by simp [sur, hn], 0, rfl⟩
  · go_wp2_with (go_at_call 9; refine (load_any _ _ _ h13).mono ?_; rintro e w' ⟨rfl, rfl⟩)
    go_quiet (refine Calls.quiet_of_same (load_any _ _ _ h169))
    go_wp2
    · go_ret
      refine ⟨?_, nq, rfl⟩
      rw [show sur cp rn lv = 0 by unfold sur; rw [if_neg (by omega)]; omega]
      rfl
    · go_ret
      refine ⟨?_, nq, rfl⟩
      rw [show sur cp rn lv = rn - cp - lv by unfold sur; rw [if_neg (by omega)]; omega]
      rfl

set_option maxRecDepth 100000 in
theorem room_any {ch cap s r : Nat} {buf : Array Value} (K : Cor w c cp rn lv wt qd (.chan (some ch)) mu) (hc : w.heap[ch]? = some (.chan cap buf false s r false)) (hcap : cap ≤ 64) : Calls Yba.prog 14 #[.pointer (some ⟨c, 0, none⟩)] w fun e w' => ∃ b n, e = .returned (.bool b) ∧ w' = w.drewN n := by
  have h15 := K.c15
  have h170 := K.c170
  have h171 := K.c171
  obtain ⟨p1, p2⟩ := K.b4
  obtain ⟨q1, q2⟩ := K.b5
  have hk := fun n ty => run_cap_chan (P := Yba.prog) (w := w.drewN n) 42 ty Yba.underlying42 hc
  clear K hc
  go_enter Yba.func14, Yba.ntmps14
  by_cases hn : 0 < wt
  · go_wp2
    go_quiet (first | exact Calls.quiet_of_same (load_any _ _ _ h170) | exact Calls.quiet_of_same (load_any _ _ _ h171))
    go_wp2
    go_ret
    exact ⟨_, nq, rfl, rfl⟩
  · obtain rfl : wt = 0 := by omega
    go_wp2
    go_quiet (first | exact Calls.quiet_of_same (load_any _ _ _ h170) | exact Calls.quiet_of_same (load_any _ _ _ h171))
    go_wp2
    go_ret
    exact ⟨_, nq, rfl, rfl⟩

set_option maxRecDepth 100000 in
/-- 'dequeue' where the queue holds something. -/
theorem dequeue_take {ch cap s r : Nat} {buf : Array Value} {x : Int} (K : Cor w c cp rn lv wt qd (.chan (some ch)) mu) (hc : w.heap[ch]? = some (.chan cap buf false s r false)) (hne : c ≠ ch) (hb : 0 < buf.size) (hx : buf.getD 0 undef = .int .i64 x) (hq : 0 < qd) :
    Calls Yba.prog 13 #[.pointer (some ⟨c, 0, none⟩)] w fun e w' => e = .returned (.tuple #[.int .i64 x, .bool true]) ∧ w' = (w.setChan ch cap (buf.extract 1 buf.size) false s (r + 1) false).setCell ⟨c, 171, none⟩ (.int .i64 (qd - 1)) := by
  have h15 := K.c15
  refine calls_of_wpN Yba.func13 rfl (fun _ _ h => ⟨_, h.1⟩) ?_
  simp only [Yba.ntmps13, List.size_toArray, List.length_cons, List.length_nil, Nat.reduceAdd, Nat.reduceSub, Array.replicate_succ, Array.replicate_zero, List.push_toArray, List.append_toArray, List.nil_append, List.cons_append]
  refine wpN.seq (wpN.of ?_)
  go_wp2
  refine wpN.seq (wpN.of ?_)
  go_wp2
  refine wpN.seq (wpN.region ?_)
  show runS _ _ _ [0, 1, 2] _ _
  refine ⟨_, rfl, rfl, .inr (.inr (.inl ⟨ch, .int .i64 0, cap, buf, s, r, by simp [go_sem, execOp, rcase, Act.eval], hc, hb, ?_⟩))⟩
  have K2 := K.of (chan_other w ch c cap (buf.extract 1 buf.size) false s (r + 1) false hne)
  rw [hx]
  generalize w.setChan ch cap (buf.extract 1 buf.size) false s (r + 1) false = w2 at K2 ⊢
  have h171 := K2.c171
  have z171 := K2.fz 171
  obtain ⟨q1, q2⟩ := K2.b5
  refine ⟨_, rfl, rfl, .inl ⟨.int .i64 0, by simp [go_sem, execOp, Act.eval, Act.put, goInt], ?_⟩⟩
  refine ⟨_, rfl, rfl, .inl ⟨.bool true, by simp [go_sem, execOp, Act.eval, Act.put], ?_⟩⟩
  clear K K2 hc hx
  walk_nrm
  simp only [runS, Exit.then]
  refine wpN.of ?_
  go_wp2_with (go_at_call 24; refine (sub_any _ _ _ h171 z171 hq (by omega)).mono ?_; rintro e w' ⟨rfl, rfl⟩)
  refine bodyPost_ret (results_tmp2 rfl _ _ _) rfl ⟨rfl, rfl⟩

set_option maxRecDepth 100000 in
/-- 'dequeue' where the queue is empty. -/
theorem dequeue_none {ch cap s r : Nat} (K : Cor w c cp rn lv wt qd (.chan (some ch)) mu) (hc : w.heap[ch]? = some (.chan cap #[] false s r false)) :
    Calls Yba.prog 13 #[.pointer (some ⟨c, 0, none⟩)] w fun e w' => e = .returned (.tuple #[.int .i64 0, .bool false]) ∧ w' = w := by
  have h15 := K.c15
  refine calls_of_wpN Yba.func13 rfl (fun _ _ h => ⟨_, h.1⟩) ?_
  simp only [Yba.ntmps13, List.size_toArray, List.length_cons, List.length_nil, Nat.reduceAdd, Nat.reduceSub, Array.replicate_succ, Array.replicate_zero, List.push_toArray, List.append_toArray, List.nil_append, List.cons_append]
  refine wpN.seq (wpN.of ?_)
  go_wp2
  refine wpN.seq (wpN.of ?_)
  go_wp2
  refine wpN.seq (wpN.region ?_)
  show runS _ _ _ [0, 1, 2] _ _
  refine ⟨_, rfl, rfl, .inr (.inr (.inr ⟨ch, .int .i64 0, cap, s, r, by simp [go_sem, execOp, rcase, Act.eval], hc, ?_⟩))⟩
  refine ⟨_, rfl, rfl, .inl ⟨.int .i64 (-1), by simp [go_sem, execOp, Act.eval, Act.put, goInt], ?_⟩⟩
  refine ⟨_, rfl, rfl, .inl ⟨.bool false, by simp [go_sem, execOp, Act.eval, Act.put], ?_⟩⟩
  clear K hc
  walk_nrm
  simp only [runS, Exit.then]
  refine wpN.of ?_
  go_wp2
  refine bodyPost_ret (results_tmp2 rfl _ _ _) rfl ⟨rfl, rfl⟩

set_option maxRecDepth 100000 in
set_option maxHeartbeats 2000000 in
/-- 'takeQueued' where it takes. -/
theorem take_yes {ch cap s r wk : Nat} {buf : Array Value} {x : Int} {u : Value} (K : Cor w c cp rn lv wt qd (.chan (some ch)) 1) (hc : w.heap[ch]? = some (.chan cap buf false s r false)) (h1 : c ≠ ch) (h2 : c ≠ wk) (h3 : ch ≠ wk) (hb : 0 < buf.size) (hx : buf.getD 0 undef = .int .i64 x) (hq : 0 < qd) (hcap : cap ≤ 64)
    (hs : sur cp rn lv = 0) (ht : w.cell? ⟨wk, 0, none⟩ = some u) (hf : w.frozen? ⟨wk, 0, none⟩ = false) :
    Calls Yba.prog 6 #[.pointer (some ⟨c, 0, none⟩), .pointer (some ⟨wk, 0, none⟩)] w fun e w' => e = .returned (.bool true) ∧ Aft w' c wk ch cap s (r + 1) (buf.extract 1 buf.size) x (qd - 1) 0 ∧ ∀ B, B ≤ c → B ≤ ch → B ≤ wk → Below B w w' := by
  have h15 := K.c15
  have q5 := K.b5
  go_enter Yba.func6, Yba.ntmps6
  go_wp2_with fail
  refine (surplus_any K).mono ?_
  rintro e w1 ⟨rfl, n1, e1⟩
  rw [hs]
  have hh1 : ∀ b : Nat, w1.heap[b]? = w.heap[b]? := fun b => by rw [e1]; rfl
  have K1 := K.of (hh1 c)
  have hc1 := (hh1 ch).trans hc
  have bel1 : ∀ B, Below B w w1 := fun B => by rw [e1]; exact below_drewN B w n1
  clear e1
  go_wp2_with fail
  refine (dequeue_take K1 hc1 h1 hb hx hq).mono ?_
  rintro e w2 ⟨rfl, e2⟩
  have K2 : Cor w2 c cp rn lv wt (qd - 1) (.chan (some ch)) 1 := by rw [e2]; exact (K1.of (chan_other _ _ _ _ _ _ _ _ _ h1)).setQd (qd - 1) (by omega) (by omega)
  have lt : ch < w1.heap.size := (Array.getElem?_eq_some_iff.1 hc1).1
  have hc2 : w2.heap[ch]? = some (.chan cap (buf.extract 1 buf.size) false s (r + 1) false) := by rw [e2]; exact (heap_other _ ⟨c, 171, none⟩ _ ch (Ne.symm h1)).trans (heap_setChan _ _ _ _ _ _ _ _ lt)
  have hh2 : w2.heap[wk]? = w.heap[wk]? := by rw [e2]; exact (heap_other _ ⟨c, 171, none⟩ _ wk (Ne.symm h2)).trans ((chan_other _ _ _ _ _ _ _ _ _ (Ne.symm h3)).trans (hh1 wk))
  have t2 : w2.cell? ⟨wk, 0, none⟩ = some u := (cell_heap hh2 0).trans ht
  have f2 : w2.frozen? ⟨wk, 0, none⟩ = false := (frozen_heap hh2 0).trans hf
  have bel2 : ∀ B, B ≤ c → B ≤ ch → Below B w w2 := fun B b1 b2 => by rw [e2]; exact (below_setChan (bel1 B) b2 _ _ _ _ _ _).setCell (p := ⟨c, 171, none⟩) b1 _
  have HK : Hid _ := K2
  have HB : Hid _ := bel2
  have HC : Hid _ := hc2
  clear K K1 hc hc1 hh1 bel1 bel2 K2 hc2 e2 hh2 h15 ht hf
  go_wp2_with fail
  have K3 : Cor (w2.setCell ⟨wk, 0, none⟩ (.int .i64 x)) c cp rn lv wt (qd - 1) (.chan (some ch)) 1 := HK.out.of (heap_other _ ⟨wk, 0, none⟩ _ c h2)
  have hc3 : (w2.setCell ⟨wk, 0, none⟩ (.int .i64 x)).heap[ch]? = some (.chan cap (buf.extract 1 buf.size) false s (r + 1) false) := (heap_other _ ⟨wk, 0, none⟩ _ ch h3).trans HC.out
  have t3 : (w2.setCell ⟨wk, 0, none⟩ (.int .i64 x)).cell? ⟨wk, 0, none⟩ = some (.int .i64 x) := World.cell?_setCell_same _ ⟨wk, 0, none⟩ _ t2
  refine (room_any K3 hc3 hcap).mono ?_
  rintro e w3 ⟨b, n3, rfl, e3⟩
  have hh3 : ∀ b : Nat, w3.heap[b]? = (w2.setCell ⟨wk, 0, none⟩ (.int .i64 x)).heap[b]? := fun b => by rw [e3]; rfl
  have K4 := K3.of (hh3 c)
  have hc4 := (hh3 ch).trans hc3
  have t4 := (cell_heap (hh3 wk) 0).trans t3
  have bel4 : ∀ B, B ≤ c → B ≤ ch → B ≤ wk → Below B w w3 := fun B b1 b2 b3 => by rw [e3]; exact ((HB.out B b1 b2).setCell (p := ⟨wk, 0, none⟩) b3 _).trans (below_drewN B _ n3)
  clear K3 hc3 t3 HK HB HC hh3 e3
  cases b
  · go_wp2_with fail
    refine (unlock_held muLib ⟨c, 146, none⟩ w3 K4.c146 (K4.fz 146)).mono ?_
    rintro e w4 ⟨rfl, e4⟩
    have A : Aft w4 c wk ch cap s (r + 1) (buf.extract 1 buf.size) x (qd - 1) 0 := by
      rw [e4]
      exact ⟨(World.cell?_setCell_other _ ⟨c, 146, none⟩ ⟨c, 15, none⟩ _ (by simp)).trans K4.c15, World.cell?_setCell_same _ ⟨c, 146, none⟩ _ K4.c146, (World.cell?_setCell_other _ ⟨c, 146, none⟩ ⟨c, 171, none⟩ _ (by simp)).trans K4.c171, fun j => by simp [K4.fz], (heap_other _ ⟨c, 146, none⟩ _ ch (Ne.symm h1)).trans hc4, (cell_heap (heap_other _ ⟨c, 146, none⟩ _ wk (Ne.symm h2)) 0).trans t4⟩
    have bel5 : ∀ B, B ≤ c → B ≤ ch → B ≤ wk → Below B w w4 := fun B b1 b2 b3 => by rw [e4]; exact (bel4 B b1 b2 b3).setCell (p := ⟨c, 146, none⟩) b1 _
    clear K4 hc4 t4 bel4 e4
    go_wp2
    go_ret
    exact ⟨rfl, A, bel5⟩
  · go_wp2_with fail
    refine (signal_any c 148 w3 K4.c149 K4.c150 K4.c154 (K4.fz 154)).mono ?_
    rintro e w4 ⟨rfl, e4⟩
    have m4 : w4.cell? ⟨c, 146, none⟩ = some (.int .i32 1) := by rw [e4]; exact (World.cell?_setCell_other _ ⟨c, 154, none⟩ ⟨c, 146, none⟩ _ (by simp)).trans K4.c146
    have z4 : ∀ j, w4.frozen? ⟨c, j, none⟩ = false := fun j => by rw [e4]; simp [K4.fz]
    have H4 : Hid _ := e4
    clear e4
    go_wp2_with fail
    have e4 := H4.out
    clear H4
    refine (unlock_held muLib ⟨c, 146, none⟩ w4 m4 (z4 146)).mono ?_
    rintro e w5 ⟨rfl, e5⟩
    have A : Aft w5 c wk ch cap s (r + 1) (buf.extract 1 buf.size) x (qd - 1) 0 := by
      rw [e5]
      refine ⟨(World.cell?_setCell_other _ ⟨c, 146, none⟩ ⟨c, 15, none⟩ _ (by simp)).trans ?_, World.cell?_setCell_same _ ⟨c, 146, none⟩ _ m4, (World.cell?_setCell_other _ ⟨c, 146, none⟩ ⟨c, 171, none⟩ _ (by simp)).trans ?_, fun j => by simp [z4], (heap_other _ ⟨c, 146, none⟩ _ ch (Ne.symm h1)).trans ?_, (cell_heap (heap_other _ ⟨c, 146, none⟩ _ wk (Ne.symm h2)) 0).trans ?_⟩
      · rw [e4]; exact (World.cell?_setCell_other _ ⟨c, 154, none⟩ ⟨c, 15, none⟩ _ (by simp)).trans K4.c15
      · rw [e4]; exact (World.cell?_setCell_other _ ⟨c, 154, none⟩ ⟨c, 171, none⟩ _ (by simp)).trans K4.c171
      · rw [e4]; exact (heap_other _ ⟨c, 154, none⟩ _ ch (Ne.symm h1)).trans hc4
      · rw [e4]; exact (cell_heap (heap_other _ ⟨c, 154, none⟩ _ wk (Ne.symm h2)) 0).trans t4
    have bel5 : ∀ B, B ≤ c → B ≤ ch → B ≤ wk → Below B w w5 := fun B b1 b2 b3 => by rw [e5, e4]; exact ((bel4 B b1 b2 b3).setCell (p := ⟨c, 154, none⟩) b1 _).setCell (p := ⟨c, 146, none⟩) b1 _
    clear K4 hc4 t4 bel4 e4 e5 m4 z4
    go_wp2
    go_ret
    exact ⟨rfl, A, bel5⟩

set_option maxRecDepth 100000 in
/-- 'takeQueued' where there is a surplus. -/
theorem take_sur {ch wk : Nat} (K : Cor w c cp rn lv wt qd (.chan (some ch)) 1) (hs : 0 < sur cp rn lv) :
    Calls Yba.prog 6 #[.pointer (some ⟨c, 0, none⟩), .pointer (some ⟨wk, 0, none⟩)] w fun e w' => e = .returned (.bool false) ∧ ∃ n, w' = w.drewN n := by
  have h15 := K.c15
  go_enter Yba.func6, Yba.ntmps6
  go_wp2_with fail
  refine (surplus_any K).mono ?_
  rintro e w1 ⟨rfl, n1, e1⟩
  have HE : Hid _ := e1
  clear K h15 e1
  go_wp2
  go_ret
  exact ⟨rfl, n1, HE.out⟩

set_option maxRecDepth 100000 in
/-- 'takeQueued' where the queue is empty. -/
theorem take_empty {ch cap s r wk : Nat} (K : Cor w c cp rn lv wt qd (.chan (some ch)) 1) (hc : w.heap[ch]? = some (.chan cap #[] false s r false)) (hs : sur cp rn lv = 0) :
    Calls Yba.prog 6 #[.pointer (some ⟨c, 0, none⟩), .pointer (some ⟨wk, 0, none⟩)] w fun e w' => e = .returned (.bool false) ∧ ∃ n, w' = w.drewN n := by
  have h15 := K.c15
  go_enter Yba.func6, Yba.ntmps6
  go_wp2_with fail
  refine (surplus_any K).mono ?_
  rintro e w1 ⟨rfl, n1, e1⟩
  rw [hs]
  have hh1 : ∀ b : Nat, w1.heap[b]? = w.heap[b]? := fun b => by rw [e1]; rfl
  have K1 := K.of (hh1 c)
  have hc1 := (hh1 ch).trans hc
  have HE : Hid _ := e1
  clear K hc hh1 h15 e1
  go_wp2_with fail
  refine (dequeue_none K1 hc1).mono ?_
  rintro e w2 ⟨rfl, rfl⟩
  clear K1 hc1
  go_wp2
  go_ret
  exact ⟨rfl, n1, HE.out⟩

set_option maxRecDepth 100000 in
/-- 'takeQueued' where there is no queue. -/
theorem take_nil {wk : Nat} (K : Cor w c cp rn lv wt qd (.chan none) 1) :
    Calls Yba.prog 6 #[.pointer (some ⟨c, 0, none⟩), .pointer (some ⟨wk, 0, none⟩)] w fun e w' => e = .returned (.bool false) ∧ w' = w := by
  have h15 := K.c15
  clear K
  go_enter Yba.func6, Yba.ntmps6
  go_wp2
  go_ret
  exact ⟨rfl, rfl⟩
end
end Go.Proofs.Ybulklwm
