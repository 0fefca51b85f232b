/-
  Communication within a walk: a weakest precondition for frames that are ordinary calls, and a region that sends into a buffer with room, or takes from one without waiting.
-/
import Derived.Test.YbulklwmLocks
import Derived.Conc.LoneCalls
import Derived.Conc.LoneSelect
import Derived.Conc.LoneSelectN
namespace Go.Proofs.Ybulklwm
open Go.ChangeShapes Go.WideShapes Go.ChangeAt Go.RowKit Go.Instr Go.Conc
set_option linter.unusedVariables false

section
variable {P : Program} {Q : Exit → Act → World → Prop} {a : Act} {w : World}

def wpN (P : Program) (c : Code) (Q : Exit → Act → World → Prop) (a : Act) (w : World) : Prop :=
  ∀ (b : Frame) (k : List Item) (cs : List Frame), b.kind ≠ .early → ∃ e a' w', Q e a' w' ∧ Arrives P (lone (b.at a (.code c :: k)) cs w) b k cs e a' w'

theorem wpN.of {c : Code} (h : c.wp P Q a w) : wpN P c Q a w := fun b k cs _ => h b k cs

theorem wpN.seq {x y : Code} (h : wpN P x (Exit.then (wpN P y Q) Q) a w) : wpN P (.seq x y) Q a w := by
  intro b k cs hb
  obtain ⟨e, a₁, w₁, hq, harr⟩ := h b (.code y :: k) cs hb
  have far : e ≠ .normal → Arrives P (lone (b.at a (.code (.seq x y) :: k)) cs w) b k cs e a₁ w₁ := fun hne =>
    .of_steps (.one step_seq) (.pass (x := .code y) rfl (fun _ _ => .inl hne) harr)
  cases e with
  | normal =>
    obtain ⟨e₂, a₂, w₂, hq₂, harr₂⟩ := hq b k cs hb
    exact ⟨e₂, a₂, w₂, hq₂, .of_steps (.head step_seq harr) harr₂⟩
  | exit id => exact ⟨_, _, _, hq, far (by simp)⟩
  | goto l => exact ⟨_, _, _, hq, far (by simp)⟩
  | ret => exact ⟨_, _, _, hq, far (by simp)⟩
  | panic ch => exact ⟨_, _, _, hq, far (by simp)⟩
  | outgrown => exact ⟨_, _, _, hq, far (by simp)⟩

theorem wpN.cond {c : Operand} {x y : Code} {t : Bool} (hc : a.eval c = .bool t) (h : wpN P (if t then x else y) Q a w) : wpN P (.cond c x y) Q a w :=
  fun b k cs hb => let ⟨e, a', w', q, r⟩ := h b k cs hb; ⟨e, a', w', q, .of_steps (.one (step_cond hc)) r⟩

/-- A block that is left at its end. -/
theorem wpN.plainBlock {id : Nat} {c : Code} (h : wpN P c (fun e a' w' => e = .normal ∧ Q .normal a' w') a w) : wpN P (.block id c) Q a w := fun b k cs hb => by
  obtain ⟨e, a', w', ⟨rfl, hq⟩, arr⟩ := h b (.inBlock id :: k) cs hb
  exact ⟨.normal, a', w', hq, .head step_block (Steps.trans arr (.one step_inBlock))⟩

/-- How a round ends: the next round's start, or the way out. -/
def rnd (id : Nat) (Q : Exit → Act → World → Prop) (I : Act → World → Prop) (μ : Act → World → Nat) (n : Nat) : Exit → Act → World → Prop :=
  fun e a' w' => (e = .normal ∧ I a' w' ∧ μ a' w' < n) ∨ (e = .exit id ∧ Q .normal a' w')

/-- A loop that is left by the exit of the block around it. -/
theorem wpN.while {id : Nat} {c : Code} (I : Act → World → Prop) (μ : Act → World → Nat) (h₀ : I a w) (round : ∀ a w, I a w → wpN P c (rnd id Q I μ (μ a w)) a w) : wpN P (.block id (.loop c)) Q a w := by
  intro b k cs hb
  have run : ∀ n a w, μ a w < n → I a w → ∃ a' w', Q .normal a' w' ∧ Steps P (lone (b.at a (.code c :: .inLoop c :: .inBlock id :: k)) cs w) (lone (b.at a' k) cs w') := by
    intro n
    induction n with
    | zero => exact fun a w h => absurd h (Nat.not_lt_zero _)
    | succ n ih =>
      intro a w hn hI
      obtain ⟨e, a1, w1, hq, arr⟩ := round a w hI b (.inLoop c :: .inBlock id :: k) cs hb
      rcases hq with ⟨rfl, hI1, hlt⟩ | ⟨rfl, hq⟩
      · obtain ⟨a2, w2, h2, s2⟩ := ih a1 w1 (by omega) hI1
        exact ⟨a2, w2, h2, Steps.trans arr (.head step_inLoop s2)⟩
      · exact ⟨a1, w1, hq, arr k (by simp [exitTo])⟩
  obtain ⟨a', w', hq, s⟩ := run (μ a w + 1) a w (Nat.lt_succ_self _) h₀
  exact ⟨.normal, a', w', hq, .head step_block (.head step_loop s)⟩

/-- A call that returns, by such a walk of its body. -/
theorem calls_of_wpN {f : FuncId} {fn : Func} {c : Code} {args : Array Value} {R : Ending → World → Prop} (hf : P.funcs[f]? = some fn) (hb : fn.body = some c) (hR : ∀ e w', R e w' → ∃ v, e = .returned v)
    (h : wpN P c (bodyPost P fn R) { tmps := args ++ Array.replicate (fn.ntmps - args.size) undef, defers := [] } w) : Calls P f args w R := by
  refine calls_of_loneTo (fun cs => ?_) (fun w' hw => by obtain ⟨v, hv⟩ := hR _ _ hw; cases hv)
  have hent : Frame.enter P f args .normal = ({ (default : Frame) with fn := f, kind := .normal } : Frame).at { tmps := args ++ Array.replicate (fn.ntmps - args.size) undef, defers := [] } [.code c] := by
    simp [Frame.enter, Frame.at, hf, hb]
  obtain ⟨e, a', w', q, arr⟩ := h { (default : Frame) with fn := f, kind := .normal } [] cs (by simp)
  rw [hent]
  match e, q, arr with
  | .normal, ⟨hd, v, hr, hv⟩, arr => exact ⟨_, w', Steps.trans arr (.one step_end), .returned v, _, rfl, hv, rfl, rfl, hd, rfl, fn, hf, hr⟩
  | .ret, ⟨hd, v, hr, hv⟩, ⟨todo, s⟩ => exact ⟨_, w', s, .returned v, _, rfl, hv, rfl, rfl, hd, rfl, fn, hf, hr⟩
  | .panic ch, q, _ =>
    obtain ⟨v, hv⟩ := hR _ _ q.2
    cases hv
  | .outgrown, q, _ =>
    obtain ⟨v, hv⟩ := hR _ _ q
    cases hv

/-- What one operation of such a region does: a value; a send into a buffer with room; a take without waiting. -/
def Sx (P : Program) (ops : Array Oper) (i : Nat) (K : Act → World → Prop) (a : Act) (w : World) : Prop :=
  ∃ o, ops[i]? = some o ∧ o.guard = none ∧
    ((∃ v, (execOp a.eval o).run P w = .ok (.value v) w ∧ K (a.put o.dst v) w) ∨
     (∃ c v z cap buf s r, (execOp a.eval o).run P w = .ok (.comm #[scase c v z] true .send) w ∧ w.heap[c]? = some (.chan cap buf false s r false) ∧ buf.size < cap ∧ K (a.put o.dst undef) (w.setChan c cap (buf.push v) false (s + 1) r false)) ∨
     (∃ c z cap buf s r, (execOp a.eval o).run P w = .ok (.comm #[rcase c z] false .select) w ∧ w.heap[c]? = some (.chan cap buf false s r false) ∧ 0 < buf.size ∧ K (a.put o.dst (.tuple #[goInt 0, .bool true, buf.getD 0 undef])) (w.setChan c cap (buf.extract 1 buf.size) false s (r + 1) false)) ∨
     (∃ c z cap s r, (execOp a.eval o).run P w = .ok (.comm #[rcase c z] false .select) w ∧ w.heap[c]? = some (.chan cap #[] false s r false) ∧ K (a.put o.dst (.tuple #[goInt (-1), .bool false, z])) w))

theorem Sx.mono {ops : Array Oper} {i : Nat} {K K' : Act → World → Prop} (h : ∀ a w, K a w → K' a w) (hh : Sx P ops i K a w) : Sx P ops i K' a w := by
  obtain ⟨o, h1, h2, h3⟩ := hh
  refine ⟨o, h1, h2, ?_⟩
  rcases h3 with ⟨v, e, k⟩ | ⟨c, v, z, cap, buf, s, r, e, hc, hr, k⟩ | ⟨c, z, cap, buf, s, r, e, hc, hr, k⟩ | ⟨c, z, cap, s, r, e, hc, k⟩
  · exact .inl ⟨v, e, h _ _ k⟩
  · exact .inr (.inl ⟨c, v, z, cap, buf, s, r, e, hc, hr, h _ _ k⟩)
  · exact .inr (.inr (.inl ⟨c, z, cap, buf, s, r, e, hc, hr, h _ _ k⟩))
  · exact .inr (.inr (.inr ⟨c, z, cap, s, r, e, hc, h _ _ k⟩))

def runS (P : Program) (ops : Array Oper) (K : Act → World → Prop) : List Nat → Act → World → Prop
  | [] => K
  | i :: rest => Sx P ops i (runS P ops K rest)

theorem runS_steps {ops : Array Oper} {K : Act → World → Prop} (l : List Nat) : ∀ (a : Act) (w : World), runS P ops K l a w → ∀ (b : Frame) (k : List Item) (cs : List Frame), b.kind ≠ .early →
    ∃ a' w', K a' w' ∧ Steps P (lone (b.at a (.inRegion ops l :: k)) cs w) (lone (b.at a' k) cs w') := by
  induction l with
  | nil => exact fun a w h b k cs _ => ⟨a, w, h, .one step_region_end⟩
  | cons i rest ih =>
    intro a w h b k cs hb
    obtain ⟨o, ho, hg, h3⟩ := h
    have hw : Region.wanted o (yielded ops a.tmps) = true := by simp [Region.wanted, hg]
    have hfin : ∀ v, (b.at a (.inRegion ops (i :: rest) :: k)).finish v = b.at (a.put o.dst v) (.inRegion ops rest :: k) := by
      intro v; rw [Frame.finish_at, ho]; rfl
    rcases h3 with ⟨v, e, kk⟩ | ⟨c, v, z, cap, buf, s, r, e, hc, hr, kk⟩ | ⟨c, z, cap, buf, s, r, e, hc, hr, kk⟩ | ⟨c, z, cap, s, r, e, hc, kk⟩
    · obtain ⟨a', w', hK, hs⟩ := ih _ _ kk b k cs hb
      refine ⟨a', w', hK, .head (step_lone_go ?_) hs⟩
      rw [stepG_op ho hw, ← hfin]; simp [stepG.apply, e]
    · obtain ⟨a', w', hK, hs⟩ := ih _ _ kk b k cs hb
      refine ⟨a', w', hK, .head ?_ hs⟩
      have := step_lone_send_room (stepG_comm (k := k) (cs := cs) (main := true) (rest := rest) ho hw hb e) hc hr
      rw [hfin] at this
      exact this
    · obtain ⟨a', w', hK, hs⟩ := ih _ _ kk b k cs hb
      refine ⟨a', w', hK, .head ?_ hs⟩
      have := step_lone_select_recv_buf (stepG_comm (k := k) (cs := cs) (main := true) (rest := rest) ho hw hb e) hc hr
      rw [hfin] at this
      exact this
    · obtain ⟨a', w', hK, hs⟩ := ih _ _ kk b k cs hb
      refine ⟨a', w', hK, .head ?_ hs⟩
      have := step_lone_select_default (stepG_comm (k := k) (cs := cs) (main := true) (rest := rest) ho hw hb e) hc
      rw [hfin] at this
      exact this

/-- A region that keeps its order. -/
theorem wpN.region {id : Nat} {ops : Array Oper} (h : runS P ops (Q .normal) (List.range ops.size) a w) : wpN P (.region id ops false) Q a w := by
  intro b k cs hb
  obtain ⟨a', w', hK, hs⟩ := runS_steps _ a w h b k cs hb
  exact ⟨.normal, a', w', hK, .head step_region hs⟩

def anyS (P : Program) (ops : Array Oper) (K : Act → World → Prop) : Nat → Array Bool → Act → World → Prop
  | 0, listed, a, w => Region.ready .any ops listed = [] ∧ K a w
  | fuel + 1, listed, a, w => (Region.ready .any ops listed = [] → K a w) ∧ ∀ i ∈ Region.ready .any ops listed, Sx P ops i (anyS P ops K fuel (listed.setIfInBounds i true)) a w

/-- What comes first in an order that is drawn. -/
theorem first_of (ops : Array Oper) (fuel t : Nat) (listed : Array Bool) : (Region.ready .any ops listed = [] ∧ Region.linearise.go .any ops (fuel + 1) t listed [] = []) ∨
    ∃ i t', i ∈ Region.ready .any ops listed ∧ Region.linearise.go .any ops (fuel + 1) t listed [] = i :: Region.linearise.go .any ops fuel t' (listed.setIfInBounds i true) [] := by
  have e : Region.linearise.go .any ops (fuel + 1) t listed [] = ((Region.ready .any ops listed)[t % (Region.ready .any ops listed).length]?.map fun i => Region.linearise.go .any ops fuel (t / (Region.ready .any ops listed).length) (listed.setIfInBounds i true) [i]).getD [] := by
    simp only [Region.linearise.go]
    show (match (Region.ready .any ops listed)[t % (Region.ready .any ops listed).length]? with
      | some i => Region.linearise.go .any ops fuel (t / (Region.ready .any ops listed).length) (listed.setIfInBounds i true) [i]
      | none => [].reverse) = _
    cases (Region.ready .any ops listed)[t % (Region.ready .any ops listed).length]? <;> rfl
  rw [e]
  by_cases hr : Region.ready .any ops listed = []
  · exact .inl ⟨hr, by simp [hr]⟩
  · have hlt : t % (Region.ready .any ops listed).length < (Region.ready .any ops listed).length := Nat.mod_lt _ (List.length_pos_iff.2 hr)
    refine .inr ⟨(Region.ready .any ops listed)[t % (Region.ready .any ops listed).length], t / (Region.ready .any ops listed).length, List.getElem_mem hlt, ?_⟩
    rw [List.getElem?_eq_getElem hlt, Option.map_some, Option.getD_some, linearise_go_acc]
    rfl

theorem anyS_sound {ops : Array Oper} {K : Act → World → Prop} : ∀ (fuel t : Nat) (listed : Array Bool) (a : Act) (w : World), anyS P ops K fuel listed a w → runS P ops K (Region.linearise.go .any ops fuel t listed []) a w
  | 0, _, _, _, _, h => h.2
  | fuel + 1, t, listed, a, w, h => by
    rcases first_of ops fuel t listed with ⟨hr, he⟩ | ⟨i, t', hi, he⟩
    · rw [he]; exact h.1 hr
    · rw [he]; exact Sx.mono (fun a w => anyS_sound fuel t' _ a w) (h.2 i hi)

/-- A region that draws its order. -/
theorem wpN.draw {id : Nat} {ops : Array Oper} (hm : P.follows .mixedOrders = true) (h : anyS P ops (Q .normal) ops.size (Array.replicate ops.size false) a w.drew) : wpN P (.region id ops true) Q a w := by
  intro b k cs hb
  have h2 : ∀ t, runS P ops (Q .normal) (Region.schedule (P.follows .mixedOrders) ops t) a w.drew := by
    intro t
    simp only [Region.schedule, hm, Bool.true_or, if_true]
    exact anyS_sound ops.size t _ a _ h
  obtain ⟨a', w', hK, hs⟩ := runS_steps _ a _ (h2 (w.tape w.drawn (.order b.fn id))) b k cs hb
  exact ⟨.normal, a', w', hK, .head step_region_draw hs⟩
theorem anyS.cons {ops : Array Oper} {K : Act → World → Prop} {fuel : Nat} {listed : Array Bool} {rs : List Nat} (hr : Region.ready .any ops listed = rs) (hne : rs ≠ []) (h : ∀ i ∈ rs, Sx P ops i (anyS P ops K fuel (listed.setIfInBounds i true)) a w) : anyS P ops K (fuel + 1) listed a w := by
  subst hr
  exact ⟨fun e => absurd e hne, h⟩
end
end Go.Proofs.Ybulklwm
