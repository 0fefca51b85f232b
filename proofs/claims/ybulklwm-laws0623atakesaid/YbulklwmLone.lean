/-
  Communication within a walk: a weakest precondition for frames that are ordinary calls, and a region that sends into a buffer with room, or takes from one without waiting.
-/
import Derived.Test.YbulklwmLocks
import Derived.Conc.LoneCalls
import Derived.Conc.LoneSelect
import Derived.Conc.LoneSelectN
namespace Go.Proofs.Ybulklwm
open Go.ChangeShapes Go.WideShapes Go.ChangeAt Go.RowKit Go.Instr Go.Conc
set_option linter.unusedVariables false

section
variable {P : Program} {Q : Exit → Act → World → Prop} {a : Act} {w : World}

def wpN (P : Program) (c : Code) (Q : Exit → Act → World → Prop) (a : Act) (w : World) : Prop :=
  ∀ (b : Frame) (k : List Item) (cs : List Frame), b.kind ≠ .early → ∃ e a' w', Q e a' w' ∧ Arrives P (lone (b.at a (.code c :: k)) cs w) b k cs e a' w'

theorem wpN.of {c : Code} (h : c.wp P Q a w) : wpN P c Q a w := fun b k cs _ => h b k cs

theorem wpN.seq {x y : Code} (h : wpN P x (Exit.then (wpN P y Q) Q) a w) : wpN P (.seq x y) Q a w := by
  intro b k cs hb
  obtain ⟨e, a₁, w₁, hq, harr⟩ := h b (.code y :: k) cs hb
  have far : e ≠ .normal → Arrives P (lone (b.at a (.code (.seq x y) :: k)) cs w) b k cs e a₁ w₁ := fun hne =>
    .of_steps (.one step_seq) (.pass (x := .code y) rfl (fun _ _ => .inl hne) harr)
  cases e with
  | normal =>
    obtain ⟨e₂, a₂, w₂, hq₂, harr₂⟩ := hq b k cs hb
    exact ⟨e₂, a₂, w₂, hq₂, .of_steps (.head step_seq harr) harr₂⟩
  | exit id => exact ⟨_, _, _, hq, far (by simp)⟩
  | goto l => exact ⟨_, _, _, hq, far (by simp)⟩
  | ret => exact ⟨_, _, _, hq, far (by simp)⟩
  | panic ch => exact ⟨_, _, _, hq, far (by simp)⟩
  | outgrown => exact ⟨_, _, _, hq, far (by simp)⟩

theorem wpN.cond {c : Operand} {x y : Code} {t : Bool} (hc : a.eval c = .bool t) (h : wpN P (if t then x else y) Q a w) : wpN P (.cond c x y) Q a w :=
  fun b k cs hb => let ⟨e, a', w', q, r⟩ := h b k cs hb; ⟨e, a', w', q, .of_steps (.one (step_cond hc)) r⟩

theorem wpN.block {id : Nat} {c : Code} (h : wpN P c (Exit.inBlock id Q) a w) : wpN P (.block id c) Q a w := by
  intro b k cs hb
  obtain ⟨e, a₁, w₁, hq, harr⟩ := h b (.inBlock id :: k) cs hb
  cases e with
  | normal => exact ⟨.normal, a₁, w₁, hq, .head step_block (Steps.trans harr (.one step_inBlock))⟩
  | exit id' =>
    by_cases hid : id' = id
    · simp only [Exit.inBlock, hid, if_true] at hq
      exact ⟨.normal, a₁, w₁, hq, .head step_block (harr k (by simp [exitTo, hid]))⟩
    · simp only [Exit.inBlock, hid, if_false] at hq
      have hne : (id == id') = false := by simp; exact fun h => hid h.symm
      exact ⟨.exit id', a₁, w₁, hq, fun k' hk => .head step_block (harr k' (by simp [exitTo, hne, hk]))⟩
  | goto l => exact ⟨_, a₁, w₁, hq, fun k' hk => .head step_block (harr k' (by simp [gotoIn, hk]))⟩
  | ret => exact ⟨_, a₁, w₁, hq, .of_steps (.one step_block) harr⟩
  | panic ch => exact ⟨_, a₁, w₁, hq, .of_steps (.one step_block) harr⟩
  | outgrown => exact ⟨_, a₁, w₁, hq, .of_steps (b := b) (k := k) (cs := cs) (e := .outgrown) (.one step_block) harr⟩

theorem wpN.loop {c : Code} (I : Act → World → Prop) (μ : Act → World → Nat) (h₀ : I a w)
    (round : ∀ a w, I a w → wpN P c (Exit.then (fun a' w' => I a' w' ∧ μ a' w' < μ a w) Q) a w) : wpN P (.loop c) Q a w := by
  intro b k cs hb
  have key : ∀ n a w, μ a w = n → I a w → ∃ e a' w', Q e a' w' ∧ Arrives P (lone (b.at a (.code c :: .inLoop c :: k)) cs w) b k cs e a' w' := by
    intro n
    induction n using Nat.strongRecOn with
    | _ n ih =>
      intro a w hn hI
      obtain ⟨e, a₁, w₁, hq, harr⟩ := round a w hI b (.inLoop c :: k) cs hb
      have far : e ≠ .normal → Arrives P (lone (b.at a (.code c :: .inLoop c :: k)) cs w) b k cs e a₁ w₁ := fun hne => .pass (x := .inLoop c) rfl (fun _ _ => .inl hne) harr
      cases e with
      | normal =>
        obtain ⟨hI₁, hlt⟩ := hq
        obtain ⟨e₂, a₂, w₂, hq₂, harr₂⟩ := ih (μ a₁ w₁) (hn ▸ hlt) a₁ w₁ rfl hI₁
        exact ⟨e₂, a₂, w₂, hq₂, .of_steps (Steps.trans harr (.one step_inLoop)) harr₂⟩
      | exit id => exact ⟨_, _, _, hq, far (by simp)⟩
      | goto l => exact ⟨_, _, _, hq, far (by simp)⟩
      | ret => exact ⟨_, _, _, hq, far (by simp)⟩
      | panic ch => exact ⟨_, _, _, hq, far (by simp)⟩
      | outgrown => exact ⟨_, _, _, hq, far (by simp)⟩
  obtain ⟨e, a', w', hq, harr⟩ := key _ a w rfl h₀
  exact ⟨e, a', w', hq, .of_steps (.one step_loop) harr⟩

theorem calls_of_wpN {f : FuncId} {fn : Func} {c : Code} {args : Array Value} {R : Ending → World → Prop} (hf : P.funcs[f]? = some fn) (hb : fn.body = some c)
    (h : wpN P c (bodyPost P fn R) { tmps := args ++ Array.replicate (fn.ntmps - args.size) undef, defers := [] } w) : Calls P f args w R := by
  intro cs
  let b : Frame := { (default : Frame) with fn := f, kind := .normal }
  have henter : Frame.enter P f args .normal = b.at { tmps := args ++ Array.replicate (fn.ntmps - args.size) undef, defers := [] } [.code c] := by
    simp [Frame.enter, Frame.at, hf, hb, b]
  obtain ⟨e, a', w', hq, harr⟩ := h b [] cs (by simp [b])
  rw [← henter] at harr
  cases e with
  | normal =>
    obtain ⟨hd, v, hr, hR⟩ := hq
    exact ⟨.returned v, w', _, hR, Steps.trans harr (.one step_end), rfl, rfl, hd, rfl, fn, hf, hr⟩
  | ret =>
    obtain ⟨hd, v, hr, hR⟩ := hq
    obtain ⟨todo, hs⟩ := harr
    exact ⟨.returned v, w', _, hR, hs, rfl, rfl, hd, rfl, fn, hf, hr⟩
  | panic chain =>
    obtain ⟨hd, hR⟩ := hq
    obtain ⟨todo, hs⟩ := harr
    exact ⟨.panicked chain, w', _, hR, hs, rfl, rfl, hd, fn, hf⟩
  | exit id => exact hq.elim
  | goto l => exact hq.elim
  | outgrown => exact ⟨.outgrown, w', b, hq, harr.resolve_left (by simp [b]), rfl, trivial⟩

/-- What one operation of such a region does: a value; a send into a buffer with room; a take without waiting. -/
def Sx (P : Program) (ops : Array Oper) (i : Nat) (K : Act → World → Prop) (a : Act) (w : World) : Prop :=
  ∃ o, ops[i]? = some o ∧ o.guard = none ∧
    ((∃ v, (execOp a.eval o).run P w = .ok (.value v) w ∧ K (a.put o.dst v) w) ∨
     (∃ c v z cap buf s r, (execOp a.eval o).run P w = .ok (.comm #[scase c v z] true .send) w ∧ w.heap[c]? = some (.chan cap buf false s r false) ∧ buf.size < cap ∧ K (a.put o.dst undef) (w.setChan c cap (buf.push v) false (s + 1) r false)) ∨
     (∃ c z cap buf s r, (execOp a.eval o).run P w = .ok (.comm #[rcase c z] false .select) w ∧ w.heap[c]? = some (.chan cap buf false s r false) ∧ 0 < buf.size ∧ K (a.put o.dst (.tuple #[goInt 0, .bool true, buf.getD 0 undef])) (w.setChan c cap (buf.extract 1 buf.size) false s (r + 1) false)) ∨
     (∃ c z cap s r, (execOp a.eval o).run P w = .ok (.comm #[rcase c z] false .select) w ∧ w.heap[c]? = some (.chan cap #[] false s r false) ∧ K (a.put o.dst (.tuple #[goInt (-1), .bool false, z])) w))

theorem Sx.mono {ops : Array Oper} {i : Nat} {K K' : Act → World → Prop} (h : ∀ a w, K a w → K' a w) (hh : Sx P ops i K a w) : Sx P ops i K' a w := by
  obtain ⟨o, h1, h2, h3⟩ := hh
  refine ⟨o, h1, h2, ?_⟩
  rcases h3 with ⟨v, e, k⟩ | ⟨c, v, z, cap, buf, s, r, e, hc, hr, k⟩ | ⟨c, z, cap, buf, s, r, e, hc, hr, k⟩ | ⟨c, z, cap, s, r, e, hc, k⟩
  · exact .inl ⟨v, e, h _ _ k⟩
  · exact .inr (.inl ⟨c, v, z, cap, buf, s, r, e, hc, hr, h _ _ k⟩)
  · exact .inr (.inr (.inl ⟨c, z, cap, buf, s, r, e, hc, hr, h _ _ k⟩))
  · exact .inr (.inr (.inr ⟨c, z, cap, s, r, e, hc, h _ _ k⟩))

def runS (P : Program) (ops : Array Oper) (K : Act → World → Prop) : List Nat → Act → World → Prop
  | [] => K
  | i :: rest => Sx P ops i (runS P ops K rest)

theorem runS_steps {ops : Array Oper} {K : Act → World → Prop} (l : List Nat) : ∀ (a : Act) (w : World), runS P ops K l a w → ∀ (b : Frame) (k : List Item) (cs : List Frame), b.kind ≠ .early →
    ∃ a' w', K a' w' ∧ Steps P (lone (b.at a (.inRegion ops l :: k)) cs w) (lone (b.at a' k) cs w') := by
  induction l with
  | nil => exact fun a w h b k cs _ => ⟨a, w, h, .one step_region_end⟩
  | cons i rest ih =>
    intro a w h b k cs hb
    obtain ⟨o, ho, hg, h3⟩ := h
    have hw : Region.wanted o (yielded ops a.tmps) = true := by simp [Region.wanted, hg]
    have hfin : ∀ v, (b.at a (.inRegion ops (i :: rest) :: k)).finish v = b.at (a.put o.dst v) (.inRegion ops rest :: k) := by
      intro v; rw [Frame.finish_at, ho]; rfl
    rcases h3 with ⟨v, e, kk⟩ | ⟨c, v, z, cap, buf, s, r, e, hc, hr, kk⟩ | ⟨c, z, cap, buf, s, r, e, hc, hr, kk⟩ | ⟨c, z, cap, s, r, e, hc, kk⟩
    · obtain ⟨a', w', hK, hs⟩ := ih _ _ kk b k cs hb
      refine ⟨a', w', hK, .head (step_lone_go ?_) hs⟩
      rw [stepG_op ho hw, ← hfin]; simp [stepG.apply, e]
    · obtain ⟨a', w', hK, hs⟩ := ih _ _ kk b k cs hb
      refine ⟨a', w', hK, .head ?_ hs⟩
      have := step_lone_send_room (stepG_comm (k := k) (cs := cs) (main := true) (rest := rest) ho hw hb e) hc hr
      rw [hfin] at this
      exact this
    · obtain ⟨a', w', hK, hs⟩ := ih _ _ kk b k cs hb
      refine ⟨a', w', hK, .head ?_ hs⟩
      have := step_lone_select_recv_buf (stepG_comm (k := k) (cs := cs) (main := true) (rest := rest) ho hw hb e) hc hr
      rw [hfin] at this
      exact this
    · obtain ⟨a', w', hK, hs⟩ := ih _ _ kk b k cs hb
      refine ⟨a', w', hK, .head ?_ hs⟩
      have := step_lone_select_default (stepG_comm (k := k) (cs := cs) (main := true) (rest := rest) ho hw hb e) hc
      rw [hfin] at this
      exact this

/-- A region that keeps its order. -/
theorem wpN.region {id : Nat} {ops : Array Oper} (h : runS P ops (Q .normal) (List.range ops.size) a w) : wpN P (.region id ops false) Q a w := by
  intro b k cs hb
  obtain ⟨a', w', hK, hs⟩ := runS_steps _ a w h b k cs hb
  exact ⟨.normal, a', w', hK, .head step_region hs⟩

def anyS (P : Program) (ops : Array Oper) (K : Act → World → Prop) : Nat → Array Bool → Act → World → Prop
  | 0, listed, a, w => Region.ready .any ops listed = [] ∧ K a w
  | fuel + 1, listed, a, w => (Region.ready .any ops listed = [] → K a w) ∧ ∀ i ∈ Region.ready .any ops listed, Sx P ops i (anyS P ops K fuel (listed.setIfInBounds i true)) a w

theorem anyS_sound {ops : Array Oper} {K : Act → World → Prop} : ∀ (fuel t : Nat) (listed : Array Bool) (a : Act) (w : World), anyS P ops K fuel listed a w → runS P ops K (Region.linearise.go .any ops fuel t listed []) a w := by
  intro fuel
  induction fuel with
  | zero => intro t listed a w h; simpa [Region.linearise.go, runS] using h.2
  | succ fuel ih =>
    intro t listed a w h
    obtain ⟨h₀, h₁⟩ := h
    simp only [Region.linearise.go]
    change runS P ops K (match (Region.ready .any ops listed)[t % (Region.ready .any ops listed).length]? with
      | some i => Region.linearise.go .any ops fuel (t / (Region.ready .any ops listed).length) (listed.setIfInBounds i true) [i]
      | none => [].reverse) a w
    cases hi : (Region.ready .any ops listed)[t % (Region.ready .any ops listed).length]? with
    | none =>
      have hnil : Region.ready .any ops listed = [] := by
        cases hr : Region.ready .any ops listed with
        | nil => rfl
        | cons x xs =>
          rw [hr] at hi
          have hlt : t % (x :: xs).length < (x :: xs).length := Nat.mod_lt _ (by simp)
          simp at hi
          simp at hlt
          omega
      exact h₀ hnil
    | some i =>
      simp only []
      rw [linearise_go_acc, List.reverse_singleton, List.singleton_append]
      exact Sx.mono (fun a w => ih _ _ a w) (h₁ i (List.mem_of_getElem? hi))

/-- A region that draws its order. -/
theorem wpN.draw {id : Nat} {ops : Array Oper} (hm : P.follows .mixedOrders = true) (h : anyS P ops (Q .normal) ops.size (Array.replicate ops.size false) a w.drew) : wpN P (.region id ops true) Q a w := by
  intro b k cs hb
  have h2 : ∀ t, runS P ops (Q .normal) (Region.schedule (P.follows .mixedOrders) ops t) a w.drew := by
    intro t
    simp only [Region.schedule, hm, Bool.true_or, if_true]
    exact anyS_sound ops.size t _ a _ h
  obtain ⟨a', w', hK, hs⟩ := runS_steps _ a _ (h2 (w.tape w.drawn (.order b.fn id))) b k cs hb
  exact ⟨.normal, a', w', hK, .head step_region_draw hs⟩
theorem anyS.cons {ops : Array Oper} {K : Act → World → Prop} {fuel : Nat} {listed : Array Bool} {rs : List Nat} (hr : Region.ready .any ops listed = rs) (hne : rs ≠ []) (h : ∀ i ∈ rs, Sx P ops i (anyS P ops K fuel (listed.setIfInBounds i true)) a w) : anyS P ops K (fuel + 1) listed a w := by
  subst hr
  exact ⟨fun e => absurd e hne, h⟩
end
end Go.Proofs.Ybulklwm
