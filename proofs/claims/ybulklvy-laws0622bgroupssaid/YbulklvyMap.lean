/-
  Maps keyed by strings: what a look-up reads, what a store leaves, how a range steps.
-/
import Derived.Test.YbulklvyGrp
import Derived.Maps.OwnOps
import Derived.Maps.RangeRun
namespace Go.Proofs.Ybulklvy
open Go.ChangeShapes Go.WideShapes Go.ChangeAt Go.RowKit Go.Instr
open Go.ChangeMaps (setBlock)
open Go.MapKept (IsKey)
set_option linter.unusedVariables false

def KeysOk (l : List MapEntry) : Prop := ∀ e ∈ l, IsKey .string e.key

def keyIs (x : ByteArray) : Value → Bool
  | .string b => b == x
  | _ => false

/-- What a look-up at key x reads: the first entry's element, else the zero value. -/
def lookL (zv : Value) (x : ByteArray) : List MapEntry → Value
  | [] => zv
  | e :: l => if keyIs x e.key then e.val else lookL zv x l

def putE (x : ByteArray) (u : Value) (e : MapEntry) : MapEntry := { e with key := .string x, val := u }

theorem key_form {v : Value} (h : IsKey .string v) : ∃ k : ByteArray, v = .string k := by
  cases v <;> simp [IsKey] at h
  exact ⟨_, rfl⟩

theorem beq_self (x : ByteArray) : (x == x) = true := (MapKept.bytes_beq x x).2 rfl
theorem beq_ne {x y : ByteArray} (h : x ≠ y) : (x == y) = false := by
  cases e : (x == y)
  · rfl
  · exact absurd ((MapKept.bytes_beq x y).1 e) h

theorem find_spec (zv : Value) (x : ByteArray) (u : Value) : ∀ (l : List MapEntry) (n : Nat), KeysOk l →
    (∃ j e, findNow .string (.string x) l n = some (some (n + j, lookL zv x l)) ∧ l[j]? = some e ∧ e.key = .string x ∧
      KeysOk (l.modify j (putE x u)) ∧ lookL zv x (l.modify j (putE x u)) = u ∧ ∀ y, y ≠ x → lookL zv y (l.modify j (putE x u)) = lookL zv y l) ∨
    (findNow .string (.string x) l n = some none ∧ lookL zv x l = zv ∧ (∀ e ∈ l, e.key ≠ .string x) ∧
      ∀ born, lookL zv x (l ++ [{ key := .string x, val := u, born := born }]) = u ∧ ∀ y, y ≠ x → lookL zv y (l ++ [{ key := .string x, val := u, born := born }]) = lookL zv y l) := by
  intro l
  induction l with
  | nil =>
    intro n _
    refine .inr ⟨rfl, rfl, by simp, fun born => ⟨by simp [lookL, keyIs, beq_self], fun y hy => ?_⟩⟩
    simp [lookL, keyIs, beq_ne (Ne.symm hy)]
  | cons e l ih =>
    intro n hk
    obtain ⟨k, hek⟩ := key_form (hk e (by simp))
    have hk' : KeysOk l := fun e' he' => hk e' (by simp [he'])
    by_cases hx : x = k
    · subst hx
      refine .inl ⟨0, e, ?_, rfl, hek, ?_, ?_, ?_⟩
      · simp [findNow, sameNow, hek, lookL, keyIs, beq_self]
      · intro e' he'
        simp [List.modify] at he'
        rcases he' with rfl | he'
        · simp [putE, IsKey]
        · exact hk' e' he'
      · simp [List.modify, lookL, putE, keyIs, beq_self]
      · intro y hy
        simp [List.modify, lookL, putE, keyIs, hek, beq_ne (Ne.symm hy)]
    · have hs : sameNow .string (.string x) e.key = some false := by simp [sameNow, hek, beq_ne hx]
      have hki : keyIs x e.key = false := by simp [keyIs, hek, beq_ne (Ne.symm hx)]
      rcases ih (n + 1) hk' with ⟨j, e0, h1, h2, h3, h4, h5, h6⟩ | ⟨h1, h2, h2', h3⟩
      · refine .inl ⟨j + 1, e0, ?_, by simpa using h2, h3, ?_, ?_, ?_⟩
        · simp only [findNow, hs, h1, lookL, hki]
          simp
          omega
        · intro e' he'
          simp at he'
          rcases he' with rfl | he'
          · exact hk _ (by simp)
          · exact h4 e' he'
        · simp [lookL, hki, h5]
        · intro y hy
          simp [lookL, h6 y hy]
      · refine .inr ⟨?_, ?_, ?_, fun born => ⟨?_, fun y hy => ?_⟩⟩
        · simp only [findNow, hs, h1]
        · simp [lookL, hki, h2]
        · intro e' he'
          rcases List.mem_cons.1 he' with rfl | he'
          · rw [hek]; intro q; cases q; exact hx rfl
          · exact h2' e' he'
        · simp [lookL, hki, (h3 born).1]
        · simp [lookL, (h3 born).2 y hy]

/-- With no key twice a look-up at an entry's key reads that entry. -/
theorem look_mem {zv : Value} {l : List MapEntry} {e : MapEntry} {x : ByteArray} (hn : (l.map (·.key)).Nodup) (he : e ∈ l) (hk : e.key = .string x) : lookL zv x l = e.val := by
  induction l with
  | nil => simp at he
  | cons a l ih =>
    rcases List.mem_cons.1 he with rfl | he
    · simp [lookL, hk, keyIs, beq_self]
    · have hne : a.key ≠ .string x := by
        intro q
        rw [List.map_cons, List.nodup_cons] at hn
        exact hn.1 (List.mem_map.2 ⟨e, he, by rw [hk, q]⟩)
      have : keyIs x a.key = false := by
        unfold keyIs
        split
        · rename_i b hb
          exact beq_ne (fun q => hne (by rw [hb, q]))
        · rfl
      rw [lookL, this]
      rw [List.map_cons, List.nodup_cons] at hn
      simpa using ih hn.2 he

/-- Block mb is a map keyed by strings that reads F. -/
def MapS (w : World) (mb : Nat) (zv : Value) (F : ByteArray → Value) : Prop :=
  ∃ es clock, w.heap[mb]? = some (.map es clock) ∧ KeysOk es.toList ∧ MapKept.Stamped es clock ∧ ∀ x, lookL zv x es.toList = F x

theorem MapS.new {w : World} {mb : Nat} {zv : Value} (h : w.heap[mb]? = some (.map #[] 0)) : MapS w mb zv (fun _ => zv) := ⟨#[], 0, h, by simp [KeysOk], MapKept.stamped_empty 0, fun _ => rfl⟩
theorem MapS.of {w w' : World} {mb : Nat} {zv : Value} {F : ByteArray → Value} (h : MapS w mb zv F) (e : w'.heap[mb]? = w.heap[mb]?) : MapS w' mb zv F := by
  obtain ⟨es, clock, h1, h2⟩ := h
  exact ⟨es, clock, e.trans h1, h2⟩
theorem MapS.lt {w : World} {mb : Nat} {zv : Value} {F : ByteArray → Value} (h : MapS w mb zv F) : mb < w.heap.size := by
  obtain ⟨es, clock, h1, _⟩ := h
  exact (Array.getElem?_eq_some_iff.1 h1).1

theorem und9 : Yba.prog.underlying 9 = some .string := Yba.underlying9

section
variable {tm te : TypeId} {zv : Value}

theorem MapS.look {w : World} {mb : Nat} {F : ByteArray → Value} (h : MapS w mb zv F) (ht : Yba.prog.underlying tm = some (.map 9 te)) (hz : ∀ w : World, (zeroValue te).run Yba.prog w = .ok zv w) (x : ByteArray) :
    (Instr.lookup tm (.map (some mb)) (.string x) false).run Yba.prog w = .ok (F x) w := by
  obtain ⟨es, clock, hb, hk, _, hF⟩ := h
  rw [← hF x]
  rcases find_spec zv x zv es.toList 0 hk with ⟨j, e0, h1, _⟩ | ⟨h1, h2, _⟩
  · simp [Instr.lookup, run_underlying ht, MapKept.run_getObj_map hb, MapKept.run_checkKey und9 (show IsKey .string (.string x) from trivial), MapKept.run_findKey und9 h1, Result.andThen]
  · simp [Instr.lookup, run_underlying ht, MapKept.run_getObj_map hb, MapKept.run_checkKey und9 (show IsKey .string (.string x) from trivial), MapKept.run_findKey und9 h1, Result.andThen, hz, h2]

theorem MapS.upd {w : World} {mb : Nat} {F : ByteArray → Value} (h : MapS w mb zv F) (ht : Yba.prog.underlying tm = some (.map 9 te)) (x : ByteArray) (u : Value) :
    ∃ w', (Instr.mapUpdate tm (.map (some mb)) (.string x) u).run Yba.prog w = .ok () w' ∧ MapS w' mb zv (fun y => if y = x then u else F y) ∧ w.grownBy w' (some mb) := by
  obtain ⟨es, clock, hb, hk, hst, hF⟩ := h
  have hkey : IsKey .string (.string x) := trivial
  have hset : ∀ o', w.grownBy (setBlock w mb o') (some mb) ∧ (setBlock w mb o').heap[mb]? = some o' := fun o' => by
    obtain ⟨h1, h2⟩ := MapKept.heap_set (o' := o') hb
    exact ⟨⟨rfl, rfl, rfl, by simp [setBlock], fun k _ hk => h2 k (fun e => hk (by rw [e]))⟩, h1⟩
  have fin : ∀ l : List MapEntry, lookL zv x l = u → (∀ y, y ≠ x → lookL zv y l = lookL zv y es.toList) → ∀ y, lookL zv y l = if y = x then u else F y := by
    intro l h5 h6 y
    by_cases e : y = x
    · rw [if_pos e, e, h5]
    · rw [if_neg e, h6 y e, hF y]
  rcases find_spec zv x u es.toList 0 hk with ⟨j, e0, h1, h2, h3, h4, h5, h6⟩ | ⟨h1, h2, h2', h3⟩
  · have h2' : es[j]? = some e0 := by simpa using h2
    refine ⟨setBlock w mb (.map (es.modify j (putE x u)) clock), ?_, ⟨_, _, (hset _).2, by simpa using h4, ?_, fin _ (by simpa using h5) (by simpa using h6)⟩, (hset _).1⟩
    · simp [Instr.mapUpdate, run_underlying ht, MapKept.run_getObj_map hb, MapKept.run_checkKey und9 hkey, MapKept.run_findKey und9 h1, h2', h3, MapKept.run_keyThatStays hkey, MapKept.run_setObj_map _ hb, Result.andThen, setBlock]
      rfl
    · exact MapKept.stamped_modify hst j _ (fun e _ => rfl) (fun e _ he => by rw [h2'] at he; cases he; exact h3.symm)
  · refine ⟨setBlock w mb (.map (es.push { key := .string x, val := u, born := clock }) (clock + 1)), ?_, ⟨_, _, (hset _).2, ?_, MapKept.stamped_push hst h2', fin _ (by simpa using (h3 clock).1) (by simpa using (h3 clock).2)⟩, (hset _).1⟩
    · simp [Instr.mapUpdate, run_underlying ht, MapKept.run_getObj_map hb, MapKept.run_checkKey und9 hkey, MapKept.run_findKey und9 h1, MapKept.run_setObj_map _ hb, Result.andThen, setBlock]
    · intro e he
      simp at he
      rcases he with he | rfl
      · exact hk e (by simpa using he)
      · exact hkey
end
theorem zero2 (w : World) : (zeroValue 2).run Yba.prog w = .ok (.int .i64 0) w := by kernel_rfl
theorem zero4 (w : World) : (zeroValue 4).run Yba.prog w = .ok (.bool false) w := by kernel_rfl
end Go.Proofs.Ybulklvy
