/-
  A map keyed by uint64 whose elements are slices: what a look-up reads, what a store leaves. The plain laws on the entries' list, and the two runs.
-/
import Derived.Test.YbulklvkRand
import Derived.Maps.OwnOps
namespace Go.Proofs.Ybulklvk
open Go.ChangeShapes Go.WideShapes Go.ChangeAt Go.RowKit Go.Instr
open Go.ChangeMaps (setBlock)
open Go.MapKept (IsKey)

def KeysOk (l : List MapEntry) : Prop := ∀ e ∈ l, IsKey (.int .u64) e.key

def keyIs (x : Int) : Value → Bool
  | .int .u64 k => k == x
  | _ => false

/-- What a look-up at key x reads: the first entry's element, else nil. -/
def lookL (x : Int) : List MapEntry → Value
  | [] => .slice none 0 0
  | e :: l => if keyIs x e.key then e.val else lookL x l

def putE (x : Int) (u : Value) (e : MapEntry) : MapEntry := { e with key := .int .u64 x, val := u }

theorem key_form {v : Value} (h : IsKey (.int .u64) v) : ∃ k : Int, v = .int .u64 k := by
  cases v <;> simp [IsKey] at h
  subst h
  exact ⟨_, rfl⟩

theorem find_spec (x : Int) (u : Value) : ∀ (l : List MapEntry) (n : Nat), KeysOk l →
    (∃ j e, findNow (.int .u64) (.int .u64 x) l n = some (some (n + j, lookL x l)) ∧ l[j]? = some e ∧ e.key = .int .u64 x ∧
      KeysOk (l.modify j (putE x u)) ∧ lookL x (l.modify j (putE x u)) = u ∧ ∀ y, y ≠ x → lookL y (l.modify j (putE x u)) = lookL y l) ∨
    (findNow (.int .u64) (.int .u64 x) l n = some none ∧ lookL x l = .slice none 0 0 ∧
      ∀ born, lookL x (l ++ [{ key := .int .u64 x, val := u, born := born }]) = u ∧ ∀ y, y ≠ x → lookL y (l ++ [{ key := .int .u64 x, val := u, born := born }]) = lookL y l) := by
  intro l
  induction l with
  | nil =>
    intro n _
    refine .inr ⟨rfl, rfl, fun born => ⟨by simp [lookL, keyIs], fun y hy => ?_⟩⟩
    simp [lookL, keyIs, Ne.symm hy]
  | cons e l ih =>
    intro n hk
    obtain ⟨k, hek⟩ := key_form (hk e (by simp))
    have hk' : KeysOk l := fun e' he' => hk e' (by simp [he'])
    by_cases hx : x = k
    · subst hx
      refine .inl ⟨0, e, ?_, rfl, hek, ?_, ?_, ?_⟩
      · simp [findNow, sameNow, hek, lookL, keyIs]
      · intro e' he'
        simp [List.modify] at he'
        rcases he' with rfl | he'
        · simp [putE, IsKey]
        · exact hk' e' he'
      · simp [List.modify, lookL, putE, keyIs]
      · intro y hy
        simp [List.modify, lookL, putE, keyIs, hek, Ne.symm hy]
    · have hs : sameNow (.int .u64) (.int .u64 x) e.key = some false := by simp [sameNow, hek, hx]
      have hki : keyIs x e.key = false := by simp [keyIs, hek]; exact fun h => hx h.symm
      rcases ih (n + 1) hk' with ⟨j, e0, h1, h2, h3, h4, h5, h6⟩ | ⟨h1, h2, h3⟩
      · refine .inl ⟨j + 1, e0, ?_, by simpa using h2, h3, ?_, ?_, ?_⟩
        · simp only [findNow, hs, h1, lookL, hki]
          simp
          omega
        · intro e' he'
          simp at he'
          rcases he' with rfl | he'
          · exact hk _ (by simp)
          · exact h4 e' he'
        · simp [lookL, hki, h5]
        · intro y hy
          simp [lookL, h6 y hy]
      · refine .inr ⟨?_, ?_, fun born => ⟨?_, fun y hy => ?_⟩⟩
        · simp only [findNow, hs, h1]
        · simp [lookL, hki, h2]
        · simp [lookL, hki, (h3 born).1]
        · simp [lookL, (h3 born).2 y hy]

theorem und92 : Yba.prog.underlying 92 = some (.map 42 69) := Yba.underlying92
theorem und42 : Yba.prog.underlying 42 = some (.int .u64) := Yba.underlying42

theorem run_look (x : Int) (w : World) (mb : Nat) (es : Array MapEntry) (clock : Nat) (hb : w.heap[mb]? = some (.map es clock)) (hk : KeysOk es.toList) :
    (Instr.lookup 92 (.map (some mb)) (.int .u64 x) false).run Yba.prog w = .ok (lookL x es.toList) w := by
  have hz : (zeroValue 69).run Yba.prog w = .ok (.slice none 0 0) w := by kernel_rfl
  rcases find_spec x (.slice none 0 0) es.toList 0 hk with ⟨j, e0, h1, _⟩ | ⟨h1, h2, _⟩
  · simp [Instr.lookup, run_underlying und92, MapKept.run_getObj_map hb, MapKept.run_checkKey und42 (show IsKey (.int .u64) (.int .u64 x) from rfl), MapKept.run_findKey und42 h1, Result.andThen]
  · simp [Instr.lookup, run_underlying und92, MapKept.run_getObj_map hb, MapKept.run_checkKey und42 (show IsKey (.int .u64) (.int .u64 x) from rfl), MapKept.run_findKey und42 h1, Result.andThen, hz, h2]

theorem run_upd (x : Int) (u : Value) (w : World) (mb : Nat) (es : Array MapEntry) (clock : Nat) (hb : w.heap[mb]? = some (.map es clock)) (hk : KeysOk es.toList) :
    ∃ es' clock', (Instr.mapUpdate 92 (.map (some mb)) (.int .u64 x) u).run Yba.prog w = .ok () (setBlock w mb (.map es' clock')) ∧ KeysOk es'.toList ∧ lookL x es'.toList = u ∧ ∀ y, y ≠ x → lookL y es'.toList = lookL y es.toList := by
  have hkey : IsKey (.int .u64) (.int .u64 x) := rfl
  rcases find_spec x u es.toList 0 hk with ⟨j, e0, h1, h2, h3, h4, h5, h6⟩ | ⟨h1, h2, h3⟩
  · refine ⟨es.modify j (putE x u), clock, ?_, by simpa using h4, by simpa using h5, by simpa using h6⟩
    have h2' : es[j]? = some e0 := by simpa using h2
    simp [Instr.mapUpdate, run_underlying und92, MapKept.run_getObj_map hb, MapKept.run_checkKey und42 hkey, MapKept.run_findKey und42 h1, h2', h3, MapKept.run_keyThatStays hkey, MapKept.run_setObj_map _ hb, Result.andThen, setBlock]
    rfl
  · refine ⟨es.push { key := .int .u64 x, val := u, born := clock }, clock + 1, ?_, ?_, by simpa using (h3 clock).1, by simpa using (h3 clock).2⟩
    · simp [Instr.mapUpdate, run_underlying und92, MapKept.run_getObj_map hb, MapKept.run_checkKey und42 hkey, MapKept.run_findKey und42 h1, MapKept.run_setObj_map _ hb, Result.andThen, setBlock]
    · intro e he
      simp at he
      rcases he with he | rfl
      · exact hk e (by simpa using he)
      · exact hkey
end Go.Proofs.Ybulklvk
