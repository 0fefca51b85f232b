/-
  'LawS0622BGroups' (function 4): what comes in; the long lists.
-/
import Derived.Test.YbulklvyCnt
namespace Go.Proofs.Ybulklvy
open Go.ChangeShapes Go.WideShapes Go.ChangeAt Go.RowKit Go.Instr
set_option linter.unusedVariables false

/-- An account as it came in. -/
structure Za where
  h : Int
  sh : Int
  ro : Int
def Za.cells (z : Za) : List Value := [.int .u8 z.h, .int .u32 z.sh, .int .u8 z.ro]
theorem za_len (z : Za) : z.cells.length = 3 := rfl
def Za.ok (z : Za) : Prop := (0 ≤ z.h ∧ z.h ≤ 255) ∧ (0 ≤ z.sh ∧ z.sh ≤ 4294967295) ∧ 0 ≤ z.ro ∧ z.ro ≤ 255
def Za.ac (z : Za) : Ac := ⟨(z.h % 8).toNat, z.sh, (z.ro % 3).toNat⟩
theorem za_ok {z : Za} (h : z.ok) : z.ac.ok := by
  obtain ⟨h1, h2, h3⟩ := h
  refine ⟨?_, h2.1, h2.2, ?_⟩
  · show (z.h % 8).toNat < 8; omega
  · show (z.ro % 3).toNat < 3; omega
def u16c (x : Int) : List Value := [.int .u16 x]
theorem u16_len (x : Int) : (u16c x).length = 1 := rfl
def u8c (x : Int) : List Value := [.int .u8 x]
theorem u8_len (x : Int) : (u8c x).length = 1 := rfl

/-- The concert groups as they came in. -/
def ConcIn (w : World) (N : Nat) (pc : Option Addr) (gs : List (List Int)) : Prop :=
  ∃ sls : List Sl, RowAt Sl.cells 1 N w pc sls ∧ sls.length = gs.length ∧ ∀ (i : Nat) (s : Sl) (g : List Int), sls[i]? = some s → gs[i]? = some g → s.n = g.length ∧ RowAt u8c 1 N w s.a g
theorem ConcIn.below {w w' : World} {N B : Nat} {pc : Option Addr} {gs : List (List Int)} (h : ConcIn w N pc gs) (hb : Below B w w') (hN : N ≤ B) : ConcIn w' N pc gs := by
  obtain ⟨sls, h1, h2, h3⟩ := h
  exact ⟨sls, h1.below hb hN, h2, fun i s g hs hg => ⟨(h3 i s g hs hg).1, (h3 i s g hs hg).2.below hb hN⟩⟩

/-- Eight cells. -/
def arr8 (f : Nat → Value) : Array Value := #[f 0, f 1, f 2, f 3, f 4, f 5, f 6, f 7]
theorem arr8_at (f : Nat → Value) {k : Nat} (h : k < 8) : (arr8 f)[k]? = some (f k) := by
  match k, h with
  | 0, _ => rfl
  | 1, _ => rfl
  | 2, _ => rfl
  | 3, _ => rfl
  | 4, _ => rfl
  | 5, _ => rfl
  | 6, _ => rfl
  | 7, _ => rfl
theorem arr8_set (f : Nat → Value) (k : Nat) (v : Value) (h : k < 8) : (arr8 f).setIfInBounds k v = arr8 (fun i => if i = k then v else f i) := by
  match k, h with
  | 0, _ => rfl
  | 1, _ => rfl
  | 2, _ => rfl
  | 3, _ => rfl
  | 4, _ => rfl
  | 5, _ => rfl
  | 6, _ => rfl
  | 7, _ => rfl

set_option maxRecDepth 100000 in
theorem name_int (x : Int) (w : World) (h0 : 0 ≤ x) (h1 : x < 8) : Calls Yba.prog 9 #[.int .i64 x] w fun e w' => e = .returned (.string (nm x.toNat)) ∧ w' = w := by
  obtain ⟨k, rfl⟩ := Int.eq_ofNat_of_zero_le h0
  have := name_any k w (by omega)
  simpa using this

/-- All that came in. -/
structure In (w : World) (zs : List Za) (pz pa po pk pn pc : Option Addr) (xa xo xk xn : List Int) (gs : List (List Int)) : Prop where
  rz : RowAt Za.cells 3 w.heap.size w pz zs
  ra : RowAt u16c 1 w.heap.size w pa xa
  ro : RowAt u16c 1 w.heap.size w po xo
  rk : RowAt u16c 1 w.heap.size w pk xk
  rn : RowAt u16c 1 w.heap.size w pn xn
  rc : ConcIn w w.heap.size pc gs
  oz : ∀ z ∈ zs, z.ok
  oa : ∀ x ∈ xa, 0 ≤ x ∧ x ≤ 65535
  oo : ∀ x ∈ xo, 0 ≤ x ∧ x ≤ 65535
  ok : ∀ x ∈ xk, 0 ≤ x ∧ x ≤ 65535
  on : ∀ x ∈ xn, 0 ≤ x ∧ x ≤ 65535
  oc : ∀ g ∈ gs, ∀ x ∈ g, 0 ≤ x ∧ x ≤ 255
  lz : zs.length ≤ maxLen
  la : xa.length ≤ maxLen
  lo : xo.length ≤ maxLen
  lk : xk.length ≤ maxLen
  ln : xn.length ≤ maxLen
  lc : gs.length ≤ maxLen
  lg : ∀ g ∈ gs, g.length ≤ maxLen

section
variable {w : World} {zs : List Za} {pz pa po pk pn pc : Option Addr} {xa xo xk xn : List Int} {gs : List (List Int)} {cz ca co ck cn cc : Nat}

set_option maxRecDepth 100000 in
set_option maxHeartbeats 8000000 in
/-- A list is too long: true at once. -/
theorem law_big (I : In w zs pz pa po pk pn pc xa xo xk xn gs) (listed minor : Bool) (hbig : 1024 < zs.length ∨ 1024 < xa.length ∨ 1024 < xo.length ∨ 1024 < xk.length ∨ 1024 < xn.length ∨ 64 < gs.length) :
    Calls Yba.prog 4 #[.slice pz zs.length cz, .bool listed, .slice pa xa.length ca, .slice po xo.length co, .slice pk xk.length ck, .slice pn xn.length cn, .bool minor, .slice pc gs.length cc] w fun e w' => e = .returned (.bool true) ∧ Below w.heap.size w w' := by
  have l0 := I.lz
  have l1 := I.la
  have l2 := I.lo
  have l3 := I.lk
  have l4 := I.ln
  have l5 := I.lc
  unfold maxLen at l0 l1 l2 l3 l4 l5
  by_cases b0 : 1024 < zs.length
  · clear hbig
    go_enter Yba.func4, Yba.ntmps4
    go_wp2
    go_ret
    exact ⟨rfl, Below.refl _ _⟩
  by_cases b1 : 1024 < xa.length
  · clear hbig
    go_enter Yba.func4, Yba.ntmps4
    go_wp2
    go_ret
    exact ⟨rfl, Below.refl _ _⟩
  by_cases b2 : 1024 < xo.length
  · clear hbig
    go_enter Yba.func4, Yba.ntmps4
    go_wp2
    go_ret
    exact ⟨rfl, Below.refl _ _⟩
  by_cases b3 : 1024 < xk.length
  · clear hbig
    go_enter Yba.func4, Yba.ntmps4
    go_wp2
    go_ret
    exact ⟨rfl, Below.refl _ _⟩
  by_cases b4 : 1024 < xn.length
  · clear hbig
    go_enter Yba.func4, Yba.ntmps4
    go_wp2
    go_ret
    exact ⟨rfl, Below.refl _ _⟩
  by_cases b5 : 64 < gs.length
  · clear hbig
    go_enter Yba.func4, Yba.ntmps4
    go_wp2
    go_ret
    exact ⟨rfl, Below.refl _ _⟩
  omega
end
end Go.Proofs.Ybulklvy
