import Derived.Test.Qxb6613926aDoorLawA
import Derived.ProofKit
import Derived.LaidMore
import Derived.OpenShut
import Derived.Stop.Joined
import Derived.Stop.LaidErr
import Derived.Lib.LaidTab
import Derived.Lib.SmallJoins
namespace Go.Proofs.Qxb6613926aDoor.Au
open Go.ChangeShapes Go.WideShapes Go.ChangeAt Go.RowKit
set_option linter.unusedVariables false

/-- The table's name, off the row's own list. -/
abbrev vAuth : String := (Rows.fnDefinedExactlyWhenStringNamesATypeRow.laid.map Prod.fst).getD 3 default
theorem own : ownKnob Tryd.prog.godebug = none := by kernel_rfl
theorem laidOut : laidOutB Tryd.prog = true := by kernel_rfl
theorem gAuth : Tryd.prog.globalNamed vAuth = some 0 := by kernel_rfl
theorem gPow : Tryd.prog.globalNamed vPow = some 1 := by kernel_rfl
theorem tAuth : (Tryd.prog.globals[0]?).map (·.type) = some 34 := by kernel_rfl
theorem cells33 : Tryd.prog.cellsOf 33 = 4 := by kernel_rfl
theorem cells34 : Tryd.prog.cellsOf 34 = 24 := by kernel_rfl
theorem cells9 : Tryd.prog.cellsOf 9 = 1 := by kernel_rfl
theorem cells3 : Tryd.prog.cellsOf 3 = 1 := by kernel_rfl

/-- The list of what is laid, as both rows bear it. -/
abbrev laid4 : List (String × DataW Unit) := Rows.fnDefinedExactlyWhenStringNamesATypeRow.laid

/-- ONE ROW OF THE TABLE: the name's cell and the longest secret's. -/
theorem row_of {H : Type} {enc : TypeId × Value → H} {w : World} {base : Nat} {sp : Nat → Bool} {held : Bool} {fuel : Nat} {cs : List Value} {bs : List UInt8} {m : Int} {a b : DataW H} {p : List MemPlace}
    (h : DataW.trod enc Tryd.prog w base sp held fuel 33 cs = some (.agg [.lit (.string bs), a, .lit (.int .i64 m), b], p)) :
    cs[0]? = some (.string ⟨bs.toArray⟩) ∧ cs[2]? = some (.int .i64 m) := by
  obtain ⟨y0, y1, y2, y3, n, hx, hl, h0, h1, h2, h3⟩ := Joins.trod_struct4 Tryd.underlying33 h
  simp only [Prod.mk.injEq, DataW.agg.injEq, List.cons.injEq, and_true] at hx
  obtain ⟨⟨e0, _, e2, _⟩, _⟩ := hx
  obtain ⟨s, hs, rfl, _⟩ := DataW.trod_string Tryd.underlying9 h0
  obtain ⟨k, hk, rfl, _⟩ := DataW.trod_int Tryd.underlying3 h2
  simp only [DataW.lit.injEq, Lit.string.injEq, Lit.int.injEq, true_and] at e0 e2
  subst e2
  have es : s = ⟨bs.toArray⟩ := by cases s; simp [e0]
  subst es
  rw [cells9] at hs
  rw [cells3] at hk
  have q0 := congrArg (·[0]?) hs
  have q2 := congrArg (·[0]?) hk
  constructor
  · simpa [List.getElem?_take, List.getElem?_drop] using q0
  · simpa [List.getElem?_take, List.getElem?_drop] using q2

theorem tab_of {W : World} (h : laidMet Tryd.prog [(vAuth, Rows.laid_example_com_pathbeat_pathbeat_authTypes)] W) : Tab W := by
  obtain ⟨ps, ⟨g, t, cs, fuel, p, q, hg, ht, hvar, hd, _, _⟩, _⟩ := h
  obtain rfl := Option.some.inj (gAuth.symm.trans hg)
  obtain rfl := Option.some.inj (tAuth.symm.trans ht)
  obtain ⟨xs, m, _, hx, hlen, hn, hel⟩ := DataW.trod_array Tryd.underlying34 hd
  simp only [Prod.mk.injEq] at hx
  obtain ⟨hx, _⟩ := hx
  rw [Rows.laid_example_com_pathbeat_pathbeat_authTypes, DataW.agg.injEq] at hx
  match xs, hn, hx, hel with
  | [x0, x1, x2, x3, x4, x5], _, hx, hel =>
    simp only [List.map_cons, List.map_nil, List.cons.injEq, and_true] at hx
    obtain ⟨e0, e1, e2, e3, e4, e5⟩ := hx
    rw [cells33] at hel
    have key : ∀ (i : Nat) (x : DataW Unit × List MemPlace) (bs : List UInt8) (mm : Int) (a b : DataW Unit), i < 6 → [x0, x1, x2, x3, x4, x5][i]? = some x → DataW.agg [.lit (.string bs), a, .lit (.int .i64 mm), b] = x.1 →
        W.cell? ⟨0, 4 * i, none⟩ = some (.string ⟨bs.toArray⟩) ∧ W.cell? ⟨0, 4 * i + 2, none⟩ = some (.int .i64 mm) := by
      intro i x bs mm a b hi hxi hxe
      have h1 := hel i hi
      rw [hxi] at h1
      obtain ⟨xd, xp⟩ := x
      simp only at hxe
      subst hxe
      obtain ⟨c0, c2⟩ := row_of h1
      rw [World.var?_cell hg hvar, World.var?_cell hg hvar]
      rw [← Array.getElem?_toList, ← Array.getElem?_toList]
      constructor
      · simpa [List.getElem?_take, List.getElem?_drop, Nat.mul_comm] using c0
      · simpa [List.getElem?_take, List.getElem?_drop, Nat.mul_comm] using c2
    intro i hi
    have hh : i = 0 ∨ i = 1 ∨ i = 2 ∨ i = 3 ∨ i = 4 ∨ i = 5 := by omega
    rcases hh with rfl | rfl | rfl | rfl | rfl | rfl
    · exact key 0 x0 _ _ _ _ (by omega) rfl e0
    · exact key 1 x1 _ _ _ _ (by omega) rfl e1
    · exact key 2 x2 _ _ _ _ (by omega) rfl e2
    · exact key 3 x3 _ _ _ _ (by omega) rfl e3
    · exact key 4 x4 _ _ _ _ (by omega) rfl e4
    · exact key 5 x5 _ _ _ _ (by omega) rfl e5

/-- WHAT THE CONDITION GIVES THE WALKS. -/
theorem of_laid {W : World} (h : laidMetH Tryd.prog laid4 W) : Tab W ∧ Lib.TabIs Tryd.prog W vPow .u64 Lib.pow10Tab := by
  rw [MakeChecks.laidMetH_plain _ _ _ (by kernel_rfl)] at h
  have h2 := h.tail.tail
  exact ⟨tab_of h2.tail, Lib.tabIs_of_head (t := 47) (e := 39) (n := 20) gPow (by kernel_rfl) (by kernel_rfl) (by kernel_rfl) (by kernel_rfl) (by kernel_rfl) h2⟩

/-- The door's own heap meets the condition. -/
theorem door_met (os : Os) (args : Array Value) : laidMetH Tryd.prog laid4 ((World.doorLaid Tryd.prog 35 os).forCall (fun _ _ => 0) ⟨#[], args, []⟩).memory :=
  laidMetH_of_parts3 (fuel := 8) (laidMet_of_run' 8 (by kernel_rfl) (by kernel_rfl)) (by kernel_rfl) (by kernel_rfl)

/-- A named variable lies in a block of the heap. -/
theorem var_lt {W : World} {cs : Array Value} (hvar : W.var? Tryd.prog vAuth = some cs) : 0 < W.heap.size := by
  rcases Nat.eq_zero_or_pos W.heap.size with h | h
  · exfalso
    unfold World.var? at hvar
    simp only [gAuth, Option.bind_some] at hvar
    rw [Array.getElem?_eq_none (by omega)] at hvar
    simp at hvar
  · exact h

/-- The table reads behind the call as it read before. -/
theorem vars_kept {H : Type} {enc : TypeId × Value → H} {W W' : World} {cs : Array Value} {fuel : Nat} {d : DataW H} {p : List MemPlace} (hd : DataW.trod enc Tryd.prog W 0 (fun _ => true) true fuel 34 cs.toList = some (d, p))
    (hvar : W.var? Tryd.prog vAuth = some cs) (bel : Below W.heap.size W W') :
    ∃ fuel', DataW.trod enc Tryd.prog W' 0 (fun b => decide (b < W.heap.size)) true fuel' 34 cs.toList = some (d, p) :=
  Below.trod (v := .agg cs) laidOut (by kernel_rfl) (of_decide_eq_true (by kernel_rfl)) ⟨fuel, hd⟩ bel (DataW.trod_lt _ _ _ _ hd)
end Go.Proofs.Qxb6613926aDoor.Au
