import Derived.Test.Qxb6613243aRows
import Derived.WalkKit
import Derived.ProofKit
import Derived.Below
import Derived.Deep.LoopGhost
import Derived.Deep.QuietTactic
import Derived.BigQuiet
namespace Go.Proofs.Qxb6613243a.Put
open Go.ChangeShapes Go.WideShapes Go.ChangeAt Go.RowKit
set_option linter.unusedVariables false

theorem head_any (w : World) (N : Nat) (u : Option Addr) (hc : w.cell? ⟨N, 0, none⟩ = some (.pointer u)) :
    Calls Try.prog 13 #[.pointer (some ⟨N, 0, none⟩)] w fun e w' => e = .returned (.pointer u) ∧ w' = w := by
  go_enter Try.func13, Try.ntmps13
  go_wp2
  go_ret
  exact ⟨rfl, rfl⟩

theorem index_any (w : World) (N : Nat) (z : Int) (hc : w.cell? ⟨N, 0, none⟩ = some (.int .i64 z)) :
    Calls Try.prog 14 #[.pointer (some ⟨N, 0, none⟩)] w fun e w' => e = .returned (.int .i64 z) ∧ w' = w := by
  go_enter Try.func14, Try.ntmps14
  go_wp2
  go_ret
  exact ⟨rfl, rfl⟩

theorem next_any (w : World) (N : Nat) (u : Option Addr) (hc : w.cell? ⟨N, 1, none⟩ = some (.pointer u)) :
    Calls Try.prog 15 #[.pointer (some ⟨N, 0, none⟩)] w fun e w' => e = .returned (.pointer u) ∧ w' = w := by
  go_enter Try.func15, Try.ntmps15
  go_wp2
  go_ret
  exact ⟨rfl, rfl⟩

theorem new_any (w : World) :
    Calls Try.prog 11 #[] w fun e w' => e = .returned (.pointer (some ⟨w.heap.size, 0, none⟩)) ∧ w' = w.alloc (.cells #[.pointer none] 37) := by
  go_enter Try.func11, Try.ntmps11
  go_wp2
  go_ret
  exact ⟨rfl, rfl⟩

theorem put_in (w : World) (N : Nat) (u : Option Addr) (z : Int) (hc : w.cell? ⟨N, 0, none⟩ = some (.pointer u)) (hf : w.frozen? ⟨N, 0, none⟩ = false) (hN : N < w.heap.size) :
    Calls Try.prog 19 #[.pointer (some ⟨N, 0, none⟩), .int .i64 z] w fun e w' => e = .returned (.tuple #[]) ∧ w' = (w.setCell ⟨N, 0, none⟩ (.pointer (some ⟨w.heap.size, 0, none⟩))).alloc (.cells #[.int .i64 z, .pointer u] 40) := by
  go_enter Try.func19, Try.ntmps19
  go_wp2
  go_end0
  exact ⟨rfl, rfl⟩

theorem put_any (w : World) (N : Nat) (u : Option Addr) (z : Int) (hc : w.cell? ⟨N, 0, none⟩ = some (.pointer u)) (hf : w.frozen? ⟨N, 0, none⟩ = false) (hN : N < w.heap.size) :
    Calls Try.prog 12 #[.pointer (some ⟨N, 0, none⟩), .int .i64 z] w fun e w' => e = .returned (.tuple #[]) ∧ w' = (w.setCell ⟨N, 0, none⟩ (.pointer (some ⟨w.heap.size, 0, none⟩))).alloc (.cells #[.int .i64 z, .pointer u] 40) := by
  go_enter Try.func12, Try.ntmps12
  go_wp2_with (go_at_call 19; refine (put_in _ _ _ _ hc hf hN).mono ?_; rintro e w' ⟨rfl, rfl⟩)
  go_end0
  exact ⟨rfl, rfl⟩

theorem share_any (w : World) (N : Nat) (u : Option Addr) (hc : w.cell? ⟨N, 0, none⟩ = some (.pointer u)) (hN : N < w.heap.size) :
    Calls Try.prog 17 #[.pointer (some ⟨N, 0, none⟩)] w fun e w' => e = .returned (.pointer (some ⟨w.heap.size, 0, none⟩)) ∧ w' = w.alloc (.cells #[.pointer u] 37) := by
  go_enter Try.func17, Try.ntmps17
  go_wp2
  go_ret
  exact ⟨rfl, rfl⟩

theorem bytes5 (a0 : Option Addr) (len cap : Nat) (w : World) (h : len ≤ 1048576) :
    Calls Try.prog 10 #[.slice a0 len cap] w fun e w' => e = .returned (.bool true) ∧ w' = w := by
  go_enter Try.func10, Try.ntmps10
  go_wp2
  go_ret
  exact ⟨rfl, rfl⟩
theorem bytes5_no (a0 : Option Addr) (len cap : Nat) (w : World) (h : 1048576 < len) :
    Calls Try.prog 10 #[.slice a0 len cap] w fun e w' => e = .returned (.bool false) ∧ w' = w := by
  go_enter Try.func10, Try.ntmps10
  go_wp2
  go_ret
  exact ⟨rfl, rfl⟩
theorem bytes6 (a0 : Option Addr) (len cap : Nat) (x y : Int) (w : World) (h : len ≤ 1048576) :
    Calls Try.prog 16 #[.slice a0 len cap, .int .i64 x, .int .i64 y] w fun e w' => e = .returned (.bool true) ∧ w' = w := by
  go_enter Try.func16, Try.ntmps16
  go_wp2
  go_ret
  exact ⟨rfl, rfl⟩
theorem bytes6_no (a0 : Option Addr) (len cap : Nat) (x y : Int) (w : World) (h : 1048576 < len) :
    Calls Try.prog 16 #[.slice a0 len cap, .int .i64 x, .int .i64 y] w fun e w' => e = .returned (.bool false) ∧ w' = w := by
  go_enter Try.func16, Try.ntmps16
  go_wp2
  go_ret
  exact ⟨rfl, rfl⟩

/-- The address that the list's head holds behind k puts: block N is the vacancies' own, block N + 1 + i the i-th node. -/
def ptr (N : Nat) : Nat → Option Addr
  | 0 => none
  | k + 1 => some ⟨N + 1 + k, 0, none⟩

/-- Nodes 0 .. k-1 lie in wr: node i bears Z i and leads to node i - 1. -/
structure Nodes (N k : Nat) (Z : Nat → Int) (wr : World) : Prop where
  idx : ∀ i, i < k → wr.cell? ⟨N + 1 + i, 0, none⟩ = some (.int .i64 (Z i))
  nxt : ∀ i, i < k → wr.cell? ⟨N + 1 + i, 1, none⟩ = some (.pointer (ptr N i))

structure Built (N k : Nat) (Z : Nat → Int) (w wr : World) : Prop where
  size : wr.heap.size = N + 1 + k
  below : Below N w wr
  head : wr.cell? ⟨N, 0, none⟩ = some (.pointer (ptr N k))
  fro : wr.frozen? ⟨N, 0, none⟩ = false
  nodes : Nodes N k Z wr

theorem Built.start (w : World) (Z : Nat → Int) : Built w.heap.size 0 Z w (w.alloc (.cells #[.pointer none] 37)) where
  size := by simp
  below := (Below.refl _ _).alloc (Nat.le_refl _) _
  head := by simp [ptr]
  fro := by simp
  nodes := ⟨fun i h => by omega, fun i h => by omega⟩

theorem Nodes.keep {N k : Nat} {Z : Nat → Int} {wr w' : World} (h : Nodes N k Z wr) (hk : ∀ i o, i < k → w'.cell? ⟨N + 1 + i, o, none⟩ = wr.cell? ⟨N + 1 + i, o, none⟩) : Nodes N k Z w' :=
  ⟨fun i hi => by rw [hk i _ hi]; exact h.idx i hi, fun i hi => by rw [hk i _ hi]; exact h.nxt i hi⟩

theorem cell_put {wr : World} {N b o : Nat} (z : Int) (u v : Option Addr) (h1 : N < b) (h2 : b < wr.heap.size) :
    ((wr.setCell ⟨N, 0, none⟩ (.pointer v)).alloc (.cells #[.int .i64 z, .pointer u] 40)).cell? ⟨b, o, none⟩ = wr.cell? ⟨b, o, none⟩ := by
  rw [World.cell?_alloc_lt _ _ _ (by simpa [World.setCell] using h2), World.cell?_setCell_other _ _ _ _ (by intro e; have := congrArg Addr.block e; simp only [] at this; omega)]

theorem Built.step {N k : Nat} {Z : Nat → Int} {w wr : World} (h : Built N k Z w wr) (hN : N ≤ w.heap.size) :
    Built N (k + 1) Z w ((wr.setCell ⟨N, 0, none⟩ (.pointer (some ⟨wr.heap.size, 0, none⟩))).alloc (.cells #[.int .i64 (Z k), .pointer (ptr N k)] 40)) := by
  have hs := h.size
  have hsz : (wr.setCell ⟨N, 0, none⟩ (.pointer (some ⟨wr.heap.size, 0, none⟩))).heap.size = wr.heap.size := by simp [World.setCell]
  have hnew : ∀ o, ((wr.setCell ⟨N, 0, none⟩ (.pointer (some ⟨wr.heap.size, 0, none⟩))).alloc (.cells #[.int .i64 (Z k), .pointer (ptr N k)] 40)).cell? ⟨N + 1 + k, o, none⟩ = (#[.int .i64 (Z k), .pointer (ptr N k)] : Array Value)[o]? := by
    intro o
    exact World.cell?_alloc_at _ _ _ _ (by omega)
  refine ⟨by simp [World.setCell]; omega, (h.below.setCell (Nat.le_refl _) _).alloc (by omega) _, ?_, ?_, ?_, ?_⟩
  · rw [World.cell?_alloc_lt _ _ _ (by simp only []; omega), World.cell?_setCell_same _ _ _ h.head]
    simp [ptr, hs]
  · rw [World.frozen?_alloc_past _ _ _ (by omega)]
    simpa using h.fro
  · intro i hi
    by_cases e : i = k
    · subst e; rw [hnew]; rfl
    · rw [cell_put _ _ _ (by omega) (by omega)]; exact h.nodes.idx i (by omega)
  · intro i hi
    by_cases e : i = k
    · subst e; rw [hnew]; rfl
    · rw [cell_put _ _ _ (by omega) (by omega)]; exact h.nodes.nxt i (by omega)
end Go.Proofs.Qxb6613243a.Put
