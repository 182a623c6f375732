import Derived.Test.Qxb6613243aPut
import Derived.OpenShut
import Derived.WalkSmall
import Derived.ShutString
import Derived.ChangeOld
namespace Go.Proofs.Qxb6613243a.Put
open Go.ChangeShapes Go.WideShapes Go.ChangeAt Go.RowKit
set_option linter.unusedVariables false

theorem ptr_succ (N k : Nat) : ptr N (k + 1) = some ⟨N + 1 + k, 0, none⟩ := rfl

set_option maxHeartbeats 400000 in
theorem walkA (a0 : Option Addr) (len cap : Nat) (Z : Nat → Int) (w : World) (hl : len ≤ 65536)
    (hrow : ∀ k, k < len → ∃ b off, a0 = some ⟨b, off, none⟩ ∧ w.cell? ⟨b, off + k, none⟩ = some (.int .i64 (Z k)) ∧ b < w.heap.size ∧ len ≤ cap) :
    Calls Try.prog 5 #[.slice a0 len cap] w fun e w' => e = .returned (.bool true) ∧ Below w.heap.size w w' := by
  go_enter Try.func5, Try.ntmps5
  go_wp2_with (first | (go_at_call 10; refine (bytes5 _ _ _ _ (by omega)).mono ?_; rintro e w' ⟨rfl, hw⟩; replace hw := hw.symm; subst hw) | (go_at_call 11; refine (new_any _).mono ?_; rintro e w' ⟨rfl, rfl⟩))
  go_loopg [4] (len) (fun g i wr => ∃ k : Nat, g + k = len ∧ i = .int .i64 k ∧ Built w.heap.size k Z w wr)
  case atStart => exact ⟨0, by omega, rfl, Built.start w Z⟩
  case round =>
    obtain ⟨k, hgk, rfl, hb⟩ := hrel
    by_cases hlt : k < len
    · obtain ⟨b, off, rfl, hcell, hbl, hlc⟩ := hrow k hlt
      have hcell' : wr.cell? ⟨b, off + k, none⟩ = some (.int .i64 (Z k)) := by rw [hb.below.cell hbl]; exact hcell
      go_wp2_with (go_at_call 12; refine (put_any _ _ _ _ hb.head hb.fro (by rw [hb.size]; omega)).mono ?_; rintro e w' ⟨rfl, rfl⟩)
      go_roundg (gk - 1)
      case measure => omega
      case rel => exact ⟨k + 1, by omega, by go_num, hb.step (Nat.le_refl _)⟩
    · have hkl : k = len := by omega
      subst hkl
      clear hgk
      go_wp2_with (go_at_call 13; refine (head_any _ _ _ hb.head).mono ?_; rintro e w' ⟨rfl, hw⟩; replace hw := hw.symm; subst hw)
      have hbel := hb.below
      have hnod := hb.nodes
      clear hb
      go_loopg [5, 6] (k) (fun g p i wr2 => g ≤ k ∧ p = .pointer (ptr w.heap.size g) ∧ i = .int .i64 ((g : Int) - 1) ∧ Below w.heap.size w wr2 ∧ Nodes w.heap.size k Z wr2)
      case atStart => exact ⟨Nat.le_refl _, rfl, by go_num, hbel, hnod⟩
      case round =>
        clear hbel hnod
        obtain ⟨hg, rfl, rfl, hbel, hnod⟩ := hrel
        cases gk with
        | zero =>
          go_wp2
          go_ret
          exact ⟨rfl, hbel⟩
        | succ g =>
          obtain ⟨b, off, rfl, hcell, hbl, hlc⟩ := hrow g (by omega)
          have hcell' : wr.cell? ⟨b, off + g, none⟩ = some (.int .i64 (Z g)) := by rw [hbel.cell hbl]; exact hcell
          have h0 := hnod.idx g (by omega)
          have h1 := hnod.nxt g (by omega)
          have hcst : ((g + 1 : Nat) : Int) - 1 = (g : Int) := by omega
          rw [hcst]
          clear hcst
          rw [ptr_succ]
          clear hrow hcell hlt
          go_wp2
          go_quiet ((go_at_call 14; exact Calls.quiet_of_same (index_any _ _ _ (by simpa using h0))))
          go_wp2_with (go_at_call 15; refine (next_any _ _ _ (by simpa using h1)).mono ?_; rintro e w' ⟨rfl, rfl⟩)
          go_roundg (g)
          case measure => omega
          case rel => exact ⟨by omega, rfl, by go_num, below_drewN hbel _, ⟨hnod.idx, hnod.nxt⟩⟩

theorem walkA_long (a0 : Option Addr) (len cap : Nat) (w : World) (hl : 65536 < len) :
    Calls Try.prog 5 #[.slice a0 len cap] w fun e w' => e = .returned (.bool true) ∧ Below w.heap.size w w' := by
  by_cases h : len ≤ 1048576
  · go_enter Try.func5, Try.ntmps5
    go_wp2_with (go_at_call 10; refine (bytes5 _ _ _ _ h).mono ?_; rintro e w' ⟨rfl, hw⟩; replace hw := hw.symm; subst hw)
    go_ret
    exact ⟨rfl, Below.refl _ _⟩
  · go_enter Try.func5, Try.ntmps5
    go_wp2_with (go_at_call 10; refine (bytes5_no _ _ _ _ (by omega)).mono ?_; rintro e w' ⟨rfl, hw⟩; replace hw := hw.symm; subst hw)
    go_ret
    exact ⟨rfl, Below.refl _ _⟩
end Go.Proofs.Qxb6613243a.Put
