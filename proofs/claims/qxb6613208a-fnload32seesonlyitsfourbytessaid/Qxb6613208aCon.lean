import Derived.Test.Qxb6613208aRows
import Derived.Test.Qxb6613208aShelf
import Derived.Test.Qxb6613208aCopy
import Derived.Test.Qxb6613208aBits
import Derived.WalkKit
import Derived.ProofKit
import Derived.Below
import Derived.WalkSmall
import Derived.WalkSpells
import Derived.Deep.LoopGhost
import Derived.Deep.OwnRows
import Derived.Deep.RegionWith
namespace Go.Proofs.Qxb6613208a.Ld
open Go.ChangeShapes Go.WideShapes Go.ChangeAt Go.RowKit
set_option linter.unusedVariables false

/-- n cells of bytes from place off of block b on. -/
def Row (w : World) (b off n : Nat) (B : Nat → UInt8) : Prop := ∀ j, j < n → w.cell? ⟨b, off + j, none⟩ = some (.int .u8 ((B j).toNat : Int))

theorem Row.below {w w' : World} {b off n : Nat} {B : Nat → UInt8} (h : Row w b off n B) {M : Nat} (hb : Below M w w') (hM : b < M) : Row w' b off n B := fun j hj => by
  rw [hb.cell (p := ⟨b, off + j, none⟩) hM]
  exact h j hj

theorem load_any (w : World) (b off n c i : Nat) (B : Nat → UInt8) (h : Row w b off n B) (hi : (i : Int) + 4 ≤ n) (hn : (n : Int) ≤ c) :
    Calls Try.prog 9 #[.slice (some ⟨b, off, none⟩) n c, .int .i64 (i : Int)] w fun e w' => e = .returned (.int .u32 (le4 B i : Nat)) ∧ Below w.heap.size w w' := by
  have HC : Hid (∀ w1, Below w.heap.size w w1 → Calls Try.prog 13 #[.agg #[], .slice (some ⟨b, off + i, none⟩) (n - i) (c - i)] w1 fun e w' => e = .returned (.int .u32 (le4 B i : Nat)) ∧ Below w1.heap.size w1 w') := by
    intro w1 hb
    have hlt : b < w.heap.size := World.block_lt_of_cell? _ _ (h i (by omega))
    have hr := h.below hb hlt
    exact Try.binary_LE_Uint32 b (off + i) (n - i) (c - i) (B i) (B (i + 1)) (B (i + 2)) (B (i + 3)) w1 (by omega) (hr i (by omega)) (by have := hr (i + 1) (by omega); rwa [← Nat.add_assoc] at this) (by have := hr (i + 2) (by omega); rwa [← Nat.add_assoc] at this) (by have := hr (i + 3) (by omega); rwa [← Nat.add_assoc] at this)
  clear h
  have hci : ¬ c = i := by omega
  generalize le4 B i = X at HC ⊢
  go_enter Try.func9, Try.ntmps9
  go_wp2_with go_in
  go_region_with (go_at_call 13; refine (HC.out _ (Below.refl _ _).drew).mono ?_; rintro e w' ⟨rfl, hb1⟩)
  all_goals
    have hB : Below w.heap.size w w' := ((Below.refl w.heap.size w).drew).trans hb1
    clear hb1 HC
    go_wp2
    go_ret
    exact ⟨rfl, hB⟩

theorem size5 : (Try.prog.info? 5).map (·.size) = some 1 := by kernel_rfl
theorem info5 : (Try.prog.info? 5).map (fun i => (i.zero, i.size, i.bytes)) = some (some (.int .u8 0), 1, 1) := by kernel_rfl
theorem make27 (n : Nat) (h : n ≤ 1048576) (W : World) : (Instr.makeSlice 27 (.int .i64 (n : Int)) (.int .i64 (n : Int))).run Try.prog W = .ok (.slice (some ⟨W.heap.size, 0, none⟩) n n) (W.alloc (.cells (madeCells #[.int .u8 0] n) 5)) :=
  run_make_row' 27 5 _ 1 Try.underlying27 info5 rfl .i64 .i64 n (by omega) (by omega) W

theorem copyB (w : World) (b off n c : Nat) (B : Nat → UInt8) (h : Row w b off n B) :
    ∃ W1, (∀ ty, (Builtin.copy_ #[27, 27] ty #[.slice (some ⟨w.heap.size, 0, none⟩) n n, .slice (some ⟨b, off, none⟩) n c]).run Try.prog (w.alloc (.cells (madeCells #[.int .u8 0] n) 5)) = .ok (.int .i64 n) W1) ∧
      Row W1 w.heap.size 0 n B ∧ Below w.heap.size w W1 ∧ W1.heap.size = w.heap.size + 1 := by
  obtain ⟨W1, h1, h2, _, h4, h5⟩ := copy_new (P := Try.prog) 27 5 Try.underlying27 size5 (.int .u8 0) w (some ⟨b, off, none⟩) n c ((List.range n).map fun j => Value.int .u8 ((B j).toNat : Int)) (by simp) (by intro v hv; obtain ⟨s, _, rfl⟩ := List.mem_map.1 hv; rfl) (by
    intro j v hj
    rw [List.getElem?_map, Option.map_eq_some_iff] at hj
    obtain ⟨s, hs, rfl⟩ := hj
    obtain ⟨hjl, rfl⟩ : j < n ∧ j = s := by
      rw [List.getElem?_eq_some_iff] at hs
      obtain ⟨h1, h2⟩ := hs
      simp at h1 h2
      exact ⟨h1, h2⟩
    exact ⟨b, off, rfl, h j hjl, World.block_lt_of_cell? _ _ (h j hjl)⟩)
  refine ⟨W1, h1, fun j hj => ?_, h4, h5⟩
  rw [Nat.zero_add]
  exact h2 j _ (by simp [hj])

theorem zb4_no (a0 : Option Addr) (len cap : Nat) (i : Int) (w : World) (h : 1048576 < (len : Int)) :
    Calls Try.prog 8 #[.slice a0 len cap, .int .i64 i] w fun e w' => e = .returned (.bool false) ∧ w' = w := by
  go_enter Try.func8, Try.ntmps8
  go_wp2
  go_ret
  exact ⟨rfl, rfl⟩
theorem zb4_yes (a0 : Option Addr) (len cap : Nat) (i : Int) (w : World) (h : (len : Int) ≤ 1048576) :
    Calls Try.prog 8 #[.slice a0 len cap, .int .i64 i] w fun e w' => e = .returned (.bool true) ∧ w' = w := by
  go_enter Try.func8, Try.ntmps8
  go_wp2
  go_ret
  exact ⟨rfl, rfl⟩
theorem zb5_no (a0 : Option Addr) (len cap : Nat) (i j v : Int) (w : World) (h : 1048576 < (len : Int)) :
    Calls Try.prog 10 #[.slice a0 len cap, .int .i64 i, .int .i64 j, .int .u8 v] w fun e w' => e = .returned (.bool false) ∧ w' = w := by
  go_enter Try.func10, Try.ntmps10
  go_wp2
  go_ret
  exact ⟨rfl, rfl⟩
theorem zb5_yes (a0 : Option Addr) (len cap : Nat) (i j v : Int) (w : World) (h : (len : Int) ≤ 1048576) :
    Calls Try.prog 10 #[.slice a0 len cap, .int .i64 i, .int .i64 j, .int .u8 v] w fun e w' => e = .returned (.bool true) ∧ w' = w := by
  go_enter Try.func10, Try.ntmps10
  go_wp2
  go_ret
  exact ⟨rfl, rfl⟩
end Go.Proofs.Qxb6613208a.Ld
