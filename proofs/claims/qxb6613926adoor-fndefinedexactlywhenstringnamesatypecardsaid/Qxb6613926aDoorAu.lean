import Derived.Test.Qxb6613926aDoorRows
import Derived.Test.Qxb6613926aDoorShelf
import Derived.WalkKit
import Derived.ProofKit
import Derived.Below
import Derived.WalkSmall
import Derived.Deep.LoopGhost
import Derived.Deep.QuietTactic
import Derived.BigQuiet
namespace Go.Proofs.Qxb6613926aDoor.Au
open Go.ChangeShapes Go.WideShapes Go.ChangeAt Go.RowKit
set_option linter.unusedVariables false

def n0 : ByteArray := ⟨#[110, 111, 110, 101]⟩
def n1 : ByteArray := ⟨#[115, 105, 109, 112, 108, 101, 45, 112, 97, 115, 115, 119, 111, 114, 100]⟩
def n2 : ByteArray := ⟨#[107, 101, 121, 101, 100, 45, 109, 100, 53]⟩
def n3 : ByteArray := ⟨#[109, 101, 116, 105, 99, 117, 108, 111, 117, 115, 45, 107, 101, 121, 101, 100, 45, 109, 100, 53]⟩
def n4 : ByteArray := ⟨#[107, 101, 121, 101, 100, 45, 115, 104, 97, 49]⟩
def n5 : ByteArray := ⟨#[109, 101, 116, 105, 99, 117, 108, 111, 117, 115, 45, 107, 101, 121, 101, 100, 45, 115, 104, 97, 49]⟩
/-- What a reserved type's name begins with. -/
def pre : ByteArray := ⟨#[65, 117, 116, 104, 84, 121, 112, 101, 40]⟩
def suf : ByteArray := ⟨#[41]⟩

/-- The name and the longest secret of type i, as the table 'authTypes' holds them. -/
def nmAt : Nat → ByteArray
  | 0 => n0
  | 1 => n1
  | 2 => n2
  | 3 => n3
  | 4 => n4
  | _ => n5
def msAt : Nat → Int
  | 0 => 0
  | 1 => 16
  | 2 => 16
  | 3 => 16
  | _ => 20
/-- What the walks are told of the table. -/
def Tab (w : World) : Prop := ∀ i : Nat, i < 6 → w.cell? ⟨0, 4 * i, none⟩ = some (.string (nmAt i)) ∧ w.cell? ⟨0, 4 * i + 2, none⟩ = some (.int .i64 (msAt i))

theorem str0 (w : World) (hT : Tab w) : Calls Tryd.prog 5 #[.int .u8 0] w fun e w' => e = .returned (.string n0) ∧ w' = w := by
  have h : w.cell? ⟨0, 0, none⟩ = some (.string n0) := (hT 0 (by omega)).1
  clear hT
  go_enter Tryd.func5, Tryd.ntmps5
  go_wp2
  go_ret
  exact ⟨rfl, rfl⟩
theorem str1 (w : World) (hT : Tab w) : Calls Tryd.prog 5 #[.int .u8 1] w fun e w' => e = .returned (.string n1) ∧ w' = w := by
  have h : w.cell? ⟨0, 4, none⟩ = some (.string n1) := (hT 1 (by omega)).1
  clear hT
  go_enter Tryd.func5, Tryd.ntmps5
  go_wp2
  go_ret
  exact ⟨rfl, rfl⟩
theorem str2 (w : World) (hT : Tab w) : Calls Tryd.prog 5 #[.int .u8 2] w fun e w' => e = .returned (.string n2) ∧ w' = w := by
  have h : w.cell? ⟨0, 8, none⟩ = some (.string n2) := (hT 2 (by omega)).1
  clear hT
  go_enter Tryd.func5, Tryd.ntmps5
  go_wp2
  go_ret
  exact ⟨rfl, rfl⟩
theorem str3 (w : World) (hT : Tab w) : Calls Tryd.prog 5 #[.int .u8 3] w fun e w' => e = .returned (.string n3) ∧ w' = w := by
  have h : w.cell? ⟨0, 12, none⟩ = some (.string n3) := (hT 3 (by omega)).1
  clear hT
  go_enter Tryd.func5, Tryd.ntmps5
  go_wp2
  go_ret
  exact ⟨rfl, rfl⟩
theorem str4 (w : World) (hT : Tab w) : Calls Tryd.prog 5 #[.int .u8 4] w fun e w' => e = .returned (.string n4) ∧ w' = w := by
  have h : w.cell? ⟨0, 16, none⟩ = some (.string n4) := (hT 4 (by omega)).1
  clear hT
  go_enter Tryd.func5, Tryd.ntmps5
  go_wp2
  go_ret
  exact ⟨rfl, rfl⟩
theorem str5 (w : World) (hT : Tab w) : Calls Tryd.prog 5 #[.int .u8 5] w fun e w' => e = .returned (.string n5) ∧ w' = w := by
  have h : w.cell? ⟨0, 20, none⟩ = some (.string n5) := (hT 5 (by omega)).1
  clear hT
  go_enter Tryd.func5, Tryd.ntmps5
  go_wp2
  go_ret
  exact ⟨rfl, rfl⟩

theorem ret_bool {a b : Bool} (h : a = b) : Ending.returned (.bool a) = .returned (.bool b) := by rw [h]
theorem def_no (t : Int) (w : World) (h0 : 0 ≤ t) (h1 : t ≤ 255) (h : t = 0 ∨ 6 ≤ t) : Calls Tryd.prog 7 #[.int .u8 t] w fun e w' => e = .returned (.bool false) ∧ w' = w := by
  rcases h with rfl | h
  · go_enter Tryd.func7, Tryd.ntmps7
    go_wp2
    go_ret
    exact ⟨rfl, rfl⟩
  · go_enter Tryd.func7, Tryd.ntmps7
    go_wp2
    go_ret
    exact ⟨ret_bool (by simp; omega), rfl⟩
theorem def_yes (t : Int) (w : World) (h0 : 1 ≤ t) (h1 : t ≤ 5) : Calls Tryd.prog 7 #[.int .u8 t] w fun e w' => e = .returned (.bool true) ∧ w' = w := by
  go_enter Tryd.func7, Tryd.ntmps7
  go_wp2
  go_ret
  exact ⟨ret_bool (by simp; omega), rfl⟩

/-- zzHasPrefix at a text whose first byte is another: false. -/
theorem hp_no (s : ByteArray) (w : World) (p : ByteArray) (h0 : 0 < p.size) (h1 : p.size ≤ s.size) (hm : s.size ≤ 9223372036854775807) (hne : ((s[0].toNat : Int) == (p[0].toNat : Int)) = false) :
    Calls Tryd.prog 6 #[.string s, .string p] w fun e w' => e = .returned (.bool false) ∧ ∃ n, w' = w.drewN n := by
  have hs0 : 0 < s.size := by omega
  have hs1 : (0 : Int) < s.size := by omega
  have hp1 : (0 : Int) < p.size := by omega
  go_enter Tryd.func6, Tryd.ntmps6
  go_wp2
  go_loopg [5] 1 (fun g i wr => g = 1 ∧ i = .int .i64 0 ∧ wr = w)
  case atStart => exact ⟨rfl, rfl, rfl⟩
  case round =>
    obtain ⟨rfl, rfl, rfl⟩ := hrel
    go_wp2
    go_quiet (fail)
    go_wp2
    go_ret
    exact ⟨rfl, _, rfl⟩

/-- zzHasPrefix at a text that begins so: true. -/
theorem hp_yes (s : ByteArray) (w : World) (p : ByteArray) (h1 : p.size ≤ s.size) (hm : s.size ≤ 9223372036854775807) (heq : ∀ i (hi : i < p.size), s[i]'(by omega) = p[i]) :
    Calls Tryd.prog 6 #[.string s, .string p] w fun e w' => e = .returned (.bool true) ∧ ∃ n, w' = w.drewN n := by
  go_enter Tryd.func6, Tryd.ntmps6
  go_wp2
  go_loopg [5] p.size (fun g i wr => ∃ k : Nat, g + k = p.size ∧ i = .int .i64 k ∧ ∃ n, wr = w.drewN n)
  case atStart => exact ⟨0, by omega, rfl, 0, rfl⟩
  case round =>
    obtain ⟨k, hg, rfl, n, rfl⟩ := hrel
    by_cases hlt : k < p.size
    · have hk := heq k hlt
      have hks : k < s.size := by omega
      clear heq
      go_wp2
      go_quiet (fail)
      go_wp2
      go_roundg (gk - 1)
      case measure => omega
      case rel => exact ⟨k + 1, by omega, by go_num, _, rfl⟩
    · go_wp2
      go_ret
      exact ⟨rfl, _, rfl⟩

end Go.Proofs.Qxb6613926aDoor.Au
