import Derived.Test.Qxb6613096aRows
import Derived.Test.Qxb6613096aShelf
import Derived.WalkKit
import Derived.ProofKit
import Derived.Below
import Derived.WalkSmall
import Derived.Laws.IdiomCopy
import Derived.Laws.BytesArg
import Derived.Deep.LoopGhost
import Derived.Deep.OwnRows
import Derived.Deep.QuietTactic
import Derived.BigQuiet
namespace Go.Proofs.Qxb6613096a.Va
open Go.ChangeShapes Go.WideShapes Go.ChangeAt Go.RowKit
set_option linter.unusedVariables false

/-- A slice of strings that came in: each element's cell. -/
def Came (w : World) (a : Option Addr) (xs : List ByteArray) : Prop :=
  ∀ j, j < xs.length → ∃ b off, a = some ⟨b, off, none⟩ ∧ w.cell? ⟨b, off + j, none⟩ = some (.string (xs.getD j ByteArray.empty)) ∧ b < w.heap.size
/-- A slice of bytes that came in. -/
def CameB (w : World) (a : Option Addr) (ys : List Int) : Prop :=
  ∀ j, j < ys.length → ∃ b off, a = some ⟨b, off, none⟩ ∧ w.cell? ⟨b, off + j, none⟩ = some (.int .u8 (ys.getD j 0)) ∧ b < w.heap.size

/-- It returned some bool. -/
def IsBool (e : Ending) : Prop := ∃ b, e = .returned (.bool b)

theorem zb_long (a0 a1 : Option Addr) (len0 cap0 len1 cap1 : Nat) (k : Int) (w : World) (h : 1048576 < (len0 : Int)) :
    Calls Try.prog 10 #[.slice a0 len0 cap0, .slice a1 len1 cap1, .int .i64 k] w fun e w' => e = .returned (.bool false) ∧ w' = w := by
  go_enter Try.func10, Try.ntmps10
  go_wp2
  go_ret
  exact ⟨rfl, rfl⟩

set_option maxHeartbeats 400000 in
theorem zb_any (a0 a1 : Option Addr) (len0 cap0 len1 cap1 : Nat) (k : Int) (w : World) (xs : List ByteArray) (hl : xs.length = len0) (hc : Came w a0 xs) (hlc : len0 ≤ cap0) (h : (len0 : Int) ≤ 1048576) :
    Calls Try.prog 10 #[.slice a0 len0 cap0, .slice a1 len1 cap1, .int .i64 k] w fun e w' => IsBool e ∧ w' = w := by
  have HL : Hid (xs.length = len0) := hl
  have HC : Hid (Came w a0 xs) := hc
  clear hl hc
  go_enter Try.func10, Try.ntmps10
  go_wp2
  go_loopg [7, 8] len0 (fun g t i wr => ∃ (z : Int) (q : Nat), Hid (g + q = len0) ∧ t = .int .i64 z ∧ i = .int .i64 q ∧ wr = w)
  case atStart => exact ⟨_, 0, rfl, rfl, rfl, rfl⟩
  case round =>
    obtain ⟨z, q, hg, rfl, rfl, rfl⟩ := hrel
    by_cases hlt : (q : Int) < len0
    · obtain ⟨b, off, rfl, hcell, hbl⟩ := HC.out q (by have := HL.out; omega)
      clear HC
      generalize xs.getD q ByteArray.empty = s at hcell
      go_wp2
      all_goals first | (go_ret; exact ⟨⟨_, rfl⟩, rfl⟩) | skip
      go_roundg (gk - 1)
      case measure => have := hg.out; omega
      case rel => exact ⟨_, q + 1, by have := hg.out; show _ = _; omega, rfl, by go_num, rfl⟩
    · go_wp2
      all_goals (go_ret; exact ⟨⟨_, rfl⟩, rfl⟩)

set_option maxHeartbeats 400000 in
theorem tw_any (a0 : Option Addr) (len0 cap0 : Nat) (bud : Int) (w : World) (xs : List ByteArray) (hl : xs.length = len0) (hc : Came w a0 xs) (hlc : len0 ≤ cap0) (h : (len0 : Int) ≤ 1048576) :
    Calls Try.prog 7 #[.slice a0 len0 cap0, .int .i64 bud] w fun e w' => IsBool e ∧ w' = w := by
  have HL : Hid (xs.length = len0) := hl
  have HC : Hid (Came w a0 xs) := hc
  clear hl hc
  by_cases hb : bud < 0
  · go_enter Try.func7, Try.ntmps7
    go_wp2
    go_ret
    exact ⟨⟨_, rfl⟩, rfl⟩
  have hb' : 0 ≤ bud := by omega
  clear hb
  go_enter Try.func7, Try.ntmps7
  go_wp2
  go_loopg [5, 6] len0 (fun g t i wr => ∃ (z : Int) (q : Nat), Hid (g + q = len0) ∧ t = .int .i64 z ∧ i = .int .i64 q ∧ wr = w)
  case atStart => exact ⟨_, 0, rfl, rfl, rfl, rfl⟩
  case round =>
    obtain ⟨z, q, hg, rfl, rfl, rfl⟩ := hrel
    by_cases hlt : (q : Int) < len0
    · obtain ⟨b, off, rfl, hcell, hbl⟩ := HC.out q (by have := HL.out; omega)
      clear HC
      generalize xs.getD q ByteArray.empty = s at hcell
      go_wp2
      all_goals first | (go_ret; exact ⟨⟨_, rfl⟩, rfl⟩) | skip
      go_roundg (gk - 1)
      case measure => have := hg.out; omega
      case rel => exact ⟨_, q + 1, by have := hg.out; show _ = _; omega, rfl, by go_num, rfl⟩
    · go_wp2
      go_ret
      exact ⟨⟨_, rfl⟩, rfl⟩

/-- A slice of strings of the call's own (or nil). -/
def StrsAt (w : World) (a : Option Addr) (xs : List ByteArray) : Prop :=
  (a = none ∧ xs = []) ∨ ∃ b off, a = some ⟨b, off, none⟩ ∧ ∀ j, j < xs.length → w.cell? ⟨b, off + j, none⟩ = some (.string (xs.getD j ByteArray.empty))
/-- A slice of bytes of the call's own (or nil). -/
def BytesAt (w : World) (a : Option Addr) (ys : List Int) : Prop :=
  (a = none ∧ ys = []) ∨ ∃ b off, a = some ⟨b, off, none⟩ ∧ ∀ j, j < ys.length → w.cell? ⟨b, off + j, none⟩ = some (.int .u8 (ys.getD j 0))

theorem conv_any (w : World) (a : Option Addr) (n c : Nat) (ys : List Int) (hl : ys.length = n) (h : BytesAt w a ys) :
    (convert 28 9 (.slice a n c)).run Try.prog w = .ok (.string (strOfNums ys)) w := by
  rcases h with ⟨rfl, rfl⟩ | ⟨b, off, rfl, hc⟩
  · rw [run_convert_bytes_nil w 28 5 Try.underlying28 Try.underlying5 n c 9 Try.underlying9]
    rfl
  · exact run_convert_bytes_arg w 28 5 Try.underlying28 Try.underlying5 b off n c ys hl (fun i hi => hc i (by omega)) 9 Try.underlying9

theorem idx_any (w : World) (a : Option Addr) (n c : Nat) (xs : List ByteArray) (S : ByteArray) (hl : xs.length = n) (hb : n ≤ 1048576) (h : StrsAt w a xs) :
    Calls Try.prog 18 #[.slice a n c, .string S] w fun e w' => e = .returned (.int .i64 (Lib.idxOfS xs S)) ∧ w' = w := by
  rcases h with ⟨rfl, rfl⟩ | ⟨b, off, rfl, hc⟩
  · obtain rfl : n = 0 := by simpa using hl.symm
    exact Try.slices_Index_string_empty none c S w
  · have := Try.slices_Index_string b off n c xs S w (by omega) (by omega) hc
    rw [List.take_of_length_le (by omega)] at this
    exact this

/-- hook.valueOf: the first place of the text, and whether that is above 0. -/
theorem val_any (w : World) (a a1 : Option Addr) (n c n1 c1 : Nat) (xs : List ByteArray) (ys : List Int) (hl : xs.length = n) (hb : n ≤ 1048576) (h : StrsAt w a xs) (hl1 : ys.length = n1) (h1 : BytesAt w a1 ys) :
    Calls Try.prog 9 #[.slice a n c, .slice a1 n1 c1] w fun e w' => e = .returned (.tuple #[.int .i64 (Lib.idxOfS xs (strOfNums ys)), .bool (decide (0 < Lib.idxOfS xs (strOfNums ys)))]) ∧ w' = w := by
  have hcv := conv_any w a1 n1 c1 ys hl1 h1
  have HI : Hid (Calls Try.prog 18 #[.slice a n c, .string (strOfNums ys)] w fun e w' => e = .returned (.int .i64 (Lib.idxOfS xs (strOfNums ys))) ∧ w' = w) := idx_any w a n c xs (strOfNums ys) hl hb h
  clear hl hb h hl1 h1
  generalize strOfNums ys = S at hcv HI ⊢
  generalize Lib.idxOfS xs S = v at HI ⊢
  go_enter Try.func9, Try.ntmps9
  go_wp2_with (first | (go_at_call 18; refine HI.out.mono ?_; rintro e w' ⟨rfl, hw⟩; replace hw := hw.symm; subst hw) | go_in)
  go_ret2
  exact ⟨rfl, rfl⟩
end Go.Proofs.Qxb6613096a.Va
