import Derived.Test.Qxb6613926aDoorAu
import Derived.Lib.ItoaLen
import Derived.Lib.AppendIntMem
namespace Go.Proofs.Qxb6613926aDoor.Au
open Go.ChangeShapes Go.WideShapes Go.ChangeAt Go.RowKit
set_option linter.unusedVariables false

/-- The name of strconv's table of powers, off the row's own list. -/
abbrev vPow : String := (Rows.fnDefinedExactlyWhenStringNamesATypeRow.laid.map Prod.fst).getD 2 default

open Go.Sort in
/-- strconv.Itoa by the kit's contract, laid at this dump (Qxb6613926aDoorShelf). -/
theorem itoa_laid (n : Int) (h0 : -9223372036854775808 ≤ n) (h1 : n ≤ 9223372036854775807) (w : World) (htab : Lib.TabIs Tryd.prog w vPow .u64 Lib.pow10Tab) :
    Calls Tryd.prog 9 #[.int .i64 n] w fun e w' => e = .returned (.string ⟨(Lib.itoa n).toArray⟩) ∧ ∃ k os, w' = grow (w.drewN k) os := Any.strconv_Itoa Tryd.laysM171 n h0 h1 w htab

theorem itoa_any (t : Int) (w : World) (h0 : 0 ≤ t) (h1 : t ≤ 255) (htab : Lib.TabIs Tryd.prog w vPow .u64 Lib.pow10Tab) :
    Calls Tryd.prog 9 #[.int .i64 t] w fun e w' => ∃ S : ByteArray, e = .returned (.string S) ∧ S.size ≤ 21 ∧ Below w.heap.size w w' := by
  refine (itoa_laid t (by omega) (by omega) w htab).mono ?_
  rintro e w' ⟨rfl, k, os, rfl⟩
  refine ⟨_, rfl, ?_, Lib.below_grow _ _ (Nat.le_refl _) _ _⟩
  have := Lib.itoa_length_le t (by omega) (by omega)
  simpa [ByteArray.size] using this

theorem str_big (t : Int) (w : World) (h0 : 6 ≤ t) (h1 : t ≤ 255) (htab : Lib.TabIs Tryd.prog w vPow .u64 Lib.pow10Tab) :
    Calls Tryd.prog 5 #[.int .u8 t] w fun e w' => ∃ S : ByteArray, e = .returned (.string (pre ++ S ++ suf)) ∧ S.size ≤ 21 ∧ Below w.heap.size w w' := by
  have H : Hid (Lib.TabIs Tryd.prog w vPow .u64 Lib.pow10Tab) := htab
  clear htab
  go_enter Tryd.func5, Tryd.ntmps5
  go_wp2_with fail
  refine (itoa_any _ _ (by omega) (by omega) H.out).mono ?_
  rintro e w' ⟨S, rfl, hS, hb⟩
  have ha : ∀ W, (Op.stringOp .add ⟨#[65, 117, 116, 104, 84, 121, 112, 101, 40]⟩ S).run Tryd.prog W = .ok (.string (pre ++ S)) W := fun W => run_string_add W pre S (by decide) (by omega)
  have hs : (pre ++ S).size = 9 + S.size := by rw [ByteArray.size_append]; rfl
  have hb2 : ∀ W, (Op.stringOp .add (pre ++ S) ⟨#[41]⟩).run Tryd.prog W = .ok (.string (pre ++ S ++ suf)) W := fun W => run_string_add W (pre ++ S) suf (by omega) (by decide)
  go_wp2
  go_ret
  exact ⟨S, rfl, hS, hb⟩

theorem big_at (S : ByteArray) (i : Nat) (hi : i < pre.size) : (pre ++ S ++ suf)[i]'(by rw [ByteArray.size_append, ByteArray.size_append]; omega) = pre[i] := by
  rw [ByteArray.getElem_append_left (by rw [ByteArray.size_append]; omega), ByteArray.getElem_append_left hi]

theorem big_ne (S : ByteArray) : ((pre ++ S ++ suf).toList == [110, 111, 110, 101]) = false := by
  rw [beq_eq_false_iff_ne]
  intro e
  have h := congrArg List.length e
  rw [ByteArray.toList_eq] at h
  simp at h
  have : pre.size = 9 := rfl
  omega

theorem lawA_none (w : World) (hT : Tab w) :
    Calls Tryd.prog 3 #[.int .u8 0] w fun e w' => e = .returned (.bool true) ∧ Below w.heap.size w w' := by
  have hq : (n0.toList == [110, 111, 110, 101]) = true := by simp [n0, go_sem]
  have HT : Hid (Tab w) := hT
  clear hT
  go_enter Tryd.func3, Tryd.ntmps3
  go_wp2_with fail
  refine (str0 _ HT.out).mono ?_
  rintro e w' ⟨rfl, hw⟩; replace hw := hw.symm; subst hw
  go_wp2_with fail
  refine (def_no _ _ (by omega) (by omega) (.inl rfl)).mono ?_
  rintro e w' ⟨rfl, hw⟩; replace hw := hw.symm; subst hw
  go_wp2
  go_ret
  exact ⟨rfl, Below.refl _ _⟩

theorem lawA_named (t : Int) (nm : ByteArray) (w : World) (h0 : 1 ≤ t) (h1 : t ≤ 5)
    (hs : Hid (Calls Tryd.prog 5 #[.int .u8 t] w fun e w' => e = .returned (.string nm) ∧ w' = w))
    (hq : (nm.toList == [110, 111, 110, 101]) = false)
    (hp : Hid (∀ w, Calls Tryd.prog 6 #[.string nm, .string pre] w fun e w' => e = .returned (.bool false) ∧ ∃ n, w' = w.drewN n)) :
    Calls Tryd.prog 3 #[.int .u8 t] w fun e w' => e = .returned (.bool true) ∧ Below w.heap.size w w' := by
  go_enter Tryd.func3, Tryd.ntmps3
  go_wp2_with fail
  refine hs.out.mono ?_
  rintro e w' ⟨rfl, hw⟩; replace hw := hw.symm; subst hw
  go_wp2_with fail
  refine (hp.out _).mono ?_
  rintro e w' ⟨rfl, n, rfl⟩
  go_wp2_with fail
  refine (def_yes _ _ h0 h1).mono ?_
  rintro e w' ⟨rfl, rfl⟩
  go_wp2
  go_ret
  exact ⟨ret_bool (by simp <;> omega), below_drewN (Below.refl _ _) _⟩

theorem lawA_big (t : Int) (w : World) (h0 : 6 ≤ t) (h1 : t ≤ 255) (htab : Lib.TabIs Tryd.prog w vPow .u64 Lib.pow10Tab) :
    Calls Tryd.prog 3 #[.int .u8 t] w fun e w' => e = .returned (.bool true) ∧ Below w.heap.size w w' := by
  have H : Hid (Lib.TabIs Tryd.prog w vPow .u64 Lib.pow10Tab) := htab
  clear htab
  go_enter Tryd.func3, Tryd.ntmps3
  go_wp2_with fail
  refine (str_big _ _ h0 h1 H.out).mono ?_
  rintro e w1 ⟨S, rfl, hS, hb⟩
  have hq : ((pre ++ S ++ suf).toList == [110, 111, 110, 101]) = false := big_ne S
  have hsz : (pre ++ S ++ suf).size = 9 + S.size + 1 := by rw [ByteArray.size_append, ByteArray.size_append]; rfl
  have HP : Hid (∀ w, Calls Tryd.prog 6 #[.string (pre ++ S ++ suf), .string pre] w fun e w' => e = .returned (.bool true) ∧ ∃ n, w' = w.drewN n) := fun w =>
    hp_yes _ w pre (by have : pre.size = 9 := rfl; omega) (by omega) (fun i hi => big_at S i hi)
  clear hsz
  generalize pre ++ S ++ suf = nm at hq HP ⊢
  go_wp2_with fail
  refine (HP.out _).mono ?_
  rintro e w' ⟨rfl, n, rfl⟩
  go_wp2_with fail
  refine (def_no _ _ (by omega) h1 (.inr h0)).mono ?_
  rintro e w' ⟨rfl, rfl⟩
  go_wp2
  go_ret
  exact ⟨ret_bool (by simp <;> omega), below_drewN hb _⟩

theorem lawA (t : Int) (w : World) (h0 : 0 ≤ t) (h1 : t ≤ 255) (hT : Tab w) (htab : Lib.TabIs Tryd.prog w vPow .u64 Lib.pow10Tab) :
    Calls Tryd.prog 3 #[.int .u8 t] w fun e w' => e = .returned (.bool true) ∧ Below w.heap.size w w' := by
  by_cases hb : 6 ≤ t
  · exact lawA_big t w hb h1 htab
  have h : t = 0 ∨ t = 1 ∨ t = 2 ∨ t = 3 ∨ t = 4 ∨ t = 5 := by omega
  rcases h with rfl | rfl | rfl | rfl | rfl | rfl
  · exact lawA_none w hT
  · exact lawA_named 1 n1 w (by omega) (by omega) (str1 w hT) (by simp [n1, go_sem]) (fun w => hp_no n1 w pre (by decide) (by decide) (by decide) (by decide))
  · exact lawA_named 2 n2 w (by omega) (by omega) (str2 w hT) (by simp [n2, go_sem]) (fun w => hp_no n2 w pre (by decide) (by decide) (by decide) (by decide))
  · exact lawA_named 3 n3 w (by omega) (by omega) (str3 w hT) (by simp [n3, go_sem]) (fun w => hp_no n3 w pre (by decide) (by decide) (by decide) (by decide))
  · exact lawA_named 4 n4 w (by omega) (by omega) (str4 w hT) (by simp [n4, go_sem]) (fun w => hp_no n4 w pre (by decide) (by decide) (by decide) (by decide))
  · exact lawA_named 5 n5 w (by omega) (by omega) (str5 w hT) (by simp [n5, go_sem]) (fun w => hp_no n5 w pre (by decide) (by decide) (by decide) (by decide))
end Go.Proofs.Qxb6613926aDoor.Au
