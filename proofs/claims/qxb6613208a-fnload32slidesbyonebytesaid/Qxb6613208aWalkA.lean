import Derived.Test.Qxb6613208aCon
namespace Go.Proofs.Qxb6613208a.Ld
open Go.ChangeShapes Go.WideShapes Go.ChangeAt Go.RowKit
set_option linter.unusedVariables false

theorem ret_bool {a b : Bool} (h : a = b) : Ending.returned (.bool a) = .returned (.bool b) := by rw [h]

theorem walkA_long (a0 : Option Addr) (len cap : Nat) (i : Int) (w : World) (h : 1048576 < (len : Int)) :
    Calls Try.prog 4 #[.slice a0 len cap, .int .i64 i] w fun e w' => e = .returned (.bool true) ∧ Below w.heap.size w w' := by
  go_enter Try.func4, Try.ntmps4
  go_wp2_with fail
  refine (zb4_no _ _ _ _ _ h).mono ?_
  rintro e w' ⟨rfl, hw⟩; replace hw := hw.symm; subst hw
  go_wp2
  go_ret
  exact ⟨rfl, Below.refl _ _⟩

theorem walkA_out (a0 : Option Addr) (len cap : Nat) (i : Int) (w : World) (h : (len : Int) ≤ 1048576) (hi : i < 0 ∨ (len : Int) - 5 < i) :
    Calls Try.prog 4 #[.slice a0 len cap, .int .i64 i] w fun e w' => e = .returned (.bool true) ∧ Below w.heap.size w w' := by
  by_cases h0 : i < 0
  · clear hi
    go_enter Try.func4, Try.ntmps4
    go_wp2_with fail
    refine (zb4_yes _ _ _ _ _ h).mono ?_
    rintro e w' ⟨rfl, hw⟩; replace hw := hw.symm; subst hw
    go_wp2
    go_ret
    exact ⟨rfl, Below.refl _ _⟩
  · have h1 : (len : Int) - 5 < i := by omega
    have h2 : 0 ≤ i := by omega
    clear hi h0
    go_enter Try.func4, Try.ntmps4
    go_wp2_with fail
    refine (zb4_yes _ _ _ _ _ h).mono ?_
    rintro e w' ⟨rfl, hw⟩; replace hw := hw.symm; subst hw
    go_wp2
    go_ret
    exact ⟨rfl, Below.refl _ _⟩

theorem walkA_in (b off len cap i : Nat) (B : Nat → UInt8) (w : World) (hr : Row w b off len B) (h : (len : Int) ≤ 1048576) (hi : (i : Int) ≤ (len : Int) - 5) (hlc : (len : Int) ≤ cap) :
    Calls Try.prog 4 #[.slice (some ⟨b, off, none⟩) len cap, .int .i64 (i : Int)] w fun e w' => e = .returned (.bool true) ∧ Below w.heap.size w w' := by
  obtain ⟨W1, hcp, hR, hB, hZ⟩ := copyB w b off len cap B hr
  have H : Hid (Row W1 w.heap.size 0 len B ∧ Below w.heap.size w W1 ∧ W1.heap.size = w.heap.size + 1) := ⟨hR, hB, hZ⟩
  clear hR hB hZ hr
  have hmk := make27 len (by omega)
  have hq27 := fun W a l c => run_neq_slice_nil_any (P := Try.prog) W 27 5 a l c 0 0 Try.underlying27
  go_enter Try.func4, Try.ntmps4
  go_wp2_with fail
  refine (zb4_yes _ _ _ _ _ h).mono ?_
  rintro e w' ⟨rfl, hw⟩; replace hw := hw.symm; subst hw
  go_wp2_with fail
  clear hmk hcp hq27
  refine (load_any W1 w.heap.size 0 len len i B H.out.1 (by omega) (by omega)).mono ?_
  rintro e W2 ⟨rfl, hb2⟩
  have H2 : Hid (Row W2 w.heap.size 0 len B ∧ Below w.heap.size w W2 ∧ w.heap.size < W2.heap.size) := by
    have e := H.out
    exact ⟨e.1.below hb2 (by omega), e.2.1.trans (hb2.mono (by omega)), by have := hb2.size; omega⟩
  clear H hb2
  go_wp2_with fail
  have hl2 := load_any W2 w.heap.size 0 len len (i + 1) B H2.out.1 (by omega) (by omega)
  rw [show (((i + 1 : Nat)) : Int) = (i : Int) + 1 from by omega] at hl2
  refine hl2.mono ?_
  clear hl2
  rintro e W3 ⟨rfl, hb3⟩
  have H3 : Hid (Below w.heap.size w W3) := by
    have e := H2.out
    exact e.2.1.trans (hb3.mono (by omega))
  have hr3 := H2.out.1.below hb3 H2.out.2.2
  have hc0 : W3.cell? ⟨w.heap.size, i, none⟩ = some (.int .u8 ((B i).toNat : Int)) := by have := hr3 i (by omega); rwa [Nat.zero_add] at this
  have hc4 : W3.cell? ⟨w.heap.size, i + 4, none⟩ = some (.int .u8 ((B (i + 4)).toNat : Int)) := by have := hr3 (i + 4) (by omega); rwa [Nat.zero_add] at this
  clear hr3 hb3 H2
  have hB0 : (B i).toNat < 256 := (B i).toNat_lt
  have hB4 : (B (i + 4)).toNat < 256 := (B (i + 4)).toNat_lt
  have hlow := low_byte B i
  have HS : Hid _ := slide B i
  go_wp2
  go_ret
  exact ⟨ret_bool HS.out, H3.out⟩

theorem walkA (a0 : Option Addr) (len cap : Nat) (i : Int) (B : Nat → UInt8) (w : World) (hrow : 0 < len → ∃ b off, a0 = some ⟨b, off, none⟩ ∧ Row w b off len B) (hlc : len ≤ cap) :
    Calls Try.prog 4 #[.slice a0 len cap, .int .i64 i] w fun e w' => e = .returned (.bool true) ∧ Below w.heap.size w w' := by
  by_cases h : 1048576 < (len : Int)
  · exact walkA_long a0 len cap i w h
  by_cases hi : i < 0 ∨ (len : Int) - 5 < i
  · exact walkA_out a0 len cap i w (by omega) hi
  obtain ⟨n, rfl⟩ : ∃ n : Nat, i = n := ⟨i.toNat, by omega⟩
  obtain ⟨b, off, rfl, hr⟩ := hrow (by omega)
  exact walkA_in b off len cap n B w hr (by omega) (by omega) (by omega)
end Go.Proofs.Qxb6613208a.Ld
