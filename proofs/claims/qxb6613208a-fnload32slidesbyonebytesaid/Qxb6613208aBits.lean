import Derived.Laws.BitsAllLaws
import Derived.Lib.Endian
namespace Go.Proofs.Qxb6613208a.Ld
open Go

/-- The four bytes from place i on, the least first. -/
def le4 (B : Nat → UInt8) (i : Nat) : Nat := Lib.leNat [B i, B (i + 1), B (i + 2), B (i + 3)]

theorem le4_eq (B : Nat → UInt8) (i : Nat) : le4 B i = (B i).toNat + 256 * ((B (i + 1)).toNat + 256 * ((B (i + 2)).toNat + 256 * (B (i + 3)).toNat)) := by
  simp [le4, Lib.leNat]

theorem le4_lt (B : Nat → UInt8) (i : Nat) : le4 B i < 4294967296 := by
  have h0 := (B i).toNat_lt
  have h1 := (B (i + 1)).toNat_lt
  have h2 := (B (i + 2)).toNat_lt
  have h3 := (B (i + 3)).toNat_lt
  rw [le4_eq]
  omega

theorem low_byte (B : Nat → UInt8) (i : Nat) : (((B i).toNat : Int) == bits BinOp.and IntKind.u32 (le4 B i : Nat) 255) = true := by
  have e := u32_and_nat (le4 B i) 255 (le4_lt B i) (by omega)
  have e2 : le4 B i &&& 255 = (B i).toNat := by
    rw [show (255 : Nat) = 2 ^ 8 - 1 from rfl, Nat.and_two_pow_sub_one_eq_mod, le4_eq]
    have h0 := (B i).toNat_lt
    omega
  rw [e2] at e
  rw [show ((255 : Nat) : Int) = 255 from rfl] at e
  rw [e]
  exact beq_self_eq_true _

theorem slide (B : Nat → UInt8) (i : Nat) : (((le4 B (i + 1) : Nat) : Int) == bits BinOp.or IntKind.u32 ((le4 B i : Nat) / 256 : Int) (((B (i + 4)).toNat : Int) * 16777216)) = true := by
  have h0 := (B i).toNat_lt
  have h1 := (B (i + 1)).toNat_lt
  have h2 := (B (i + 2)).toNat_lt
  have h3 := (B (i + 3)).toNat_lt
  have h4 := (B (i + 4)).toNat_lt
  have hX := le4_lt B i
  have e := u32_or_nat (le4 B i / 256) ((B (i + 4)).toNat * 16777216) (by omega) (by omega)
  have e2 : le4 B i / 256 ||| (B (i + 4)).toNat * 16777216 = le4 B (i + 1) := by
    have hlt : le4 B i / 256 < 2 ^ 24 := by omega
    have := Nat.two_pow_add_eq_or_of_lt hlt (B (i + 4)).toNat
    rw [Nat.or_comm, show (B (i + 4)).toNat * 16777216 = 2 ^ 24 * (B (i + 4)).toNat from by omega, ← this, le4_eq, le4_eq]
    show _ = (B (i + 1)).toNat + 256 * ((B (i + 2)).toNat + 256 * ((B (i + 3)).toNat + 256 * (B (i + 4)).toNat))
    omega
  rw [e2] at e
  have c1 : ((le4 B i / 256 : Nat) : Int) = (le4 B i : Nat) / 256 := by omega
  have c2 : (((B (i + 4)).toNat * 16777216 : Nat) : Int) = ((B (i + 4)).toNat : Int) * 16777216 := by omega
  rw [c1, c2] at e
  rw [e]
  exact beq_self_eq_true _

/-- The bytes with V at place j. -/
def upd (B : Nat → UInt8) (j : Nat) (V : UInt8) : Nat → UInt8 := fun t => if t = j then V else B t

theorem upd_at (B : Nat → UInt8) (j : Nat) (V : UInt8) : upd B j V j = V := if_pos rfl
theorem upd_other (B : Nat → UInt8) (j t : Nat) (V : UInt8) (h : t ≠ j) : upd B j V t = B t := if_neg h

theorem le4_miss (B : Nat → UInt8) (i j : Nat) (V : UInt8) (h : j < i ∨ i + 4 ≤ j) : le4 (upd B j V) i = le4 B i := by
  rw [le4_eq, le4_eq, upd_other _ _ _ _ (by omega), upd_other _ _ _ _ (by omega), upd_other _ _ _ _ (by omega), upd_other _ _ _ _ (by omega)]

theorem xor_mid (s lo p q hi : Nat) (hlo : lo < 2 ^ s) (hp : p < 2 ^ 8) (hq : q < 2 ^ 8) :
    (2 ^ s * (2 ^ 8 * hi + p) + lo) ^^^ (2 ^ s * (2 ^ 8 * hi + q) + lo) = 2 ^ s * (p ^^^ q) := by
  apply Nat.eq_of_testBit_eq
  intro t
  have hz : 2 ^ s * (p ^^^ q) = 2 ^ s * (p ^^^ q) + 0 := rfl
  rw [hz, Nat.testBit_xor, Nat.testBit_two_pow_mul_add _ hlo, Nat.testBit_two_pow_mul_add _ hlo, Nat.testBit_two_pow_mul_add _ (Nat.two_pow_pos s)]
  by_cases h : t < s
  · simp [h]
  · simp only [h, if_false]
    rw [Nat.testBit_two_pow_mul_add _ hp, Nat.testBit_two_pow_mul_add _ hq, Nat.testBit_xor]
    by_cases h8 : t - s < 8
    · simp [h8]
    · have e1 : p.testBit (t - s) = false := Nat.testBit_lt_two_pow (Nat.lt_of_lt_of_le hp (Nat.pow_le_pow_right (by omega) (by omega)))
      have e2 : q.testBit (t - s) = false := Nat.testBit_lt_two_pow (Nat.lt_of_lt_of_le hq (Nat.pow_le_pow_right (by omega) (by omega)))
      simp [h8, e1, e2]

theorem xor_hit (B : Nat → UInt8) (i d : Nat) (V : UInt8) (hd : d < 4) : le4 B i ^^^ le4 (upd B (i + d) V) i = 2 ^ (8 * d) * ((B (i + d)).toNat ^^^ V.toNat) := by
  have h0 := (B i).toNat_lt
  have h1 := (B (i + 1)).toNat_lt
  have h2 := (B (i + 2)).toNat_lt
  have h3 := (B (i + 3)).toNat_lt
  have hV := V.toNat_lt
  have hc : d = 0 ∨ d = 1 ∨ d = 2 ∨ d = 3 := by omega
  rcases hc with rfl | rfl | rfl | rfl
  · have e := xor_mid 0 0 (B i).toNat V.toNat ((B (i + 1)).toNat + 256 * ((B (i + 2)).toNat + 256 * (B (i + 3)).toNat)) (by omega) (by omega) (by omega)
    show le4 B i ^^^ le4 (upd B i V) i = 2 ^ 0 * ((B i).toNat ^^^ V.toNat)
    rw [le4_eq, le4_eq, upd_at, upd_other _ _ _ _ (by omega), upd_other _ _ _ _ (by omega), upd_other _ _ _ _ (by omega)]
    rw [← e]
    congr 1 <;> omega
  · have e := xor_mid 8 (B i).toNat (B (i + 1)).toNat V.toNat ((B (i + 2)).toNat + 256 * (B (i + 3)).toNat) (by omega) (by omega) (by omega)
    rw [le4_eq, le4_eq, upd_at, upd_other _ _ _ _ (by omega), upd_other _ _ _ _ (by omega), upd_other _ _ _ _ (by omega)]
    rw [show 2 ^ (8 * 1) = 2 ^ 8 from rfl, ← e]
    congr 1 <;> omega
  · have e := xor_mid 16 ((B i).toNat + 256 * (B (i + 1)).toNat) (B (i + 2)).toNat V.toNat (B (i + 3)).toNat (by omega) (by omega) (by omega)
    rw [le4_eq, le4_eq, upd_at, upd_other _ _ _ _ (by omega), upd_other _ _ _ _ (by omega), upd_other _ _ _ _ (by omega)]
    rw [show 2 ^ (8 * 2) = 2 ^ 16 from rfl, ← e]
    congr 1 <;> omega
  · have e := xor_mid 24 ((B i).toNat + 256 * ((B (i + 1)).toNat + 256 * (B (i + 2)).toNat)) (B (i + 3)).toNat V.toNat 0 (by omega) (by omega) (by omega)
    rw [le4_eq, le4_eq, upd_at, upd_other _ _ _ _ (by omega), upd_other _ _ _ _ (by omega), upd_other _ _ _ _ (by omega)]
    rw [show 2 ^ (8 * 3) = 2 ^ 24 from rfl, ← e]
    congr 1 <;> omega

/-- 'b[j] ^ v' as a number below 256. -/
theorem xor8 (p V : UInt8) : ∃ Z : Nat, Z < 256 ∧ Z = p.toNat ^^^ V.toNat ∧ bits BinOp.xor IntKind.u8 (p.toNat : Int) (V.toNat : Int) = (Z : Int) := by
  refine ⟨_, ?_, rfl, u8_xor_nat _ _ p.toNat_lt V.toNat_lt⟩
  have : p.toNat ^^^ V.toNat < 2 ^ 8 := Nat.xor_lt_two_pow p.toNat_lt V.toNat_lt
  omega

theorem xor_words (B : Nat → UInt8) (i d Z : Nat) (V : UInt8) (hd : d < 4) (hZ : Z = (B (i + d)).toNat ^^^ V.toNat) :
    bits BinOp.xor IntKind.u32 ((le4 B i : Nat) : Int) ((le4 (upd B (i + d) V) i : Nat) : Int) = ((2 ^ (8 * d) * Z : Nat) : Int) := by
  rw [u32_xor_nat _ _ (le4_lt _ _) (le4_lt _ _), xor_hit B i d V hd, hZ]
end Go.Proofs.Qxb6613208a.Ld
