import Derived.Laws.BitsAllLaws
import Derived.Lib.Endian
namespace Go.Proofs.Qxb6613208a.Ld
open Go

/-- The four bytes from place i on, the least first. -/
def le4 (B : Nat → UInt8) (i : Nat) : Nat := Lib.leNat [B i, B (i + 1), B (i + 2), B (i + 3)]

theorem le4_eq (B : Nat → UInt8) (i : Nat) : le4 B i = (B i).toNat + 256 * ((B (i + 1)).toNat + 256 * ((B (i + 2)).toNat + 256 * (B (i + 3)).toNat)) := by
  simp [le4, Lib.leNat]

theorem le4_lt (B : Nat → UInt8) (i : Nat) : le4 B i < 4294967296 := by
  have h0 := (B i).toNat_lt
  have h1 := (B (i + 1)).toNat_lt
  have h2 := (B (i + 2)).toNat_lt
  have h3 := (B (i + 3)).toNat_lt
  rw [le4_eq]
  omega

theorem low_byte (B : Nat → UInt8) (i : Nat) : (((B i).toNat : Int) == bits BinOp.and IntKind.u32 (le4 B i : Nat) 255) = true := by
  have e := u32_and_nat (le4 B i) 255 (le4_lt B i) (by omega)
  have e2 : le4 B i &&& 255 = (B i).toNat := by
    rw [show (255 : Nat) = 2 ^ 8 - 1 from rfl, Nat.and_two_pow_sub_one_eq_mod, le4_eq]
    have h0 := (B i).toNat_lt
    omega
  rw [e2] at e
  rw [show ((255 : Nat) : Int) = 255 from rfl] at e
  rw [e]
  exact beq_self_eq_true _

theorem slide (B : Nat → UInt8) (i : Nat) : (((le4 B (i + 1) : Nat) : Int) == bits BinOp.or IntKind.u32 ((le4 B i : Nat) / 256 : Int) (((B (i + 4)).toNat : Int) * 16777216)) = true := by
  have h0 := (B i).toNat_lt
  have h1 := (B (i + 1)).toNat_lt
  have h2 := (B (i + 2)).toNat_lt
  have h3 := (B (i + 3)).toNat_lt
  have h4 := (B (i + 4)).toNat_lt
  have hX := le4_lt B i
  have e := u32_or_nat (le4 B i / 256) ((B (i + 4)).toNat * 16777216) (by omega) (by omega)
  have e2 : le4 B i / 256 ||| (B (i + 4)).toNat * 16777216 = le4 B (i + 1) := by
    have hlt : le4 B i / 256 < 2 ^ 24 := by omega
    have := Nat.two_pow_add_eq_or_of_lt hlt (B (i + 4)).toNat
    rw [Nat.or_comm, show (B (i + 4)).toNat * 16777216 = 2 ^ 24 * (B (i + 4)).toNat from by omega, ← this, le4_eq, le4_eq]
    show _ = (B (i + 1)).toNat + 256 * ((B (i + 2)).toNat + 256 * ((B (i + 3)).toNat + 256 * (B (i + 4)).toNat))
    omega
  rw [e2] at e
  have c1 : ((le4 B i / 256 : Nat) : Int) = (le4 B i : Nat) / 256 := by omega
  have c2 : (((B (i + 4)).toNat * 16777216 : Nat) : Int) = ((B (i + 4)).toNat : Int) * 16777216 := by omega
  rw [c1, c2] at e
  rw [e]
  exact beq_self_eq_true _
end Go.Proofs.Qxb6613208a.Ld
