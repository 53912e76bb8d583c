/- Numbers out of bytes: 'or' of bytes at different places is their sum; what two and four bytes of a number come to, as signed numbers. Plain arithmetic: no program is in sight. Conditions: bytes from 0 to 255, numbers of 16 or 32 bits. -/
import Derived.WalkKit
import Derived.IntWalk
namespace Go.Proofs.YtgcpabmbcjlbhaaDoor
open Go.RowKit

theorem ofInt16 (a : Nat) (ha : a < 65536) : (BitVec.ofInt 16 (a : Int)).toNat = a := by
  rw [BitVec.ofInt_natCast, BitVec.toNat_ofNat]; exact Nat.mod_eq_of_lt (by omega)
theorem ofInt32 (a : Nat) (ha : a < 4294967296) : (BitVec.ofInt 32 (a : Int)).toNat = a := by
  rw [BitVec.ofInt_natCast, BitVec.toNat_ofNat]; exact Nat.mod_eq_of_lt (by omega)
/-- What lies at place k and above, and what lies below it. -/
theorem or_low (a b k : Nat) (hb : b < 2 ^ k) : (a * 2 ^ k) ||| b = a * 2 ^ k + b := by
  rw [← Nat.shiftLeft_eq, Nat.shiftLeft_add_eq_or_of_lt hb]
theorem u16_or (a b : Nat) (ha : a < 65536) (hb : b < 65536) : bits .or .u16 (a : Int) (b : Int) = ((a ||| b : Nat) : Int) := by
  have hx : a ||| b < 2 ^ 16 := Nat.or_lt_two_pow (by omega) (by omega)
  show IntKind.u16.wrap ((BitVec.ofInt 16 (a : Int) ||| BitVec.ofInt 16 (b : Int)).toNat : Int) = _
  rw [BitVec.toNat_or, ofInt16 a ha, ofInt16 b hb]
  exact IntWalk.u16_in _ (by omega)
theorem u32_or (a b : Nat) (ha : a < 4294967296) (hb : b < 4294967296) : bits .or .u32 (a : Int) (b : Int) = ((a ||| b : Nat) : Int) := by
  have hx : a ||| b < 2 ^ 32 := Nat.or_lt_two_pow (by omega) (by omega)
  show IntKind.u32.wrap ((BitVec.ofInt 32 (a : Int) ||| BitVec.ofInt 32 (b : Int)).toNat : Int) = _
  rw [BitVec.toNat_or, ofInt32 a ha, ofInt32 b hb]
  exact IntWalk.u32_in _ (by omega)

theorem or16 (b0 b1 : Int) (l0 : 0 ≤ b0) (h0 : b0 ≤ 255) (l1 : 0 ≤ b1) (h1 : b1 ≤ 255) : bits .or .u16 (b0 * 256) b1 = b0 * 256 + b1 := by
  obtain ⟨a, rfl⟩ : ∃ n : Nat, b0 = n := ⟨b0.toNat, by omega⟩
  obtain ⟨b, rfl⟩ : ∃ n : Nat, b1 = n := ⟨b1.toNat, by omega⟩
  have := u16_or (a * 256) b (by omega) (by omega)
  rw [or_low a b 8 (by omega)] at this
  simpa using this
theorem or32 (b0 b1 b2 b3 : Int) (l0 : 0 ≤ b0) (h0 : b0 ≤ 255) (l1 : 0 ≤ b1) (h1 : b1 ≤ 255) (l2 : 0 ≤ b2) (h2 : b2 ≤ 255) (l3 : 0 ≤ b3) (h3 : b3 ≤ 255) :
    bits .or .u32 (bits .or .u32 (bits .or .u32 (b0 * 16777216) (b1 * 65536)) (b2 * 256)) b3 = b0 * 16777216 + b1 * 65536 + b2 * 256 + b3 := by
  obtain ⟨a, rfl⟩ : ∃ n : Nat, b0 = n := ⟨b0.toNat, by omega⟩
  obtain ⟨b, rfl⟩ : ∃ n : Nat, b1 = n := ⟨b1.toNat, by omega⟩
  obtain ⟨c, rfl⟩ : ∃ n : Nat, b2 = n := ⟨b2.toNat, by omega⟩
  obtain ⟨d, rfl⟩ : ∃ n : Nat, b3 = n := ⟨b3.toNat, by omega⟩
  have e1 : bits .or .u32 ((a : Int) * 16777216) ((b : Int) * 65536) = ((a * 16777216 + b * 65536 : Nat) : Int) := by
    have := u32_or (a * 16777216) (b * 65536) (by omega) (by omega)
    rw [or_low a (b * 65536) 24 (by omega)] at this
    simpa using this
  have e2 : bits .or .u32 ((a * 16777216 + b * 65536 : Nat) : Int) ((c : Int) * 256) = ((a * 16777216 + b * 65536 + c * 256 : Nat) : Int) := by
    have := u32_or (a * 16777216 + b * 65536) (c * 256) (by omega) (by omega)
    have hs : a * 16777216 + b * 65536 = (a * 256 + b) * 2 ^ 16 := by omega
    rw [hs, or_low (a * 256 + b) (c * 256) 16 (by omega), ← hs] at this
    simpa using this
  have e3 : bits .or .u32 ((a * 16777216 + b * 65536 + c * 256 : Nat) : Int) (d : Int) = ((a * 16777216 + b * 65536 + c * 256 + d : Nat) : Int) := by
    have := u32_or (a * 16777216 + b * 65536 + c * 256) d (by omega) (by omega)
    have hs : a * 16777216 + b * 65536 + c * 256 = (a * 65536 + b * 256 + c) * 2 ^ 8 := by omega
    rw [hs, or_low (a * 65536 + b * 256 + c) d 8 (by omega), ← hs] at this
    simpa using this
  rw [e1, e2, e3]
  simp

/-- Two bytes of a number of 16 bits, taken back. -/
theorem back16 (v : Int) (h1 : -32768 ≤ v) (h2 : v ≤ 32767) : IntKind.i32.wrap (IntKind.i16.wrap (v / 256 % 256 * 256 + v % 256)) = v := by
  have h : v / 256 % 256 * 256 + v % 256 = if v < 0 then v + 65536 else v := by split <;> omega
  rw [h]
  have e : IntKind.i16.wrap (if v < 0 then v + 65536 else v) = v := by
    unfold IntKind.wrap
    simp [IntKind.signed, IntKind.bits]
    split <;> omega
  rw [e]
  exact IntWalk.i32_in v (by omega)
/-- Four bytes of a number of 32 bits, taken back. -/
theorem back32 (v : Int) (h1 : -2147483648 ≤ v) (h2 : v ≤ 2147483647) :
    IntKind.i32.wrap (v / 65536 / 256 % 256 * 16777216 + v / 65536 % 256 * 65536 + v / 256 % 256 * 256 + v % 256) = v := by
  rw [IntKind.wrap_i32]
  omega
end Go.Proofs.YtgcpabmbcjlbhaaDoor
