import Derived.Test.Qxb6602178aRows
import Derived.WalkKit
import Derived.WalkSpells
import Derived.WalkLawsBesides
namespace Go.Proofs.Qxb6602178a.Cl
open Go.RowKit

/-- the width by the table: the bytes from the place on, how many bytes are left -/
def wN (rem b0 b1 b2 b3 : Nat) : Nat :=
  if b0 < 128 then 1
  else if b0 < 194 then 1
  else if b0 < 224 then (if 1 < rem ∧ 128 ≤ b1 ∧ b1 ≤ 191 then 2 else 1)
  else if b0 < 240 then (if 2 < rem ∧ (if b0 = 224 then 160 else 128) ≤ b1 ∧ b1 ≤ (if b0 = 237 then 159 else 191) ∧ 128 ≤ b2 ∧ b2 ≤ 191 then 3 else 1)
  else if b0 < 245 then (if 3 < rem ∧ (if b0 = 240 then 144 else 128) ≤ b1 ∧ b1 ≤ (if b0 = 244 then 143 else 191) ∧ 128 ≤ b2 ∧ b2 ≤ 191 ∧ 128 ≤ b3 ∧ b3 ≤ 191 then 4 else 1)
  else 1

theorem valid_nat (c : Nat) : Utf8.valid (c : Int) = decide (c < 55296 ∨ (57344 ≤ c ∧ c ≤ 1114111)) := by
  unfold Utf8.valid
  rw [Bool.eq_iff_iff]
  simp
  omega

def wD (n i b0 b1 b2 b3 : Nat) : Nat :=
  if b0 < 128 then 1
  else if b0 / 32 = 6 ∧ (i + 1 < n ∧ b1 / 64 = 2) then (if 128 ≤ (b0 % 32) * 64 + b1 % 64 then 2 else 1)
  else if (b0 / 16 = 14 ∧ (i + 1 < n ∧ b1 / 64 = 2)) ∧ (i + 2 < n ∧ b2 / 64 = 2) then
    (if 2048 ≤ (b0 % 16) * 4096 + (b1 % 64) * 64 + b2 % 64 ∧ ((b0 % 16) * 4096 + (b1 % 64) * 64 + b2 % 64 < 55296 ∨ (57344 ≤ (b0 % 16) * 4096 + (b1 % 64) * 64 + b2 % 64 ∧ (b0 % 16) * 4096 + (b1 % 64) * 64 + b2 % 64 ≤ 1114111)) then 3 else 1)
  else if ((b0 / 8 = 30 ∧ (i + 1 < n ∧ b1 / 64 = 2)) ∧ (i + 2 < n ∧ b2 / 64 = 2)) ∧ (i + 3 < n ∧ b3 / 64 = 2) then
    (if 65536 ≤ (b0 % 8) * 262144 + (b1 % 64) * 4096 + (b2 % 64) * 64 + b3 % 64 ∧ ((b0 % 8) * 262144 + (b1 % 64) * 4096 + (b2 % 64) * 64 + b3 % 64 < 55296 ∨ (57344 ≤ (b0 % 8) * 262144 + (b1 % 64) * 4096 + (b2 % 64) * 64 + b3 % 64 ∧ (b0 % 8) * 262144 + (b1 % 64) * 4096 + (b2 % 64) * 64 + b3 % 64 ≤ 1114111)) then 4 else 1)
  else 1

theorem wD_eq (n i b0 b1 b2 b3 : Nat) (hi : i < n) (h0 : b0 < 256) (h1 : b1 < 256) (h2 : b2 < 256) (h3 : b3 < 256) : wD n i b0 b1 b2 b3 = wN (n - i) b0 b1 b2 b3 := by
  unfold wD wN
  by_cases c1 : b0 < 128
  · rw [if_pos c1, if_pos c1]
  rw [if_neg c1, if_neg c1]
  by_cases c2 : b0 < 194
  · rw [if_pos c2, if_neg (by omega : ¬ ((b0 / 16 = 14 ∧ (i + 1 < n ∧ b1 / 64 = 2)) ∧ (i + 2 < n ∧ b2 / 64 = 2))), if_neg (by omega : ¬ (((b0 / 8 = 30 ∧ (i + 1 < n ∧ b1 / 64 = 2)) ∧ (i + 2 < n ∧ b2 / 64 = 2)) ∧ (i + 3 < n ∧ b3 / 64 = 2)))]
    by_cases c3 : b0 / 32 = 6 ∧ (i + 1 < n ∧ b1 / 64 = 2)
    · rw [if_pos c3, if_neg (by omega)]
    · rw [if_neg c3]
  rw [if_neg c2]
  by_cases c3 : b0 < 224
  · rw [if_pos c3, if_neg (by omega : ¬ ((b0 / 16 = 14 ∧ (i + 1 < n ∧ b1 / 64 = 2)) ∧ (i + 2 < n ∧ b2 / 64 = 2))), if_neg (by omega : ¬ (((b0 / 8 = 30 ∧ (i + 1 < n ∧ b1 / 64 = 2)) ∧ (i + 2 < n ∧ b2 / 64 = 2)) ∧ (i + 3 < n ∧ b3 / 64 = 2)))]
    by_cases c4 : 1 < n - i ∧ 128 ≤ b1 ∧ b1 ≤ 191
    · rw [if_pos c4, if_pos (by omega), if_pos (by omega)]
    · rw [if_neg c4, if_neg (by omega)]
  rw [if_neg c3, if_neg (by omega : ¬ (b0 / 32 = 6 ∧ (i + 1 < n ∧ b1 / 64 = 2)))]
  by_cases c4 : b0 < 240
  · rw [if_pos c4, if_neg (by omega : ¬ (((b0 / 8 = 30 ∧ (i + 1 < n ∧ b1 / 64 = 2)) ∧ (i + 2 < n ∧ b2 / 64 = 2)) ∧ (i + 3 < n ∧ b3 / 64 = 2)))]
    have g1 : (b0 = 224 ∧ (if b0 = 224 then 160 else 128) = 160) ∨ (b0 ≠ 224 ∧ (if b0 = 224 then 160 else 128) = 128) := by split <;> omega
    have g2 : (b0 = 237 ∧ (if b0 = 237 then 159 else 191) = 159) ∨ (b0 ≠ 237 ∧ (if b0 = 237 then 159 else 191) = 191) := by split <;> omega
    generalize (if b0 = 224 then 160 else 128) = lo at *
    generalize (if b0 = 237 then 159 else 191) = hi' at *
    (repeat' split) <;> omega
  rw [if_neg c4, if_neg (by omega : ¬ ((b0 / 16 = 14 ∧ (i + 1 < n ∧ b1 / 64 = 2)) ∧ (i + 2 < n ∧ b2 / 64 = 2)))]
  by_cases c5 : b0 < 245
  · rw [if_pos c5]
    have g1 : (b0 = 240 ∧ (if b0 = 240 then 144 else 128) = 144) ∨ (b0 ≠ 240 ∧ (if b0 = 240 then 144 else 128) = 128) := by split <;> omega
    have g2 : (b0 = 244 ∧ (if b0 = 244 then 143 else 191) = 143) ∨ (b0 ≠ 244 ∧ (if b0 = 244 then 143 else 191) = 191) := by split <;> omega
    generalize (if b0 = 240 then 144 else 128) = lo at *
    generalize (if b0 = 244 then 143 else 191) = hi' at *
    (repeat' split) <;> omega
  rw [if_neg c5]
  (repeat' split) <;> omega

theorem decode_width (s : ByteArray) (i : Nat) (hi : i < s.size) : (Utf8.decode s i).2 = wN (s.size - i) (s.get! i).toNat (s.get! (i + 1)).toNat (s.get! (i + 2)).toNat (s.get! (i + 3)).toNat := by
  rw [← wD_eq _ _ _ _ _ _ hi (s.get! i).toNat_lt (s.get! (i + 1)).toNat_lt (s.get! (i + 2)).toNat_lt (s.get! (i + 3)).toNat_lt]
  unfold Utf8.decode wD
  simp only [Nat.add_zero, apply_ite Prod.snd, Bool.and_eq_true, decide_eq_true_eq, beq_iff_eq, valid_nat, ge_iff_le]
end Go.Proofs.Qxb6602178a.Cl
