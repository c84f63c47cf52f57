import Derived.Test.Qxb6602178aWidth
import Derived.Laws.RangeAny
namespace Go.Proofs.Qxb6602178a.Cl
open Go.RowKit

theorem wN_bounds (rem b0 b1 b2 b3 : Nat) (h : 0 < rem) : 1 ≤ wN rem b0 b1 b2 b3 ∧ wN rem b0 b1 b2 b3 ≤ rem := by
  unfold wN
  (repeat' split) <;> omega
theorem dec_bounds (s : ByteArray) (i : Nat) (hi : i < s.size) : 1 ≤ (Utf8.decode s i).2 ∧ i + (Utf8.decode s i).2 ≤ s.size := by
  have := wN_bounds (s.size - i) (s.get! i).toNat (s.get! (i + 1)).toNat (s.get! (i + 2)).toNat (s.get! (i + 3)).toNat (by omega)
  rw [decode_width s i hi]
  omega

/-- where character k begins (the end, where there is none) -/
def posK (s : ByteArray) : Nat → Nat
  | 0 => 0
  | k + 1 => if posK s k < s.size then posK s k + (Utf8.decode s (posK s k)).2 else posK s k

theorem posK_succ (s : ByteArray) (k : Nat) (h : posK s k < s.size) : posK s (k + 1) = posK s k + (Utf8.decode s (posK s k)).2 := by
  rw [posK, if_pos h]
theorem posK_le (s : ByteArray) (k : Nat) : posK s k ≤ s.size := by
  induction k with
  | zero => simp [posK]
  | succ k ih =>
    rw [posK]
    split
    · rename_i h; exact (dec_bounds s _ h).2
    · exact ih
theorem posK_ge (s : ByteArray) (k : Nat) (h : posK s k < s.size) : k ≤ posK s k := by
  induction k with
  | zero => simp
  | succ k ih =>
    rw [posK] at h ⊢
    split at h
    · rename_i h'
      rw [if_pos h']
      have := (dec_bounds s _ h').1
      have := ih h'
      omega
    · omega
theorem posK_mono (s : ByteArray) (k j : Nat) (h : k ≤ j) : posK s k ≤ posK s j := by
  obtain ⟨d, rfl⟩ := Nat.exists_eq_add_of_le h
  clear h
  induction d with
  | zero => exact Nat.le_refl _
  | succ d ih =>
    rw [← Nat.add_assoc, posK]
    split
    · omega
    · exact ih
theorem posK_lt (s : ByteArray) (k j : Nat) (h : k < j) (hk : posK s k < s.size) : posK s k < posK s j := by
  have h1 := posK_mono s (k + 1) j h
  rw [posK_succ s k hk] at h1
  have := (dec_bounds s _ hk).1
  omega

/-- First's answer -/
def first (s : ByteArray) (n : Int) : ByteArray := if 0 ≤ n ∧ posK s n.toNat < s.size then s.extract 0 (posK s n.toNat) else s

theorem first_hit (s : ByteArray) (n : Int) (k : Nat) (hn : n = k) (h : posK s k < s.size) : first s n = s.extract 0 (posK s k) := by
  subst hn
  unfold first
  rw [Int.toNat_natCast, if_pos ⟨by omega, h⟩]
theorem first_all (s : ByteArray) (n : Int) (k : Nat) (h : n < 0 ∨ (k : Int) ≤ n) (he : ¬ posK s k < s.size) : first s n = s := by
  unfold first
  rw [if_neg]
  rintro ⟨h1, h2⟩
  rcases h with h | h
  · omega
  · have := posK_mono s k n.toNat (by omega)
    omega

theorem below_iter (w : World) (s : ByteArray) (pos : Nat) : Below w.heap.size w (w.iter s pos) := (Below.refl _ _).alloc (Nat.le_refl _) _

/-- the counter as the loop holds it: it wraps below the least int -/
def cnt (n : Int) (k : Nat) : Int := if -9223372036854775808 ≤ n - k then n - k else n - k + 18446744073709551616
theorem cnt_zero (n : Int) (h : -9223372036854775808 ≤ n) : cnt n 0 = n := by unfold cnt; simp; intro; omega
theorem cnt_succ (n : Int) (k : Nat) (h1 : -9223372036854775808 ≤ n) (h2 : n ≤ 9223372036854775807) (hk : k ≤ 1048576) : wrap64 (cnt n k - 1) = cnt n (k + 1) := by
  unfold cnt wrap64; split <;> split <;> omega
theorem cnt_is0 (n : Int) (k : Nat) (h1 : -9223372036854775808 ≤ n) (hk : k ≤ 1048576) : (cnt n k == 0) = decide (n = k) := by
  unfold cnt
  rw [Bool.eq_iff_iff]
  split <;> simp <;> omega
theorem cnt_bd (n : Int) (k : Nat) (h1 : -9223372036854775808 ≤ n) (h2 : n ≤ 9223372036854775807) (hk : k ≤ 1048576) : -9223372036854775808 ≤ cnt n k ∧ cnt n k ≤ 9223372036854775807 := by
  unfold cnt; split <;> omega

set_option maxRecDepth 100000 in
set_option maxHeartbeats 400000 in
theorem first_any (s : ByteArray) (n : Int) (hs : s.size ≤ 1048576) (h1 : -9223372036854775808 ≤ n) (h2 : n ≤ 9223372036854775807) (w : World) :
    Calls Try.prog 7 #[.string s, .int .i64 n] w fun e w' => e = .returned (.string (first s n)) ∧ Below w.heap.size w w' := by
  have hs' : (s.size : Int) ≤ 1048576 := by omega
  go_enter Try.func7, Try.ntmps7
  go_wp2
  go_loopw [1] (fun c w' => ∃ (k : Nat), k ≤ 1048576 ∧ w' = w.iter s (posK s k) ∧ c = .int .i64 (cnt n k) ∧ (n < 0 ∨ (k : Int) ≤ n)) (fun _ w' => s.size - w'.iterPos w.heap.size)
  case atStart => exact ⟨0, by omega, rfl, by rw [cnt_zero n h1], by omega⟩
  case round =>
    obtain ⟨k, hk, rfl, rfl, hr⟩ := hrel
    have hple := posK_le s k
    have HR : Hid (n < 0 ∨ (k : Int) ≤ n) := hr
    by_cases hp : posK s k < s.size
    · have hnx : ∀ ty, (Instr.next (.pointer (some ⟨w.heap.size, 0, none⟩)) true ty).run Try.prog (w.iter s (posK s k)) = _ := fun ty => run_next_any w s (posK s k) ty hp
      have HP : Hid (posK s (k + 1) = posK s k + (Utf8.decode s (posK s k)).2) := posK_succ s k hp
      have hge := posK_ge s k hp
      have HC : Hid (wrap64 (cnt n k - 1) = cnt n (k + 1)) := cnt_succ n k h1 h2 hk
      have hz := cnt_is0 n k h1 hk
      have hbd := cnt_bd n k h1 h2 hk
      have hdb := dec_bounds s _ hp
      have HF : Hid (n = (k : Int) → first s n = s.extract 0 (posK s k)) := fun h => first_hit s n k h hp
      by_cases he : n = (k : Int)
      · rw [decide_eq_true he] at hz
        have HE : Hid (n = (k : Int)) := he
        clear hr he
        have hpi : (posK s k : Int) ≤ s.size := by omega
        have hp0 : (0 : Int) ≤ posK s k := by omega
        go_wp2
        go_ret
        exact ⟨by rw [HF.out HE.out]; rfl, below_iter w s _⟩
      · rw [decide_eq_false he] at hz
        have HE : Hid (¬ n = (k : Int)) := he
        clear hr he
        go_wp2
        go_roundw
        case rel =>
          refine ⟨k + 1, by omega, by rw [HP.out], ?_, ?_⟩
          · rw [← HC.out]
          · have := HR.out; have := HE.out; omega
        case measure => simp; omega
    · have hnx : ∀ ty, (Instr.next (.pointer (some ⟨w.heap.size, 0, none⟩)) true ty).run Try.prog (w.iter s (posK s k)) = _ := fun ty => run_next_end w s (posK s k) ty hp
      have HF := first_all s n k hr hp
      have HF : Hid (first s n = s) := HF
      clear hr
      go_wp2
      go_ret
      exact ⟨by rw [HF.out]; rfl, below_iter w s _⟩
end Go.Proofs.Qxb6602178a.Cl
