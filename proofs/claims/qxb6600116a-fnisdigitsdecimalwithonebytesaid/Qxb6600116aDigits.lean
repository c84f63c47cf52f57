import Derived.Test.Qxb6600116aRows
import Derived.WalkKit
import Derived.WalkSpells
import Derived.WalkLawsBesides
import Derived.Lib.ConvBytes
namespace Go.Proofs.Qxb6600116a.Dg
open Go.RowKit

def isDig (c : UInt8) : Bool := decide (48 ≤ c.toNat) && decide (c.toNat ≤ 57)
def allDig (s : ByteArray) : Bool := !s.data.toList.isEmpty && s.data.toList.all isDig

theorem below_bytesWorld (w : World) (e : TypeId) (s : ByteArray) : Below w.heap.size w (Lib.bytesWorld w e s) := by
  refine ⟨rfl, rfl, rfl, ?_, fun k hk => Lib.bytesWorld_at_old w e s k hk⟩
  rw [Lib.bytesWorld_size]; omega

theorem toList_eq (s : ByteArray) : s.toList = s.data.toList := ByteArray.toList_eq s
theorem isEmpty_of (s : ByteArray) : s.toList.isEmpty = decide (s.size = 0) := by
  rw [toList_eq]
  cases s with | mk d => cases d with | mk l => cases l <;> simp [ByteArray.size]

theorem all_take_snoc (s : ByteArray) (k : Nat) (h : k < s.size) : (s.data.toList.take (k + 1)).all isDig = ((s.data.toList.take k).all isDig && isDig (s.data.toList.getD k 0)) := by
  have h' : k < s.data.size := h
  rw [List.take_succ_eq_append_getElem (by simpa using h)]
  simp [List.getD, Array.getElem?_eq_getElem h']

theorem allDig_false (s : ByteArray) (k : Nat) (h : k < s.size) (hd : isDig (s.data.toList.getD k 0) = false) : allDig s = false := by
  unfold allDig
  have : s.data.toList.all isDig = false := by
    rw [List.all_eq_false]
    refine ⟨s.data.toList.getD k 0, ?_, by rw [hd]; simp⟩
    have h' : k < s.data.toList.length := by simpa using h
    rw [List.getD_eq_getElem?_getD, List.getElem?_eq_getElem h']
    exact List.getElem_mem _
  rw [this]; simp

theorem allDig_true (s : ByteArray) (hp : 0 < s.size) (h : (s.data.toList.take s.size).all isDig = true) : allDig s = true := by
  rw [List.take_of_length_le (by simp)] at h
  unfold allDig
  rw [h]
  cases s with | mk d => cases d with | mk l => cases l <;> simp_all [ByteArray.size]

set_option maxHeartbeats 400000 in
theorem isDigits_empty (s : ByteArray) (w : World) (hs : s.size = 0) :
    Calls Try.prog 19 #[.string s] w fun e w' => e = .returned (.bool (allDig s)) ∧ Below w.heap.size w w' := by
  have hs' : s.toList.isEmpty = true := by rw [isEmpty_of]; simp [hs]
  have hf : allDig s = false := by
    unfold allDig; rw [← toList_eq, hs']; rfl
  rw [hf]
  go_enter Try.func19, Try.ntmps19
  go_wp2
  go_ret
  exact ⟨rfl, Below.refl _ _⟩

set_option maxHeartbeats 400000 in
theorem isDigits_some (s : ByteArray) (w : World) (hs : s.size ≤ maxLen) (hp : 0 < s.size) :
    Calls Try.prog 19 #[.string s] w fun e w' => e = .returned (.bool (allDig s)) ∧ Below w.heap.size w w' := by
  have hs' : s.toList.isEmpty = false := by rw [isEmpty_of]; simp; (intro h; rw [h] at hp; cases hp)
  unfold maxLen at hs
  have hconv := Lib.run_convert_string_bytes (P := Try.prog) w 9 26 5 s Try.underlying9 Try.underlying26 Try.underlying5
  have hb := below_bytesWorld w 5 s
  have hcell := Lib.bytesWorld_cell w 5 s
  go_enter Try.func19, Try.ntmps19
  go_wp2
  go_loop [10] (fun i => ∃ k : Nat, k ≤ s.size ∧ i = .int .i64 k ∧ (s.data.toList.take k).all isDig = true) (fun i => s.size - (intOf i).toNat)
  case atStart => exact ⟨0, Nat.zero_le _, rfl, by simp⟩
  case round =>
    obtain ⟨k, hk, rfl, hall⟩ := hrel
    have HA : Hid ((s.data.toList.take k).all isDig = true) := hall
    clear hall
    by_cases hlt : k < s.size
    · have hc := hcell k hlt
      have HS : Hid (_ = _) := all_take_snoc s k hlt
      have HF : Hid (isDig (s.data.toList.getD k 0) = false → allDig s = false) := allDig_false s k hlt
      clear hcell
      generalize s.data.toList.getD k 0 = c at *
      have hcb : (c.toNat : Int) < 256 := by have := c.toNat_lt; omega
      by_cases hd : 48 ≤ (c.toNat : Int) ∧ (c.toNat : Int) ≤ 57
      · obtain ⟨hd1, hd2⟩ := hd
        have HT : Hid (isDig c = true) := by show isDig c = true; unfold isDig; simp; omega
        set_option maxRecDepth 100000 in
        go_wp2
        go_round
        case rel => exact ⟨k + 1, by omega, by go_num, by rw [HS.out, HA.out, HT.out]; rfl⟩
        case measure => simp [intOf]; omega
      · have HT : Hid (isDig c = false) := by show isDig c = false; unfold isDig; simp; omega
        set_option maxRecDepth 100000 in
        go_wp2
        all_goals
          go_ret
          exact ⟨by rw [HF.out HT.out]; rfl, hb⟩
    · go_wp2
      go_ret
      have : k = s.size := by omega
      subst this
      exact ⟨by rw [allDig_true s hp HA.out]; rfl, hb⟩

theorem isDigits_any (s : ByteArray) (w : World) (hs : s.size ≤ maxLen) :
    Calls Try.prog 19 #[.string s] w fun e w' => e = .returned (.bool (allDig s)) ∧ Below w.heap.size w w' := by
  rcases Nat.eq_zero_or_pos s.size with h | h
  · exact isDigits_empty s w h
  · exact isDigits_some s w hs h

set_option maxHeartbeats 400000 in
theorem zzIsDigits_any (s : ByteArray) (w : World) (hs : s.size ≤ maxLen) :
    Calls Try.prog 8 #[.string s] w fun e w' => e = .returned (.bool (allDig s)) ∧ Below w.heap.size w w' := by
  go_enter Try.func8, Try.ntmps8
  go_wp2_with (go_at_call 19; refine (isDigits_any s _ hs).mono ?_; rintro e w1 ⟨rfl, hb1⟩)
  go_ret
  exact ⟨rfl, hb1⟩

set_option maxHeartbeats 400000 in
theorem isDigitByte_any (c : UInt8) (w : World) :
    Calls Try.prog 10 #[.int .u8 c.toNat] w fun e w' => e = .returned (.bool (isDig c)) ∧ w' = w := by
  have hcb : (c.toNat : Int) < 256 := by have := c.toNat_lt; omega
  by_cases hd : 48 ≤ (c.toNat : Int)
  · by_cases hd2 : (c.toNat : Int) ≤ 57
    · have HT : Hid (isDig c = true) := by show isDig c = true; unfold isDig; simp; omega
      go_enter Try.func10, Try.ntmps10
      go_wp2
      go_ret
      exact ⟨by rw [HT.out]; rfl, rfl⟩
    · have HT : Hid (isDig c = false) := by show isDig c = false; unfold isDig; simp; omega
      go_enter Try.func10, Try.ntmps10
      go_wp2
      go_ret
      exact ⟨by rw [HT.out]; rfl, rfl⟩
  · have HT : Hid (isDig c = false) := by show isDig c = false; unfold isDig; simp; omega
    go_enter Try.func10, Try.ntmps10
    go_wp2
    go_ret
    exact ⟨by rw [HT.out]; rfl, rfl⟩
end Go.Proofs.Qxb6600116a.Dg
