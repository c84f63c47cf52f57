import Derived.Test.Qxb6602178aWidth
namespace Go.Proofs.Qxb6602178a.Cl
open Go.RowKit

theorem idx (s : ByteArray) (j : Nat) (hj : j < s.size) (W : World) : (Instr.index 9 (.string s) (.int .i64 (j : Int))).run Try.prog W = .ok (.int .u8 ((s.get! j).toNat : Int)) W := by
  rw [run_index_string (w := W) 9 s .i64 j Try.underlying9, dif_pos (by omega)]
  have e : s.get! j = s[j] := by
    simp [ByteArray.get!, getElem!_pos, hj]
    rfl
  simp [e]

def contB (b : Nat) : Bool := decide (128 ≤ b ∧ b ≤ 191)

set_option maxHeartbeats 400000 in
theorem isCont_any (b : Nat) (hb : b < 256) (w : World) : Calls Try.prog 11 #[.int .u8 (b : Int)] w fun e w' => e = .returned (.bool (contB b)) ∧ w' = w := by
  have hb' : (b : Int) < 256 := by omega
  by_cases h1 : 128 ≤ (b : Int)
  · by_cases h2 : (b : Int) ≤ 191
    · have HD : Hid (contB b = true) := by show contB b = true; unfold contB; rw [decide_eq_true_eq]; omega
      go_enter Try.func11, Try.ntmps11
      go_wp2
      go_ret
      exact ⟨by rw [HD.out]; rfl, rfl⟩
    · have HD : Hid (contB b = false) := by show contB b = false; unfold contB; rw [decide_eq_false_iff_not]; omega
      go_enter Try.func11, Try.ntmps11
      go_wp2
      go_ret
      exact ⟨by rw [HD.out]; rfl, rfl⟩
  · have HD : Hid (contB b = false) := by show contB b = false; unfold contB; rw [decide_eq_false_iff_not]; omega
    go_enter Try.func11, Try.ntmps11
    go_wp2
    go_ret
    exact ⟨by rw [HD.out]; rfl, rfl⟩

theorem ret_int {k : IntKind} {a b : Int} (h : a = b) : Ending.returned (.int k a) = .returned (.int k b) := by rw [h]

/-- the number as an Int, behind a name: the walk does not open it -/
def width (s : ByteArray) (i : Nat) : Int := ((Utf8.decode s i).2 : Int)

set_option maxRecDepth 100000 in
set_option maxHeartbeats 400000 in
theorem width_low (s : ByteArray) (i : Nat) (hi : i < s.size) (hs : s.size ≤ 1048576) (hb : (s.get! i).toNat < 224) (w : World) :
    Calls Try.prog 8 #[.string s, .int .i64 (i : Int)] w fun e w' => e = .returned (.int .i64 (width s i)) ∧ w' = w := by
  have HW : Hid (width s i = (wN (s.size - i) (s.get! i).toNat (s.get! (i + 1)).toNat (s.get! (i + 2)).toNat (s.get! (i + 3)).toNat : Nat)) := by
    show width s i = _; unfold width; rw [decode_width s i hi]
  have x0 := idx s i hi
  have hs' : (s.size : Int) ≤ 1048576 := by omega
  have hi' : (i : Int) < s.size := by omega
  have l1 : (s.get! (i + 1)).toNat < 256 := (s.get! (i + 1)).toNat_lt
  have HX1 : Hid (i + 1 < s.size → ∀ W, (Instr.index 9 (.string s) (.int .i64 ((i : Int) + 1))).run Try.prog W = .ok (.int .u8 ((s.get! (i + 1)).toNat : Int)) W) := fun h => idx s (i + 1) h
  generalize (s.get! i).toNat = b0 at *
  generalize (s.get! (i + 1)).toNat = b1 at *
  generalize (s.get! (i + 2)).toNat = b2 at *
  generalize (s.get! (i + 3)).toNat = b3 at *
  by_cases c1 : b0 < 194
  · have e : Hid (wN (s.size - i) b0 b1 b2 b3 = 1) := by show _ = _; unfold wN; (repeat' split) <;> omega
    go_enter Try.func8, Try.ntmps8
    go_wp2
    all_goals
      go_ret
      exact ⟨ret_int (by rw [HW.out, e.out]; rfl), rfl⟩
  · by_cases c2 : i + 1 < s.size
    · have x1 := HX1.out c2
      have c2' : (i : Int) + 1 < s.size := by omega
      by_cases c3 : 128 ≤ b1 ∧ b1 ≤ 191
      · have e : Hid (wN (s.size - i) b0 b1 b2 b3 = 2) := by show _ = _; unfold wN; (repeat' split) <;> omega
        have hd : Hid (contB b1 = true) := decide_eq_true c3
        go_enter Try.func8, Try.ntmps8
        go_wp2_with (go_at_call 11; refine (isCont_any b1 l1 _).mono ?_; rintro e w' ⟨rfl, rfl⟩; rw [hd.out])
        go_ret
        exact ⟨ret_int (by rw [HW.out, e.out]; rfl), rfl⟩
      · have e : Hid (wN (s.size - i) b0 b1 b2 b3 = 1) := by show _ = _; unfold wN; (repeat' split) <;> omega
        have hd : Hid (contB b1 = false) := decide_eq_false c3
        go_enter Try.func8, Try.ntmps8
        go_wp2_with (go_at_call 11; refine (isCont_any b1 l1 _).mono ?_; rintro e w' ⟨rfl, rfl⟩; rw [hd.out])
        go_ret
        exact ⟨ret_int (by rw [HW.out, e.out]; rfl), rfl⟩
    · have e : Hid (wN (s.size - i) b0 b1 b2 b3 = 1) := by show _ = _; unfold wN; (repeat' split) <;> omega
      have c2' : ¬ (i : Int) + 1 < s.size := by omega
      go_enter Try.func8, Try.ntmps8
      go_wp2
      go_ret
      exact ⟨ret_int (by rw [HW.out, e.out]; rfl), rfl⟩

set_option maxRecDepth 100000 in
set_option maxHeartbeats 1000000 in
theorem width_e0 (s : ByteArray) (i : Nat) (hi : i < s.size) (hs : s.size ≤ 1048576) (hb : 224 ≤ (s.get! i).toNat) (hb' : (s.get! i).toNat ≤ 224) (w : World) :
    Calls Try.prog 8 #[.string s, .int .i64 (i : Int)] w fun e w' => e = .returned (.int .i64 (width s i)) ∧ w' = w := by
  have HW : Hid (width s i = (wN (s.size - i) (s.get! i).toNat (s.get! (i + 1)).toNat (s.get! (i + 2)).toNat (s.get! (i + 3)).toNat : Nat)) := by
    show width s i = _; unfold width; rw [decode_width s i hi]
  have x0 := idx s i hi
  have hs' : (s.size : Int) ≤ 1048576 := by omega
  have hi' : (i : Int) < s.size := by omega
  have l0 : (s.get! i).toNat < 256 := (s.get! i).toNat_lt
  have l1 : (s.get! (i + 1)).toNat < 256 := (s.get! (i + 1)).toNat_lt
  have l2 : (s.get! (i + 2)).toNat < 256 := (s.get! (i + 2)).toNat_lt
  have l3 : (s.get! (i + 3)).toNat < 256 := (s.get! (i + 3)).toNat_lt
  have HX1 : Hid (i + 1 < s.size → ∀ W, (Instr.index 9 (.string s) (.int .i64 ((i : Int) + 1))).run Try.prog W = .ok (.int .u8 ((s.get! (i + 1)).toNat : Int)) W) := fun h => idx s (i + 1) h
  have HX2 : Hid (i + 2 < s.size → ∀ W, (Instr.index 9 (.string s) (.int .i64 ((i : Int) + 2))).run Try.prog W = .ok (.int .u8 ((s.get! (i + 2)).toNat : Int)) W) := fun h => idx s (i + 2) h
  have HX3 : Hid (i + 3 < s.size → ∀ W, (Instr.index 9 (.string s) (.int .i64 ((i : Int) + 3))).run Try.prog W = .ok (.int .u8 ((s.get! (i + 3)).toNat : Int)) W) := fun h => idx s (i + 3) h
  generalize (s.get! i).toNat = b0 at *
  generalize (s.get! (i + 1)).toNat = b1 at *
  generalize (s.get! (i + 2)).toNat = b2 at *
  generalize (s.get! (i + 3)).toNat = b3 at *
  have q0 : ((b0 : Int) == 224) = true := by simp; omega
  have q1 : ((b0 : Int) == 237) = false := by simp; omega
  by_cases k1 : i + 2 < s.size
  rotate_left
  · have e : Hid (wN (s.size - i) b0 b1 b2 b3 = 1) := by show wN (s.size - i) b0 b1 b2 b3 = 1; unfold wN; (repeat' split) <;> omega
    have k1' : ¬ (i : Int) + 2 < s.size := by omega
    go_enter Try.func8, Try.ntmps8
    go_wp2
    go_ret
    exact ⟨ret_int (by rw [HW.out, e.out]; rfl), rfl⟩
  have k1' : (i : Int) + 2 < s.size := by omega
  have x1 := HX1.out (by omega)
  have x2 := HX2.out (by omega)
  by_cases k2 : 160 ≤ b1
  rotate_left
  · have e : Hid (wN (s.size - i) b0 b1 b2 b3 = 1) := by show wN (s.size - i) b0 b1 b2 b3 = 1; unfold wN; (repeat' split) <;> omega
    go_enter Try.func8, Try.ntmps8
    go_wp2
    go_ret
    exact ⟨ret_int (by rw [HW.out, e.out]; rfl), rfl⟩
  by_cases k3 : b1 ≤ 191
  rotate_left
  · have e : Hid (wN (s.size - i) b0 b1 b2 b3 = 1) := by show wN (s.size - i) b0 b1 b2 b3 = 1; unfold wN; (repeat' split) <;> omega
    go_enter Try.func8, Try.ntmps8
    go_wp2
    go_ret
    exact ⟨ret_int (by rw [HW.out, e.out]; rfl), rfl⟩
  by_cases k4 : 128 ≤ b2 ∧ b2 ≤ 191
  rotate_left
  · have e : Hid (wN (s.size - i) b0 b1 b2 b3 = 1) := by show wN (s.size - i) b0 b1 b2 b3 = 1; unfold wN; (repeat' split) <;> omega
    have d2 : Hid (contB b2 = false) := decide_eq_false k4
    go_enter Try.func8, Try.ntmps8
    go_wp2_with fail
    refine (isCont_any b2 l2 _).mono ?_
    rintro e w' ⟨rfl, rfl⟩
    rw [d2.out]
    go_wp2
    go_ret
    exact ⟨ret_int (by rw [HW.out, e.out]; rfl), rfl⟩
  have d2 : Hid (contB b2 = true) := decide_eq_true k4
  have e : Hid (wN (s.size - i) b0 b1 b2 b3 = 3) := by show wN (s.size - i) b0 b1 b2 b3 = 3; unfold wN; (repeat' split) <;> omega
  go_enter Try.func8, Try.ntmps8
  go_wp2_with fail
  refine (isCont_any b2 l2 _).mono ?_
  rintro e w' ⟨rfl, rfl⟩
  rw [d2.out]
  go_wp2
  go_ret
  exact ⟨ret_int (by rw [HW.out, e.out]; rfl), rfl⟩

set_option maxRecDepth 100000 in
set_option maxHeartbeats 1000000 in
theorem width_ed (s : ByteArray) (i : Nat) (hi : i < s.size) (hs : s.size ≤ 1048576) (hb : 237 ≤ (s.get! i).toNat) (hb' : (s.get! i).toNat ≤ 237) (w : World) :
    Calls Try.prog 8 #[.string s, .int .i64 (i : Int)] w fun e w' => e = .returned (.int .i64 (width s i)) ∧ w' = w := by
  have HW : Hid (width s i = (wN (s.size - i) (s.get! i).toNat (s.get! (i + 1)).toNat (s.get! (i + 2)).toNat (s.get! (i + 3)).toNat : Nat)) := by
    show width s i = _; unfold width; rw [decode_width s i hi]
  have x0 := idx s i hi
  have hs' : (s.size : Int) ≤ 1048576 := by omega
  have hi' : (i : Int) < s.size := by omega
  have l0 : (s.get! i).toNat < 256 := (s.get! i).toNat_lt
  have l1 : (s.get! (i + 1)).toNat < 256 := (s.get! (i + 1)).toNat_lt
  have l2 : (s.get! (i + 2)).toNat < 256 := (s.get! (i + 2)).toNat_lt
  have l3 : (s.get! (i + 3)).toNat < 256 := (s.get! (i + 3)).toNat_lt
  have HX1 : Hid (i + 1 < s.size → ∀ W, (Instr.index 9 (.string s) (.int .i64 ((i : Int) + 1))).run Try.prog W = .ok (.int .u8 ((s.get! (i + 1)).toNat : Int)) W) := fun h => idx s (i + 1) h
  have HX2 : Hid (i + 2 < s.size → ∀ W, (Instr.index 9 (.string s) (.int .i64 ((i : Int) + 2))).run Try.prog W = .ok (.int .u8 ((s.get! (i + 2)).toNat : Int)) W) := fun h => idx s (i + 2) h
  have HX3 : Hid (i + 3 < s.size → ∀ W, (Instr.index 9 (.string s) (.int .i64 ((i : Int) + 3))).run Try.prog W = .ok (.int .u8 ((s.get! (i + 3)).toNat : Int)) W) := fun h => idx s (i + 3) h
  generalize (s.get! i).toNat = b0 at *
  generalize (s.get! (i + 1)).toNat = b1 at *
  generalize (s.get! (i + 2)).toNat = b2 at *
  generalize (s.get! (i + 3)).toNat = b3 at *
  have q0 : ((b0 : Int) == 224) = false := by simp; omega
  have q1 : ((b0 : Int) == 237) = true := by simp; omega
  by_cases k1 : i + 2 < s.size
  rotate_left
  · have e : Hid (wN (s.size - i) b0 b1 b2 b3 = 1) := by show wN (s.size - i) b0 b1 b2 b3 = 1; unfold wN; (repeat' split) <;> omega
    have k1' : ¬ (i : Int) + 2 < s.size := by omega
    go_enter Try.func8, Try.ntmps8
    go_wp2
    go_ret
    exact ⟨ret_int (by rw [HW.out, e.out]; rfl), rfl⟩
  have k1' : (i : Int) + 2 < s.size := by omega
  have x1 := HX1.out (by omega)
  have x2 := HX2.out (by omega)
  by_cases k2 : 128 ≤ b1
  rotate_left
  · have e : Hid (wN (s.size - i) b0 b1 b2 b3 = 1) := by show wN (s.size - i) b0 b1 b2 b3 = 1; unfold wN; (repeat' split) <;> omega
    go_enter Try.func8, Try.ntmps8
    go_wp2
    go_ret
    exact ⟨ret_int (by rw [HW.out, e.out]; rfl), rfl⟩
  by_cases k3 : b1 ≤ 159
  rotate_left
  · have e : Hid (wN (s.size - i) b0 b1 b2 b3 = 1) := by show wN (s.size - i) b0 b1 b2 b3 = 1; unfold wN; (repeat' split) <;> omega
    go_enter Try.func8, Try.ntmps8
    go_wp2
    go_ret
    exact ⟨ret_int (by rw [HW.out, e.out]; rfl), rfl⟩
  by_cases k4 : 128 ≤ b2 ∧ b2 ≤ 191
  rotate_left
  · have e : Hid (wN (s.size - i) b0 b1 b2 b3 = 1) := by show wN (s.size - i) b0 b1 b2 b3 = 1; unfold wN; (repeat' split) <;> omega
    have d2 : Hid (contB b2 = false) := decide_eq_false k4
    go_enter Try.func8, Try.ntmps8
    go_wp2_with fail
    refine (isCont_any b2 l2 _).mono ?_
    rintro e w' ⟨rfl, rfl⟩
    rw [d2.out]
    go_wp2
    go_ret
    exact ⟨ret_int (by rw [HW.out, e.out]; rfl), rfl⟩
  have d2 : Hid (contB b2 = true) := decide_eq_true k4
  have e : Hid (wN (s.size - i) b0 b1 b2 b3 = 3) := by show wN (s.size - i) b0 b1 b2 b3 = 3; unfold wN; (repeat' split) <;> omega
  go_enter Try.func8, Try.ntmps8
  go_wp2_with fail
  refine (isCont_any b2 l2 _).mono ?_
  rintro e w' ⟨rfl, rfl⟩
  rw [d2.out]
  go_wp2
  go_ret
  exact ⟨ret_int (by rw [HW.out, e.out]; rfl), rfl⟩

set_option maxRecDepth 100000 in
set_option maxHeartbeats 1000000 in
theorem width_e (s : ByteArray) (i : Nat) (hi : i < s.size) (hs : s.size ≤ 1048576) (hb1 : 224 ≤ (s.get! i).toNat) (hb2 : (s.get! i).toNat < 240) (hb3 : (s.get! i).toNat ≠ 224) (hb4 : (s.get! i).toNat ≠ 237) (w : World) :
    Calls Try.prog 8 #[.string s, .int .i64 (i : Int)] w fun e w' => e = .returned (.int .i64 (width s i)) ∧ w' = w := by
  have HW : Hid (width s i = (wN (s.size - i) (s.get! i).toNat (s.get! (i + 1)).toNat (s.get! (i + 2)).toNat (s.get! (i + 3)).toNat : Nat)) := by
    show width s i = _; unfold width; rw [decode_width s i hi]
  have x0 := idx s i hi
  have hs' : (s.size : Int) ≤ 1048576 := by omega
  have hi' : (i : Int) < s.size := by omega
  have l0 : (s.get! i).toNat < 256 := (s.get! i).toNat_lt
  have l1 : (s.get! (i + 1)).toNat < 256 := (s.get! (i + 1)).toNat_lt
  have l2 : (s.get! (i + 2)).toNat < 256 := (s.get! (i + 2)).toNat_lt
  have l3 : (s.get! (i + 3)).toNat < 256 := (s.get! (i + 3)).toNat_lt
  have HX1 : Hid (i + 1 < s.size → ∀ W, (Instr.index 9 (.string s) (.int .i64 ((i : Int) + 1))).run Try.prog W = .ok (.int .u8 ((s.get! (i + 1)).toNat : Int)) W) := fun h => idx s (i + 1) h
  have HX2 : Hid (i + 2 < s.size → ∀ W, (Instr.index 9 (.string s) (.int .i64 ((i : Int) + 2))).run Try.prog W = .ok (.int .u8 ((s.get! (i + 2)).toNat : Int)) W) := fun h => idx s (i + 2) h
  have HX3 : Hid (i + 3 < s.size → ∀ W, (Instr.index 9 (.string s) (.int .i64 ((i : Int) + 3))).run Try.prog W = .ok (.int .u8 ((s.get! (i + 3)).toNat : Int)) W) := fun h => idx s (i + 3) h
  generalize (s.get! i).toNat = b0 at *
  generalize (s.get! (i + 1)).toNat = b1 at *
  generalize (s.get! (i + 2)).toNat = b2 at *
  generalize (s.get! (i + 3)).toNat = b3 at *
  have q0 : ((b0 : Int) == 224) = false := by simp; omega
  have q1 : ((b0 : Int) == 237) = false := by simp; omega
  by_cases k1 : i + 2 < s.size
  rotate_left
  · have e : Hid (wN (s.size - i) b0 b1 b2 b3 = 1) := by show wN (s.size - i) b0 b1 b2 b3 = 1; unfold wN; (repeat' split) <;> omega
    have k1' : ¬ (i : Int) + 2 < s.size := by omega
    go_enter Try.func8, Try.ntmps8
    go_wp2
    go_ret
    exact ⟨ret_int (by rw [HW.out, e.out]; rfl), rfl⟩
  have k1' : (i : Int) + 2 < s.size := by omega
  have x1 := HX1.out (by omega)
  have x2 := HX2.out (by omega)
  by_cases k2 : 128 ≤ b1
  rotate_left
  · have e : Hid (wN (s.size - i) b0 b1 b2 b3 = 1) := by show wN (s.size - i) b0 b1 b2 b3 = 1; unfold wN; (repeat' split) <;> omega
    go_enter Try.func8, Try.ntmps8
    go_wp2
    go_ret
    exact ⟨ret_int (by rw [HW.out, e.out]; rfl), rfl⟩
  by_cases k3 : b1 ≤ 191
  rotate_left
  · have e : Hid (wN (s.size - i) b0 b1 b2 b3 = 1) := by show wN (s.size - i) b0 b1 b2 b3 = 1; unfold wN; (repeat' split) <;> omega
    go_enter Try.func8, Try.ntmps8
    go_wp2
    go_ret
    exact ⟨ret_int (by rw [HW.out, e.out]; rfl), rfl⟩
  by_cases k4 : 128 ≤ b2 ∧ b2 ≤ 191
  rotate_left
  · have e : Hid (wN (s.size - i) b0 b1 b2 b3 = 1) := by show wN (s.size - i) b0 b1 b2 b3 = 1; unfold wN; (repeat' split) <;> omega
    have d2 : Hid (contB b2 = false) := decide_eq_false k4
    go_enter Try.func8, Try.ntmps8
    go_wp2_with fail
    refine (isCont_any b2 l2 _).mono ?_
    rintro e w' ⟨rfl, rfl⟩
    rw [d2.out]
    go_wp2
    go_ret
    exact ⟨ret_int (by rw [HW.out, e.out]; rfl), rfl⟩
  have d2 : Hid (contB b2 = true) := decide_eq_true k4
  have e : Hid (wN (s.size - i) b0 b1 b2 b3 = 3) := by show wN (s.size - i) b0 b1 b2 b3 = 3; unfold wN; (repeat' split) <;> omega
  go_enter Try.func8, Try.ntmps8
  go_wp2_with fail
  refine (isCont_any b2 l2 _).mono ?_
  rintro e w' ⟨rfl, rfl⟩
  rw [d2.out]
  go_wp2
  go_ret
  exact ⟨ret_int (by rw [HW.out, e.out]; rfl), rfl⟩

end Go.Proofs.Qxb6602178a.Cl
