import Derived.Test.Qxb6602178aWalkA
namespace Go.Proofs.Qxb6602178a.Cl
open Go.RowKit

set_option maxRecDepth 100000 in
set_option maxHeartbeats 1000000 in
theorem width_f0 (s : ByteArray) (i : Nat) (hi : i < s.size) (hs : s.size ≤ 1048576) (hb : 240 ≤ (s.get! i).toNat) (hb' : (s.get! i).toNat ≤ 240) (w : World) :
    Calls Try.prog 8 #[.string s, .int .i64 (i : Int)] w fun e w' => e = .returned (.int .i64 (width s i)) ∧ w' = w := by
  have HW : Hid (width s i = (wN (s.size - i) (s.get! i).toNat (s.get! (i + 1)).toNat (s.get! (i + 2)).toNat (s.get! (i + 3)).toNat : Nat)) := by
    show width s i = _; unfold width; rw [decode_width s i hi]
  have x0 := idx s i hi
  have hs' : (s.size : Int) ≤ 1048576 := by omega
  have hi' : (i : Int) < s.size := by omega
  have l0 : (s.get! i).toNat < 256 := (s.get! i).toNat_lt
  have l1 : (s.get! (i + 1)).toNat < 256 := (s.get! (i + 1)).toNat_lt
  have l2 : (s.get! (i + 2)).toNat < 256 := (s.get! (i + 2)).toNat_lt
  have l3 : (s.get! (i + 3)).toNat < 256 := (s.get! (i + 3)).toNat_lt
  have HX1 : Hid (i + 1 < s.size → ∀ W, (Instr.index 9 (.string s) (.int .i64 ((i : Int) + 1))).run Try.prog W = .ok (.int .u8 ((s.get! (i + 1)).toNat : Int)) W) := fun h => idx s (i + 1) h
  have HX2 : Hid (i + 2 < s.size → ∀ W, (Instr.index 9 (.string s) (.int .i64 ((i : Int) + 2))).run Try.prog W = .ok (.int .u8 ((s.get! (i + 2)).toNat : Int)) W) := fun h => idx s (i + 2) h
  have HX3 : Hid (i + 3 < s.size → ∀ W, (Instr.index 9 (.string s) (.int .i64 ((i : Int) + 3))).run Try.prog W = .ok (.int .u8 ((s.get! (i + 3)).toNat : Int)) W) := fun h => idx s (i + 3) h
  generalize (s.get! i).toNat = b0 at *
  generalize (s.get! (i + 1)).toNat = b1 at *
  generalize (s.get! (i + 2)).toNat = b2 at *
  generalize (s.get! (i + 3)).toNat = b3 at *
  have q0 : ((b0 : Int) == 240) = true := by simp; omega
  have q1 : ((b0 : Int) == 244) = false := by simp; omega
  by_cases k1 : i + 3 < s.size
  rotate_left
  · have e : Hid (wN (s.size - i) b0 b1 b2 b3 = 1) := by show wN (s.size - i) b0 b1 b2 b3 = 1; unfold wN; (repeat' split) <;> omega
    have k1' : ¬ (i : Int) + 3 < s.size := by omega
    go_enter Try.func8, Try.ntmps8
    go_wp2
    go_ret
    exact ⟨ret_int (by rw [HW.out, e.out]; rfl), rfl⟩
  have k1' : (i : Int) + 3 < s.size := by omega
  have x1 := HX1.out (by omega)
  have x2 := HX2.out (by omega)
  have x3 := HX3.out (by omega)
  by_cases k2 : 144 ≤ b1
  rotate_left
  · have e : Hid (wN (s.size - i) b0 b1 b2 b3 = 1) := by show wN (s.size - i) b0 b1 b2 b3 = 1; unfold wN; (repeat' split) <;> omega
    go_enter Try.func8, Try.ntmps8
    go_wp2
    go_ret
    exact ⟨ret_int (by rw [HW.out, e.out]; rfl), rfl⟩
  by_cases k3 : b1 ≤ 191
  rotate_left
  · have e : Hid (wN (s.size - i) b0 b1 b2 b3 = 1) := by show wN (s.size - i) b0 b1 b2 b3 = 1; unfold wN; (repeat' split) <;> omega
    go_enter Try.func8, Try.ntmps8
    go_wp2
    go_ret
    exact ⟨ret_int (by rw [HW.out, e.out]; rfl), rfl⟩
  by_cases k4 : 128 ≤ b2 ∧ b2 ≤ 191
  rotate_left
  · have e : Hid (wN (s.size - i) b0 b1 b2 b3 = 1) := by show wN (s.size - i) b0 b1 b2 b3 = 1; unfold wN; (repeat' split) <;> omega
    have d2 : Hid (contB b2 = false) := decide_eq_false k4
    go_enter Try.func8, Try.ntmps8
    go_wp2_with fail
    refine (isCont_any b2 l2 _).mono ?_
    rintro e w' ⟨rfl, rfl⟩
    rw [d2.out]
    go_wp2
    go_ret
    exact ⟨ret_int (by rw [HW.out, e.out]; rfl), rfl⟩
  have d2 : Hid (contB b2 = true) := decide_eq_true k4
  by_cases k5 : 128 ≤ b3 ∧ b3 ≤ 191
  rotate_left
  · have e : Hid (wN (s.size - i) b0 b1 b2 b3 = 1) := by show wN (s.size - i) b0 b1 b2 b3 = 1; unfold wN; (repeat' split) <;> omega
    have d3 : Hid (contB b3 = false) := decide_eq_false k5
    go_enter Try.func8, Try.ntmps8
    go_wp2_with fail
    refine (isCont_any b2 l2 _).mono ?_
    rintro e w' ⟨rfl, rfl⟩
    rw [d2.out]
    go_wp2_with fail
    refine (isCont_any b3 l3 _).mono ?_
    rintro e w' ⟨rfl, rfl⟩
    rw [d3.out]
    go_wp2
    go_ret
    exact ⟨ret_int (by rw [HW.out, e.out]; rfl), rfl⟩
  have d3 : Hid (contB b3 = true) := decide_eq_true k5
  have e : Hid (wN (s.size - i) b0 b1 b2 b3 = 4) := by show wN (s.size - i) b0 b1 b2 b3 = 4; unfold wN; (repeat' split) <;> omega
  go_enter Try.func8, Try.ntmps8
  go_wp2_with fail
  refine (isCont_any b2 l2 _).mono ?_
  rintro e w' ⟨rfl, rfl⟩
  rw [d2.out]
  go_wp2_with fail
  refine (isCont_any b3 l3 _).mono ?_
  rintro e w' ⟨rfl, rfl⟩
  rw [d3.out]
  go_wp2
  go_ret
  exact ⟨ret_int (by rw [HW.out, e.out]; rfl), rfl⟩

set_option maxRecDepth 100000 in
set_option maxHeartbeats 1000000 in
theorem width_f4 (s : ByteArray) (i : Nat) (hi : i < s.size) (hs : s.size ≤ 1048576) (hb : 244 ≤ (s.get! i).toNat) (hb' : (s.get! i).toNat ≤ 244) (w : World) :
    Calls Try.prog 8 #[.string s, .int .i64 (i : Int)] w fun e w' => e = .returned (.int .i64 (width s i)) ∧ w' = w := by
  have HW : Hid (width s i = (wN (s.size - i) (s.get! i).toNat (s.get! (i + 1)).toNat (s.get! (i + 2)).toNat (s.get! (i + 3)).toNat : Nat)) := by
    show width s i = _; unfold width; rw [decode_width s i hi]
  have x0 := idx s i hi
  have hs' : (s.size : Int) ≤ 1048576 := by omega
  have hi' : (i : Int) < s.size := by omega
  have l0 : (s.get! i).toNat < 256 := (s.get! i).toNat_lt
  have l1 : (s.get! (i + 1)).toNat < 256 := (s.get! (i + 1)).toNat_lt
  have l2 : (s.get! (i + 2)).toNat < 256 := (s.get! (i + 2)).toNat_lt
  have l3 : (s.get! (i + 3)).toNat < 256 := (s.get! (i + 3)).toNat_lt
  have HX1 : Hid (i + 1 < s.size → ∀ W, (Instr.index 9 (.string s) (.int .i64 ((i : Int) + 1))).run Try.prog W = .ok (.int .u8 ((s.get! (i + 1)).toNat : Int)) W) := fun h => idx s (i + 1) h
  have HX2 : Hid (i + 2 < s.size → ∀ W, (Instr.index 9 (.string s) (.int .i64 ((i : Int) + 2))).run Try.prog W = .ok (.int .u8 ((s.get! (i + 2)).toNat : Int)) W) := fun h => idx s (i + 2) h
  have HX3 : Hid (i + 3 < s.size → ∀ W, (Instr.index 9 (.string s) (.int .i64 ((i : Int) + 3))).run Try.prog W = .ok (.int .u8 ((s.get! (i + 3)).toNat : Int)) W) := fun h => idx s (i + 3) h
  generalize (s.get! i).toNat = b0 at *
  generalize (s.get! (i + 1)).toNat = b1 at *
  generalize (s.get! (i + 2)).toNat = b2 at *
  generalize (s.get! (i + 3)).toNat = b3 at *
  have q0 : ((b0 : Int) == 240) = false := by simp; omega
  have q1 : ((b0 : Int) == 244) = true := by simp; omega
  by_cases k1 : i + 3 < s.size
  rotate_left
  · have e : Hid (wN (s.size - i) b0 b1 b2 b3 = 1) := by show wN (s.size - i) b0 b1 b2 b3 = 1; unfold wN; (repeat' split) <;> omega
    have k1' : ¬ (i : Int) + 3 < s.size := by omega
    go_enter Try.func8, Try.ntmps8
    go_wp2
    go_ret
    exact ⟨ret_int (by rw [HW.out, e.out]; rfl), rfl⟩
  have k1' : (i : Int) + 3 < s.size := by omega
  have x1 := HX1.out (by omega)
  have x2 := HX2.out (by omega)
  have x3 := HX3.out (by omega)
  by_cases k2 : 128 ≤ b1
  rotate_left
  · have e : Hid (wN (s.size - i) b0 b1 b2 b3 = 1) := by show wN (s.size - i) b0 b1 b2 b3 = 1; unfold wN; (repeat' split) <;> omega
    go_enter Try.func8, Try.ntmps8
    go_wp2
    go_ret
    exact ⟨ret_int (by rw [HW.out, e.out]; rfl), rfl⟩
  by_cases k3 : b1 ≤ 143
  rotate_left
  · have e : Hid (wN (s.size - i) b0 b1 b2 b3 = 1) := by show wN (s.size - i) b0 b1 b2 b3 = 1; unfold wN; (repeat' split) <;> omega
    go_enter Try.func8, Try.ntmps8
    go_wp2
    go_ret
    exact ⟨ret_int (by rw [HW.out, e.out]; rfl), rfl⟩
  by_cases k4 : 128 ≤ b2 ∧ b2 ≤ 191
  rotate_left
  · have e : Hid (wN (s.size - i) b0 b1 b2 b3 = 1) := by show wN (s.size - i) b0 b1 b2 b3 = 1; unfold wN; (repeat' split) <;> omega
    have d2 : Hid (contB b2 = false) := decide_eq_false k4
    go_enter Try.func8, Try.ntmps8
    go_wp2_with fail
    refine (isCont_any b2 l2 _).mono ?_
    rintro e w' ⟨rfl, rfl⟩
    rw [d2.out]
    go_wp2
    go_ret
    exact ⟨ret_int (by rw [HW.out, e.out]; rfl), rfl⟩
  have d2 : Hid (contB b2 = true) := decide_eq_true k4
  by_cases k5 : 128 ≤ b3 ∧ b3 ≤ 191
  rotate_left
  · have e : Hid (wN (s.size - i) b0 b1 b2 b3 = 1) := by show wN (s.size - i) b0 b1 b2 b3 = 1; unfold wN; (repeat' split) <;> omega
    have d3 : Hid (contB b3 = false) := decide_eq_false k5
    go_enter Try.func8, Try.ntmps8
    go_wp2_with fail
    refine (isCont_any b2 l2 _).mono ?_
    rintro e w' ⟨rfl, rfl⟩
    rw [d2.out]
    go_wp2_with fail
    refine (isCont_any b3 l3 _).mono ?_
    rintro e w' ⟨rfl, rfl⟩
    rw [d3.out]
    go_wp2
    go_ret
    exact ⟨ret_int (by rw [HW.out, e.out]; rfl), rfl⟩
  have d3 : Hid (contB b3 = true) := decide_eq_true k5
  have e : Hid (wN (s.size - i) b0 b1 b2 b3 = 4) := by show wN (s.size - i) b0 b1 b2 b3 = 4; unfold wN; (repeat' split) <;> omega
  go_enter Try.func8, Try.ntmps8
  go_wp2_with fail
  refine (isCont_any b2 l2 _).mono ?_
  rintro e w' ⟨rfl, rfl⟩
  rw [d2.out]
  go_wp2_with fail
  refine (isCont_any b3 l3 _).mono ?_
  rintro e w' ⟨rfl, rfl⟩
  rw [d3.out]
  go_wp2
  go_ret
  exact ⟨ret_int (by rw [HW.out, e.out]; rfl), rfl⟩

set_option maxRecDepth 100000 in
set_option maxHeartbeats 1000000 in
theorem width_f (s : ByteArray) (i : Nat) (hi : i < s.size) (hs : s.size ≤ 1048576) (hb1 : 240 ≤ (s.get! i).toNat) (hb2 : (s.get! i).toNat < 245) (hb3 : (s.get! i).toNat ≠ 240) (hb4 : (s.get! i).toNat ≠ 244) (w : World) :
    Calls Try.prog 8 #[.string s, .int .i64 (i : Int)] w fun e w' => e = .returned (.int .i64 (width s i)) ∧ w' = w := by
  have HW : Hid (width s i = (wN (s.size - i) (s.get! i).toNat (s.get! (i + 1)).toNat (s.get! (i + 2)).toNat (s.get! (i + 3)).toNat : Nat)) := by
    show width s i = _; unfold width; rw [decode_width s i hi]
  have x0 := idx s i hi
  have hs' : (s.size : Int) ≤ 1048576 := by omega
  have hi' : (i : Int) < s.size := by omega
  have l0 : (s.get! i).toNat < 256 := (s.get! i).toNat_lt
  have l1 : (s.get! (i + 1)).toNat < 256 := (s.get! (i + 1)).toNat_lt
  have l2 : (s.get! (i + 2)).toNat < 256 := (s.get! (i + 2)).toNat_lt
  have l3 : (s.get! (i + 3)).toNat < 256 := (s.get! (i + 3)).toNat_lt
  have HX1 : Hid (i + 1 < s.size → ∀ W, (Instr.index 9 (.string s) (.int .i64 ((i : Int) + 1))).run Try.prog W = .ok (.int .u8 ((s.get! (i + 1)).toNat : Int)) W) := fun h => idx s (i + 1) h
  have HX2 : Hid (i + 2 < s.size → ∀ W, (Instr.index 9 (.string s) (.int .i64 ((i : Int) + 2))).run Try.prog W = .ok (.int .u8 ((s.get! (i + 2)).toNat : Int)) W) := fun h => idx s (i + 2) h
  have HX3 : Hid (i + 3 < s.size → ∀ W, (Instr.index 9 (.string s) (.int .i64 ((i : Int) + 3))).run Try.prog W = .ok (.int .u8 ((s.get! (i + 3)).toNat : Int)) W) := fun h => idx s (i + 3) h
  generalize (s.get! i).toNat = b0 at *
  generalize (s.get! (i + 1)).toNat = b1 at *
  generalize (s.get! (i + 2)).toNat = b2 at *
  generalize (s.get! (i + 3)).toNat = b3 at *
  have q0 : ((b0 : Int) == 240) = false := by simp; omega
  have q1 : ((b0 : Int) == 244) = false := by simp; omega
  by_cases k1 : i + 3 < s.size
  rotate_left
  · have e : Hid (wN (s.size - i) b0 b1 b2 b3 = 1) := by show wN (s.size - i) b0 b1 b2 b3 = 1; unfold wN; (repeat' split) <;> omega
    have k1' : ¬ (i : Int) + 3 < s.size := by omega
    go_enter Try.func8, Try.ntmps8
    go_wp2
    go_ret
    exact ⟨ret_int (by rw [HW.out, e.out]; rfl), rfl⟩
  have k1' : (i : Int) + 3 < s.size := by omega
  have x1 := HX1.out (by omega)
  have x2 := HX2.out (by omega)
  have x3 := HX3.out (by omega)
  by_cases k2 : 128 ≤ b1
  rotate_left
  · have e : Hid (wN (s.size - i) b0 b1 b2 b3 = 1) := by show wN (s.size - i) b0 b1 b2 b3 = 1; unfold wN; (repeat' split) <;> omega
    go_enter Try.func8, Try.ntmps8
    go_wp2
    go_ret
    exact ⟨ret_int (by rw [HW.out, e.out]; rfl), rfl⟩
  by_cases k3 : b1 ≤ 191
  rotate_left
  · have e : Hid (wN (s.size - i) b0 b1 b2 b3 = 1) := by show wN (s.size - i) b0 b1 b2 b3 = 1; unfold wN; (repeat' split) <;> omega
    go_enter Try.func8, Try.ntmps8
    go_wp2
    go_ret
    exact ⟨ret_int (by rw [HW.out, e.out]; rfl), rfl⟩
  by_cases k4 : 128 ≤ b2 ∧ b2 ≤ 191
  rotate_left
  · have e : Hid (wN (s.size - i) b0 b1 b2 b3 = 1) := by show wN (s.size - i) b0 b1 b2 b3 = 1; unfold wN; (repeat' split) <;> omega
    have d2 : Hid (contB b2 = false) := decide_eq_false k4
    go_enter Try.func8, Try.ntmps8
    go_wp2_with fail
    refine (isCont_any b2 l2 _).mono ?_
    rintro e w' ⟨rfl, rfl⟩
    rw [d2.out]
    go_wp2
    go_ret
    exact ⟨ret_int (by rw [HW.out, e.out]; rfl), rfl⟩
  have d2 : Hid (contB b2 = true) := decide_eq_true k4
  by_cases k5 : 128 ≤ b3 ∧ b3 ≤ 191
  rotate_left
  · have e : Hid (wN (s.size - i) b0 b1 b2 b3 = 1) := by show wN (s.size - i) b0 b1 b2 b3 = 1; unfold wN; (repeat' split) <;> omega
    have d3 : Hid (contB b3 = false) := decide_eq_false k5
    go_enter Try.func8, Try.ntmps8
    go_wp2_with fail
    refine (isCont_any b2 l2 _).mono ?_
    rintro e w' ⟨rfl, rfl⟩
    rw [d2.out]
    go_wp2_with fail
    refine (isCont_any b3 l3 _).mono ?_
    rintro e w' ⟨rfl, rfl⟩
    rw [d3.out]
    go_wp2
    go_ret
    exact ⟨ret_int (by rw [HW.out, e.out]; rfl), rfl⟩
  have d3 : Hid (contB b3 = true) := decide_eq_true k5
  have e : Hid (wN (s.size - i) b0 b1 b2 b3 = 4) := by show wN (s.size - i) b0 b1 b2 b3 = 4; unfold wN; (repeat' split) <;> omega
  go_enter Try.func8, Try.ntmps8
  go_wp2_with fail
  refine (isCont_any b2 l2 _).mono ?_
  rintro e w' ⟨rfl, rfl⟩
  rw [d2.out]
  go_wp2_with fail
  refine (isCont_any b3 l3 _).mono ?_
  rintro e w' ⟨rfl, rfl⟩
  rw [d3.out]
  go_wp2
  go_ret
  exact ⟨ret_int (by rw [HW.out, e.out]; rfl), rfl⟩

set_option maxRecDepth 100000 in
set_option maxHeartbeats 1000000 in
theorem width_top (s : ByteArray) (i : Nat) (hi : i < s.size) (hs : s.size ≤ 1048576) (hb : 245 ≤ (s.get! i).toNat) (w : World) :
    Calls Try.prog 8 #[.string s, .int .i64 (i : Int)] w fun e w' => e = .returned (.int .i64 (width s i)) ∧ w' = w := by
  have HW : Hid (width s i = (wN (s.size - i) (s.get! i).toNat (s.get! (i + 1)).toNat (s.get! (i + 2)).toNat (s.get! (i + 3)).toNat : Nat)) := by
    show width s i = _; unfold width; rw [decode_width s i hi]
  have x0 := idx s i hi
  have hs' : (s.size : Int) ≤ 1048576 := by omega
  have hi' : (i : Int) < s.size := by omega
  have l0 : (s.get! i).toNat < 256 := (s.get! i).toNat_lt
  generalize (s.get! i).toNat = b0 at *
  generalize (s.get! (i + 1)).toNat = b1 at *
  generalize (s.get! (i + 2)).toNat = b2 at *
  generalize (s.get! (i + 3)).toNat = b3 at *
  have e : Hid (wN (s.size - i) b0 b1 b2 b3 = 1) := by show wN (s.size - i) b0 b1 b2 b3 = 1; unfold wN; (repeat' split) <;> omega
  go_enter Try.func8, Try.ntmps8
  go_wp2
  go_ret
  exact ⟨ret_int (by rw [HW.out, e.out]; rfl), rfl⟩

theorem width_any (s : ByteArray) (i : Nat) (hi : i < s.size) (hs : s.size ≤ 1048576) (w : World) :
    Calls Try.prog 8 #[.string s, .int .i64 (i : Int)] w fun e w' => e = .returned (.int .i64 (width s i)) ∧ w' = w := by
  by_cases h1 : (s.get! i).toNat < 224
  · exact width_low s i hi hs h1 w
  by_cases h2 : (s.get! i).toNat < 240
  · by_cases h3 : (s.get! i).toNat = 224
    · exact width_e0 s i hi hs (by omega) (by omega) w
    by_cases h4 : (s.get! i).toNat = 237
    · exact width_ed s i hi hs (by omega) (by omega) w
    exact width_e s i hi hs (by omega) (by omega) (by omega) (by omega) w
  by_cases h3 : (s.get! i).toNat < 245
  · by_cases h4 : (s.get! i).toNat = 240
    · exact width_f0 s i hi hs (by omega) (by omega) w
    by_cases h5 : (s.get! i).toNat = 244
    · exact width_f4 s i hi hs (by omega) (by omega) w
    exact width_f s i hi hs (by omega) (by omega) (by omega) (by omega) w
  exact width_top s i hi hs (by omega) w
end Go.Proofs.Qxb6602178a.Cl
