import Derived.Test.Qxb6602178aRows
import Derived.Test.Qxb6602178aWalkB
import Derived.Test.Qxb6602178aFirst
import Derived.WalkKit
import Derived.ProofKit
import Derived.OpenShut
import Derived.ShutString
import Derived.ChangeOld
namespace Go.Proofs.Qxb6602178a.fnFirstIsLongestPrefixOfAtMostNCharacters
open Go.ChangeShapes Go.WideShapes Go.ChangeAt Go.RowKit
open Go.ChangeMaps (open_string shut_string)
open Cl
set_option linter.unusedVariables false

theorem own : ownKnob Try.prog.godebug = none := by kernel_rfl

set_option maxHeartbeats 400000 in
theorem zzBytes_any (s : ByteArray) (n : Int) (hs : s.size ≤ maxLen) (w : World) : Calls Try.prog 6 #[.string s, .int .i64 n] w fun e w' => e = .returned (.bool (decide (s.size ≤ 1048576))) ∧ w' = w := by
  unfold maxLen at hs
  by_cases h : s.size ≤ 1048576
  · have h' : (s.size : Int) ≤ 1048576 := by omega
    rw [decide_eq_true h]
    go_enter Try.func6, Try.ntmps6
    go_wp2
    go_ret
    exact ⟨rfl, rfl⟩
  · have h' : ¬ (s.size : Int) ≤ 1048576 := by omega
    rw [decide_eq_false h]
    go_enter Try.func6, Try.ntmps6
    go_wp2
    go_ret
    exact ⟨rfl, rfl⟩

theorem extract_all (s : ByteArray) : s.extract 0 s.size = s := by
  apply ByteArray.ext
  simp

theorem first_neg (s : ByteArray) (n : Int) (h : n < 0) : first s n = s := by
  unfold first; rw [if_neg (by omega)]
theorem first_pos (s : ByteArray) (N : Nat) : first s N = s.extract 0 (posK s N) := by
  unfold first
  rw [Int.toNat_natCast]
  by_cases h : posK s N < s.size
  · rw [if_pos ⟨by omega, h⟩]
  · rw [if_neg (by omega)]
    have := posK_le s N
    rw [show posK s N = s.size by omega, extract_all]

theorem beq_self (l : List UInt8) : (l == l) = true := by simp

set_option maxRecDepth 100000 in
set_option maxHeartbeats 400000 in
theorem walk (a0 : ByteArray) (a1 : Int) (w0 : a0.size ≤ maxLen) (w1 : (Lit.int .i64 a1).wf = true) (w : World) :
    Calls Try.prog 3 #[.string a0, .int .i64 a1] w fun e w' => e = .returned (.bool true) ∧ Below w.heap.size w w' := by
  have bd := bounds_i64 w1
  have w0' := w0
  unfold maxLen at w0'
  by_cases h20 : a0.size ≤ 1048576
  rotate_left
  · have HD : Hid (decide (a0.size ≤ 1048576) = false) := decide_eq_false h20
    go_enter Try.func3, Try.ntmps3
    go_wp2_with fail
    refine (zzBytes_any a0 a1 w0 _).mono ?_
    rintro e w2 ⟨rfl, rfl⟩
    rw [HD.out]
    go_wp2
    go_ret
    exact ⟨rfl, Below.refl _ _⟩
  have h20' : (a0.size : Int) ≤ 1048576 := by omega
  have HD : Hid (decide (a0.size ≤ 1048576) = true) := decide_eq_true h20
  by_cases hneg : a1 < 0
  · have HF : Hid (first a0 a1 = a0) := first_neg a0 a1 hneg
    have hea := extract_all a0
    go_enter Try.func3, Try.ntmps3
    go_wp2_with fail
    refine (zzBytes_any a0 a1 w0 _).mono ?_
    rintro e w2 ⟨rfl, rfl⟩
    rw [HD.out]
    go_wp2_with fail
    refine (first_any a0 a1 h20 (by omega) (by omega) _).mono ?_
    rintro e w2 ⟨rfl, hb⟩
    rw [HF.out]
    go_wp2
    go_ret
    exact ⟨rfl, hb⟩
  · obtain ⟨N, rfl⟩ := Int.eq_ofNat_of_zero_le (show 0 ≤ a1 by omega)
    have HF : Hid (first a0 N = a0.extract 0 (posK a0 N)) := first_pos a0 N
    have hple := posK_le a0 N
    have hsz : (a0.extract 0 (posK a0 N)).size = posK a0 N := by simp; omega
    go_enter Try.func3, Try.ntmps3
    go_wp2_with fail
    refine (zzBytes_any a0 N w0 _).mono ?_
    rintro e w2 ⟨rfl, rfl⟩
    rw [HD.out]
    go_wp2_with fail
    refine (first_any a0 N h20 (by omega) (by omega) _).mono ?_
    rintro e w2 ⟨rfl, hb⟩
    rw [HF.out]
    have HB : Hid (Below _ _ w2) := hb
    clear hb
    obtain ⟨c, hc⟩ : ∃ c, c = posK a0 N := ⟨_, rfl⟩
    have HC : Hid (c = posK a0 N) := hc
    rw [← hc] at hsz hple
    rw [← hc]
    clear hc
    have hple' : (c : Int) ≤ a0.size := by omega
    have hdc : decide (a0.size < c) = false := by simp; omega
    go_wp2_with fail
    go_loop [7, 8] (fun i k' => ∃ k : Nat, k ≤ N ∧ i = .int .i64 (posK a0 k) ∧ k' = .int .i64 k) (fun i k' => a0.size - (intOf i).toNat)
    case atStart => exact ⟨0, by omega, rfl, rfl⟩
    case round =>
      obtain ⟨k, hk, rfl, rfl⟩ := hrel
      have hpk := posK_le a0 k
      by_cases hlt : posK a0 k < c
      · have HS : Hid (posK a0 (k + 1) = posK a0 k + (Utf8.decode a0 (posK a0 k)).2) := posK_succ a0 k (by omega)
        have hdb := dec_bounds a0 (posK a0 k) (by omega)
        have hge := posK_ge a0 k (by omega)
        have hkN : k < N := by
          rcases Nat.lt_or_ge k N with h | h
          · exact h
          · have := posK_mono a0 N k h; have := HC.out; omega
        have hwb : 1 ≤ width a0 (posK a0 k) ∧ (posK a0 k : Int) + width a0 (posK a0 k) ≤ a0.size := by unfold width; omega
        have HW : Hid (width a0 (posK a0 k) = ((Utf8.decode a0 (posK a0 k)).2 : Int)) := rfl
        clear hdb
        go_wp2_with fail
        refine (width_any a0 (posK a0 k) (by omega) h20 _).mono ?_
        rintro e w3 ⟨rfl, rfl⟩
        go_wp2_with fail
        go_round
        case rel => exact ⟨k + 1, by omega, by rw [HS.out, HW.out]; go_num, by go_num⟩
        case measure => simp [intOf]; omega
      · have hpk2 : posK a0 k = c := by have := posK_mono a0 k N hk; have := HC.out; omega
        by_cases hfull : c = a0.size
        · have hT : ((c : Int) == (a0.size : Int)) = true := by simp; omega
          have hkn : (k : Int) ≤ (N : Int) := by omega
          rw [hpk2]
          clear hpk2 hfull
          go_wp2_with fail
          go_ret
          exact ⟨rfl, HB.out⟩
        · have hT : ((c : Int) == (a0.size : Int)) = false := by simp; omega
          have hkN : k = N := by
            rcases Nat.lt_or_ge k N with h | h
            · have := posK_lt a0 k N h (by omega); have := HC.out; omega
            · omega
          subst hkN
          rw [hpk2]
          clear hpk2 hfull
          go_wp2_with fail
          go_ret
          exact ⟨rfl, HB.out⟩

/-! ### THE ROW's STEP -/
set_option maxRecDepth 100000 in
theorem lifted (os : Os) (started : os.Started) (H : Type) (enc : TypeId × Value → H) :
    ReturnsInHanded {} Try.checked os 3 .any (Rows.fnFirstIsLongestPrefixOfAtMostNCharactersSpec.pre6 enc Try.prog Try.f3 Rows.fnFirstIsLongestPrefixOfAtMostNCharactersRow.domain false) (Rows.fnFirstIsLongestPrefixOfAtMostNCharactersSpec.post enc Try.prog Try.f3 false true false false) := by
  refine returnsInHanded_of_change (C := Try.checked) own started (by kernel_rfl) Try.func3
    (ChangeSpec.witness6 (enc := enc) (C := Try.checked) false ⟨#[], #[.string ByteArray.empty, .int .i64 0], []⟩ 8 (by kernel_rfl) (by kernel_rfl) (by kernel_rfl) (by kernel_rfl)) ?_
  intro W base args ds gs before hval0 hW hcnd _
  have hval : ∀ (j : Nat) t v, Try.f3.params[j]? = some t → args[j]? = some v → Value.okWide Try.prog W .any base t v := hval0
  have hW' := hW
  obtain ⟨p, q, hA0, hV, rfl, hfz, hnd⟩ := hW
  have hA : DataW.TrodAll enc Try.prog W 0 (fun _ => true) true Try.f3.params.toList args.toList ds p := hA0
  rw [Try.params3] at hA hval
  obtain ⟨v0, vs0, d0, ds0, p0, q0, hargs, rfl, rfl, h0, r0⟩ := trodAll_cons hA
  obtain ⟨v1, vs1, d1, ds1, p1, q1, rfl, rfl, rfl, h1, r1⟩ := trodAll_cons r0
  obtain ⟨rfl, rfl, rfl⟩ := trodAll_nil r1
  obtain rfl : args = #[v0, v1] := by cases args; simp_all
  obtain ⟨rfl, rfl⟩ := trodVars_none hV
  obtain ⟨a0, rfl, rfl, rfl, w0⟩ := open_string Try.underlying9 (hval 0 9 v0 rfl rfl) h0
  obtain ⟨a1, rfl, rfl, rfl, w1⟩ := open_int Try.underlying3 (hval 1 3 v1 rfl rfl) h1
  clear hA0 hval0
  simp only [List.append_nil] at hW'
  refine (walk a0 a1 w0 w1 W).mono fun e W' ⟨he, bel⟩ => ?_
  subst he
  exact ⟨_, rfl, _, _, _, [], [], [], hW', trodAll_mk1 (shut_bool Try.underlying4 _), (trodAll_cons_mk (shut_string Try.underlying9 w0) (trodAll_cons_mk (shut_int Try.underlying3 w1) trodAll_mk0)), rfl, bel.frame _, fun h => by cases h⟩

theorem over : Rows.fnFirstIsLongestPrefixOfAtMostNCharactersRow.holds Try.pinned (OpenSpec.ofChange Rows.fnFirstIsLongestPrefixOfAtMostNCharactersSpec) :=
  OpenClaim.holds_of_wide 3 Try.f3 rfl rfl rfl rfl rfl rfl rfl ⟨rfl, rfl, rfl, rfl, rfl⟩ rfl rfl rfl rfl rfl (by kernel_rfl) Try.func3 (by kernel_rfl)
    (of_decide_eq_true (by kernel_rfl)) (by unfold Func.isWrapper; first | (rw [if_pos (by decide +kernel)]; kernel_rfl) | (rw [if_neg (by decide +kernel)]; exact ⟨rfl, rfl⟩))
    (fun os started H enc _ => lifted os started H enc)

/-- THE STATEMENT -/
theorem proved : Rows.FnFirstIsLongestPrefixOfAtMostNCharactersSaid :=
  over
end Go.Proofs.Qxb6602178a.fnFirstIsLongestPrefixOfAtMostNCharacters
