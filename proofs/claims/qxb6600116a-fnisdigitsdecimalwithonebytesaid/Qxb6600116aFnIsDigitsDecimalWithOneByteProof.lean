import Derived.Test.Qxb6600116aRows
import Derived.Test.Qxb6600116aUtoa
import Derived.WalkKit
import Derived.ProofKit
import Derived.OpenShut
import Derived.ShutString
import Derived.ChangeOld
import Derived.Below
import Derived.Deep.RegionHeld3
namespace Go.Proofs.Qxb6600116a.fnIsDigitsDecimalWithOneByte
open Go.ChangeShapes Go.WideShapes Go.ChangeAt Go.RowKit
open Go.ChangeMaps (open_string shut_string)
set_option linter.unusedVariables false

theorem own : ownKnob Try.prog.godebug = none := by kernel_rfl

theorem insert_dig (s st : ByteArray) (c : UInt8) (p : Nat) (hp : p ≤ s.size) (hs : Dg.allDig s = true) (hst : strOfNums [(c.toNat : Int)] = st) :
    Dg.allDig (s.extract 0 p ++ st ++ s.extract p s.size) = Dg.isDig c := by
  subst hst
  have ha : s.data.toList.all Dg.isDig = true := by
    unfold Dg.allDig at hs
    simp only [Bool.and_eq_true] at hs
    exact hs.2
  have e : (s.extract 0 p ++ strOfNums [(c.toNat : Int)] ++ s.extract p s.size).data.toList = s.data.toList.take p ++ [c] ++ s.data.toList.drop p := by
    have e1 : (strOfNums [(c.toNat : Int)]).data.toList = [c] := by rw [strOfNums_data]; simp
    simp only [ByteArray.data_append, Array.toList_append, e1]
    simp [ByteArray.data_extract]
    exact List.take_of_length_le (by simp)
  unfold Dg.allDig
  rw [e]
  have h1 : (s.data.toList.take p).all Dg.isDig = true := by
    rw [List.all_eq_true] at ha ⊢
    exact fun x hx => ha x (List.mem_of_mem_take hx)
  have h2 : (s.data.toList.drop p).all Dg.isDig = true := by
    rw [List.all_eq_true] at ha ⊢
    exact fun x hx => ha x (List.mem_of_mem_drop hx)
  simp only [List.all_append, h1, h2]
  simp

set_option maxRecDepth 100000 in
set_option maxHeartbeats 400000 in
theorem walk (a0 : Int) (a1 : Int) (a2 : Int) (w0 : (Lit.int .u64 a0).wf = true) (w1 : (Lit.int .u8 a1).wf = true) (w2 : (Lit.int .u64 a2).wf = true) (w : World) :
    Calls Try.prog 4 #[.int .u64 a0, .int .u8 a1, .int .u64 a2] w fun e w' => e = .returned (.bool true) ∧ Below w.heap.size w w' := by
  have b0 := bounds_u64 w0
  have b1 := bounds_u8 w1
  have b2 := bounds_u64 w2
  obtain ⟨c, rfl⟩ : ∃ c : UInt8, a1 = (c.toNat : Int) := ⟨UInt8.ofNat a1.toNat, by
    have : a1.toNat < 256 := by omega
    simp [UInt8.toNat_ofNat']
    omega⟩
  go_enter Try.func4, Try.ntmps4
  go_wp2_with (go_at_call 9; refine (Ut.utoa_any a0 _ b0.1 (by omega)).mono ?_; rintro e w1 ⟨s, rfl, hs1, hs2, hb1⟩)
  obtain ⟨p, hp, hpe⟩ : ∃ p : Nat, (p : Int) ≤ s.size ∧ wrap64 (a2 % (↑s.size + 1)) = p := by
    have g1 := Int.emod_lt_of_pos a2 (b := (s.size : Int) + 1) (by omega)
    have g2 := Int.emod_nonneg a2 (b := (s.size : Int) + 1) (by omega)
    refine ⟨(a2 % (s.size + 1)).toNat, by omega, ?_⟩
    unfold wrap64
    omega
  rw [hpe]
  clear hpe
  have hp0 : (0 : Int) ≤ p := by omega
  have hs2' : (s.size : Int) ≤ 64 := by omega
  have hcv := run_convert_bytes_arg (P := Try.prog) (w1.alloc (.cells #[.int .u8 c.toNat] 5)).drew 26 5 Try.underlying26 Try.underlying5 w1.heap.size 0 1 1 [(c.toNat : Int)] rfl (fun i hi => by
    have : i = 0 := by omega
    subst this
    simp) 9 Try.underlying9
  generalize hst : strOfNums [(c.toNat : Int)] = st at hcv
  have HST : Hid (strOfNums [(c.toNat : Int)] = st) := hst
  clear hst
  have hst1 : st.size = 1 := by rw [← HST.out, strOfNums_size]; rfl
  have hmin : min p s.size = p := by omega
  have hn1 : ¬ 9223372036854775807 < p + 1 := by omega
  have hn2 : ¬ 9223372036854775807 < p + 1 + (s.size - p) := by omega
  go_region
  have HT : Hid (Dg.allDig (s.extract 0 p ++ st ++ s.extract p s.size) = Dg.isDig c) := insert_dig s st c p (by omega) hs1 HST.out
  have hts : (s.extract 0 p ++ st ++ s.extract p s.size).size ≤ maxLen := by unfold maxLen; simp [hst1]; omega
  go_wp2_with fail
  refine (Dg.zzIsDigits_any s _ (by unfold maxLen; omega)).mono ?_
  rintro e w2 ⟨rfl, hb2⟩
  go_wp2_with fail
  refine (Dg.zzIsDigits_any _ _ hts).mono ?_
  rintro e w3 ⟨rfl, hb3⟩
  rw [HT.out]
  go_wp2_with fail
  refine (Dg.isDigitByte_any c _).mono ?_
  rintro e w4 ⟨rfl, rfl⟩
  go_wp2
  go_ret
  refine ⟨by simp, ?_⟩
  have g1 : Below w.heap.size w (w1.alloc (.cells #[.int .u8 c.toNat] 5)).drew := (hb1.alloc hb1.size _).drew
  have g2 := hb2.mono (B' := w.heap.size) g1.size
  have g3 := hb3.mono (B' := w.heap.size) (g1.trans g2).size
  exact (g1.trans g2).trans g3

/-! ### THE ROW's STEP -/
set_option maxRecDepth 100000 in
theorem lifted (os : Os) (started : os.Started) (H : Type) (enc : TypeId × Value → H) :
    ReturnsInHanded {} Try.checked os 4 .any (Rows.fnIsDigitsDecimalWithOneByteSpec.pre6 enc Try.prog Try.f4 Rows.fnIsDigitsDecimalWithOneByteRow.domain false) (Rows.fnIsDigitsDecimalWithOneByteSpec.post enc Try.prog Try.f4 false true false false) := by
  refine returnsInHanded_of_change (C := Try.checked) own started (by kernel_rfl) Try.func4
    (ChangeSpec.witness6 (enc := enc) (C := Try.checked) false ⟨#[], #[.int .u64 0, .int .u8 0, .int .u64 0], []⟩ 8 (by kernel_rfl) (by kernel_rfl) (by kernel_rfl) (by kernel_rfl)) ?_
  intro W base args ds gs before hval0 hW hcnd _
  have hval : ∀ (j : Nat) t v, Try.f4.params[j]? = some t → args[j]? = some v → Value.okWide Try.prog W .any base t v := hval0
  have hW' := hW
  obtain ⟨p, q, hA0, hV, rfl, hfz, hnd⟩ := hW
  have hA : DataW.TrodAll enc Try.prog W 0 (fun _ => true) true Try.f4.params.toList args.toList ds p := hA0
  rw [Try.params4] at hA hval
  obtain ⟨v0, vs0, d0, ds0, p0, q0, hargs, rfl, rfl, h0, r0⟩ := trodAll_cons hA
  obtain ⟨v1, vs1, d1, ds1, p1, q1, rfl, rfl, rfl, h1, r1⟩ := trodAll_cons r0
  obtain ⟨v2, vs2, d2, ds2, p2, q2, rfl, rfl, rfl, h2, r2⟩ := trodAll_cons r1
  obtain ⟨rfl, rfl, rfl⟩ := trodAll_nil r2
  obtain rfl : args = #[v0, v1, v2] := by cases args; simp_all
  obtain ⟨rfl, rfl⟩ := trodVars_none hV
  obtain ⟨a0, rfl, rfl, rfl, w0⟩ := open_int Try.underlying24 (hval 0 24 v0 rfl rfl) h0
  obtain ⟨a1, rfl, rfl, rfl, w1⟩ := open_int Try.underlying5 (hval 1 5 v1 rfl rfl) h1
  obtain ⟨a2, rfl, rfl, rfl, w2⟩ := open_int Try.underlying24 (hval 2 24 v2 rfl rfl) h2
  clear hA0 hval0
  simp only [List.append_nil] at hW'
  refine (walk a0 a1 a2 w0 w1 w2 W).mono fun e W' ⟨he, bel⟩ => ?_
  subst he
  exact ⟨_, rfl, _, _, _, [], [], [], hW', trodAll_mk1 (shut_bool Try.underlying4 _), (trodAll_cons_mk (shut_int Try.underlying24 w0) (trodAll_cons_mk (shut_int Try.underlying5 w1) (trodAll_cons_mk (shut_int Try.underlying24 w2) trodAll_mk0))), rfl, bel.frame _, fun h => by cases h⟩

theorem over : Rows.fnIsDigitsDecimalWithOneByteRow.holds Try.pinned (OpenSpec.ofChange Rows.fnIsDigitsDecimalWithOneByteSpec) :=
  OpenClaim.holds_of_wide 4 Try.f4 rfl rfl rfl rfl rfl rfl rfl ⟨rfl, rfl, rfl, rfl, rfl⟩ rfl rfl rfl rfl rfl (by kernel_rfl) Try.func4 (by kernel_rfl)
    (of_decide_eq_true (by kernel_rfl)) (by unfold Func.isWrapper; first | (rw [if_pos (by decide +kernel)]; kernel_rfl) | (rw [if_neg (by decide +kernel)]; exact ⟨rfl, rfl⟩))
    (fun os started H enc _ => lifted os started H enc)

/-- THE STATEMENT -/
theorem proved : Rows.FnIsDigitsDecimalWithOneByteSaid :=
  over
end Go.Proofs.Qxb6600116a.fnIsDigitsDecimalWithOneByte
