import Derived.Test.Qxb6600116aDigits
import Derived.WalkKit
import Derived.WalkSpells
import Derived.WalkLawsBesides
namespace Go.Proofs.Qxb6600116a.Ut
open Go.RowKit

/-- ahead of position q the block at b is unwritten; from q on it holds the digits l -/
structure Inv (w : World) (b q : Nat) (l : List UInt8) (w' : World) : Prop where
  len : l.length + q = 64
  dig : l.all Dg.isDig = true
  there : ∀ j, j < 64 → ∃ v, w'.cell? ⟨b, j, none⟩ = some v
  free : ∀ j, j < 64 → w'.frozen? ⟨b, j, none⟩ = false
  cells : ∀ j, j < l.length → w'.cell? ⟨b, q + j, none⟩ = some (.int .u8 (l.getD j 0).toNat)
  below : Below w.heap.size w w'

theorem Inv.step {w w' : World} {b q : Nat} {l : List UInt8} (h : Inv w b q l w') (hq : 0 < q) (hb : w.heap.size ≤ b) (c : UInt8) (hc : Dg.isDig c = true) :
    Inv w b (q - 1) (c :: l) (w'.setCell ⟨b, q - 1, none⟩ (.int .u8 c.toNat)) := by
  have hl := h.len
  refine ⟨by simp; omega, by simp [hc]; simpa using h.dig, fun j hj => ?_, fun j hj => by rw [World.frozen?_setCell]; exact h.free j hj, fun j hj => ?_, h.below.setCell hb _⟩
  · obtain ⟨v, hv⟩ := h.there j hj
    exact cell?_setCell_some hv
  · cases j with
    | zero =>
      obtain ⟨v, hv⟩ := h.there (q - 1) (by omega)
      rw [Nat.add_zero, World.cell?_setCell_same _ _ _ hv]
      simp
    | succ j =>
      rw [World.cell?_setCell_other _ _ _ _ (by simp), show q - 1 + (j + 1) = q + j by omega, h.cells j (by simpa using hj)]
      simp

def lim (q : Nat) : Nat := 10 ^ (q - 44)
theorem lim_step (m q : Nat) (h : m < lim q) (hq : 45 ≤ q) (hz : ¬ m < 10) : 46 ≤ q ∧ m / 10 < lim (q - 1) := by
  unfold lim at *
  obtain ⟨r, rfl⟩ : ∃ r, q = 45 + r := ⟨q - 45, by omega⟩
  have e1 : 45 + r - 44 = r + 1 := by omega
  have e2 : 45 + r - 1 - 44 = r := by omega
  rw [e1, Nat.pow_succ] at h
  rw [e2]
  refine ⟨?_, by omega⟩
  rcases Nat.eq_zero_or_pos r with h0 | h0
  · subst h0; simp at h; omega
  · omega
theorem lim_start (n : Nat) (h : (n : Int) < 18446744073709551616) : n < lim 64 := by
  unfold lim; omega

theorem dig_at (m : Nat) : ∃ c : UInt8, Dg.isDig c = true ∧ ∀ W, (Instr.index 9 (.string ⟨#[48, 49, 50, 51, 52, 53, 54, 55, 56, 57, 97, 98, 99, 100, 101, 102]⟩) (.int .u64 ((m : Int) % 10))).run Try.prog W = .ok (.int .u8 (c.toNat : Int)) W := by
  have : (m : Int) % 10 = 0 ∨ (m : Int) % 10 = 1 ∨ (m : Int) % 10 = 2 ∨ (m : Int) % 10 = 3 ∨ (m : Int) % 10 = 4 ∨ (m : Int) % 10 = 5 ∨ (m : Int) % 10 = 6 ∨ (m : Int) % 10 = 7 ∨ (m : Int) % 10 = 8 ∨ (m : Int) % 10 = 9 := by omega
  rcases this with h | h | h | h | h | h | h | h | h | h <;> rw [h]
  · exact ⟨48, rfl, fun W => by kernel_rfl⟩
  · exact ⟨49, rfl, fun W => by kernel_rfl⟩
  · exact ⟨50, rfl, fun W => by kernel_rfl⟩
  · exact ⟨51, rfl, fun W => by kernel_rfl⟩
  · exact ⟨52, rfl, fun W => by kernel_rfl⟩
  · exact ⟨53, rfl, fun W => by kernel_rfl⟩
  · exact ⟨54, rfl, fun W => by kernel_rfl⟩
  · exact ⟨55, rfl, fun W => by kernel_rfl⟩
  · exact ⟨56, rfl, fun W => by kernel_rfl⟩
  · exact ⟨57, rfl, fun W => by kernel_rfl⟩

theorem allDig_of (L : List UInt8) (hne : L ≠ []) (h : L.all Dg.isDig = true) : Dg.allDig (strOfNums (L.map fun x => (x.toNat : Int))) = true := by
  unfold Dg.allDig
  have e : (strOfNums (L.map fun x => (x.toNat : Int))).data.toList = L := by
    rw [strOfNums_data, List.map_map]
    conv => rhs; rw [← List.map_id L]
    apply List.map_congr_left
    intro x _
    simp
  rw [e, h]
  cases L with
  | nil => exact absurd rfl hne
  | cons => rfl

set_option maxRecDepth 100000 in
set_option maxHeartbeats 400000 in
theorem utoaBase_ten (n : Int) (w : World) (h0 : 0 ≤ n) (h1 : n < 18446744073709551616) :
    Calls Try.prog 20 #[.int .u64 n, .int .u64 10] w fun e w' => ∃ s : ByteArray, e = .returned (.string s) ∧ Dg.allDig s = true ∧ s.size ≤ 64 ∧ Below w.heap.size w w' := by
  obtain ⟨n, rfl⟩ := Int.eq_ofNat_of_zero_le h0
  go_enter Try.func20, Try.ntmps20
  go_wp2
  go_loopw [0, 6] (fun a i w' => ∃ (q : Nat) (m : Nat) (l : List UInt8), 45 ≤ q ∧ q ≤ 64 ∧ m < lim q ∧ m ≤ n ∧ a = .int .u64 m ∧ i = .int .i64 q ∧ Inv w w.heap.size q l w') (fun a i w' => (intOf i).toNat)
  case atStart => 
    exact ⟨64, n, [], by omega, by omega, lim_start n h1, Nat.le_refl _, rfl, rfl, by simp, by simp, fun j hj => by
      refine ⟨.int .u8 0, ?_⟩
      rw [World.cell?_alloc_new]
      have : ∀ j, j < 64 → (Array.replicate 64 (Value.int .u8 0))[j]? = some (.int .u8 0) := fun j hj => by simp [hj]
      exact this j hj, fun j hj => by simp, fun j hj => by simp at hj, (Below.refl _ _).alloc (Nat.le_refl _) _⟩
  case round =>
    obtain ⟨q, m, l, hq1, hq2, hm, hmn, rfl, rfl, hinv⟩ := hrel
    have hcell := hinv.there (q - 1) (by omega)
    obtain ⟨v, hv⟩ := hcell
    have hfr := hinv.free (q - 1) (by omega)
    have HM : Hid (m < lim q) := hm
    clear hm
    obtain ⟨c, hcd, hidx⟩ := dig_at m
    have HD : Hid (Dg.isDig c = true) := hcd
    clear hcd
    have hstep := hinv.step (by omega) (Nat.le_refl _) c HD.out
    have hmb : (m : Int) < 18446744073709551616 := by omega
    by_cases hz : m < 10
    · have hne : (((m : Int) / 10) == 0) = true := by simp; omega
      have hsl : ∀ W, (Instr.sliceAt 43 (.pointer (some ⟨w.heap.size, 0, none⟩)) (some (.int .i64 ((q : Int) - 1))) none none).run Try.prog W = .ok (.slice (some ⟨w.heap.size, q - 1, none⟩) (64 - (q - 1)) (64 - (q - 1))) W := by
        intro W
        have hA : Try.prog.arrayLen 43 = 64 := by kernel_rfl
        have hE : Try.prog.elem 43 = 5 := by kernel_rfl
        have hu : Try.prog.underlying 43 = some (.array (Try.prog.arrayLen 43) (Try.prog.elem 43)) := by rw [hA, hE]; exact Try.underlying43
        have hs : (Go.sizeOf 5).run Try.prog W = .ok 1 W := by kernel_rfl
        rw [run_sliceAt_array_l W 43 _ hu .i64 _ (by omega) (by rw [hA]; omega), hA, hE, hs]
        have e1 : ((q : Int) - 1).toNat = q - 1 := by omega
        simp only [slicedAt, Result.andThen, Addr.add, e1]
        rw [if_neg (by omega)]
        simp
        omega
      have hcv := run_convert_bytes_arg (P := Try.prog) (wr.setCell ⟨w.heap.size, q - 1, none⟩ (.int .u8 c.toNat)) 26 5 Try.underlying26 Try.underlying5 w.heap.size (q - 1) (64 - (q - 1)) (64 - (q - 1)) ((c :: l).map fun x => (x.toNat : Int)) (by have := hstep.len; simp at this ⊢; omega) (fun i hi => by
        rw [hstep.cells i (by have := hstep.len; omega)]
        have hi' : i < (c :: l).length := by have := hstep.len; omega
        generalize c :: l = L at hi'
        simp [List.getD, List.getElem?_eq_getElem hi']) 9 Try.underlying9
      go_wp2
      go_ret
      refine ⟨strOfNums ((c :: l).map fun x => (x.toNat : Int)), rfl, ?_, ?_, hstep.below⟩
      · exact allDig_of (c :: l) (by simp) hstep.dig
      · rw [strOfNums_size]; have := hstep.len; simp at this ⊢; omega
    · have hne : (((m : Int) / 10) == 0) = false := by simp; omega
      go_wp2
      obtain ⟨g1, g2⟩ := lim_step m q HM.out hq1 hz
      refine ⟨⟨q - 1, m / 10, c :: l, by omega, by omega, g2, by omega, by go_num, ?_, hstep⟩, by simp [intOf]; omega⟩
      rw [show ((q - 1 : Nat) : Int) = (q : Int) - 1 by omega]

set_option maxHeartbeats 400000 in
theorem utoa_any (n : Int) (w : World) (h0 : 0 ≤ n) (h1 : n < 18446744073709551616) :
    Calls Try.prog 9 #[.int .u64 n] w fun e w' => ∃ s : ByteArray, e = .returned (.string s) ∧ Dg.allDig s = true ∧ s.size ≤ 64 ∧ Below w.heap.size w w' := by
  go_enter Try.func9, Try.ntmps9
  go_wp2_with (go_at_call 20; refine (utoaBase_ten n _ h0 h1).mono ?_; rintro e w1 ⟨s, rfl, hs1, hs2, hb1⟩)
  go_ret
  exact ⟨s, rfl, hs1, hs2, hb1⟩
end Go.Proofs.Qxb6600116a.Ut
