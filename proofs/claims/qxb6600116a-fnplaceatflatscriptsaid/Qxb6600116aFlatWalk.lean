import Derived.Test.Qxb6600116aFlatSt
import Derived.Deep.RegionHeld3
import Derived.Deep.QuietTactic
import Derived.BigQuiet
namespace Go.Proofs.Qxb6600116a.Pl
open Go.RowKit

set_option maxRecDepth 100000 in
set_option maxHeartbeats 1000000 in
theorem flat_any (w : World) (A : Option Addr) (cap : Nat) (ad : Nat → Addr) (ss : List ByteArray) (h : Strs w A cap ad ss) (hn : A = none → ss = [] ∧ cap = 0) :
    Calls Try.prog 6 #[.slice A ss.length cap] w fun e w' => e = .returned (.bool true) ∧ Below w.heap.size w w' := by
  have hlen := h.len
  unfold maxLen at hlen
  go_enter Try.func6, Try.ntmps6
  go_wp2_with fail
  refine (zzBytesFlat_any w A cap ad ss h).mono ?_
  rintro e w' ⟨r, rfl, hw⟩
  subst hw
  cases r with
  | false =>
    go_wp2
    go_ret
    exact ⟨rfl, Below.refl _ _⟩
  | true =>
  by_cases h4 : 4096 < (ss.length : Int)
  · go_wp2
    go_ret
    exact ⟨rfl, Below.refl _ _⟩
  have h4' : (ss.length : Int) ≤ 4096 := by omega
  go_wp2_with fail
  go_loop [3, 4] (fun z i => ∃ (k : Nat) (t : Nat), k ≤ ss.length ∧ t ≤ 1048576 ∧ z = .int .i64 t ∧ i = .int .i64 k) (fun z i => ss.length - (intOf i).toNat)
  case atStart => exact ⟨0, 16 * ss.length, by omega, by omega, by go_num, rfl⟩
  case round =>
    obtain ⟨k, t, hk, ht, rfl, rfl⟩ := hrel
    by_cases hlt : k < ss.length
    · have hi := h.idx k hlt
      have hc := h.cell k hlt
      have hz := h.at hlt
      unfold maxLen at hz
      generalize ss.getD k ByteArray.empty = s at *
      go_wp2_with fail
      · go_ret
        exact ⟨rfl, Below.refl _ _⟩
      · go_ret
        exact ⟨rfl, Below.refl _ _⟩
      · go_round
        case rel => exact ⟨k + 1, t + s.size, by omega, by omega, by go_num, by go_num⟩
        case measure => simp [intOf]; omega
    · go_wp2_with fail
      refine (copy_any _ A cap ad ss h hn (by omega)).mono ?_
      rintro e w1 ⟨A', ad', rfl, hs1, hb1⟩
      go_wp2_with fail
      refine (newPlace_any _).mono ?_
      rintro e w2 ⟨rfl, rfl⟩
      have hmk := make34 ss.length (by omega)
      have HST : Hid (Fl w1 w1.heap.size ss 0 _ _) := fl_start w1 ss
      go_wp2_with fail
      have HS1 : Hid (Strs w1 A' ss.length ad' ss) := hs1
      have HB1 : Hid (Below w'.heap.size w' w1) := hb1
      clear hs1 hb1 h hn hmk hlt hk ht
      go_loopw [7] (fun i w2 => ∃ (k : Nat) (f : List UInt8 → Option Nat), k ≤ ss.length ∧ i = .int .i64 k ∧ Fl w1 w1.heap.size ss k f w2) (fun i w2 => ss.length - (intOf i).toNat)
      case atStart => exact ⟨0, _, by omega, rfl, HST.out⟩
      case round =>
        clear HST
        obtain ⟨i, f, hi, rfl, hst⟩ := hrel
        have HST : Hid (Fl w1 w1.heap.size ss i f wr) := hst
        clear hst
        by_cases hlt : i < ss.length
        · have hlt' : (i : Int) < (ss.length : Int) := by omega
          have hxi := HS1.out.idx i hlt
          have hx4 := idx34 (w1.heap.size + 1) ss.length ss.length i (by omega)
          have hcs : wr.cell? (ad' i) = some (.string (ss.getD i ByteArray.empty)) := (HS1.out.below HST.out.below).cell i hlt
          have hsz := HS1.out.at hlt
          obtain ⟨s, hse⟩ : ∃ s, s = ss.getD i ByteArray.empty := ⟨_, rfl⟩
          rw [← hse] at hcs hsz
          have HSE : Hid (s = ss.getD i ByteArray.empty) := hse
          clear hse
          go_wp2_with fail
          refine (HST.out.at hlt (by omega) HSE.out hsz).mono ?_
          rintro e w3 ⟨c, g, rfl, hne, ⟨v3, hc3⟩, hf3, hst3⟩
          have HST3 : Hid (Fl w1 w1.heap.size ss (i + 1) g (w3.setCell ⟨w1.heap.size + 1, i, none⟩ (.pointer (some ⟨c, 0, none⟩)))) := hst3
          clear hst3 HST
          go_wp2_with fail
          go_roundw
          case rel => exact ⟨i + 1, g, by omega, by go_num, HST3.out⟩
          case measure => simp [intOf]; omega
        · obtain rfl : i = ss.length := by omega
          clear hi hlt
          go_wp2_with fail
          go_loopw [9, 10] (fun d i w2 => ∃ k : Nat, k ≤ ss.length ∧ d = .int .i64 (distinct ss k) ∧ i = .int .i64 k ∧ Fl w1 w1.heap.size ss ss.length f w2) (fun d i w2 => ss.length - (intOf i).toNat)
          case atStart => exact ⟨0, by omega, rfl, rfl, HST.out⟩
          case round =>
            clear HST
            obtain ⟨i, hi, rfl, rfl, hst⟩ := hrel
            have HST : Hid (Fl w1 w1.heap.size ss ss.length f wr) := hst
            clear hst
            by_cases hlt : i < ss.length
            · have hlt' : (i : Int) < (ss.length : Int) := by omega
              have hdl := distinct_le ss i
              have hd2 : ((distinct ss i : Nat) : Int) ≤ 4096 := by omega
              have hx1 := idx34 (w1.heap.size + 1) ss.length ss.length i (by omega)
              have hy1 := HS1.out.idx i hlt
              obtain ⟨si, hsi⟩ : ∃ s, s = ss.getD i ByteArray.empty := ⟨_, rfl⟩
              have HSI : Hid (si = ss.getD i ByteArray.empty) := hsi
              clear hsi
              go_wp2_with fail
              go_loopw [11, 12] (fun fi j w2 => ∃ k : Nat, k ≤ ss.length ∧ fi = .bool (!seen ss i (min k i)) ∧ j = .int .i64 k ∧ Fl w1 w1.heap.size ss ss.length f w2) (fun fi j w2 => ss.length - (intOf j).toNat)
              case atStart => exact ⟨0, by omega, by simp [seen], rfl, HST.out⟩
              case round =>
                clear HST
                obtain ⟨j, hj, rfl, rfl, hst⟩ := hrel
                have HST : Hid (Fl w1 w1.heap.size ss ss.length f wr) := hst
                clear hst
                by_cases hlj : j < ss.length
                · have hlj' : (j : Int) < (ss.length : Int) := by omega
                  obtain ⟨bi, hbi, hci, hni, _⟩ := HST.out.cellAt (j := i) hlt (Nat.le_refl _)
                  obtain ⟨bj, hbj, hcj, hnj, _⟩ := HST.out.cellAt (j := j) hlj (Nat.le_refl _)
                  have hx2 := idx34 (w1.heap.size + 1) ss.length ss.length j (by omega)
                  have hy2 := HS1.out.idx j hlj
                  have hcsi : wr.cell? (ad' i) = some (.string (ss.getD i ByteArray.empty)) := (HS1.out.below HST.out.below).cell i hlt
                  have hcsj : wr.cell? (ad' j) = some (.string (ss.getD j ByteArray.empty)) := (HS1.out.below HST.out.below).cell j hlj
                  obtain ⟨sj, hsj⟩ : ∃ s, s = ss.getD j ByteArray.empty := ⟨_, rfl⟩
                  obtain ⟨r, hr1, hr2, hr3, hr4⟩ := HST.out.agree HSI.out hsj hbi hbj hni hnj
                  rw [← HSI.out] at hcsi
                  rw [← hsj] at hcsj
                  have HR2 : Hid (r = decide (key ss j = key ss i)) := hr2
                  clear hbi hbj hni hnj hsj hr2
                  by_cases hji : j < i
                  · have hji' : (j : Int) < (i : Int) := by omega
                    have HSS := seen_step ss i j r HR2.out hji
                    have HSS : Hid (seen ss i (min (j + 1) i) = (seen ss i (min j i) || r)) := HSS
                    cases r
                    all_goals
                      go_wp2_with fail
                      go_quiet (fail)
                      go_wp2_with fail
                      go_quiet (fail)
                      go_wp2_with fail
                      go_roundw
                      case rel => exact ⟨j + 1, by omega, by rw [HSS.out]; simp, by go_num, HST.out.drewN _⟩
                      case measure => simp [intOf]; omega
                  · have hji' : decide ((j : Int) < (i : Int)) = false := by simp; omega
                    have HSS : Hid (seen ss i (min (j + 1) i) = seen ss i (min j i)) := seen_stay ss i j hji
                    cases r
                    all_goals
                      go_wp2_with fail
                      go_quiet (fail)
                      go_wp2_with fail
                      go_quiet (fail)
                      go_wp2_with fail
                      go_roundw
                      case rel => exact ⟨j + 1, by omega, by rw [HSS.out], by go_num, HST.out.drewN _⟩
                      case measure => simp [intOf]; omega
                · obtain rfl : j = ss.length := by omega
                  rw [Nat.min_eq_right hi]
                  have HDS : Hid (distinct ss (i + 1) = distinct ss i + if seen ss i i then 0 else 1) := rfl
                  cases hseen : seen ss i i
                  all_goals
                    have HSN : Hid (seen ss i i = _) := hseen
                    clear hseen
                    go_wp2_with fail
                    go_roundw
                    case rel => exact ⟨i + 1, by omega, by rw [HDS.out, HSN.out]; go_num, by go_num, HST.out⟩
                    case measure => simp [intOf]; omega
            · obtain rfl : i = ss.length := by omega
              have hdl := distinct_le ss ss.length
              have hd2 : ((distinct ss ss.length : Nat) : Int) ≤ 4096 := by omega
              clear hi hlt
              go_wp2_with fail
              refine HST.out.len.mono ?_
              rintro e w3 ⟨rfl, rfl⟩
              go_wp2_with fail
              go_loopw [13] (fun i w2 => ∃ k : Nat, k ≤ ss.length ∧ i = .int .i64 k ∧ Fl w1 w1.heap.size ss ss.length f w2) (fun i w2 => ss.length - (intOf i).toNat)
              case atStart => exact ⟨0, by omega, rfl, HST.out⟩
              case round =>
                clear HST
                obtain ⟨i, hi, rfl, hst⟩ := hrel
                have HST : Hid (Fl w1 w1.heap.size ss ss.length f wr) := hst
                clear hst
                by_cases hlt : i < ss.length
                · have hlt' : (i : Int) < (ss.length : Int) := by omega
                  have hx1 := idx34 (w1.heap.size + 1) ss.length ss.length i (by omega)
                  have hy1 := HS1.out.idx i hlt
                  obtain ⟨b, hb, hc, hn, hne⟩ := HST.out.cellAt (j := i) hlt (Nat.le_refl _)
                  have hcs : wr.cell? (ad' i) = some (.string (ss.getD i ByteArray.empty)) := (HS1.out.below HST.out.below).cell i hlt
                  have hsz := HS1.out.at hlt
                  obtain ⟨s, hse⟩ : ∃ s, s = ss.getD i ByteArray.empty := ⟨_, rfl⟩
                  rw [← hse] at hcs hsz
                  have hsame := HST.out.same hb
                  obtain ⟨r1, r2⟩ := HST.out.root1 (by omega)
                  have HB : Hid (f s.data.toList = some b) := by rw [key_eq ss hse] at hb; exact hb
                  have HR1 : Hid (NodeAt wr w1.heap.size (some (w1.heap.size + 2))) := r1
                  have HR2 : Hid (MapIs wr (w1.heap.size + 2) f (distinct ss ss.length)) := r2
                  have HN : Hid (NodeAt wr b none) := hn
                  clear hse hb r1 r2 hn
                  go_wp2_with fail
                  go_quiet ((go_at_call 14; refine Calls.quiet_of_same (zzAt_of (at_hit _ _ _ _ f s b hsz HR1.out HR2.out HB.out))))
                  go_wp2_with fail
                  refine (len_nil _ b (by exact HN.out)).mono ?_
                  rintro e w3 ⟨rfl, rfl⟩
                  go_wp2_with fail
                  refine (line_any _ b none (by exact HN.out)).mono ?_
                  rintro e w3 ⟨rfl, rfl⟩
                  go_wp2_with fail
                  refine (text_any _ b none (by exact HN.out)).mono ?_
                  rintro e w3 ⟨rfl, rfl⟩
                  go_wp2_with fail
                  go_roundw
                  case rel => exact ⟨i + 1, by omega, by go_num, HST.out.drewN _⟩
                  case measure => simp [intOf]; omega
                · go_wp2_with fail
                  refine HST.out.len.mono ?_
                  rintro e w3 ⟨rfl, rfl⟩
                  go_wp2_with fail
                  go_ret
                  exact ⟨by simp, HB1.out.trans (HST.out.below.mono HB1.out.size)⟩
end Go.Proofs.Qxb6600116a.Pl
