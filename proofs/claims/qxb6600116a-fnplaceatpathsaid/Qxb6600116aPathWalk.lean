import Derived.Test.Qxb6600116aPathSt
import Derived.Deep.RegionHeld3
import Derived.Deep.QuietTactic
import Derived.BigQuiet
namespace Go.Proofs.Qxb6600116a.Pl
open Go.RowKit

set_option maxRecDepth 100000 in
set_option maxHeartbeats 1000000 in
theorem path_any (w : World) (A : Option Addr) (cap : Nat) (ad : Nat → Addr) (ss : List ByteArray) (h : Strs w A cap ad ss) (hn : A = none → ss = [] ∧ cap = 0) :
    Calls Try.prog 5 #[.slice A ss.length cap] w fun e w' => e = .returned (.bool true) ∧ Below w.heap.size w w' := by
  have hlen := h.len
  unfold maxLen at hlen
  go_enter Try.func5, Try.ntmps5
  go_wp2_with fail
  refine (zzBytesPath_any w A cap ad ss h).mono ?_
  rintro e w' ⟨r, rfl, hw⟩
  subst hw
  cases r with
  | false =>
    go_wp2
    go_ret
    exact ⟨rfl, Below.refl _ _⟩
  | true =>
  by_cases h4 : 4096 < (ss.length : Int)
  · go_wp2
    go_ret
    exact ⟨rfl, Below.refl _ _⟩
  have h4' : (ss.length : Int) ≤ 4096 := by omega
  go_wp2_with fail
  go_loop [3, 4] (fun z i => ∃ (k : Nat) (t : Nat), k ≤ ss.length ∧ t ≤ 1048576 ∧ z = .int .i64 t ∧ i = .int .i64 k) (fun z i => ss.length - (intOf i).toNat)
  case atStart => exact ⟨0, 16 * ss.length, by omega, by omega, by go_num, rfl⟩
  case round =>
    obtain ⟨k, t, hk, ht, rfl, rfl⟩ := hrel
    by_cases hlt : k < ss.length
    · have hi := h.idx k hlt
      have hc := h.cell k hlt
      have hz := h.at hlt
      unfold maxLen at hz
      generalize ss.getD k ByteArray.empty = s at *
      go_wp2_with fail
      · go_ret
        exact ⟨rfl, Below.refl _ _⟩
      · go_ret
        exact ⟨rfl, Below.refl _ _⟩
      · go_round
        case rel => exact ⟨k + 1, t + s.size, by omega, by omega, by go_num, by go_num⟩
        case measure => simp [intOf]; omega
    · go_wp2_with fail
      refine (copy_any _ A cap ad ss h hn (by omega)).mono ?_
      rintro e w1 ⟨A', ad', rfl, hs1, hb1⟩
      go_wp2_with fail
      refine (newPlace_any _).mono ?_
      rintro e w2 ⟨rfl, rfl⟩
      have hmk := make34 (ss.length + 1) (by omega)
      have ec : ((ss.length + 1 : Nat) : Int) = (ss.length : Int) + 1 := by omega
      rw [ec] at hmk
      have HST : Hid (St w1 w1.heap.size ss 0 _) := st_start w1 ss
      have hb1' : Below w'.heap.size w' w1 := hb1
      go_wp2_with fail
      have HS1 : Hid (Strs w1 A' ss.length ad' ss) := hs1
      have HB1 : Hid (Below w'.heap.size w' w1) := hb1
      clear hs1 hb1 hb1' h hn hmk ec hlt hk ht
      go_loopw [7] (fun i w2 => ∃ k : Nat, k ≤ ss.length ∧ i = .int .i64 k ∧ St w1 w1.heap.size ss k w2) (fun i w2 => ss.length - (intOf i).toNat)
      case atStart => exact ⟨0, by omega, rfl, HST.out⟩
      case round =>
        clear HST
        obtain ⟨i, hi, rfl, hst⟩ := hrel
        by_cases hlt : i < ss.length
        · have hlt' : (i : Int) < (ss.length : Int) := by omega
          have hxi := HS1.out.idx i hlt
          have hx4 := idx34 (w1.heap.size + 1) (ss.length + 1) (ss.length + 1) i (by omega)
          have hx5 := idx34 (w1.heap.size + 1) (ss.length + 1) (ss.length + 1) (i + 1) (by omega)
          rw [show ((i + 1 : Nat) : Int) = (i : Int) + 1 by omega] at hx5
          have hcn : wr.cell? ⟨w1.heap.size + 1, i, none⟩ = some (.pointer (some ⟨nd w1.heap.size i, 0, none⟩)) := by
            rw [hst.row.cell i, nodeRow_at _ _ _ _ (by omega), if_pos (Nat.le_refl _)]; rfl
          have hcs : wr.cell? (ad' i) = some (.string (ss.getD i ByteArray.empty)) := (HS1.out.below hst.below).cell i hlt
          have hsz := HS1.out.at hlt
          have HST : Hid (St w1 w1.heap.size ss i wr) := hst
          have hq1 : ¬ w1.heap.size + 1 = nd w1.heap.size i := by unfold nd; split <;> omega
          have hq2 : ¬ (ad' i).block = nd w1.heap.size i := by have := HS1.out.lt i hlt; have := nd_ge w1.heap.size i; omega
          clear hst
          obtain ⟨s, hse⟩ : ∃ s, s = ss.getD i ByteArray.empty := ⟨_, rfl⟩
          rw [← hse] at hcs hsz
          have HSE : Hid (s = ss.getD i ByteArray.empty) := hse
          clear hse
          go_wp2_with fail
          go_region_held3 (fun w' => w'.cell? ⟨w1.heap.size + 1, i, none⟩ = some (.pointer (some ⟨nd w1.heap.size i, 0, none⟩)) ∧ w'.cell? (ad' i) = some (.string s)) (first | go_keep | exact ⟨hK.cell hcn hq1, hK.cell hcs hq2⟩)
            ((go_at_call 14; refine (zzAt_of (at_nil _ (nd w1.heap.size i) s hsz ?_)).mono ?_; (exact HST.out.last); rintro e w3 ⟨rfl, hN1, hM1, hN2, hZ, hK⟩))
          have hZ0 := HST.out.size
          have e1 : w3.heap.size = w1.heap.size + 2 + 2 * (i + 1) := by rw [hZ]; show wr.heap.size + 2 = _; omega
          have e2 : wr.heap.size + 1 = nd w1.heap.size (i + 1) := by rw [nd_succ]; omega
          have hrow3 : Row w3 (w1.heap.size + 1) 32 (nodeRow w1.heap.size ss.length i) := HST.out.row.of_block (hK.block _ HST.out.row.lt hq1)
          have hcn3 : ∃ v, w3.cell? ⟨w1.heap.size + 1, i + 1, none⟩ = some v := ⟨_, by rw [hrow3.cell (i + 1), nodeRow_at _ _ _ _ (by omega)]⟩
          obtain ⟨v3, hcn3⟩ := hcn3
          have hfr3 := hrow3.free (i + 1)
          have HSTEP : Hid (St w1 w1.heap.size ss (i + 1) (w3.setCell ⟨w1.heap.size + 1, i + 1, none⟩ (.pointer (some ⟨wr.heap.size + 1, 0, none⟩)))) := by
            have := HST.out.step hlt hN1 (by rw [← HSE.out]; exact hM1) hN2 hZ ⟨hK.os, hK.tape, hK.output, hK.size, hK.block⟩
            rw [e2]
            exact this
          clear hN1 hM1 hN2 hZ hK hZ0 e1 e2 hrow3
          go_wp2_with fail
          go_roundw
          case rel => exact ⟨i + 1, by omega, by go_num, HSTEP.out⟩
          case measure => simp [intOf]; omega
        · obtain rfl : i = ss.length := by omega
          have HST : Hid (St w1 w1.heap.size ss ss.length wr) := hst
          clear hst hi hlt
          go_wp2_with fail
          go_loopw [9] (fun i w2 => ∃ k : Nat, k ≤ ss.length + 1 ∧ i = .int .i64 k ∧ St w1 w1.heap.size ss ss.length w2) (fun i w2 => ss.length + 1 - (intOf i).toNat)
          case atStart => exact ⟨0, by omega, rfl, HST.out⟩
          case round =>
            clear HST
            obtain ⟨i, hi, rfl, hst⟩ := hrel
            have HST : Hid (St w1 w1.heap.size ss ss.length wr) := hst
            clear hst
            by_cases hlt : i < ss.length + 1
            · have hlt' : (i : Int) < (ss.length : Int) + 1 := by omega
              go_wp2_with fail
              go_loopw [10] (fun j w2 => ∃ k : Nat, k ≤ i ∧ j = .int .i64 k ∧ St w1 w1.heap.size ss ss.length w2) (fun j w2 => i - (intOf j).toNat)
              case atStart => exact ⟨0, by omega, rfl, HST.out⟩
              case round =>
                clear HST
                obtain ⟨j, hj, rfl, hst⟩ := hrel
                have HST : Hid (St w1 w1.heap.size ss ss.length wr) := hst
                clear hst
                by_cases hlj : j < i
                · have hlj' : (j : Int) < (i : Int) := by omega
                  have hx1 := idx34 (w1.heap.size + 1) (ss.length + 1) (ss.length + 1) i (by omega)
                  have hx2 := idx34 (w1.heap.size + 1) (ss.length + 1) (ss.length + 1) j (by omega)
                  have hc1 := HST.out.cellAt (j := i) (by omega)
                  have hc2 := HST.out.cellAt (j := j) (by omega)
                  have hd := HST.out.differ (i := i) (j := j) (by omega) (by omega) (by omega)
                  go_wp2_with fail
                  go_quiet (fail)
                  go_wp2_with fail
                  go_roundw
                  case rel => exact ⟨j + 1, by omega, by go_num, HST.out.drewN _⟩
                  case measure => simp [intOf]; omega
                · go_wp2_with fail
                  go_roundw
                  case rel => exact ⟨i + 1, by omega, by go_num, HST.out⟩
                  case measure => simp [intOf]; omega
            · go_wp2_with fail
              go_loopw [11] (fun i w2 => ∃ k : Nat, 1 ≤ k ∧ k ≤ ss.length + 1 ∧ i = .int .i64 k ∧ St w1 w1.heap.size ss ss.length w2) (fun i w2 => ss.length + 1 - (intOf i).toNat)
              case atStart => exact ⟨1, by omega, by omega, rfl, HST.out⟩
              case round =>
                clear HST hlt hi
                obtain ⟨i, hi1, hi, rfl, hst⟩ := hrel
                have HST : Hid (St w1 w1.heap.size ss ss.length wr) := hst
                clear hst
                by_cases hlt : i < ss.length + 1
                · have hlt' : (i : Int) < (ss.length : Int) + 1 := by omega
                  have hx1 := idx34 (w1.heap.size + 1) (ss.length + 1) (ss.length + 1) i (by omega)
                  have hc1 := HST.out.cellAt (j := i) (by omega)
                  obtain ⟨m, hm⟩ := HST.out.nodeAny (j := i) (by omega)
                  go_wp2_with fail
                  refine (line_any _ _ m hm).mono ?_
                  rintro e w3 ⟨rfl, rfl⟩
                  go_wp2_with fail
                  refine (text_any _ _ m hm).mono ?_
                  rintro e w3 ⟨rfl, rfl⟩
                  go_wp2_with fail
                  go_roundw
                  case rel => exact ⟨i + 1, by omega, by omega, by go_num, HST.out⟩
                  case measure => simp [intOf]; omega
                · go_wp2_with fail
                  go_loopw [12] (fun i w2 => ∃ k : Nat, k ≤ ss.length ∧ i = .int .i64 k ∧ St w1 w1.heap.size ss ss.length w2) (fun i w2 => ss.length - (intOf i).toNat)
                  case atStart => exact ⟨0, by omega, rfl, HST.out⟩
                  case round =>
                    clear HST hlt hi
                    obtain ⟨i, hi, rfl, hst⟩ := hrel
                    have HST : Hid (St w1 w1.heap.size ss ss.length wr) := hst
                    clear hst
                    by_cases hlt : i < ss.length
                    · have hlt' : (i : Int) < (ss.length : Int) := by omega
                      have hxi := HS1.out.idx i hlt
                      have hx4 := idx34 (w1.heap.size + 1) (ss.length + 1) (ss.length + 1) i (by omega)
                      have hx5 := idx34 (w1.heap.size + 1) (ss.length + 1) (ss.length + 1) (i + 1) (by omega)
                      rw [show ((i + 1 : Nat) : Int) = (i : Int) + 1 by omega] at hx5
                      have hc1 := HST.out.cellAt (j := i) (by omega)
                      have hc2 := HST.out.cellAt (j := i + 1) (by omega)
                      have hN := HST.out.node i hlt
                      have hM := HST.out.map i hlt
                      have hcs : wr.cell? (ad' i) = some (.string (ss.getD i ByteArray.empty)) := (HS1.out.below HST.out.below).cell i hlt
                      have hsz := HS1.out.at hlt
                      have hsame := HST.out.sameNode (i := i + 1) (by omega)
                      obtain ⟨s, hse⟩ : ∃ s, s = ss.getD i ByteArray.empty := ⟨_, rfl⟩
                      rw [← hse] at hcs hsz hM
                      clear hse
                      have HN : Hid (NodeAt wr (nd w1.heap.size i) (some (mp w1.heap.size i))) := hN
                      have HM : Hid (MapIs wr (mp w1.heap.size i) (fun t => if t = s.data.toList then some (nd w1.heap.size (i + 1)) else none) 1) := hM
                      clear hN hM
                      go_wp2_with fail
                      refine (len_some _ _ _ 1 _ HN.out HM.out).mono ?_
                      rintro e w3 ⟨rfl, rfl⟩
                      go_wp2_with fail
                      go_quiet ((go_at_call 14; refine Calls.quiet_of_same (zzAt_of (at_hit _ _ _ 1 _ s (nd w1.heap.size (i + 1)) hsz HN.out HM.out (if_pos rfl)))))
                      go_wp2_with fail
                      go_roundw
                      case rel => exact ⟨i + 1, by omega, by go_num, HST.out.drewN _⟩
                      case measure => simp [intOf]; omega
                    · go_wp2_with fail
                      go_loop [13] (fun i => ∃ k : Nat, k ≤ ss.length ∧ i = .int .i64 k) (fun i => ss.length - (intOf i).toNat)
                      case atStart => exact ⟨0, by omega, rfl⟩
                      case round =>
                        clear hlt hi
                        obtain ⟨i, hi, rfl⟩ := hrel
                        by_cases hlt : i < ss.length
                        · have hlt' : (i : Int) < (ss.length : Int) := by omega
                          have hx4 := idx34 (w1.heap.size + 1) (ss.length + 1) (ss.length + 1) i (by omega)
                          have hc1 := HST.out.cellAt (j := i) (by omega)
                          go_wp2_with fail
                          refine (len_some _ _ _ 1 _ (HST.out.node i hlt) (HST.out.map i hlt)).mono ?_
                          rintro e w3 ⟨rfl, rfl⟩
                          go_wp2_with fail
                          go_round
                          case rel => exact ⟨i + 1, by omega, by go_num⟩
                          case measure => simp [intOf]; omega
                        · have hx4 := idx34 (w1.heap.size + 1) (ss.length + 1) (ss.length + 1) ss.length (by omega)
                          have hc1 := HST.out.cellAt (j := ss.length) (by omega)
                          go_wp2_with fail
                          refine (len_nil _ _ HST.out.last).mono ?_
                          rintro e w3 ⟨rfl, rfl⟩
                          go_wp2_with fail
                          go_ret
                          exact ⟨rfl, HB1.out.trans (HST.out.below.mono HB1.out.size)⟩
end Go.Proofs.Qxb6600116a.Pl
