import Derived.Test.Qxb6601392aOpsA
import Derived.Deep.CutBlock
namespace Go.Proofs.Qxb6601392a.Bt
open Go.RowKit

set_option maxRecDepth 100000 in
set_option maxHeartbeats 2000000 in
theorem bytes16_any {w : World} {A A' : Option Addr} {cap b off cap' b' off' : Nat} {xs ys : List It} (h : OpsAt w A cap b off xs) (h' : OpsAt w A' cap' b' off' ys) :
    Calls Try.prog 16 #[.slice A xs.length cap, .slice A' ys.length cap'] w fun e w' => ∃ r : Bool, e = .returned (.bool r) ∧ w' = w ∧ (r = true → Short xs ∧ Short ys) := by
  have HO := hide' h
  have HO2 := hide' h'
  clear h h'
  by_cases hlen : xs.length ≤ 1048576
  rotate_left
  · have hlen' : (1048576 : Int) < (xs.length : Int) := by omega
    go_enter Try.func16, Try.ntmps16
    go_wp2_with fail
    go_ret
    exact ⟨false, rfl, rfl, fun e => by cases e⟩
  have hlen' : (xs.length : Int) ≤ 1048576 := by omega
  go_enter Try.func16, Try.ntmps16
  go_upto_block 0 with fail
  go_cut [5, 6] (fun t a wd => ∃ n : Nat, n ≤ 1048576 ∧ t = .int .i64 (n : Int) ∧ Short xs ∧ wd = w)
  case first =>
    go_wp2_with fail
    go_loopw [5, 6] (fun t a w' => ∃ j n : Nat, j ≤ xs.length ∧ n ≤ 1048576 ∧ t = .int .i64 (n : Int) ∧ a = .int .i64 (j : Int) ∧ (∀ q x, xs[q]? = some x → q < j → x.k.size ≤ 1048576 ∧ x.v.size ≤ 1048576) ∧ w' = w) (fun t a w' => xs.length - (intOf a).toNat)
    case atStart => exact ⟨0, xs.length, by omega, by omega, rfl, rfl, fun q x _ hq => by omega, rfl⟩
    case round =>
      obtain ⟨j, n, hjl, hn, rfl, rfl, hsh, rfl⟩ := hrel
      have HSH := hide' hsh
      have hn' : (n : Int) ≤ 1048576 := by omega
      clear hsh
      by_cases hlt : j < xs.length
      · have hlt' : (j : Int) < (xs.length : Int) := by omega
        obtain ⟨y, hy⟩ : ∃ y, xs[j]? = some y := ⟨_, List.getElem?_eq_getElem hlt⟩
        have c0 := HO.out.c0 j y hy
        have c1 := HO.out.c1 j y hy
        have x22 := HO.out.ix j hlt
        have HY := hide' hy
        clear hy
        by_cases h1 : y.k.size ≤ 1048576
        rotate_left
        · have h1' : (1048576 : Int) < (y.k.size : Int) := by omega
          go_wp2_with fail
          go_ret
          exact ⟨false, rfl, rfl, fun e => by cases e⟩
        have h1' : (y.k.size : Int) ≤ 1048576 := by omega
        by_cases h2 : n + y.k.size ≤ 1048576
        rotate_left
        · have h2' : (1048576 : Int) < (n : Int) + (y.k.size : Int) := by omega
          go_wp2_with fail
          go_ret
          exact ⟨false, rfl, rfl, fun e => by cases e⟩
        have h2' : (n : Int) + (y.k.size : Int) ≤ 1048576 := by omega
        by_cases h3 : y.v.size ≤ 1048576
        rotate_left
        · have h3' : (1048576 : Int) < (y.v.size : Int) := by omega
          go_wp2_with fail
          go_ret
          exact ⟨false, rfl, rfl, fun e => by cases e⟩
        have h3' : (y.v.size : Int) ≤ 1048576 := by omega
        by_cases h4 : n + y.k.size + y.v.size ≤ 1048576
        rotate_left
        · have h4' : (1048576 : Int) < (n : Int) + (y.k.size : Int) + (y.v.size : Int) := by omega
          go_wp2_with fail
          go_ret
          exact ⟨false, rfl, rfl, fun e => by cases e⟩
        have h4' : (n : Int) + (y.k.size : Int) + (y.v.size : Int) ≤ 1048576 := by omega
        go_wp2_with fail
        go_roundw
        case rel => exact ⟨j + 1, n + y.k.size + y.v.size, by omega, by omega, by go_num, by go_num, short_step HSH.out HY.out h1 h3, by trivial⟩
        case measure => simp [intOf]; omega
      · obtain rfl : j = xs.length := by omega
        have hd : decide ((xs.length : Int) < (xs.length : Int)) = false := by simp
        go_wp2_with fail
        go_meet
        case rel => exact ⟨n, hn, rfl, short_all HSH.out, rfl⟩
  case rest =>
    obtain ⟨m, hm, rfl, hs1, hwc⟩ := hcut
    rw [hwc]
    clear hwc wc
    have HS1 := hide' hs1
    have hm' : (m : Int) ≤ 1048576 := by omega
    clear hs1
    by_cases hlen2 : ys.length ≤ 1048576
    rotate_left
    · have hlen2' : (1048576 : Int) < (ys.length : Int) := by omega
      go_wp2_with fail
      go_ret
      exact ⟨false, rfl, rfl, fun e => by cases e⟩
    have hlen2' : (ys.length : Int) ≤ 1048576 := by omega
    by_cases hlen3 : m + ys.length ≤ 1048576
    rotate_left
    · have hlen3' : (1048576 : Int) < (m : Int) + (ys.length : Int) := by omega
      go_wp2_with fail
      go_ret
      exact ⟨false, rfl, rfl, fun e => by cases e⟩
    have hlen3' : (m : Int) + (ys.length : Int) ≤ 1048576 := by omega
    go_wp2_with fail
    go_loopw [5, 7] (fun t a w' => ∃ j n : Nat, j ≤ ys.length ∧ n ≤ 1048576 ∧ t = .int .i64 (n : Int) ∧ a = .int .i64 (j : Int) ∧ (∀ q x, ys[q]? = some x → q < j → x.k.size ≤ 1048576 ∧ x.v.size ≤ 1048576) ∧ w' = w) (fun t a w' => ys.length - (intOf a).toNat)
    case atStart => exact ⟨0, m + ys.length, by omega, by omega, by go_num, rfl, fun q x _ hq => by omega, rfl⟩
    case round =>
      obtain ⟨j, n, hjl, hn, rfl, rfl, hsh, rfl⟩ := hrel
      have HSH := hide' hsh
      have hn' : (n : Int) ≤ 1048576 := by omega
      clear hsh
      by_cases hlt : j < ys.length
      · have hlt' : (j : Int) < (ys.length : Int) := by omega
        obtain ⟨y, hy⟩ : ∃ y, ys[j]? = some y := ⟨_, List.getElem?_eq_getElem hlt⟩
        have c0 := HO2.out.c0 j y hy
        have c1 := HO2.out.c1 j y hy
        have x22 := HO2.out.ix j hlt
        have HY := hide' hy
        clear hy
        by_cases h1 : y.k.size ≤ 1048576
        rotate_left
        · have h1' : (1048576 : Int) < (y.k.size : Int) := by omega
          go_wp2_with fail
          go_ret
          exact ⟨false, rfl, rfl, fun e => by cases e⟩
        have h1' : (y.k.size : Int) ≤ 1048576 := by omega
        by_cases h2 : n + y.k.size ≤ 1048576
        rotate_left
        · have h2' : (1048576 : Int) < (n : Int) + (y.k.size : Int) := by omega
          go_wp2_with fail
          go_ret
          exact ⟨false, rfl, rfl, fun e => by cases e⟩
        have h2' : (n : Int) + (y.k.size : Int) ≤ 1048576 := by omega
        by_cases h3 : y.v.size ≤ 1048576
        rotate_left
        · have h3' : (1048576 : Int) < (y.v.size : Int) := by omega
          go_wp2_with fail
          go_ret
          exact ⟨false, rfl, rfl, fun e => by cases e⟩
        have h3' : (y.v.size : Int) ≤ 1048576 := by omega
        by_cases h4 : n + y.k.size + y.v.size ≤ 1048576
        rotate_left
        · have h4' : (1048576 : Int) < (n : Int) + (y.k.size : Int) + (y.v.size : Int) := by omega
          go_wp2_with fail
          go_ret
          exact ⟨false, rfl, rfl, fun e => by cases e⟩
        have h4' : (n : Int) + (y.k.size : Int) + (y.v.size : Int) ≤ 1048576 := by omega
        go_wp2_with fail
        go_roundw
        case rel => exact ⟨j + 1, n + y.k.size + y.v.size, by omega, by omega, by go_num, by go_num, short_step HSH.out HY.out h1 h3, by trivial⟩
        case measure => simp [intOf]; omega
      · obtain rfl : j = ys.length := by omega
        have hd : decide ((ys.length : Int) < (ys.length : Int)) = false := by simp
        go_wp2_with fail
        go_ret
        exact ⟨true, rfl, rfl, fun _ => ⟨HS1.out, short_all HSH.out⟩⟩

end Go.Proofs.Qxb6601392a.Bt
