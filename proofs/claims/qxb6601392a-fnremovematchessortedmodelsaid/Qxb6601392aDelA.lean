import Derived.Test.Qxb6601392aOpsB
import Derived.Deep.CutBlock
namespace Go.Proofs.Qxb6601392a.Bt
open Go.RowKit

/-- one removal of the script -/
structure Dl where
  k : ByteArray
  l : Bool
/-- a script of removals that came in, or a copy of it -/
structure DelsAt (w : World) (A : Option Addr) (cap b off : Nat) (xs : List Dl) : Prop where
  ix : ∀ k, k < xs.length → ∀ W, (Instr.indexAt 44 (.slice A xs.length cap) (.int .i64 (k : Int))).run Try.prog W = .ok (.pointer (some ⟨b, off + k * 2, none⟩)) W
  c0 : ∀ k x, xs[k]? = some x → w.cell? ⟨b, off + k * 2, none⟩ = some (.string x.k)
  c1 : ∀ k x, xs[k]? = some x → w.cell? ⟨b, off + k * 2 + 1, none⟩ = some (.bool x.l)
  cp : cap ≤ maxLen
theorem DelsAt.of_block {w w' : World} {A : Option Addr} {cap b off : Nat} {xs : List Dl} (h : DelsAt w A cap b off xs) (hb : w'.heap[b]? = w.heap[b]?) : DelsAt w' A cap b off xs :=
  ⟨h.ix, fun k x hx => (World.cell?_of_block (w := w) (a := ⟨b, _, none⟩) hb).trans (h.c0 k x hx), fun k x hx => (World.cell?_of_block (w := w) (a := ⟨b, _, none⟩) hb).trans (h.c1 k x hx), h.cp⟩
theorem DelsAt.blt {w : World} {A : Option Addr} {cap b off : Nat} {xs : List Dl} (h : DelsAt w A cap b off xs) {k : Nat} {x : Dl} (hx : xs[k]? = some x) : b < w.heap.size := cell_lt (h.c0 k x hx)
theorem DelsAt.below {w w' : World} {A : Option Addr} {cap b off : Nat} {xs : List Dl} (h : DelsAt w A cap b off xs) (hb : Below w.heap.size w w') : DelsAt w' A cap b off xs :=
  ⟨h.ix, fun k x hx => bcell hb (h.c0 k x hx), fun k x hx => bcell hb (h.c1 k x hx), h.cp⟩
/-- every string is short -/
def ShortD (xs : List Dl) : Prop := ∀ x ∈ xs, x.k.size ≤ 1048576
theorem shortD_step {xs : List Dl} {j : Nat} {y : Dl} (h : ∀ q x, xs[q]? = some x → q < j → x.k.size ≤ 1048576) (hy : xs[j]? = some y) (h1 : y.k.size ≤ 1048576) :
    ∀ q x, xs[q]? = some x → q < j + 1 → x.k.size ≤ 1048576 := by
  intro q x hx hq
  rcases Nat.lt_or_ge q j with hl | hl
  · exact h q x hx hl
  · obtain rfl : q = j := by omega
    rw [hy] at hx; cases hx
    exact h1
theorem shortD_all {xs : List Dl} (h : ∀ q x, xs[q]? = some x → q < xs.length → x.k.size ≤ 1048576) : ShortD xs := fun x hx => by
  obtain ⟨q, hq⟩ := List.getElem?_of_mem hx
  exact h q x hq (List.getElem?_eq_some_iff.1 hq).1

set_option maxRecDepth 100000 in
set_option maxHeartbeats 1000000 in
theorem delsBytes_any {w : World} {A : Option Addr} {cap b off : Nat} {xs : List Dl} (h : DelsAt w A cap b off xs) (hs : ShortD xs) (hlen : xs.length ≤ 1048576) :
    Calls Try.prog 21 #[.slice A xs.length cap] w fun e w' => ∃ t : Nat, t ≤ 1048577 ∧ e = .returned (.int .i64 (t : Int)) ∧ w' = w := by
  have HO := hide' h
  have HS := hide' hs
  clear h hs
  have hlen' : (xs.length : Int) ≤ 1048576 := by omega
  go_enter Try.func21, Try.ntmps21
  go_wp2_with fail
  go_loopw [3, 4] (fun t a w' => ∃ j n : Nat, j ≤ xs.length ∧ n ≤ 1048576 ∧ t = .int .i64 (n : Int) ∧ a = .int .i64 (j : Int) ∧ w' = w) (fun t a w' => xs.length - (intOf a).toNat)
  case atStart => exact ⟨0, 0, by omega, by omega, rfl, rfl, rfl⟩
  case round =>
    obtain ⟨j, n, hjl, hn, rfl, rfl, rfl⟩ := hrel
    have hn' : (n : Int) ≤ 1048576 := by omega
    by_cases hlt : j < xs.length
    · have hlt' : (j : Int) < (xs.length : Int) := by omega
      obtain ⟨y, hy⟩ : ∃ y, xs[j]? = some y := ⟨_, List.getElem?_eq_getElem hlt⟩
      have c0 := HO.out.c0 j y hy
      have x44 := HO.out.ix j hlt
      have h1 := HS.out y (List.mem_of_getElem? hy)
      have h1' : (y.k.size : Int) ≤ 1048576 := by omega
      have hd1 : decide ((1048576 : Int) < (y.k.size : Int)) = false := decide_eq_false (by omega)
      clear hy
      by_cases h4 : n + (y.k.size + 1) ≤ 1048576
      · have h4' : (n : Int) + ((y.k.size : Int) + 1) ≤ 1048576 := by omega
        obtain ⟨T, hT⟩ : ∃ T : Nat, T = n + (y.k.size + 1) := ⟨_, rfl⟩
        have hT1 : (T : Int) ≤ 1048576 := by omega
        have hw1 : IntKind.i64.wrap ((y.k.size : Int) + 1) = (y.k.size : Int) + 1 := by rw [IntKind.wrap_i64]; omega
        have hw2 : IntKind.i64.wrap ((n : Int) + ((y.k.size : Int) + 1)) = (T : Int) := by rw [IntKind.wrap_i64]; omega
        have hT2 : T ≤ 1048576 := by omega
        clear hT h4 h4'
        go_wp2_with fail
        go_roundw
        case rel => exact ⟨j + 1, T, by omega, hT2, rfl, by go_num, by trivial⟩
        case measure => simp [intOf]; omega
      · have h4' : (1048576 : Int) < (n : Int) + ((y.k.size : Int) + 1) := by omega
        go_wp2_with fail
        go_ret
        exact ⟨1048577, by omega, rfl, rfl⟩
    · obtain rfl : j = xs.length := by omega
      have hd : decide ((xs.length : Int) < (xs.length : Int)) = false := by simp
      go_wp2_with fail
      go_ret
      exact ⟨n, by omega, rfl, rfl⟩

set_option maxRecDepth 100000 in
set_option maxHeartbeats 2000000 in
theorem bytes20_any {w : World} {A A' : Option Addr} {cap b off cap' b' off' : Nat} {xs : List It} {ys : List Dl} (h : OpsAt w A cap b off xs) (h' : DelsAt w A' cap' b' off' ys) :
    Calls Try.prog 20 #[.slice A xs.length cap, .slice A' ys.length cap'] w fun e w' => ∃ r : Bool, e = .returned (.bool r) ∧ w' = w ∧ (r = true → Short xs ∧ ShortD ys) := by
  have HO := hide' h
  have HO2 := hide' h'
  clear h h'
  by_cases hlen : xs.length ≤ 1048576
  rotate_left
  · have hlen' : (1048576 : Int) < (xs.length : Int) := by omega
    go_enter Try.func20, Try.ntmps20
    go_wp2_with fail
    go_ret
    exact ⟨false, rfl, rfl, fun e => by cases e⟩
  have hlen' : (xs.length : Int) ≤ 1048576 := by omega
  go_enter Try.func20, Try.ntmps20
  go_upto_block 0 with fail
  go_cut [5, 6] (fun t a wd => ∃ n : Nat, n ≤ 1048576 ∧ t = .int .i64 (n : Int) ∧ Short xs ∧ wd = w)
  case first =>
    go_wp2_with fail
    go_loopw [5, 6] (fun t a w' => ∃ j n : Nat, j ≤ xs.length ∧ n ≤ 1048576 ∧ t = .int .i64 (n : Int) ∧ a = .int .i64 (j : Int) ∧ (∀ q x, xs[q]? = some x → q < j → x.k.size ≤ 1048576 ∧ x.v.size ≤ 1048576) ∧ w' = w) (fun t a w' => xs.length - (intOf a).toNat)
    case atStart => exact ⟨0, xs.length, by omega, by omega, rfl, rfl, fun q x _ hq => by omega, rfl⟩
    case round =>
      obtain ⟨j, n, hjl, hn, rfl, rfl, hsh, rfl⟩ := hrel
      have HSH := hide' hsh
      have hn' : (n : Int) ≤ 1048576 := by omega
      clear hsh
      by_cases hlt : j < xs.length
      · have hlt' : (j : Int) < (xs.length : Int) := by omega
        obtain ⟨y, hy⟩ : ∃ y, xs[j]? = some y := ⟨_, List.getElem?_eq_getElem hlt⟩
        have c0 := HO.out.c0 j y hy
        have c1 := HO.out.c1 j y hy
        have x22 := HO.out.ix j hlt
        have HY := hide' hy
        clear hy
        by_cases h1 : y.k.size ≤ 1048576
        rotate_left
        · have h1' : (1048576 : Int) < (y.k.size : Int) := by omega
          go_wp2_with fail
          go_ret
          exact ⟨false, rfl, rfl, fun e => by cases e⟩
        have h1' : (y.k.size : Int) ≤ 1048576 := by omega
        by_cases h2 : n + y.k.size ≤ 1048576
        rotate_left
        · have h2' : (1048576 : Int) < (n : Int) + (y.k.size : Int) := by omega
          go_wp2_with fail
          go_ret
          exact ⟨false, rfl, rfl, fun e => by cases e⟩
        have h2' : (n : Int) + (y.k.size : Int) ≤ 1048576 := by omega
        by_cases h3 : y.v.size ≤ 1048576
        rotate_left
        · have h3' : (1048576 : Int) < (y.v.size : Int) := by omega
          go_wp2_with fail
          go_ret
          exact ⟨false, rfl, rfl, fun e => by cases e⟩
        have h3' : (y.v.size : Int) ≤ 1048576 := by omega
        by_cases h4 : n + y.k.size + y.v.size ≤ 1048576
        rotate_left
        · have h4' : (1048576 : Int) < (n : Int) + (y.k.size : Int) + (y.v.size : Int) := by omega
          go_wp2_with fail
          go_ret
          exact ⟨false, rfl, rfl, fun e => by cases e⟩
        have h4' : (n : Int) + (y.k.size : Int) + (y.v.size : Int) ≤ 1048576 := by omega
        go_wp2_with fail
        go_roundw
        case rel => exact ⟨j + 1, n + y.k.size + y.v.size, by omega, by omega, by go_num, by go_num, short_step HSH.out HY.out h1 h3, by trivial⟩
        case measure => simp [intOf]; omega
      · obtain rfl : j = xs.length := by omega
        have hd : decide ((xs.length : Int) < (xs.length : Int)) = false := by simp
        go_wp2_with fail
        go_meet
        case rel => exact ⟨n, hn, rfl, short_all HSH.out, rfl⟩
  case rest =>
    obtain ⟨m, hm, rfl, hs1, hwc⟩ := hcut
    rw [hwc]
    clear hwc wc
    have HS1 := hide' hs1
    have hm' : (m : Int) ≤ 1048576 := by omega
    clear hs1
    by_cases hlen2 : ys.length ≤ 1048576
    rotate_left
    · have hlen2' : (1048576 : Int) < (ys.length : Int) := by omega
      go_wp2_with fail
      go_ret
      exact ⟨false, rfl, rfl, fun e => by cases e⟩
    have hlen2' : (ys.length : Int) ≤ 1048576 := by omega
    by_cases hlen3 : m + ys.length ≤ 1048576
    rotate_left
    · have hlen3' : (1048576 : Int) < (m : Int) + (ys.length : Int) := by omega
      go_wp2_with fail
      go_ret
      exact ⟨false, rfl, rfl, fun e => by cases e⟩
    have hlen3' : (m : Int) + (ys.length : Int) ≤ 1048576 := by omega
    go_wp2_with fail
    go_loopw [5, 7] (fun t a w' => ∃ j n : Nat, j ≤ ys.length ∧ n ≤ 1048576 ∧ t = .int .i64 (n : Int) ∧ a = .int .i64 (j : Int) ∧ (∀ q x, ys[q]? = some x → q < j → x.k.size ≤ 1048576) ∧ w' = w) (fun t a w' => ys.length - (intOf a).toNat)
    case atStart => exact ⟨0, m + ys.length, by omega, by omega, by go_num, rfl, fun q x _ hq => by omega, rfl⟩
    case round =>
      obtain ⟨j, n, hjl, hn, rfl, rfl, hsh, rfl⟩ := hrel
      have HSH := hide' hsh
      have hn' : (n : Int) ≤ 1048576 := by omega
      clear hsh
      by_cases hlt : j < ys.length
      · have hlt' : (j : Int) < (ys.length : Int) := by omega
        obtain ⟨y, hy⟩ : ∃ y, ys[j]? = some y := ⟨_, List.getElem?_eq_getElem hlt⟩
        have c0 := HO2.out.c0 j y hy
        have x22 := HO2.out.ix j hlt
        have HY := hide' hy
        clear hy
        by_cases h1 : y.k.size ≤ 1048576
        rotate_left
        · have h1' : (1048576 : Int) < (y.k.size : Int) := by omega
          go_wp2_with fail
          go_ret
          exact ⟨false, rfl, rfl, fun e => by cases e⟩
        have h1' : (y.k.size : Int) ≤ 1048576 := by omega
        by_cases h2 : n + y.k.size ≤ 1048576
        rotate_left
        · have h2' : (1048576 : Int) < (n : Int) + (y.k.size : Int) := by omega
          go_wp2_with fail
          go_ret
          exact ⟨false, rfl, rfl, fun e => by cases e⟩
        have h2' : (n : Int) + (y.k.size : Int) ≤ 1048576 := by omega
        go_wp2_with fail
        go_roundw
        case rel => exact ⟨j + 1, n + y.k.size, by omega, by omega, by go_num, by go_num, shortD_step HSH.out HY.out h1, by trivial⟩
        case measure => simp [intOf]; omega
      · obtain rfl : j = ys.length := by omega
        have hd : decide ((ys.length : Int) < (ys.length : Int)) = false := by simp
        go_wp2_with fail
        go_ret
        exact ⟨true, rfl, rfl, fun _ => ⟨HS1.out, shortD_all HSH.out⟩⟩

set_option maxRecDepth 100000 in
set_option maxHeartbeats 2000000 in
theorem bytes24_any {w : World} {A A' : Option Addr} {cap b off cap' b' off' : Nat} {xs : List It} {ys : List Dl} (h : OpsAt w A cap b off xs) (h' : DelsAt w A' cap' b' off' ys) :
    Calls Try.prog 24 #[.slice A xs.length cap, .slice A' ys.length cap'] w fun e w' => ∃ r : Bool, e = .returned (.bool r) ∧ w' = w ∧ (r = true → Short xs ∧ ShortD ys) := by
  have HO := hide' h
  have HO2 := hide' h'
  clear h h'
  by_cases hlen : xs.length ≤ 1048576
  rotate_left
  · have hlen' : (1048576 : Int) < (xs.length : Int) := by omega
    go_enter Try.func24, Try.ntmps24
    go_wp2_with fail
    go_ret
    exact ⟨false, rfl, rfl, fun e => by cases e⟩
  have hlen' : (xs.length : Int) ≤ 1048576 := by omega
  go_enter Try.func24, Try.ntmps24
  go_upto_block 0 with fail
  go_cut [5, 6] (fun t a wd => ∃ n : Nat, n ≤ 1048576 ∧ t = .int .i64 (n : Int) ∧ Short xs ∧ wd = w)
  case first =>
    go_wp2_with fail
    go_loopw [5, 6] (fun t a w' => ∃ j n : Nat, j ≤ xs.length ∧ n ≤ 1048576 ∧ t = .int .i64 (n : Int) ∧ a = .int .i64 (j : Int) ∧ (∀ q x, xs[q]? = some x → q < j → x.k.size ≤ 1048576 ∧ x.v.size ≤ 1048576) ∧ w' = w) (fun t a w' => xs.length - (intOf a).toNat)
    case atStart => exact ⟨0, xs.length, by omega, by omega, rfl, rfl, fun q x _ hq => by omega, rfl⟩
    case round =>
      obtain ⟨j, n, hjl, hn, rfl, rfl, hsh, rfl⟩ := hrel
      have HSH := hide' hsh
      have hn' : (n : Int) ≤ 1048576 := by omega
      clear hsh
      by_cases hlt : j < xs.length
      · have hlt' : (j : Int) < (xs.length : Int) := by omega
        obtain ⟨y, hy⟩ : ∃ y, xs[j]? = some y := ⟨_, List.getElem?_eq_getElem hlt⟩
        have c0 := HO.out.c0 j y hy
        have c1 := HO.out.c1 j y hy
        have x22 := HO.out.ix j hlt
        have HY := hide' hy
        clear hy
        by_cases h1 : y.k.size ≤ 1048576
        rotate_left
        · have h1' : (1048576 : Int) < (y.k.size : Int) := by omega
          go_wp2_with fail
          go_ret
          exact ⟨false, rfl, rfl, fun e => by cases e⟩
        have h1' : (y.k.size : Int) ≤ 1048576 := by omega
        by_cases h2 : n + y.k.size ≤ 1048576
        rotate_left
        · have h2' : (1048576 : Int) < (n : Int) + (y.k.size : Int) := by omega
          go_wp2_with fail
          go_ret
          exact ⟨false, rfl, rfl, fun e => by cases e⟩
        have h2' : (n : Int) + (y.k.size : Int) ≤ 1048576 := by omega
        by_cases h3 : y.v.size ≤ 1048576
        rotate_left
        · have h3' : (1048576 : Int) < (y.v.size : Int) := by omega
          go_wp2_with fail
          go_ret
          exact ⟨false, rfl, rfl, fun e => by cases e⟩
        have h3' : (y.v.size : Int) ≤ 1048576 := by omega
        by_cases h4 : n + y.k.size + y.v.size ≤ 1048576
        rotate_left
        · have h4' : (1048576 : Int) < (n : Int) + (y.k.size : Int) + (y.v.size : Int) := by omega
          go_wp2_with fail
          go_ret
          exact ⟨false, rfl, rfl, fun e => by cases e⟩
        have h4' : (n : Int) + (y.k.size : Int) + (y.v.size : Int) ≤ 1048576 := by omega
        go_wp2_with fail
        go_roundw
        case rel => exact ⟨j + 1, n + y.k.size + y.v.size, by omega, by omega, by go_num, by go_num, short_step HSH.out HY.out h1 h3, by trivial⟩
        case measure => simp [intOf]; omega
      · obtain rfl : j = xs.length := by omega
        have hd : decide ((xs.length : Int) < (xs.length : Int)) = false := by simp
        go_wp2_with fail
        go_meet
        case rel => exact ⟨n, hn, rfl, short_all HSH.out, rfl⟩
  case rest =>
    obtain ⟨m, hm, rfl, hs1, hwc⟩ := hcut
    rw [hwc]
    clear hwc wc
    have HS1 := hide' hs1
    have hm' : (m : Int) ≤ 1048576 := by omega
    clear hs1
    by_cases hlen2 : ys.length ≤ 1048576
    rotate_left
    · have hlen2' : (1048576 : Int) < (ys.length : Int) := by omega
      go_wp2_with fail
      go_ret
      exact ⟨false, rfl, rfl, fun e => by cases e⟩
    have hlen2' : (ys.length : Int) ≤ 1048576 := by omega
    by_cases hlen3 : m + ys.length ≤ 1048576
    rotate_left
    · have hlen3' : (1048576 : Int) < (m : Int) + (ys.length : Int) := by omega
      go_wp2_with fail
      go_ret
      exact ⟨false, rfl, rfl, fun e => by cases e⟩
    have hlen3' : (m : Int) + (ys.length : Int) ≤ 1048576 := by omega
    go_wp2_with fail
    go_loopw [5, 7] (fun t a w' => ∃ j n : Nat, j ≤ ys.length ∧ n ≤ 1048576 ∧ t = .int .i64 (n : Int) ∧ a = .int .i64 (j : Int) ∧ (∀ q x, ys[q]? = some x → q < j → x.k.size ≤ 1048576) ∧ w' = w) (fun t a w' => ys.length - (intOf a).toNat)
    case atStart => exact ⟨0, m + ys.length, by omega, by omega, by go_num, rfl, fun q x _ hq => by omega, rfl⟩
    case round =>
      obtain ⟨j, n, hjl, hn, rfl, rfl, hsh, rfl⟩ := hrel
      have HSH := hide' hsh
      have hn' : (n : Int) ≤ 1048576 := by omega
      clear hsh
      by_cases hlt : j < ys.length
      · have hlt' : (j : Int) < (ys.length : Int) := by omega
        obtain ⟨y, hy⟩ : ∃ y, ys[j]? = some y := ⟨_, List.getElem?_eq_getElem hlt⟩
        have c0 := HO2.out.c0 j y hy
        have x22 := HO2.out.ix j hlt
        have HY := hide' hy
        clear hy
        by_cases h1 : y.k.size ≤ 1048576
        rotate_left
        · have h1' : (1048576 : Int) < (y.k.size : Int) := by omega
          go_wp2_with fail
          go_ret
          exact ⟨false, rfl, rfl, fun e => by cases e⟩
        have h1' : (y.k.size : Int) ≤ 1048576 := by omega
        by_cases h2 : n + y.k.size ≤ 1048576
        rotate_left
        · have h2' : (1048576 : Int) < (n : Int) + (y.k.size : Int) := by omega
          go_wp2_with fail
          go_ret
          exact ⟨false, rfl, rfl, fun e => by cases e⟩
        have h2' : (n : Int) + (y.k.size : Int) ≤ 1048576 := by omega
        go_wp2_with fail
        go_roundw
        case rel => exact ⟨j + 1, n + y.k.size, by omega, by omega, by go_num, by go_num, shortD_step HSH.out HY.out h1, by trivial⟩
        case measure => simp [intOf]; omega
      · obtain rfl : j = ys.length := by omega
        have hd : decide ((ys.length : Int) < (ys.length : Int)) = false := by simp
        go_wp2_with fail
        go_ret
        exact ⟨true, rfl, rfl, fun _ => ⟨HS1.out, shortD_all HSH.out⟩⟩

end Go.Proofs.Qxb6601392a.Bt
