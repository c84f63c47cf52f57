import Derived.Test.Qxb6601392aModelB
namespace Go.Proofs.Qxb6601392a.Bt
open Go.RowKit

/-- a script that came in, or a copy of it: its elements' three cells lie side by side in block b -/
structure OpsAt (w : World) (A : Option Addr) (cap b off : Nat) (xs : List It) : Prop where
  ix : ∀ k, k < xs.length → ∀ W, (Instr.indexAt 22 (.slice A xs.length cap) (.int .i64 (k : Int))).run Try.prog W = .ok (.pointer (some ⟨b, off + k * 3, none⟩)) W
  c0 : ∀ k x, xs[k]? = some x → w.cell? ⟨b, off + k * 3, none⟩ = some (.string x.k)
  c1 : ∀ k x, xs[k]? = some x → w.cell? ⟨b, off + k * 3 + 1, none⟩ = some (.string x.v)
  c2 : ∀ k x, xs[k]? = some x → w.cell? ⟨b, off + k * 3 + 2, none⟩ = some (.int .u64 x.r)
  r : ∀ x ∈ xs, 0 ≤ x.r ∧ x.r ≤ 18446744073709551615
  cp : cap ≤ maxLen
theorem OpsAt.of_block {w w' : World} {A : Option Addr} {cap b off : Nat} {xs : List It} (h : OpsAt w A cap b off xs) (hb : w'.heap[b]? = w.heap[b]?) : OpsAt w' A cap b off xs :=
  ⟨h.ix, fun k x hx => (World.cell?_of_block (w := w) (a := ⟨b, _, none⟩) hb).trans (h.c0 k x hx), fun k x hx => (World.cell?_of_block (w := w) (a := ⟨b, _, none⟩) hb).trans (h.c1 k x hx), fun k x hx => (World.cell?_of_block (w := w) (a := ⟨b, _, none⟩) hb).trans (h.c2 k x hx), h.r, h.cp⟩
theorem OpsAt.blt {w : World} {A : Option Addr} {cap b off : Nat} {xs : List It} (h : OpsAt w A cap b off xs) {k : Nat} {x : It} (hx : xs[k]? = some x) : b < w.heap.size := cell_lt (h.c0 k x hx)
theorem OpsAt.below {w w' : World} {A : Option Addr} {cap b off : Nat} {xs : List It} (h : OpsAt w A cap b off xs) (hb : Below w.heap.size w w') : OpsAt w' A cap b off xs :=
  ⟨h.ix, fun k x hx => bcell hb (h.c0 k x hx), fun k x hx => bcell hb (h.c1 k x hx), fun k x hx => bcell hb (h.c2 k x hx), h.r, h.cp⟩
/-- every string is short -/
def Short (xs : List It) : Prop := ∀ x ∈ xs, x.k.size ≤ 1048576 ∧ x.v.size ≤ 1048576
theorem Short.ok {w : World} {A : Option Addr} {cap b off : Nat} {xs : List It} (hs : Short xs) (h : OpsAt w A cap b off xs) : ∀ x ∈ xs, x.ok := fun x hx => ⟨(hs x hx).1, (hs x hx).2, h.r x hx⟩

theorem short_step {xs : List It} {j : Nat} {y : It} (h : ∀ q x, xs[q]? = some x → q < j → x.k.size ≤ 1048576 ∧ x.v.size ≤ 1048576) (hy : xs[j]? = some y) (h1 : y.k.size ≤ 1048576) (h2 : y.v.size ≤ 1048576) :
    ∀ q x, xs[q]? = some x → q < j + 1 → x.k.size ≤ 1048576 ∧ x.v.size ≤ 1048576 := by
  intro q x hx hq
  rcases Nat.lt_or_ge q j with hl | hl
  · exact h q x hx hl
  · obtain rfl : q = j := by omega
    rw [hy] at hx; cases hx
    exact ⟨h1, h2⟩
theorem short_all {xs : List It} (h : ∀ q x, xs[q]? = some x → q < xs.length → x.k.size ≤ 1048576 ∧ x.v.size ≤ 1048576) : Short xs := fun x hx => by
  obtain ⟨q, hq⟩ := List.getElem?_of_mem hx
  exact h q x hq (List.getElem?_eq_some_iff.1 hq).1

set_option maxRecDepth 100000 in
set_option maxHeartbeats 1000000 in
theorem bytes9_any {w : World} {A : Option Addr} {cap b off : Nat} {xs : List It} (h : OpsAt w A cap b off xs) :
    Calls Try.prog 9 #[.slice A xs.length cap] w fun e w' => ∃ r : Bool, e = .returned (.bool r) ∧ w' = w ∧ (r = true → Short xs) := by
  have HO := hide' h
  clear h
  by_cases hlen : xs.length ≤ 1048576
  rotate_left
  · have hlen' : (1048576 : Int) < (xs.length : Int) := by omega
    go_enter Try.func9, Try.ntmps9
    go_wp2_with fail
    go_ret
    exact ⟨false, rfl, rfl, fun e => by cases e⟩
  have hlen' : (xs.length : Int) ≤ 1048576 := by omega
  go_enter Try.func9, Try.ntmps9
  go_wp2_with fail
  go_loopw [3, 4] (fun t a w' => ∃ j n : Nat, j ≤ xs.length ∧ n ≤ 1048576 ∧ t = .int .i64 (n : Int) ∧ a = .int .i64 (j : Int) ∧ (∀ q x, xs[q]? = some x → q < j → x.k.size ≤ 1048576 ∧ x.v.size ≤ 1048576) ∧ w' = w) (fun t a w' => xs.length - (intOf a).toNat)
  case atStart => exact ⟨0, xs.length, by omega, by omega, rfl, rfl, fun q x _ hq => by omega, rfl⟩
  case round =>
    obtain ⟨j, n, hjl, hn, rfl, rfl, hsh, rfl⟩ := hrel
    have HSH := hide' hsh
    have hn' : (n : Int) ≤ 1048576 := by omega
    clear hsh
    by_cases hlt : j < xs.length
    · have hlt' : (j : Int) < (xs.length : Int) := by omega
      obtain ⟨y, hy⟩ : ∃ y, xs[j]? = some y := ⟨_, List.getElem?_eq_getElem hlt⟩
      have c0 := HO.out.c0 j y hy
      have c1 := HO.out.c1 j y hy
      have x22 := HO.out.ix j hlt
      have HY := hide' hy
      clear hy
      by_cases h1 : y.k.size ≤ 1048576
      rotate_left
      · have h1' : (1048576 : Int) < (y.k.size : Int) := by omega
        go_wp2_with fail
        go_ret
        exact ⟨false, rfl, rfl, fun e => by cases e⟩
      have h1' : (y.k.size : Int) ≤ 1048576 := by omega
      by_cases h2 : n + y.k.size ≤ 1048576
      rotate_left
      · have h2' : (1048576 : Int) < (n : Int) + (y.k.size : Int) := by omega
        go_wp2_with fail
        go_ret
        exact ⟨false, rfl, rfl, fun e => by cases e⟩
      have h2' : (n : Int) + (y.k.size : Int) ≤ 1048576 := by omega
      by_cases h3 : y.v.size ≤ 1048576
      rotate_left
      · have h3' : (1048576 : Int) < (y.v.size : Int) := by omega
        go_wp2_with fail
        go_ret
        exact ⟨false, rfl, rfl, fun e => by cases e⟩
      have h3' : (y.v.size : Int) ≤ 1048576 := by omega
      by_cases h4 : n + y.k.size + y.v.size ≤ 1048576
      rotate_left
      · have h4' : (1048576 : Int) < (n : Int) + (y.k.size : Int) + (y.v.size : Int) := by omega
        go_wp2_with fail
        go_ret
        exact ⟨false, rfl, rfl, fun e => by cases e⟩
      have h4' : (n : Int) + (y.k.size : Int) + (y.v.size : Int) ≤ 1048576 := by omega
      go_wp2_with fail
      go_roundw
      case rel => exact ⟨j + 1, n + y.k.size + y.v.size, by omega, by omega, by go_num, by go_num, short_step HSH.out HY.out h1 h3, by trivial⟩
      case measure => simp [intOf]; omega
    · obtain rfl : j = xs.length := by omega
      have hd : decide ((xs.length : Int) < (xs.length : Int)) = false := by simp
      go_wp2_with fail
      go_ret
      exact ⟨true, rfl, rfl, fun _ => short_all HSH.out⟩

set_option maxRecDepth 100000 in
set_option maxHeartbeats 1000000 in
theorem opsBytes_any {w : World} {A : Option Addr} {cap b off : Nat} {xs : List It} (h : OpsAt w A cap b off xs) (hs : Short xs) (hlen : xs.length ≤ 1048576) :
    Calls Try.prog 10 #[.slice A xs.length cap] w fun e w' => ∃ t : Nat, t ≤ 1048577 ∧ e = .returned (.int .i64 (t : Int)) ∧ ∃ n, w' = w.drewN n := by
  have HO := hide' h
  have HS := hide' hs
  clear h hs
  have hlen' : (xs.length : Int) ≤ 1048576 := by omega
  go_enter Try.func10, Try.ntmps10
  go_wp2_with fail
  go_loopw [3, 4] (fun t a w' => ∃ j n q : Nat, j ≤ xs.length ∧ n ≤ 1048576 ∧ t = .int .i64 (n : Int) ∧ a = .int .i64 (j : Int) ∧ w' = w.drewN q) (fun t a w' => xs.length - (intOf a).toNat)
  case atStart => exact ⟨0, 0, 0, by omega, by omega, rfl, rfl, rfl⟩
  case round =>
    obtain ⟨j, n, q, hjl, hn, rfl, rfl, rfl⟩ := hrel
    have hn' : (n : Int) ≤ 1048576 := by omega
    by_cases hlt : j < xs.length
    · have hlt' : (j : Int) < (xs.length : Int) := by omega
      obtain ⟨y, hy⟩ : ∃ y, xs[j]? = some y := ⟨_, List.getElem?_eq_getElem hlt⟩
      have c0 := HO.out.c0 j y hy
      have c1 := HO.out.c1 j y hy
      have x22 := HO.out.ix j hlt
      obtain ⟨h1, h3⟩ := HS.out y (List.mem_of_getElem? hy)
      have h1' : (y.k.size : Int) ≤ 1048576 := by omega
      have h3' : (y.v.size : Int) ≤ 1048576 := by omega
      clear hy
      by_cases h4 : n + (y.k.size + y.v.size + 8) ≤ 1048576
      · have h4' : (n : Int) + ((y.k.size : Int) + (y.v.size : Int) + 8) ≤ 1048576 := by omega
        obtain ⟨T, hT⟩ : ∃ T : Nat, T = n + (y.k.size + y.v.size + 8) := ⟨_, rfl⟩
        have hT1 : (T : Int) ≤ 1048576 := by omega
        have HT : Hid ((n : Int) + ((y.k.size : Int) + (y.v.size : Int) + 8) = (T : Int)) := by show _ = _; omega
        have hd1 : decide ((1048576 : Int) < (y.k.size : Int)) = false := decide_eq_false (by omega)
        have hd2 : decide ((1048576 : Int) < (y.v.size : Int)) = false := decide_eq_false (by omega)
        have hT2 : T ≤ 1048576 := by omega
        clear hT h4
        go_wp2_with fail
        go_quiet (fail)
        simp only [HT.out]
        clear h4'
        go_wp2_with fail
        go_roundw
        case rel => exact ⟨j + 1, T, _, by omega, hT2, rfl, by go_num, rfl⟩
        case measure => simp [intOf]; omega
      · have h4' : (1048576 : Int) < (n : Int) + ((y.k.size : Int) + (y.v.size : Int) + 8) := by omega
        go_wp2_with fail
        go_quiet (fail)
        go_wp2_with fail
        go_ret
        exact ⟨1048577, by omega, rfl, _, rfl⟩
    · obtain rfl : j = xs.length := by omega
      have hd : decide ((xs.length : Int) < (xs.length : Int)) = false := by simp
      go_wp2_with fail
      go_ret
      exact ⟨n, by omega, rfl, _, rfl⟩
end Go.Proofs.Qxb6601392a.Bt
