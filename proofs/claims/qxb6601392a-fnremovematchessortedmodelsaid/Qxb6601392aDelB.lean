import Derived.Test.Qxb6601392aDelA
namespace Go.Proofs.Qxb6601392a.Bt
open Go.RowKit

theorem T44 : STy 44 50 2 (.agg #[.string ⟨#[]⟩, .bool false]) := ⟨Try.underlying44, ⟨24, by kernel_rfl, by omega⟩, fun _ => by kernel_rfl, fun _ => by kernel_rfl, rfl, by decide, by omega⟩
theorem idx44 (g n cap k : Nat) (hk : k < n) (W : World) : (Instr.indexAt 44 (.slice (some ⟨g, 0, none⟩) n cap) (.int .i64 (k : Int))).run Try.prog W = .ok (.pointer (some ⟨g, k * 2, none⟩)) W := by
  rw [run_indexAt_slice W 44 _ n cap .i64 k T44.ht', if_pos (by omega), T44.elem, T44.hs]
  simp [Result.andThen, Addr.add]
  exact fun h => h.symm
def dcells (L : List Dl) : List Value := L.flatMap fun x => [.string x.k, .bool x.l]
theorem dcells_cons (x : Dl) (L : List Dl) : dcells (x :: L) = [.string x.k, .bool x.l] ++ dcells L := rfl
theorem dcells_drop (L : List Dl) (i : Nat) : (dcells L).drop (i * 2) = dcells (L.drop i) := by
  induction L generalizing i with
  | nil => simp [dcells]
  | cons x L ih =>
    cases i with
    | zero => simp
    | succ i =>
      rw [List.drop_succ_cons, dcells_cons, ← ih i, show (i + 1) * 2 = i * 2 + 2 by omega]
      simp
theorem dcells_get (L : List Dl) (i j : Nat) (x : Dl) (hx : L[i]? = some x) (hj : j < 2) : (dcells L)[i * 2 + j]? = [Value.string x.k, .bool x.l][j]? := by
  have h : (dcells L).drop (i * 2) = [.string x.k, .bool x.l] ++ dcells (L.drop (i + 1)) := by
    rw [dcells_drop, List.drop_eq_getElem?_toList_append, hx]; rfl
  rw [← List.getElem?_drop, h, List.getElem?_append_left (by simp; exact hj)]

set_option maxRecDepth 100000 in
set_option maxHeartbeats 1000000 in
theorem copyDels_any {w : World} {A : Option Addr} {cap b off : Nat} {xs : List Dl} (h : DelsAt w A cap b off xs) (hnil : A = none → xs = [] ∧ cap = 0) (hlen : xs.length ≤ 4096) :
    Calls Try.prog 22 #[.slice A xs.length cap] w fun e w' => ∃ A' cap' b', e = .returned (.slice A' xs.length cap') ∧ DelsAt w' A' cap' b' 0 xs ∧ Below w.heap.size w w' := by
  have he := fun W a n c => Lib.run_eql_slice_nil (P := Try.prog) W 44 50 a n c 0 0 Try.underlying44
  cases A with
  | none =>
    obtain ⟨rfl, rfl⟩ := hnil rfl
    have HO := hide' h
    clear h hlen hnil
    go_enter Try.func22, Try.ntmps22
    go_wp2_with fail
    go_ret
    exact ⟨none, 0, b, rfl, ⟨fun k hk => by simp at hk, fun k x hx => by simp at hx, fun k x hx => by simp at hx, Nat.zero_le _⟩, Below.refl _ _⟩
  | some a =>
    obtain ⟨arr, harr, hmk⟩ := make_own T44 xs.length (by omega)
    have HO := hide' h
    have HARR := hide' harr
    have hlen' : (xs.length : Int) ≤ 4096 := by omega
    clear h hnil harr
    go_enter Try.func22, Try.ntmps22
    go_wp2_with fail
    go_loopw [4] (fun t w' => ∃ (j : Nat) (zs : List Value), j ≤ xs.length ∧ t = .int .i64 (j : Int) ∧ Own 50 2 w' (.slice (some ⟨w.heap.size, 0, none⟩) xs.length xs.length) xs.length zs ∧ zs.take (j * 2) = dcells (xs.take j) ∧ Below w.heap.size w w') (fun t w' => xs.length - (intOf t).toNat)
    case atStart => exact ⟨0, arr.toList, by omega, rfl, own_made w arr HARR.out (by omega), by simp [dcells], (Below.refl _ _).alloc (Nat.le_refl _) _⟩
    case round =>
      obtain ⟨j, zs, hjl, rfl, hOwn, htk, hB⟩ := hrel
      have hzl := hOwn.len
      have HOWN := hide' hOwn
      have HTK := hide' htk
      clear htk
      by_cases hlt : j < xs.length
      · have hlt' : (j : Int) < (xs.length : Int) := by omega
        obtain ⟨y, hy⟩ : ∃ y, xs[j]? = some y := ⟨_, List.getElem?_eq_getElem hlt⟩
        have c0 := bcell hB (HO.out.c0 j y hy)
        have c1 := bcell hB (HO.out.c1 j y hy)
        have x44 := HO.out.ix j hlt
        have y44 := fun W => idx44 w.heap.size xs.length xs.length j hlt W
        obtain ⟨u0, hu0⟩ := some_at (l := zs) (j := j * 2) (by omega)
        obtain ⟨u1, hu1⟩ := some_at (l := zs) (j := j * 2 + 1) (by omega)
        have d0 := hOwn.raw.1 _ _ hu0
        have d1 := hOwn.raw.1 _ _ hu1
        have df := hOwn.raw.2
        have hbl := HO.out.blt hy
        have HY := hide' hy
        have HZL := hide' hzl
        clear hy hu0 hu1 hOwn hzl
        go_wp2_with fail
        go_roundw
        case rel =>
          refine ⟨j + 1, (zs.set (j * 2) (.string y.k)).set (j * 2 + 1) (.bool y.l), by omega, by go_num, (HOWN.out.put1 _ _).put1 _ _, ?_, (hB.setCell (p := ⟨w.heap.size, j * 2, none⟩) (Nat.le_refl _) _).setCell (p := ⟨w.heap.size, j * 2 + 1, none⟩) (Nat.le_refl _) _⟩
          rw [take_set2 (by have := HZL.out; omega), HTK.out, List.take_add_one, HY.out]
          simp [dcells]
        case measure => simp [intOf]; omega
      · obtain rfl : j = xs.length := by omega
        have hd : decide ((xs.length : Int) < (xs.length : Int)) = false := by simp
        have hzs : zs = dcells xs := by
          have := HTK.out
          rw [List.take_of_length_le (by omega), List.take_length] at this
          exact this
        rw [hzs] at hOwn
        have HOWN' := hide' hOwn
        clear hOwn hzs
        go_wp2_with fail
        go_ret
        refine ⟨some ⟨w.heap.size, 0, none⟩, xs.length, w.heap.size, rfl, ⟨fun k hk W => ?_, fun k x hx => ?_, fun k x hx => ?_, by unfold maxLen; omega⟩, hB⟩
        · rw [idx44 _ _ _ _ hk, Nat.zero_add]
        · rw [Nat.zero_add]; exact HOWN'.out.raw.1 _ _ (dcells_get xs k 0 x hx (by omega))
        · rw [Nat.zero_add]; exact HOWN'.out.raw.1 _ _ (dcells_get xs k 1 x hx (by omega))
end Go.Proofs.Qxb6601392a.Bt
