import Derived.Test.Qxb6601392aOpsA
namespace Go.Proofs.Qxb6601392a.Bt
open Go.RowKit

theorem T22 : STy 22 36 3 (.agg #[.string ⟨#[]⟩, .string ⟨#[]⟩, .int .u64 0]) := ⟨Try.underlying22, ⟨40, by kernel_rfl, by omega⟩, fun _ => by kernel_rfl, fun _ => by kernel_rfl, rfl, by decide, by omega⟩
theorem idx22 (g n cap k : Nat) (hk : k < n) (W : World) : (Instr.indexAt 22 (.slice (some ⟨g, 0, none⟩) n cap) (.int .i64 (k : Int))).run Try.prog W = .ok (.pointer (some ⟨g, k * 3, none⟩)) W := by
  rw [run_indexAt_slice W 22 _ n cap .i64 k T22.ht', if_pos (by omega), T22.elem, T22.hs]
  simp [Result.andThen, Addr.add]
  exact fun h => h.symm

theorem make_own {t e : TypeId} {z : Nat} {zero : Value} (T : STy t e z zero) (n : Nat) (hn : n ≤ 100000) :
    ∃ arr : Array Value, arr.size = n * z ∧ ∀ W, (Instr.makeSlice t (.int .i64 (n : Int)) (.int .i64 (n : Int))).run Try.prog W = .ok (.slice (some ⟨W.heap.size, 0, none⟩) n n) (W.alloc (.cells arr e)) := by
  obtain ⟨bytes, hi, hb⟩ := T.hi
  obtain ⟨i, hi, h0, hsz, hby⟩ := info_parts hi
  refine ⟨madeCells zero.cells (n * z), size_madeCells _ _, fun W => ?_⟩
  rw [run_make W t e i _ T.ht hi h0 .i64 .i64 n n (by omega) (by omega) (by rw [hby]; exact Int.le_trans (Int.mul_le_mul (show (bytes : Int) ≤ 64 by omega) (show (n : Int) ≤ 100000 by omega) (by omega) (by omega)) (by omega)) (by omega), hsz]
  simp only [Int.toNat_natCast]
theorem own_made {e : TypeId} {z n : Nat} (W : World) (arr : Array Value) (h : arr.size = n * z) (hn : n ≤ 100000) : Own e z (W.alloc (.cells arr e)) (.slice (some ⟨W.heap.size, 0, none⟩) n n) n arr.toList :=
  ⟨by rw [Array.length_toList]; exact h, .inr ⟨W.heap.size, n, arr, rfl, Nat.zero_le _, heap_alloc_new _ _, Nat.le_refl _, by unfold maxLen; omega, h, by rw [List.take_of_length_le]; rw [Array.length_toList]; omega⟩⟩
theorem Own.raw {e : TypeId} {z n g cap : Nat} {w : World} {zs : List Value} (h : Own e z w (.slice (some ⟨g, 0, none⟩) n cap) n zs) : (∀ j u, zs[j]? = some u → w.cell? ⟨g, j, none⟩ = some u) ∧ ∀ j, w.frozen? ⟨g, j, none⟩ = false := by
  obtain ⟨hl, hc⟩ := h
  rcases hc with ⟨e, _⟩ | ⟨g', cap', cur, e, h0, hg, hnc, hcm, h3, h4⟩
  · cases e
  · cases e
    refine ⟨fun j u hu => ?_, fun j => by simp [World.frozen?, hg]⟩
    have hj := (List.getElem?_eq_some_iff.1 hu).1
    rw [← h4, List.getElem?_take_of_lt (by omega)] at hu
    simp only [World.cell?, hg]
    simpa using hu
theorem Own.len {e : TypeId} {z n : Nat} {w : World} {v : Value} {zs : List Value} (h : Own e z w v n zs) : zs.length = n * z := h.1
theorem some_at {α : Type} {l : List α} {j : Nat} (h : j < l.length) : ∃ u, l[j]? = some u := ⟨_, List.getElem?_eq_getElem h⟩

theorem split3 {zs : List Value} {j : Nat} (h : j * 3 + 3 ≤ zs.length) : ∃ P x y z Q, zs = P ++ x :: y :: z :: Q ∧ P.length = j * 3 := by
  refine ⟨zs.take (j * 3), zs[j * 3], zs[j * 3 + 1], zs[j * 3 + 2], zs.drop (j * 3 + 3), ?_, by rw [List.length_take]; omega⟩
  rw [← List.drop_eq_getElem_cons (by omega), ← List.drop_eq_getElem_cons (by omega), ← List.drop_eq_getElem_cons (by omega), List.take_append_drop]
theorem take_set3 {zs : List Value} {j : Nat} (h : j * 3 + 3 ≤ zs.length) (a b c : Value) : (((zs.set (j * 3) a).set (j * 3 + 1) b).set (j * 3 + 2) c).take ((j + 1) * 3) = zs.take (j * 3) ++ [a, b, c] := by
  obtain ⟨P, x, y, z, Q, rfl, hP⟩ := split3 h
  rw [← hP]
  rw [List.set_append_right _ _ (Nat.le_refl _), List.set_append_right _ _ (by omega), List.set_append_right _ _ (by omega)]
  rw [show (j + 1) * 3 = P.length + 3 by omega]
  simp only [Nat.sub_self, List.set_cons_zero, show P.length + 1 - P.length = 1 by omega, show P.length + 2 - P.length = 2 by omega, List.set_cons_succ]
  rw [List.take_length_add_append, List.take_left]
  rfl
theorem take_set2 {zs : List Value} {j : Nat} (h : j * 2 + 2 ≤ zs.length) (a b : Value) : ((zs.set (j * 2) a).set (j * 2 + 1) b).take ((j + 1) * 2) = zs.take (j * 2) ++ [a, b] := by
  have hP : (zs.take (j * 2)).length = j * 2 := by rw [List.length_take]; omega
  have hz : zs = zs.take (j * 2) ++ zs[j * 2] :: zs[j * 2 + 1] :: zs.drop (j * 2 + 2) := by
    rw [← List.drop_eq_getElem_cons (by omega), ← List.drop_eq_getElem_cons (by omega), List.take_append_drop]
  generalize zs.take (j * 2) = P at *
  generalize zs[j * 2] = x at *
  generalize zs[j * 2 + 1] = y at *
  generalize zs.drop (j * 2 + 2) = Q at *
  subst hz
  rw [← hP]
  rw [List.set_append_right _ _ (Nat.le_refl _), List.set_append_right _ _ (by omega)]
  rw [show (j + 1) * 2 = P.length + 2 by omega]
  simp only [Nat.sub_self, List.set_cons_zero, show P.length + 1 - P.length = 1 by omega, List.set_cons_succ]
  rw [List.take_length_add_append]
  rfl
theorem take_set1 {zs : List Value} {j : Nat} (h : j < zs.length) (a : Value) : (zs.set j a).take (j + 1) = zs.take j ++ [a] := by
  rw [List.take_set, List.take_succ_eq_append_getElem h, List.set_append_right _ _ (by rw [List.length_take]; omega)]
  have : (zs.take j).length = j := by rw [List.length_take]; omega
  rw [this]; simp

set_option maxRecDepth 100000 in
set_option maxHeartbeats 1000000 in
theorem copyOps_any {w : World} {A : Option Addr} {cap b off : Nat} {xs : List It} (h : OpsAt w A cap b off xs) (hnil : A = none → xs = [] ∧ cap = 0) (hlen : xs.length ≤ 4096) :
    Calls Try.prog 11 #[.slice A xs.length cap] w fun e w' => ∃ A' cap' b', e = .returned (.slice A' xs.length cap') ∧ OpsAt w' A' cap' b' 0 xs ∧ Below w.heap.size w w' := by
  have he := fun W a n c => Lib.run_eql_slice_nil (P := Try.prog) W 22 36 a n c 0 0 Try.underlying22
  cases A with
  | none =>
    obtain ⟨rfl, rfl⟩ := hnil rfl
    have HO := hide' h
    clear h hlen hnil
    go_enter Try.func11, Try.ntmps11
    go_wp2_with fail
    go_ret
    exact ⟨none, 0, b, rfl, ⟨fun k hk => by simp at hk, fun k x hx => by simp at hx, fun k x hx => by simp at hx, fun k x hx => by simp at hx, fun x hx => by simp at hx, Nat.zero_le _⟩, Below.refl _ _⟩
  | some a =>
    obtain ⟨arr, harr, hmk⟩ := make_own T22 xs.length (by omega)
    have HO := hide' h
    have HARR := hide' harr
    have hlen' : (xs.length : Int) ≤ 4096 := by omega
    clear h hnil harr
    go_enter Try.func11, Try.ntmps11
    go_wp2_with fail
    go_loopw [4] (fun t w' => ∃ (j : Nat) (zs : List Value), j ≤ xs.length ∧ t = .int .i64 (j : Int) ∧ Own 36 3 w' (.slice (some ⟨w.heap.size, 0, none⟩) xs.length xs.length) xs.length zs ∧ zs.take (j * 3) = icells (xs.take j) ∧ Below w.heap.size w w') (fun t w' => xs.length - (intOf t).toNat)
    case atStart => exact ⟨0, arr.toList, by omega, rfl, own_made w arr HARR.out (by omega), by simp [icells], (Below.refl _ _).alloc (Nat.le_refl _) _⟩
    case round =>
      obtain ⟨j, zs, hjl, rfl, hOwn, htk, hB⟩ := hrel
      have hzl := hOwn.len
      have HOWN := hide' hOwn
      have HTK := hide' htk
      clear htk
      by_cases hlt : j < xs.length
      · have hlt' : (j : Int) < (xs.length : Int) := by omega
        obtain ⟨y, hy⟩ : ∃ y, xs[j]? = some y := ⟨_, List.getElem?_eq_getElem hlt⟩
        have c0 := bcell hB (HO.out.c0 j y hy)
        have c1 := bcell hB (HO.out.c1 j y hy)
        have c2 := bcell hB (HO.out.c2 j y hy)
        have x22 := HO.out.ix j hlt
        have y22 := fun W => idx22 w.heap.size xs.length xs.length j hlt W
        obtain ⟨u0, hu0⟩ := some_at (l := zs) (j := j * 3) (by omega)
        obtain ⟨u1, hu1⟩ := some_at (l := zs) (j := j * 3 + 1) (by omega)
        obtain ⟨u2, hu2⟩ := some_at (l := zs) (j := j * 3 + 2) (by omega)
        have d0 := hOwn.raw.1 _ _ hu0
        have d1 := hOwn.raw.1 _ _ hu1
        have d2 := hOwn.raw.1 _ _ hu2
        have df := hOwn.raw.2
        have hbl := HO.out.blt hy
        have HY := hide' hy
        have HZL := hide' hzl
        clear hy hu0 hu1 hu2 hOwn hzl
        go_wp2_with fail
        go_roundw
        case rel =>
          refine ⟨j + 1, ((zs.set (j * 3) (.string y.k)).set (j * 3 + 1) (.string y.v)).set (j * 3 + 2) (.int .u64 y.r), by omega, by go_num, ((HOWN.out.put1 _ _).put1 _ _).put1 _ _, ?_, ((hB.setCell (p := ⟨w.heap.size, j * 3, none⟩) (Nat.le_refl _) _).setCell (p := ⟨w.heap.size, j * 3 + 1, none⟩) (Nat.le_refl _) _).setCell (p := ⟨w.heap.size, j * 3 + 2, none⟩) (Nat.le_refl _) _⟩
          rw [take_set3 (by have := HZL.out; omega), HTK.out, List.take_add_one, HY.out]
          simp [icells, It.cells]
        case measure => simp [intOf]; omega
      · obtain rfl : j = xs.length := by omega
        have hd : decide ((xs.length : Int) < (xs.length : Int)) = false := by simp
        have hzs : zs = icells xs := by
          have := HTK.out
          rw [List.take_of_length_le (by omega), List.take_length] at this
          exact this
        rw [hzs] at hOwn
        have HOWN' := hide' hOwn
        clear hOwn hzs
        go_wp2_with fail
        go_ret
        refine ⟨some ⟨w.heap.size, 0, none⟩, xs.length, w.heap.size, rfl, ⟨fun k hk W => ?_, fun k x hx => ?_, fun k x hx => ?_, fun k x hx => ?_, HO.out.r, by unfold maxLen; omega⟩, hB⟩
        · rw [idx22 _ _ _ _ hk, Nat.zero_add]
        · rw [Nat.zero_add]; exact HOWN'.out.raw.1 _ _ (icells_get xs k 0 x hx (by omega))
        · rw [Nat.zero_add]; exact HOWN'.out.raw.1 _ _ (icells_get xs k 1 x hx (by omega))
        · rw [Nat.zero_add]; exact HOWN'.out.raw.1 _ _ (icells_get xs k 2 x hx (by omega))
end Go.Proofs.Qxb6601392a.Bt
