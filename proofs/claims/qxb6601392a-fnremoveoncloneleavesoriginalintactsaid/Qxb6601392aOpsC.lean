import Derived.Test.Qxb6601392aOpsB
import Derived.Deep.CutBlock
namespace Go.Proofs.Qxb6601392a.Bt
open Go.RowKit

set_option maxRecDepth 100000 in
set_option maxHeartbeats 1000000 in
theorem copyModel_any {w : World} {kv ev : Value} {L : List It} (h : Model w kv ev L) (hlen : L.length ≤ 100000) :
    Calls Try.prog 18 #[kv, ev] w fun e w' => ∃ kv' ev', e = .returned (.tuple #[kv', ev']) ∧ Model w' kv' ev' L ∧ Below w.heap.size w w' ∧ ∀ k, (kv'.ownBlock = some k ∨ ev'.ownBlock = some k) → w.heap.size ≤ k := by
  obtain ⟨Ak, ck, rfl, _, _⟩ := h.k.form
  obtain ⟨Ae, ce, rfl, _, _⟩ := h.e.form
  obtain ⟨arr, harr, hmk⟩ := make_own T30 L.length (by omega)
  obtain ⟨arr2, harr2, hmk2⟩ := make_own T31 L.length (by omega)
  have HM := hide' h
  have HARR := hide' harr
  have HARR2 := hide' harr2
  have hlen' : (L.length : Int) ≤ 100000 := by omega
  clear h harr harr2
  go_enter Try.func18, Try.ntmps18
  go_upto_block 0 with fail
  go_cut [8] (fun t wd => Own 9 1 wd (.slice (some ⟨w.heap.size, 0, none⟩) L.length L.length) L.length (kcells L) ∧ Own 64 2 wd (.slice (some ⟨w.heap.size + 1, 0, none⟩) L.length L.length) L.length arr2.toList ∧ Below w.heap.size w wd)
  case first =>
    go_wp2_with fail
    go_loopw [8] (fun t w' => ∃ (j : Nat) (zs : List Value), j ≤ L.length ∧ t = .int .i64 (j : Int) ∧ Own 9 1 w' (.slice (some ⟨w.heap.size, 0, none⟩) L.length L.length) L.length zs ∧ zs.take j = kcells (L.take j) ∧ Own 64 2 w' (.slice (some ⟨w.heap.size + 1, 0, none⟩) L.length L.length) L.length arr2.toList ∧ Below w.heap.size w w') (fun t w' => L.length - (intOf t).toNat)
    case atStart =>
      have o2 := own_made (e := 64) (w.alloc (.cells arr 9)) arr2 HARR2.out (by omega)
      rw [World.size_alloc] at o2
      have o1 := own_made (e := 9) w arr HARR.out (by omega)
      exact ⟨0, arr.toList, by omega, rfl, o1.of_block (fun k hk => Below.heap_alloc _ _ _ (o1.blk k hk)), by simp [kcells], o2, ((Below.refl _ _).alloc (Nat.le_refl _) _).alloc (by simp) _⟩
    case round =>
      obtain ⟨j, zs, hjl, rfl, hOwn, htk, hOwn2, hB⟩ := hrel
      have hzl := hOwn.len
      have HOWN := hide' hOwn
      have HOWN2 := hide' hOwn2
      have HTK := hide' htk
      clear htk hOwn2
      by_cases hlt : j < L.length
      · have hlt' : (j : Int) < (L.length : Int) := by omega
        obtain ⟨y, hy⟩ : ∃ y, L[j]? = some y := ⟨_, List.getElem?_eq_getElem hlt⟩
        obtain ⟨gk, c', hv', k0, _, _, _⟩ := HM.out.k.at hy
        injection hv' with hA1 hA3 hA2
        clear hA3
        subst hA1 hA2
        have c0 := bcell hB k0
        have x30 := fun W => idx30 gk L.length ck j hlt W
        have y30 := fun W => idx30 w.heap.size L.length L.length j hlt W
        obtain ⟨u0, hu0⟩ := some_at (l := zs) (j := j) (by omega)
        have d0 := hOwn.raw.1 _ _ hu0
        have df := hOwn.raw.2
        have hbl := cell_lt k0
        have HY := hide' hy
        have HZL := hide' hzl
        clear hy hu0 hOwn hzl
        go_wp2_with fail
        go_roundw
        case rel =>
          refine ⟨j + 1, zs.set j (.string y.k), by omega, by go_num, HOWN.out.put1 _ _, ?_, HOWN2.out.of_block (fun k hk => Below.heap_setCell _ ⟨w.heap.size, j, none⟩ _ _ (by simp [Value.ownBlock] at hk; show k ≠ w.heap.size; omega)), hB.setCell (p := ⟨w.heap.size, j, none⟩) (Nat.le_refl _) _⟩
          rw [take_set1 (by have := HZL.out; omega), HTK.out, List.take_add_one, HY.out]
          simp [kcells]
        case measure => simp [intOf]; omega
      · obtain rfl : j = L.length := by omega
        have hd : decide ((L.length : Int) < (L.length : Int)) = false := by simp
        have hzs : zs = kcells L := by
          have := HTK.out
          rw [List.take_of_length_le (by omega), List.take_length] at this
          exact this
        rw [hzs] at hOwn
        have HOWN' := hide' hOwn
        clear hOwn hzs
        go_wp2_with fail
        go_meet
        case rel => exact ⟨HOWN'.out, HOWN2.out, hB⟩
  case rest =>
    obtain ⟨hK, hE, hB0⟩ := hcut
    have HK := hide' hK
    have HE := hide' hE
    have HB0 := hide' hB0
    clear hK hE hB0
    go_wp2_with fail
    go_loopw [9] (fun t w' => ∃ (j : Nat) (zs : List Value), j ≤ L.length ∧ t = .int .i64 (j : Int) ∧ Own 64 2 w' (.slice (some ⟨w.heap.size + 1, 0, none⟩) L.length L.length) L.length zs ∧ zs.take (j * 2) = ecells (L.take j) ∧ Own 9 1 w' (.slice (some ⟨w.heap.size, 0, none⟩) L.length L.length) L.length (kcells L) ∧ Below w.heap.size w w') (fun t w' => L.length - (intOf t).toNat)
    case atStart => exact ⟨0, arr2.toList, by omega, rfl, HE.out, by simp [ecells], HK.out, HB0.out⟩
    case round =>
      obtain ⟨j, zs, hjl, rfl, hOwn, htk, hOwn2, hB⟩ := hrel
      have hzl := hOwn.len
      have HOWN := hide' hOwn
      have HOWN2 := hide' hOwn2
      have HTK := hide' htk
      clear htk hOwn2
      by_cases hlt : j < L.length
      · have hlt' : (j : Int) < (L.length : Int) := by omega
        obtain ⟨y, hy⟩ : ∃ y, L[j]? = some y := ⟨_, List.getElem?_eq_getElem hlt⟩
        obtain ⟨ge, c', hv', k0, k1, _, _, _⟩ := HM.out.e.at hy
        injection hv' with hA1 hA3 hA2
        clear hA3
        subst hA1 hA2
        have c0 := bcell hB k0
        have c1 := bcell hB k1
        have x31 := fun W => idx31 ge L.length ce j hlt W
        have y31 := fun W => idx31 (w.heap.size + 1) L.length L.length j hlt W
        obtain ⟨u0, hu0⟩ := some_at (l := zs) (j := j * 2) (by omega)
        obtain ⟨u1, hu1⟩ := some_at (l := zs) (j := j * 2 + 1) (by omega)
        have d0 := hOwn.raw.1 _ _ hu0
        have d1 := hOwn.raw.1 _ _ hu1
        have df := hOwn.raw.2
        have hbl := cell_lt k0
        have HY := hide' hy
        have HZL := hide' hzl
        clear hy hu0 hu1 hOwn hzl
        go_wp2_with fail
        go_roundw
        case rel =>
          refine ⟨j + 1, (zs.set (j * 2) (.string y.v)).set (j * 2 + 1) (.int .u64 y.r), by omega, by go_num, (HOWN.out.put1 _ _).put1 _ _, ?_, HOWN2.out.of_block (fun k hk => ?_), (hB.setCell (p := ⟨w.heap.size + 1, j * 2, none⟩) (by simp) _).setCell (p := ⟨w.heap.size + 1, j * 2 + 1, none⟩) (by simp) _⟩
          · rw [take_set2 (by have := HZL.out; omega), HTK.out, List.take_add_one, HY.out]
            simp [ecells]
          · have hk' : k ≠ w.heap.size + 1 := by simp [Value.ownBlock] at hk; omega
            exact (Below.heap_setCell _ ⟨w.heap.size + 1, _, none⟩ _ _ hk').trans (Below.heap_setCell _ ⟨w.heap.size + 1, _, none⟩ _ _ hk')
        case measure => simp [intOf]; omega
      · obtain rfl : j = L.length := by omega
        have hd : decide ((L.length : Int) < (L.length : Int)) = false := by simp
        have hzs : zs = ecells L := by
          have := HTK.out
          rw [List.take_of_length_le (by omega), List.take_length] at this
          exact this
        rw [hzs] at hOwn
        have HOWN' := hide' hOwn
        clear hOwn hzs
        go_wp2_with fail
        go_ret2
        refine ⟨_, _, rfl, ⟨HOWN2.out, HOWN'.out, fun k hk hk' => ?_⟩, hB, fun k hk => ?_⟩
        · simp [Value.ownBlock] at hk hk'; omega
        · simp [Value.ownBlock] at hk; omega
end Go.Proofs.Qxb6601392a.Bt
