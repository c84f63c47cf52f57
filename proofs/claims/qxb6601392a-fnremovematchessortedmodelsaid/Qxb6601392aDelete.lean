import Derived.Test.Qxb6601392aClone
namespace Go.Proofs.Qxb6601392a.Bt
open Go.RowKit

theorem list_room (cur : List Value) (z i n cap : Nat) (xs : List Value) (hz : 0 < z) (hi : i < n) (hn : n ≤ cap) (hc : cur.length = cap * z) (ht : cur.take (n * z) = xs) (c1 : List Value)
    (hc1 : c1 = putAt cur (i * z) (xs.drop ((i + 1) * z))) (zs : List Value) (hzs : zs.length = 1 * z) :
    (putAt c1 ((n - 1) * z) zs).length = cap * z ∧ (putAt c1 ((n - 1) * z) zs).take ((n - 1) * z) = xs.take (i * z) ++ xs.drop ((i + 1) * z) := by
  have hxl : xs.length = n * z := by rw [← ht, List.length_take, hc]; exact Nat.min_eq_left (Nat.mul_le_mul_right _ hn)
  have e1 : (i + 1) * z = i * z + z := Nat.succ_mul i z
  have e2 : (n - 1) * z + z = n * z := by rw [← Nat.succ_mul]; congr 1; omega
  have e3 : i * z + z ≤ n * z := by rw [← e1]; exact Nat.mul_le_mul_right _ hi
  have e4 : n * z ≤ cap * z := Nat.mul_le_mul_right _ hn
  have hdl : (xs.drop ((i + 1) * z)).length = n * z - (i * z + z) := by rw [List.length_drop, hxl, e1]
  have hc1l : c1.length = cap * z := by rw [hc1, putAt_len _ _ _ (by rw [hdl, hc]; omega), hc]
  refine ⟨by rw [putAt_len _ _ _ (by rw [hzs, hc1l]; omega), hc1l], ?_⟩
  have htk : cur.take (i * z) = xs.take (i * z) := by rw [← ht, List.take_take]; congr 1; omega
  have h5 : (cur.take (i * z)).length = i * z := by rw [List.length_take, hc]; omega
  unfold putAt
  rw [List.append_assoc, List.take_append_of_le_length (by rw [List.length_take, hc1l]; omega), List.take_take, Nat.min_self, hc1]
  unfold putAt
  rw [List.take_append_of_le_length (by rw [List.length_append, h5, hdl]; omega), htk]
  exact List.take_of_length_le (by rw [List.length_append, ← htk, h5, hdl]; omega)


set_option maxRecDepth 100000 in
set_option maxHeartbeats 400000 in
theorem delete59_any (w : World) (v : Value) (n : Nat) (xs : List Value) (h : Own 75 3 w v n xs) (h1 : ∀ u ∈ xs, u.oneCell' = true) (hn : n ≤ 100000) (i : Nat) (hi : i < n) :
    Calls Try.prog 55 #[v, .int .i64 (i : Int), .int .i64 ((i : Int) + 1)] w fun e w' => ∃ v', e = .returned v' ∧ Own 75 3 w' v' (n - 1) (xs.take (i * 3) ++ xs.drop ((i + 1) * 3)) ∧ Keeps (fun k => v.ownBlock = some k) w w' ∧ v'.ownBlock = v.ownBlock ∧ w'.heap.size = w.heap.size := by
  obtain ⟨hl, hc⟩ := h
  rcases hc with ⟨rfl, rfl⟩ | ⟨g, cap, cur, rfl, h0, hg, hnc, hcm, h3, h4⟩
  · omega
  have hi' : (i : Int) < (n : Int) := by omega
  have hn' : (n : Int) ≤ 100000 := by omega
  unfold maxLen at hcm
  have hcm' : (cap : Int) ≤ 9223372036854775807 := by omega
  have hnc' : (n : Int) ≤ (cap : Int) := by omega
  have hdl : (xs.drop ((i + 1) * 3)).length = (n - (i + 1)) * 3 := by rw [List.length_drop, hl, Nat.sub_mul]
  have x1 := fun W => slice_to T59 (some ⟨g, 0, none⟩) n cap i (by omega) W
  have x2 := fun W => slice_from T59 g n cap (i + 1) (by omega) W
  obtain ⟨vd, x0⟩ := slice_lhm T59 (some ⟨g, 0, none⟩) n cap i (i + 1) n (by omega) (by omega) (by omega)
  rw [show ((i + 1 : Nat) : Int) = (i : Int) + 1 by omega] at x2 x0
  have hsrc : ∀ j u, (xs.drop ((i + 1) * 3))[j]? = some u → w.drew.cell? ((⟨g, (if cap = i + 1 then 0 else (i + 1) * 3), none⟩ : Addr).add j) = some u := by
    intro j u hu
    have hlt := (List.getElem?_eq_some_iff.1 hu).1
    have hne : ¬ cap = i + 1 := by intro e; rw [hdl] at hlt; have : n - (i + 1) = 0 := by omega
                                   rw [this] at hlt; omega
    rw [if_neg hne, Addr.add_lit]
    rw [List.getElem?_drop, ← h4] at hu
    have hlt2 := (List.getElem?_eq_some_iff.1 hu).1
    rw [List.getElem?_take_of_lt (by rw [List.length_take] at hlt2; omega)] at hu
    show w.cell? _ = _
    simp only [World.cell?, hg]
    simpa using hu
  obtain ⟨off, hoff⟩ : ∃ off, off = (if cap = i + 1 then 0 else (i + 1) * 3) := ⟨_, rfl⟩
  rw [← hoff] at x2 hsrc
  clear hoff
  have hA := fun ty => append_room_run T59 w.drew g i cap cur hg ⟨g, off, none⟩ (n - (i + 1)) (cap - (i + 1)) (xs.drop ((i + 1) * 3)) hdl hsrc (fun u hu => h1 u (List.mem_of_mem_drop hu)) (by omega) (by rw [hdl, h3]; omega) ty
  obtain ⟨L, hL⟩ : ∃ L, L = i + (n - (i + 1)) := ⟨_, rfl⟩
  have hLn : L = n - 1 := by omega
  simp only [← hL] at hA
  obtain ⟨c1, hc1⟩ : ∃ c1, c1 = putAt cur.toList (i * 3) (xs.drop ((i + 1) * 3)) := ⟨_, rfl⟩
  simp only [← hc1] at hA
  have hc1l : c1.length = cur.size := by rw [hc1, putAt_len _ _ _ (by rw [hdl, Array.length_toList, h3]; omega), Array.length_toList]
  have hg1 : (w.drew.setRow g c1.toArray).heap[g]? = some (.cells c1.toArray 75 (0, 0)) := setRow_heap w.drew g cur _ 75 _ hg
  have x3 := fun W => slice_lh T59 g L cap L n (by omega) (by omega) W
  rw [if_neg (show ¬ cap = L by omega)] at x3
  have hC := fun ty => clear_run T59 (w.drew.setRow g c1.toArray) g (L * 3) (n - L) (cap - L) c1.toArray 75 hg1 (by omega) (by rw [List.size_toArray, hc1l, h3]; omega) ty
  obtain ⟨w2, hw2⟩ : ∃ w2, w2 = (w.drew.setRow g c1.toArray).setRow g (putAt c1 (L * 3) (Builtin.zeroCells (Value.agg #[.string ⟨#[]⟩, .string ⟨#[]⟩, .int .u64 0]).cells (n - L)).toList).toArray := ⟨_, rfl⟩
  simp only [← hw2] at hC
  have HR : Hid (Own 75 3 w2 (.slice (some ⟨g, 0, none⟩) L cap) (n - 1) (xs.take (i * 3) ++ xs.drop ((i + 1) * 3)) ∧ Keeps (fun k => (Value.slice (some ⟨g, 0, none⟩) n cap).ownBlock = some k) w w2 ∧ w2.heap.size = w.heap.size) := by
    have hzl : (Builtin.zeroCells (Value.agg #[.string ⟨#[]⟩, .string ⟨#[]⟩, .int .u64 0]).cells (n - L)).toList.length = 1 * 3 := by rw [zeroCells_len]; show (n - L) * 3 = _; rw [show n - L = 1 by omega]
    have hlr := list_room cur.toList 3 i n cap xs (by omega) hi hnc (by rw [Array.length_toList, h3]) h4 c1 hc1 _ hzl
    rw [← hLn] at hlr
    refine ⟨⟨?_, .inr ⟨g, cap, _, by rw [hLn], Nat.zero_le _, by rw [hw2]; exact setRow_heap _ g _ _ 75 _ hg1, by omega, by unfold maxLen; omega, hlr.1, ?_⟩⟩, ?_, by rw [hw2]; simp⟩
    · rw [List.length_append, List.length_take, hdl, hl]; omega
    · rw [← hLn]; exact hlr.2
    · rw [hw2]
      have k1 : Keeps (fun k => k = g) w (w.drew.setRow g c1.toArray) := (Keeps.refl _ w).drew.trans (keeps_setRow w.drew g _)
      exact Keeps.mono (S' := fun k => (Value.slice (some ⟨g, 0, none⟩) n cap).ownBlock = some k) (k1.trans (keeps_setRow _ g _)) (fun k _ e => by rw [e]; rfl)
  have HL : Hid (L = n - 1) := hLn
  have hLi : (L : Int) < (n : Int) := by omega
  clear hLn hL hc1 hw2 hg1 hc1l h3 h4 hg hsrc hdl
  go_enter Try.func55, Try.ntmps55
  go_wp2_with fail
  go_region_law (refine step_append_run rfl _ _ 59 59 rfl _ _ (by simp [Act.eval, Act.put]) (by simp [Act.eval, Act.put]) (hA _) ?_)
  go_wp2_with (refine wpList_clear_run _ rfl _ 59 rfl _ rfl (hC _) ?_)
  go_ret
  exact ⟨_, rfl, HR.out.1, HR.out.2.1, rfl, HR.out.2.2⟩

set_option maxRecDepth 100000 in
set_option maxHeartbeats 400000 in
theorem delete60_any (w : World) (v : Value) (n : Nat) (xs : List Value) (h : Own 28 1 w v n xs) (h1 : ∀ u ∈ xs, u.oneCell' = true) (hn : n ≤ 100000) (i : Nat) (hi : i < n) :
    Calls Try.prog 56 #[v, .int .i64 (i : Int), .int .i64 ((i : Int) + 1)] w fun e w' => ∃ v', e = .returned v' ∧ Own 28 1 w' v' (n - 1) (xs.take (i * 1) ++ xs.drop ((i + 1) * 1)) ∧ Keeps (fun k => v.ownBlock = some k) w w' ∧ v'.ownBlock = v.ownBlock ∧ w'.heap.size = w.heap.size := by
  obtain ⟨hl, hc⟩ := h
  rcases hc with ⟨rfl, rfl⟩ | ⟨g, cap, cur, rfl, h0, hg, hnc, hcm, h3, h4⟩
  · omega
  have hi' : (i : Int) < (n : Int) := by omega
  have hn' : (n : Int) ≤ 100000 := by omega
  unfold maxLen at hcm
  have hcm' : (cap : Int) ≤ 9223372036854775807 := by omega
  have hnc' : (n : Int) ≤ (cap : Int) := by omega
  have hdl : (xs.drop ((i + 1) * 1)).length = (n - (i + 1)) * 1 := by rw [List.length_drop, hl, Nat.sub_mul]
  have x1 := fun W => slice_to T60 (some ⟨g, 0, none⟩) n cap i (by omega) W
  have x2 := fun W => slice_from T60 g n cap (i + 1) (by omega) W
  obtain ⟨vd, x0⟩ := slice_lhm T60 (some ⟨g, 0, none⟩) n cap i (i + 1) n (by omega) (by omega) (by omega)
  rw [show ((i + 1 : Nat) : Int) = (i : Int) + 1 by omega] at x2 x0
  have hsrc : ∀ j u, (xs.drop ((i + 1) * 1))[j]? = some u → w.drew.cell? ((⟨g, (if cap = i + 1 then 0 else (i + 1) * 1), none⟩ : Addr).add j) = some u := by
    intro j u hu
    have hlt := (List.getElem?_eq_some_iff.1 hu).1
    have hne : ¬ cap = i + 1 := by intro e; rw [hdl] at hlt; have : n - (i + 1) = 0 := by omega
                                   rw [this] at hlt; omega
    rw [if_neg hne, Addr.add_lit]
    rw [List.getElem?_drop, ← h4] at hu
    have hlt2 := (List.getElem?_eq_some_iff.1 hu).1
    rw [List.getElem?_take_of_lt (by rw [List.length_take] at hlt2; omega)] at hu
    show w.cell? _ = _
    simp only [World.cell?, hg]
    simpa using hu
  obtain ⟨off, hoff⟩ : ∃ off, off = (if cap = i + 1 then 0 else (i + 1) * 1) := ⟨_, rfl⟩
  rw [← hoff] at x2 hsrc
  clear hoff
  have hA := fun ty => append_room_run T60 w.drew g i cap cur hg ⟨g, off, none⟩ (n - (i + 1)) (cap - (i + 1)) (xs.drop ((i + 1) * 1)) hdl hsrc (fun u hu => h1 u (List.mem_of_mem_drop hu)) (by omega) (by rw [hdl, h3]; omega) ty
  obtain ⟨L, hL⟩ : ∃ L, L = i + (n - (i + 1)) := ⟨_, rfl⟩
  have hLn : L = n - 1 := by omega
  simp only [← hL] at hA
  obtain ⟨c1, hc1⟩ : ∃ c1, c1 = putAt cur.toList (i * 1) (xs.drop ((i + 1) * 1)) := ⟨_, rfl⟩
  simp only [← hc1] at hA
  have hc1l : c1.length = cur.size := by rw [hc1, putAt_len _ _ _ (by rw [hdl, Array.length_toList, h3]; omega), Array.length_toList]
  have hg1 : (w.drew.setRow g c1.toArray).heap[g]? = some (.cells c1.toArray 28 (0, 0)) := setRow_heap w.drew g cur _ 28 _ hg
  have x3 := fun W => slice_lh T60 g L cap L n (by omega) (by omega) W
  rw [if_neg (show ¬ cap = L by omega)] at x3
  have hC := fun ty => clear_run T60 (w.drew.setRow g c1.toArray) g (L * 1) (n - L) (cap - L) c1.toArray 28 hg1 (by omega) (by rw [List.size_toArray, hc1l, h3]; omega) ty
  obtain ⟨w2, hw2⟩ : ∃ w2, w2 = (w.drew.setRow g c1.toArray).setRow g (putAt c1 (L * 1) (Builtin.zeroCells (Value.pointer none).cells (n - L)).toList).toArray := ⟨_, rfl⟩
  simp only [← hw2] at hC
  have HR : Hid (Own 28 1 w2 (.slice (some ⟨g, 0, none⟩) L cap) (n - 1) (xs.take (i * 1) ++ xs.drop ((i + 1) * 1)) ∧ Keeps (fun k => (Value.slice (some ⟨g, 0, none⟩) n cap).ownBlock = some k) w w2 ∧ w2.heap.size = w.heap.size) := by
    have hzl : (Builtin.zeroCells (Value.pointer none).cells (n - L)).toList.length = 1 * 1 := by rw [zeroCells_len]; show (n - L) * 1 = _; rw [show n - L = 1 by omega]
    have hlr := list_room cur.toList 1 i n cap xs (by omega) hi hnc (by rw [Array.length_toList, h3]) h4 c1 hc1 _ hzl
    rw [← hLn] at hlr
    refine ⟨⟨?_, .inr ⟨g, cap, _, by rw [hLn], Nat.zero_le _, by rw [hw2]; exact setRow_heap _ g _ _ 28 _ hg1, by omega, by unfold maxLen; omega, hlr.1, ?_⟩⟩, ?_, by rw [hw2]; simp⟩
    · rw [List.length_append, List.length_take, hdl, hl]; omega
    · rw [← hLn]; exact hlr.2
    · rw [hw2]
      have k1 : Keeps (fun k => k = g) w (w.drew.setRow g c1.toArray) := (Keeps.refl _ w).drew.trans (keeps_setRow w.drew g _)
      exact Keeps.mono (S' := fun k => (Value.slice (some ⟨g, 0, none⟩) n cap).ownBlock = some k) (k1.trans (keeps_setRow _ g _)) (fun k _ e => by rw [e]; rfl)
  have HL : Hid (L = n - 1) := hLn
  have hLi : (L : Int) < (n : Int) := by omega
  clear hLn hL hc1 hw2 hg1 hc1l h3 h4 hg hsrc hdl
  simp only [Nat.mul_one] at x3 hC
  go_enter Try.func56, Try.ntmps56
  go_wp2_with fail
  go_region_law (refine step_append_run rfl _ _ 60 60 rfl _ _ (by simp [Act.eval, Act.put]) (by simp [Act.eval, Act.put]) (hA _) ?_)
  go_wp2_with (refine wpList_clear_run _ rfl _ 60 rfl _ rfl (hC _) ?_)
  go_ret
  exact ⟨_, rfl, HR.out.1, HR.out.2.1, rfl, HR.out.2.2⟩
end Go.Proofs.Qxb6601392a.Bt
