import Derived.Test.Qxb6601392aDelete
namespace Go.Proofs.Qxb6601392a.Bt
open Go.RowKit

theorem putAt_take (cur : List Value) (o : Nat) (vs : List Value) (h : o + vs.length ≤ cur.length) (m : Nat) (hm : m ≤ o) : (putAt cur o vs).take m = cur.take m := by
  unfold putAt
  rw [List.append_assoc, List.take_append_of_le_length (by rw [List.length_take]; omega), List.take_take, Nat.min_eq_left hm]
theorem putAt_get (cur : List Value) (o : Nat) (vs : List Value) (h : o + vs.length ≤ cur.length) (j : Nat) : (putAt cur o vs)[j]? = if j < o then cur[j]? else if j < o + vs.length then vs[j - o]? else cur[j]? := by
  unfold putAt
  have hl : (cur.take o).length = o := by rw [List.length_take]; omega
  by_cases h1 : j < o
  · rw [if_pos h1, List.append_assoc, List.getElem?_append_left (by omega), List.getElem?_take_of_lt h1]
  · rw [if_neg h1]
    by_cases h2 : j < o + vs.length
    · rw [if_pos h2, List.append_assoc, List.getElem?_append_right (by omega), hl, List.getElem?_append_left (by omega)]
    · rw [if_neg h2, List.getElem?_append_right (by rw [List.length_append, hl]; omega), List.length_append, hl, List.getElem?_drop]
      congr 1; omega

/-- the two copies of an insertion in place -/
theorem list_shift (cur : List Value) (z i n cap : Nat) (xs ys : List Value) (hi : i < n) (hn : n + 1 ≤ cap) (hc : cur.length = cap * z) (ht : cur.take (n * z) = xs) (hy : ys.length = z) (c1 : List Value)
    (hc1 : c1 = putAt cur ((i + 1) * z) (xs.drop (i * z))) :
    c1.length = cap * z ∧ (putAt c1 (i * z) ys).length = cap * z ∧ (putAt c1 (i * z) ys).take ((n + 1) * z) = xs.take (i * z) ++ ys ++ xs.drop (i * z) := by
  have hxl : xs.length = n * z := by rw [← ht, List.length_take, hc]; exact Nat.min_eq_left (Nat.mul_le_mul_right _ (by omega))
  have e1 : (i + 1) * z = i * z + z := Nat.succ_mul i z
  have e2 : (n + 1) * z = n * z + z := Nat.succ_mul n z
  have e3 : i * z + z ≤ n * z := by rw [← e1]; exact Nat.mul_le_mul_right _ hi
  have e4 : n * z + z ≤ cap * z := by rw [← e2]; exact Nat.mul_le_mul_right _ hn
  have hdl : (xs.drop (i * z)).length = n * z - i * z := by rw [List.length_drop, hxl]
  have hb1 : (i + 1) * z + (xs.drop (i * z)).length ≤ cur.length := by rw [hdl, hc]; omega
  have hc1l : c1.length = cap * z := by rw [hc1, putAt_len _ _ _ hb1, hc]
  have hb2 : i * z + ys.length ≤ c1.length := by rw [hy, hc1l]; omega
  refine ⟨hc1l, by rw [putAt_len _ _ _ hb2, hc1l], ?_⟩
  apply List.ext_getElem?
  intro j
  have hti : (xs.take (i * z)).length = i * z := by rw [List.length_take, hxl]; omega
  by_cases hj : j < (n + 1) * z
  · rw [List.getElem?_take_of_lt hj, putAt_get _ _ _ hb2]
    by_cases h1 : j < i * z
    · rw [if_pos h1, hc1, putAt_get _ _ _ hb1, if_pos (by omega), List.append_assoc, List.getElem?_append_left (by omega), List.getElem?_take_of_lt h1, ← ht, List.getElem?_take_of_lt (by omega)]
    · rw [if_neg h1]
      by_cases h2 : j < i * z + ys.length
      · rw [if_pos h2, List.append_assoc, List.getElem?_append_right (by omega), hti, List.getElem?_append_left (by omega)]
      · rw [if_neg h2, hc1, putAt_get _ _ _ hb1, if_neg (by omega), if_pos (by rw [hdl]; omega), List.getElem?_append_right (by rw [List.length_append, hti]; omega), List.length_append, hti, hy]
        congr 1; omega
  · rw [List.getElem?_eq_none (by rw [List.length_take]; omega), List.getElem?_eq_none (by rw [List.length_append, List.length_append, hti, hy, hdl]; omega)]

/-- the two copies of an insertion into a new row -/
theorem list_grow (cur : List Value) (z i n cap : Nat) (xs ys : List Value) (hi : i < n) (hn : n + 1 ≤ cap) (hc : cur.length = cap * z) (ht : cur.take (i * z) = xs.take (i * z)) (hxl : xs.length = n * z) (hy : ys.length = z) (c1 : List Value)
    (hc1 : c1 = putAt cur (i * z) ys) :
    c1.length = cap * z ∧ (putAt c1 ((i + 1) * z) (xs.drop (i * z))).length = cap * z ∧ (putAt c1 ((i + 1) * z) (xs.drop (i * z))).take ((n + 1) * z) = xs.take (i * z) ++ ys ++ xs.drop (i * z) := by
  have e1 : (i + 1) * z = i * z + z := Nat.succ_mul i z
  have e2 : (n + 1) * z = n * z + z := Nat.succ_mul n z
  have e3 : i * z + z ≤ n * z := by rw [← e1]; exact Nat.mul_le_mul_right _ hi
  have e4 : n * z + z ≤ cap * z := by rw [← e2]; exact Nat.mul_le_mul_right _ hn
  have hdl : (xs.drop (i * z)).length = n * z - i * z := by rw [List.length_drop, hxl]
  have hb1 : i * z + ys.length ≤ cur.length := by rw [hy, hc]; omega
  have hc1l : c1.length = cap * z := by rw [hc1, putAt_len _ _ _ hb1, hc]
  have hb2 : (i + 1) * z + (xs.drop (i * z)).length ≤ c1.length := by rw [hdl, hc1l]; omega
  refine ⟨hc1l, by rw [putAt_len _ _ _ hb2, hc1l], ?_⟩
  apply List.ext_getElem?
  intro j
  have hti : (xs.take (i * z)).length = i * z := by rw [List.length_take, hxl]; omega
  by_cases hj : j < (n + 1) * z
  · rw [List.getElem?_take_of_lt hj, putAt_get _ _ _ hb2]
    by_cases h1 : j < i * z
    · rw [if_pos (by omega), hc1, putAt_get _ _ _ hb1, if_pos h1, List.append_assoc, List.getElem?_append_left (by omega), ← ht, List.getElem?_take_of_lt h1]
    · by_cases h2 : j < i * z + ys.length
      · rw [if_pos (by omega), hc1, putAt_get _ _ _ hb1, if_neg h1, if_pos h2, List.append_assoc, List.getElem?_append_right (by omega), hti, List.getElem?_append_left (by omega)]
      · rw [if_neg (by omega), if_pos (by rw [hdl]; omega), List.getElem?_append_right (by rw [List.length_append, hti]; omega), List.length_append, hti, hy]
        congr 1; omega
  · rw [List.getElem?_eq_none (by rw [List.length_take]; omega), List.getElem?_eq_none (by rw [List.length_append, List.length_append, hti, hy, hdl]; omega)]

/-- a block of one element, apart from what is inserted into -/
structure One (e : TypeId) (z : Nat) (w : World) (vb : Nat) (ys : List Value) : Prop where
  blk : w.heap[vb]? = some (.cells ys.toArray e (0, 0))
  len : ys.length = z
  one : ∀ u ∈ ys, u.oneCell' = true
theorem One.cells {e : TypeId} {z : Nat} {w : World} {vb : Nat} {ys : List Value} (h : One e z w vb ys) : ∀ j u, ys[j]? = some u → w.cell? ((⟨vb, 0, none⟩ : Addr).add j) = some u := by
  intro j u hu
  rw [Addr.add_lit]
  simp only [World.cell?, h.blk]
  simpa using hu
theorem One.of_block {e : TypeId} {z : Nat} {w w' : World} {vb : Nat} {ys : List Value} (h : One e z w vb ys) (hb : w'.heap[vb]? = w.heap[vb]?) : One e z w' vb ys := ⟨hb.trans h.blk, h.len, h.one⟩


theorem sliceNil59 (W : World) : (Instr.slice 59 (.slice none 0 0) (some (.int .i64 0)) none none).run Try.prog W = .ok (.slice none 0 0) W := by kernel_rfl

set_option maxRecDepth 100000 in
set_option maxHeartbeats 400000 in
theorem insert59_end (w : World) (v : Value) (n : Nat) (xs : List Value) (h : Own 75 3 w v n xs) (hn : n ≤ 100000) (vb : Nat) (ys : List Value) (hy : One 75 3 w vb ys) :
    Calls Try.prog 60 #[v, .int .i64 (n : Int), .slice (some ⟨vb, 0, none⟩) 1 1] w fun e w' => ∃ v', e = .returned v' ∧ Own 75 3 w' v' (n + 1) (xs ++ ys) ∧ Keeps (fun k => v.ownBlock = some k) w w' ∧ (v'.ownBlock = v.ownBlock ∨ v'.ownBlock = some w.heap.size) := by
  obtain ⟨v', w', hA, r2, r3, r4⟩ := append_own T59 w h ⟨vb, 0, none⟩ 1 1 ys (by simp [hy.len]) hy.cells hy.one (by omega) 59
  have HR : Hid (Own 75 3 w' v' (n + 1) (xs ++ ys) ∧ Keeps (fun k => v.ownBlock = some k) w w' ∧ (v'.ownBlock = v.ownBlock ∨ v'.ownBlock = some w.heap.size)) := ⟨r2, r3, r4⟩
  clear r2 r3 r4
  have hn' : (n : Int) ≤ 100000 := by omega
  obtain ⟨hl, hc⟩ := h
  rcases hc with ⟨rfl, rfl⟩ | ⟨g, cap, cur, rfl, h0, hg, hnc, hcm, h3, h4⟩
  · have x0 := sliceNil59
    go_enter Try.func60, Try.ntmps60
    go_wp2_with (at_builtin; refine wpList_append_run _ rfl _ _ 59 59 rfl _ _ rfl rfl hA ?_)
    go_ret
    exact ⟨_, rfl, HR.out⟩
  · have x0 := fun W => slice_from T59 g n cap n (Nat.le_refl _) W
    obtain ⟨off, hoff⟩ : ∃ off, off = (if cap = n then 0 else n * 3) := ⟨_, rfl⟩
    rw [← hoff] at x0
    clear hoff h3 h4 hg hl
    have hnn : ((n : Int) == (n : Int)) = true := by simp
    go_enter Try.func60, Try.ntmps60
    go_wp2_with (at_builtin; refine wpList_append_run _ rfl _ _ 59 59 rfl _ _ rfl rfl hA ?_)
    go_ret
    exact ⟨_, rfl, HR.out⟩

theorem sliceNil60 (W : World) : (Instr.slice 60 (.slice none 0 0) (some (.int .i64 0)) none none).run Try.prog W = .ok (.slice none 0 0) W := by kernel_rfl

set_option maxRecDepth 100000 in
set_option maxHeartbeats 400000 in
theorem insert60_end (w : World) (v : Value) (n : Nat) (xs : List Value) (h : Own 28 1 w v n xs) (hn : n ≤ 100000) (vb : Nat) (ys : List Value) (hy : One 28 1 w vb ys) :
    Calls Try.prog 61 #[v, .int .i64 (n : Int), .slice (some ⟨vb, 0, none⟩) 1 1] w fun e w' => ∃ v', e = .returned v' ∧ Own 28 1 w' v' (n + 1) (xs ++ ys) ∧ Keeps (fun k => v.ownBlock = some k) w w' ∧ (v'.ownBlock = v.ownBlock ∨ v'.ownBlock = some w.heap.size) := by
  obtain ⟨v', w', hA, r2, r3, r4⟩ := append_own T60 w h ⟨vb, 0, none⟩ 1 1 ys (by simp [hy.len]) hy.cells hy.one (by omega) 60
  have HR : Hid (Own 28 1 w' v' (n + 1) (xs ++ ys) ∧ Keeps (fun k => v.ownBlock = some k) w w' ∧ (v'.ownBlock = v.ownBlock ∨ v'.ownBlock = some w.heap.size)) := ⟨r2, r3, r4⟩
  clear r2 r3 r4
  have hn' : (n : Int) ≤ 100000 := by omega
  obtain ⟨hl, hc⟩ := h
  rcases hc with ⟨rfl, rfl⟩ | ⟨g, cap, cur, rfl, h0, hg, hnc, hcm, h3, h4⟩
  · have x0 := sliceNil60
    go_enter Try.func61, Try.ntmps61
    go_wp2_with (at_builtin; refine wpList_append_run _ rfl _ _ 60 60 rfl _ _ rfl rfl hA ?_)
    go_ret
    exact ⟨_, rfl, HR.out⟩
  · have x0 := fun W => slice_from T60 g n cap n (Nat.le_refl _) W
    obtain ⟨off, hoff⟩ : ∃ off, off = (if cap = n then 0 else n * 1) := ⟨_, rfl⟩
    rw [← hoff] at x0
    clear hoff h3 h4 hg hl
    have hnn : ((n : Int) == (n : Int)) = true := by simp
    go_enter Try.func61, Try.ntmps61
    go_wp2_with (at_builtin; refine wpList_append_run _ rfl _ _ 60 60 rfl _ _ rfl rfl hA ?_)
    go_ret
    exact ⟨_, rfl, HR.out⟩


set_option maxRecDepth 100000 in
set_option maxHeartbeats 400000 in
theorem insert59_shift (w : World) (g n cap : Nat) (xs : List Value) (h : Own 75 3 w (.slice (some ⟨g, 0, none⟩) n cap) n xs) (h1 : ∀ u ∈ xs, u.oneCell' = true) (hn : n ≤ 100000) (vb : Nat) (ys : List Value) (hy : One 75 3 w vb ys) (hvb : vb ≠ g) (i : Nat) (hi : i < n) (hroom : n + 1 ≤ cap) :
    Calls Try.prog 60 #[.slice (some ⟨g, 0, none⟩) n cap, .int .i64 (i : Int), .slice (some ⟨vb, 0, none⟩) 1 1] w fun e w' => ∃ v', e = .returned v' ∧ Own 75 3 w' v' (n + 1) (xs.take (i * 3) ++ ys ++ xs.drop (i * 3)) ∧ Keeps (fun k => k = g) w w' ∧ v'.ownBlock = some g := by
  obtain ⟨hl, hc⟩ := h
  rcases hc with ⟨e, _⟩ | ⟨g', cap', cur, e, h0, hg, hnc, hcm, h3, h4⟩
  · cases e
  cases e
  have hlt : g < w.heap.size := (Array.getElem?_eq_some_iff.1 hg).1
  unfold maxLen at hcm
  have hcm' : (cap : Int) ≤ 9223372036854775807 := by omega
  have hn' : (n : Int) ≤ 100000 := by omega
  have hi' : (i : Int) < (n : Int) := by omega
  have hroom' : (n : Int) + 1 ≤ (cap : Int) := by omega
  have hnb : ((i : Int) == (n : Int)) = false := by simp; omega
  have hdl : (xs.drop (i * 3)).length = (n - i) * 3 := by rw [List.length_drop, hl, Nat.sub_mul]
  have x0 := fun W => slice_from T59 g n cap i (by omega) W
  have x1 := fun W => slice_to T59 (some ⟨g, 0, none⟩) n cap (n + 1) hroom W
  have x2 := fun W => slice_from T59 g (n + 1) cap (i + 1) (by omega) W
  have x3 := fun W => slice_from T59 g (n + 1) cap i (by omega) W
  rw [show ((n + 1 : Nat) : Int) = (n : Int) + 1 by omega] at x1
  rw [show ((i + 1 : Nat) : Int) = (i : Int) + 1 by omega, if_neg (show ¬ cap = i + 1 by omega)] at x2
  rw [if_neg (show ¬ cap = i by omega)] at x3 x0
  have hov : ∀ lb cb, (callFunc 65 #[.slice (some ⟨vb, 0, none⟩) 1 1, .slice (some ⟨g, (i + 1) * 3, none⟩) lb cb]).run Try.prog w = .ok (.value (.bool false)) w := fun lb cb => by
    rw [run_callFunc_extern Try.func65 (by kernel_rfl) (by kernel_rfl) (by kernel_rfl) (e := Extern.SlicesOverlaps.overlaps #[59, 59] #[4]) (by kernel_rfl),
      Lib.run_overlaps_apart w 59 4 75 Try.underlying59 3 T59.hs ⟨vb, 0, none⟩ ⟨g, (i + 1) * 3, none⟩ 1 1 lb cb hvb 75 75 ys.length cur.size (by simp [World.shape?, hy.blk]) (by simp [World.shape?, hg]) (by omega) (by simp [World.frozen?, hy.blk]) (by simp [World.frozen?, hy.blk])]
    rfl
  have hsrc : ∀ j u, (xs.drop (i * 3))[j]? = some u → w.drew.cell? ((⟨g, i * 3, none⟩ : Addr).add j) = some u := by
    intro j u hu
    rw [Addr.add_lit]
    rw [List.getElem?_drop, ← h4] at hu
    have hlt2 := (List.getElem?_eq_some_iff.1 hu).1
    rw [List.getElem?_take_of_lt (by rw [List.length_take] at hlt2; omega)] at hu
    show w.cell? _ = _
    simp only [World.cell?, hg]
    simpa using hu
  obtain ⟨c1, hc1⟩ : ∃ c1, c1 = putAt cur.toList ((i + 1) * 3) (xs.drop (i * 3)) := ⟨_, rfl⟩
  have hls := list_shift cur.toList 3 i n cap xs ys hi hroom (by rw [Array.length_toList, h3]) h4 hy.len c1 hc1
  have hC1 := fun ty => copy_run T59 w.drew g ((i + 1) * 3) (n - i) (cap - (i + 1)) ⟨g, i * 3, none⟩ (n + 1 - i) (cap - i) cur 75 (xs.drop (i * 3)) hg (by rw [hdl]; congr 1; simp only [Nat.min_def]; split <;> omega) hsrc (by rw [hdl, h3]; omega) (fun u hu => h1 u (List.mem_of_mem_drop hu)) ty
  simp only [← hc1] at hC1
  obtain ⟨w1, hw1⟩ : ∃ w1, w1 = w.drew.setRow g c1.toArray := ⟨_, rfl⟩
  simp only [← hw1] at hC1
  have hg1 : w1.heap[g]? = some (.cells c1.toArray 75 (0, 0)) := by rw [hw1]; exact setRow_heap w.drew g cur _ 75 _ hg
  have k1 : Keeps (fun k => k = g) w w1 := by rw [hw1]; exact (Keeps.refl _ w).drew.trans (keeps_setRow w.drew g _)
  have hy1 : One 75 3 w1 vb ys := hy.of_block (k1.block vb (Array.getElem?_eq_some_iff.1 hy.blk).1 hvb)
  have hC2 := fun ty => copy_run T59 w1 g (i * 3) (n + 1 - i) (cap - i) ⟨vb, 0, none⟩ 1 1 c1.toArray 75 ys hg1 (by rw [hy.len]; simp only [Nat.min_def]; split <;> omega) hy1.cells (by rw [hy.len, List.size_toArray, hls.1]; omega) hy.one ty
  obtain ⟨w2, hw2⟩ : ∃ w2, w2 = w1.setRow g (putAt c1 (i * 3) ys).toArray := ⟨_, rfl⟩
  simp only [← hw2] at hC2
  have HR : Hid (Own 75 3 w2 (.slice (some ⟨g, 0, none⟩) (n + 1) cap) (n + 1) (xs.take (i * 3) ++ ys ++ xs.drop (i * 3)) ∧ Keeps (fun k => k = g) w w2) := by
    refine ⟨⟨?_, .inr ⟨g, cap, _, rfl, Nat.zero_le _, by rw [hw2]; exact setRow_heap _ g _ _ 75 _ hg1, hroom, by unfold maxLen; omega, hls.2.1, hls.2.2⟩⟩, ?_⟩
    · rw [List.length_append, List.length_append, List.length_take, hdl, hy.len, hl]; omega
    · rw [hw2]; exact k1.trans (keeps_setRow _ g _)
  clear hw1 hw2 hls hc1 k1 hy1 hg1 hsrc hdl h3 h4 hg hl hy
  go_enter Try.func60, Try.ntmps60
  have hwr : IntKind.i64.wrap ((i : Int) + 1) = (i : Int) + 1 := by rw [IntKind.wrap_i64]; omega
  go_wp2_with (simp only [hov])
  go_region_law (refine step_copy_run rfl _ _ 59 59 rfl _ _ (by simp [Act.eval, Act.put]) (by simp [Act.eval, Act.put]) (hC1 _) ?_)
  go_wp2_with (refine wpList_copy_run _ rfl _ _ 59 59 rfl _ _ rfl rfl (hC2 _) ?_)
  go_ret
  exact ⟨_, rfl, HR.out.1, HR.out.2, rfl⟩

set_option maxRecDepth 100000 in
set_option maxHeartbeats 400000 in
theorem insert60_shift (w : World) (g n cap : Nat) (xs : List Value) (h : Own 28 1 w (.slice (some ⟨g, 0, none⟩) n cap) n xs) (h1 : ∀ u ∈ xs, u.oneCell' = true) (hn : n ≤ 100000) (vb : Nat) (ys : List Value) (hy : One 28 1 w vb ys) (hvb : vb ≠ g) (i : Nat) (hi : i < n) (hroom : n + 1 ≤ cap) :
    Calls Try.prog 61 #[.slice (some ⟨g, 0, none⟩) n cap, .int .i64 (i : Int), .slice (some ⟨vb, 0, none⟩) 1 1] w fun e w' => ∃ v', e = .returned v' ∧ Own 28 1 w' v' (n + 1) (xs.take (i * 1) ++ ys ++ xs.drop (i * 1)) ∧ Keeps (fun k => k = g) w w' ∧ v'.ownBlock = some g := by
  obtain ⟨hl, hc⟩ := h
  rcases hc with ⟨e, _⟩ | ⟨g', cap', cur, e, h0, hg, hnc, hcm, h3, h4⟩
  · cases e
  cases e
  have hlt : g < w.heap.size := (Array.getElem?_eq_some_iff.1 hg).1
  unfold maxLen at hcm
  have hcm' : (cap : Int) ≤ 9223372036854775807 := by omega
  have hn' : (n : Int) ≤ 100000 := by omega
  have hi' : (i : Int) < (n : Int) := by omega
  have hroom' : (n : Int) + 1 ≤ (cap : Int) := by omega
  have hnb : ((i : Int) == (n : Int)) = false := by simp; omega
  have hdl : (xs.drop (i * 1)).length = (n - i) * 1 := by rw [List.length_drop, hl, Nat.sub_mul]
  have x0 := fun W => slice_from T60 g n cap i (by omega) W
  have x1 := fun W => slice_to T60 (some ⟨g, 0, none⟩) n cap (n + 1) hroom W
  have x2 := fun W => slice_from T60 g (n + 1) cap (i + 1) (by omega) W
  have x3 := fun W => slice_from T60 g (n + 1) cap i (by omega) W
  rw [show ((n + 1 : Nat) : Int) = (n : Int) + 1 by omega] at x1
  rw [show ((i + 1 : Nat) : Int) = (i : Int) + 1 by omega, if_neg (show ¬ cap = i + 1 by omega)] at x2
  rw [if_neg (show ¬ cap = i by omega)] at x3 x0
  have hov : ∀ lb cb, (callFunc 67 #[.slice (some ⟨vb, 0, none⟩) 1 1, .slice (some ⟨g, (i + 1) * 1, none⟩) lb cb]).run Try.prog w = .ok (.value (.bool false)) w := fun lb cb => by
    rw [run_callFunc_extern Try.func67 (by kernel_rfl) (by kernel_rfl) (by kernel_rfl) (e := Extern.SlicesOverlaps.overlaps #[60, 60] #[4]) (by kernel_rfl),
      Lib.run_overlaps_apart w 60 4 28 Try.underlying60 1 T60.hs ⟨vb, 0, none⟩ ⟨g, (i + 1) * 1, none⟩ 1 1 lb cb hvb 28 28 ys.length cur.size (by simp [World.shape?, hy.blk]) (by simp [World.shape?, hg]) (by omega) (by simp [World.frozen?, hy.blk]) (by simp [World.frozen?, hy.blk])]
    rfl
  have hsrc : ∀ j u, (xs.drop (i * 1))[j]? = some u → w.drew.cell? ((⟨g, i * 1, none⟩ : Addr).add j) = some u := by
    intro j u hu
    rw [Addr.add_lit]
    rw [List.getElem?_drop, ← h4] at hu
    have hlt2 := (List.getElem?_eq_some_iff.1 hu).1
    rw [List.getElem?_take_of_lt (by rw [List.length_take] at hlt2; omega)] at hu
    show w.cell? _ = _
    simp only [World.cell?, hg]
    simpa using hu
  obtain ⟨c1, hc1⟩ : ∃ c1, c1 = putAt cur.toList ((i + 1) * 1) (xs.drop (i * 1)) := ⟨_, rfl⟩
  have hls := list_shift cur.toList 1 i n cap xs ys hi hroom (by rw [Array.length_toList, h3]) h4 hy.len c1 hc1
  have hC1 := fun ty => copy_run T60 w.drew g ((i + 1) * 1) (n - i) (cap - (i + 1)) ⟨g, i * 1, none⟩ (n + 1 - i) (cap - i) cur 28 (xs.drop (i * 1)) hg (by rw [hdl]; congr 1; simp only [Nat.min_def]; split <;> omega) hsrc (by rw [hdl, h3]; omega) (fun u hu => h1 u (List.mem_of_mem_drop hu)) ty
  simp only [← hc1] at hC1
  obtain ⟨w1, hw1⟩ : ∃ w1, w1 = w.drew.setRow g c1.toArray := ⟨_, rfl⟩
  simp only [← hw1] at hC1
  have hg1 : w1.heap[g]? = some (.cells c1.toArray 28 (0, 0)) := by rw [hw1]; exact setRow_heap w.drew g cur _ 28 _ hg
  have k1 : Keeps (fun k => k = g) w w1 := by rw [hw1]; exact (Keeps.refl _ w).drew.trans (keeps_setRow w.drew g _)
  have hy1 : One 28 1 w1 vb ys := hy.of_block (k1.block vb (Array.getElem?_eq_some_iff.1 hy.blk).1 hvb)
  have hC2 := fun ty => copy_run T60 w1 g (i * 1) (n + 1 - i) (cap - i) ⟨vb, 0, none⟩ 1 1 c1.toArray 28 ys hg1 (by rw [hy.len]; simp only [Nat.min_def]; split <;> omega) hy1.cells (by rw [hy.len, List.size_toArray, hls.1]; omega) hy.one ty
  obtain ⟨w2, hw2⟩ : ∃ w2, w2 = w1.setRow g (putAt c1 (i * 1) ys).toArray := ⟨_, rfl⟩
  simp only [← hw2] at hC2
  have HR : Hid (Own 28 1 w2 (.slice (some ⟨g, 0, none⟩) (n + 1) cap) (n + 1) (xs.take (i * 1) ++ ys ++ xs.drop (i * 1)) ∧ Keeps (fun k => k = g) w w2) := by
    refine ⟨⟨?_, .inr ⟨g, cap, _, rfl, Nat.zero_le _, by rw [hw2]; exact setRow_heap _ g _ _ 28 _ hg1, hroom, by unfold maxLen; omega, hls.2.1, hls.2.2⟩⟩, ?_⟩
    · rw [List.length_append, List.length_append, List.length_take, hdl, hy.len, hl]; omega
    · rw [hw2]; exact k1.trans (keeps_setRow _ g _)
  simp only [Nat.mul_one] at x0 x1 x2 x3 hov hC1 hC2
  clear hw1 hw2 hls hc1 k1 hy1 hg1 hsrc hdl h3 h4 hg hl hy
  go_enter Try.func61, Try.ntmps61
  have hwr : IntKind.i64.wrap ((i : Int) + 1) = (i : Int) + 1 := by rw [IntKind.wrap_i64]; omega
  go_wp2_with (simp only [hov])
  go_region_law (refine step_copy_run rfl _ _ 60 60 rfl _ _ (by simp [Act.eval, Act.put]) (by simp [Act.eval, Act.put]) (hC1 _) ?_)
  go_wp2_with (refine wpList_copy_run _ rfl _ _ 60 60 rfl _ _ rfl rfl (hC2 _) ?_)
  go_ret
  exact ⟨_, rfl, HR.out.1, HR.out.2, rfl⟩
end Go.Proofs.Qxb6601392a.Bt
