import Derived.Test.Qxb6601392aInsert
namespace Go.Proofs.Qxb6601392a.Bt
open Go.RowKit

set_option maxRecDepth 100000 in
/-- 'append(s[:i], make(S, k)...)' where there is no room: a new row -/
theorem append_zeros_run {t e : TypeId} {z : Nat} {zero : Value} (T : STy t e z zero) (w : World) (g i n cap : Nat) (xs : List Value) (h : Own e z w (.slice (some ⟨g, 0, none⟩) n cap) n xs) (hi : i < n) (hn : n ≤ 100000) (hcap : cap < n + 1) (ty : TypeId) :
    ∃ cap2 cur2 w1, (Builtin.append_ #[t, 3] ty #[.slice (some ⟨g, 0, none⟩) i cap, .int .i64 ((n : Int) + 1 - (i : Int))]).run Try.prog w = .ok (.slice (some ⟨w.heap.size, 0, none⟩) (n + 1) cap2) w1 ∧
      w1.heap[w.heap.size]? = some (.cells cur2 e (0, 0)) ∧ cur2.size = cap2 * z ∧ cur2.toList.take (i * z) = xs.take (i * z) ∧ n + 1 ≤ cap2 ∧ cap2 ≤ maxLen ∧ Keeps (fun _ => False) w w1 := by
  obtain ⟨bytes, hinf, hb⟩ := T.hi
  obtain ⟨inf, hinf, h0, hsz, hby⟩ := info_parts hinf
  have hcl := h.cells (g := g) rfl
  obtain ⟨hl, _⟩ := h
  have hti : (xs.take (i * z)).length = i * z := by
    rw [List.length_take, hl]; exact Nat.min_eq_left (Nat.mul_le_mul_right _ (by omega))
  have hold : (Builtin.firstCells inf.size i (.slice (some ⟨g, 0, none⟩) i cap)).run Try.prog w.drew = .ok (xs.take (i * z)).toArray w.drew :=
    run_firstCells_some w.drew inf.size i ⟨g, 0, none⟩ i cap (xs.take (i * z)) (by rw [hsz, hti]) (fun j u hu => by
      have hlt := (List.getElem?_eq_some_iff.1 hu).1
      rw [List.getElem?_take_of_lt (by omega)] at hu
      exact hcl j u hu)
  have hk : i + (n + 1 - i) = n + 1 := by omega
  have hnx : Builtin.nextslicecap (n + 1) cap * inf.bytes ≤ 281474976710656 := by
    have hle : Builtin.nextslicecap (n + 1) cap ≤ 3000000 := by
      unfold Builtin.nextslicecap
      split
      · omega
      · split
        · omega
        · unfold Builtin.growBy; split; omega
          unfold Builtin.growBy; split; omega
          unfold Builtin.growBy; split; omega
          unfold Builtin.growBy; split; omega
          unfold Builtin.growBy; omega
    rw [hby]
    exact Nat.le_trans (Nat.mul_le_mul hle hb) (by omega)
  have hr := Lib.run_append_grow_zeros (P := Try.prog) w t 3 ty e inf zero .i64 .i64 T.ht Try.underlying3 hinf h0 (some ⟨g, 0, none⟩) i cap (xs.take (i * z)) hold (n + 1 - i) (by omega) (by rw [hsz]; exact T.pos) (by omega) (by omega)
    (Nat.le_trans (Nat.mul_le_mul (show n + 1 - i ≤ 100001 by omega) (by rw [hby]; exact hb)) (by omega)) (by rw [hk]; exact hnx)
  rw [hk, show ((n + 1 - i : Nat) : Int) = (n : Int) + 1 - (i : Int) by omega] at hr
  have hge := grownCap_ge w (n + 1) cap e
  have hcm := grownCap_le_maxLen w (n + 1) cap e (by unfold maxLen; omega)
  refine ⟨grownCap w (n + 1) cap e, _, _, hr, heap_alloc_new w.drew _, ?_, ?_, hge, hcm, ((Keeps.refl _ w).drew).alloc _⟩
  · rw [Array.size_append, Array.size_append, List.size_toArray, size_zeroCells, size_zeroCells, T.hc, hti, ← Nat.add_mul, ← Nat.add_mul]
    congr 1; omega
  · rw [Array.toList_append, Array.toList_append, List.append_assoc, List.take_append_of_le_length (by show i * z ≤ (xs.take (i * z)).length; omega)]
    exact List.take_of_length_le (by show (xs.take (i * z)).length ≤ i * z; omega)


set_option maxRecDepth 100000 in
set_option maxHeartbeats 400000 in
theorem insert59_grow (w : World) (g n cap : Nat) (xs : List Value) (h : Own 75 3 w (.slice (some ⟨g, 0, none⟩) n cap) n xs) (h1 : ∀ u ∈ xs, u.oneCell' = true) (hn : n ≤ 100000) (vb : Nat) (ys : List Value) (hy : One 75 3 w vb ys) (i : Nat) (hi : i < n) (hroom : ¬ n + 1 ≤ cap) :
    Calls Try.prog 60 #[.slice (some ⟨g, 0, none⟩) n cap, .int .i64 (i : Int), .slice (some ⟨vb, 0, none⟩) 1 1] w fun e w' => ∃ v', e = .returned v' ∧ Own 75 3 w' v' (n + 1) (xs.take (i * 3) ++ ys ++ xs.drop (i * 3)) ∧ Keeps (fun _ => False) w w' ∧ v'.ownBlock = some w.heap.size := by
  obtain ⟨cap2, cur2, w1, hA, hg1, hs2, ht2, hc2, hm2, k1⟩ := append_zeros_run T59 w g i n cap xs h hi hn (by omega) 59
  have hcl := h.cells (g := g) rfl
  obtain ⟨hl, hc⟩ := h
  rcases hc with ⟨e, _⟩ | ⟨g', cap', cur, e, h0, hg, hnc, hcm, h3, h4⟩
  · cases e
  cases e
  have hlt : g < w.heap.size := (Array.getElem?_eq_some_iff.1 hg).1
  have hvlt : vb < w.heap.size := (Array.getElem?_eq_some_iff.1 hy.blk).1
  unfold maxLen at hcm hm2
  have hcm' : (cap : Int) ≤ 9223372036854775807 := by omega
  have hm2' : (cap2 : Int) ≤ 9223372036854775807 := by omega
  have hc2' : (n : Int) + 1 ≤ (cap2 : Int) := by omega
  have hn' : (n : Int) ≤ 100000 := by omega
  have hi' : (i : Int) < (n : Int) := by omega
  have hroom' : (cap : Int) < (n : Int) + 1 := by omega
  have hnb : ((i : Int) == (n : Int)) = false := by simp; omega
  have hdl : (xs.drop (i * 3)).length = (n - i) * 3 := by rw [List.length_drop, hl, Nat.sub_mul]
  have x0 := fun W => slice_from T59 g n cap i (by omega) W
  have x1 := fun W => slice_to T59 (some ⟨g, 0, none⟩) n cap i (by omega) W
  have x2 := fun W => slice_from T59 w.heap.size (n + 1) cap2 i (by omega) W
  have x3 := fun W => slice_from T59 w.heap.size (n + 1) cap2 (i + 1) (by omega) W
  rw [show ((i + 1 : Nat) : Int) = (i : Int) + 1 by omega, if_neg (show ¬ cap2 = i + 1 by omega)] at x3
  rw [if_neg (show ¬ cap2 = i by omega)] at x2
  rw [if_neg (show ¬ cap = i by omega)] at x0
  obtain ⟨c1, hc1⟩ : ∃ c1, c1 = putAt cur2.toList (i * 3) ys := ⟨_, rfl⟩
  have hls := list_grow cur2.toList 3 i n cap2 xs ys hi hc2 (by rw [Array.length_toList, hs2]) ht2 hl hy.len c1 hc1
  have hy1 : One 75 3 w1 vb ys := hy.of_block (k1.block vb hvlt (fun h => h))
  have hC1 := fun ty => copy_run T59 w1 w.heap.size (i * 3) (n + 1 - i) (cap2 - i) ⟨vb, 0, none⟩ 1 1 cur2 75 ys hg1 (by rw [hy.len]; simp only [Nat.min_def]; split <;> omega) hy1.cells (by rw [hy.len, hs2]; omega) hy.one ty
  simp only [← hc1] at hC1
  obtain ⟨w2, hw2⟩ : ∃ w2, w2 = w1.setRow w.heap.size c1.toArray := ⟨_, rfl⟩
  simp only [← hw2] at hC1
  have hg2 : w2.heap[w.heap.size]? = some (.cells c1.toArray 75 (0, 0)) := by rw [hw2]; exact setRow_heap w1 _ cur2 _ 75 _ hg1
  have k2 : Keeps (fun _ => False) w w2 := by rw [hw2]; exact k1.andThen (keeps_setRow w1 _ _) (fun k hk e => by omega)
  have hsrc : ∀ j u, (xs.drop (i * 3))[j]? = some u → w2.drew.cell? ((⟨g, i * 3, none⟩ : Addr).add j) = some u := by
    intro j u hu
    rw [List.getElem?_drop] at hu
    have := hcl _ _ hu
    rw [Addr.add_lit] at this ⊢
    show w2.cell? _ = _
    rw [show i * 3 + j = 0 + (i * 3 + j) by omega]
    exact k2.cell this (fun h => h)
  have hC2 := fun ty => copy_run T59 w2.drew w.heap.size ((i + 1) * 3) (n - i) (cap2 - (i + 1)) ⟨g, i * 3, none⟩ (n - i) (cap - i) c1.toArray 75 (xs.drop (i * 3)) hg2 (by rw [hdl]; congr 1; simp only [Nat.min_def]; split <;> omega) hsrc (by rw [hdl, List.size_toArray, hls.1]; omega) (fun u hu => h1 u (List.mem_of_mem_drop hu)) ty
  obtain ⟨w3, hw3⟩ : ∃ w3, w3 = w2.drew.setRow w.heap.size (putAt c1 ((i + 1) * 3) (xs.drop (i * 3))).toArray := ⟨_, rfl⟩
  simp only [← hw3] at hC2
  have HR : Hid (Own 75 3 w3 (.slice (some ⟨w.heap.size, 0, none⟩) (n + 1) cap2) (n + 1) (xs.take (i * 3) ++ ys ++ xs.drop (i * 3)) ∧ Keeps (fun _ => False) w w3) := by
    refine ⟨⟨?_, .inr ⟨w.heap.size, cap2, _, rfl, Nat.zero_le _, by rw [hw3]; exact setRow_heap _ _ _ _ 75 _ hg2, hc2, by unfold maxLen; omega, hls.2.1, hls.2.2⟩⟩, ?_⟩
    · rw [List.length_append, List.length_append, List.length_take, hdl, hy.len, hl]; omega
    · rw [hw3]; exact k2.drew.andThen (keeps_setRow w2.drew _ _) (fun k hk e => by omega)
  have hwr : IntKind.i64.wrap ((i : Int) + 1) = (i : Int) + 1 := by rw [IntKind.wrap_i64]; omega
  clear hw2 hw3 hls hc1 k1 k2 hy1 hg1 hg2 hsrc hdl h3 h4 hg hl hy hcl
  go_enter Try.func60, Try.ntmps60
  go_wp2_with (first | (at_builtin; refine wpList_append_run _ rfl _ _ 59 3 rfl _ _ rfl rfl hA ?_) | (refine wpList_copy_run _ rfl _ _ 59 59 rfl _ _ rfl rfl (hC1 _) ?_))
  go_region_law (refine step_copy_run rfl _ _ 59 59 rfl _ _ (by simp [Act.eval, Act.put]) (by simp [Act.eval, Act.put]) (hC2 _) ?_)
  go_wp2
  go_ret
  exact ⟨_, rfl, HR.out.1, HR.out.2, rfl⟩

theorem insert59_any (w : World) (v : Value) (n : Nat) (xs : List Value) (h : Own 75 3 w v n xs) (h1 : ∀ u ∈ xs, u.oneCell' = true) (hn : n ≤ 100000) (vb : Nat) (ys : List Value) (hy : One 75 3 w vb ys) (hvb : v.ownBlock ≠ some vb) (i : Nat) (hi : i ≤ n) :
    Calls Try.prog 60 #[v, .int .i64 (i : Int), .slice (some ⟨vb, 0, none⟩) 1 1] w fun e w' => ∃ v', e = .returned v' ∧ Own 75 3 w' v' (n + 1) (xs.take (i * 3) ++ ys ++ xs.drop (i * 3)) ∧ Keeps (fun k => v.ownBlock = some k) w w' ∧ (v'.ownBlock = v.ownBlock ∨ v'.ownBlock = some w.heap.size) := by
  by_cases hin : i = n
  · subst hin
    refine (insert59_end w v i xs h hn vb ys hy).mono ?_
    rintro e w' ⟨v', rfl, r1, r2, r3⟩
    refine ⟨v', rfl, ?_, r2, r3⟩
    rw [List.take_of_length_le (by rw [h.1]; exact Nat.le_refl _), List.drop_eq_nil_of_le (by rw [h.1]; exact Nat.le_refl _), List.append_nil]
    exact r1
  · have h' := h
    obtain ⟨hl, hc⟩ := h'
    rcases hc with ⟨rfl, rfl⟩ | ⟨g, cap, cur, rfl, h0, hg, hnc, hcm, h3, h4⟩
    · omega
    · by_cases hroom : n + 1 ≤ cap
      · refine (insert59_shift w g n cap xs h h1 hn vb ys hy (fun e => hvb (by rw [e]; rfl)) i (by omega) hroom).mono ?_
        rintro e w' ⟨v', rfl, r1, r2, r3⟩
        exact ⟨v', rfl, r1, r2.mono (fun k _ e => by rw [e]; rfl), .inl r3⟩
      · refine (insert59_grow w g n cap xs h h1 hn vb ys hy i (by omega) hroom).mono ?_
        rintro e w' ⟨v', rfl, r1, r2, r3⟩
        exact ⟨v', rfl, r1, r2.mono (fun k _ e => e.elim), .inr r3⟩

set_option maxRecDepth 100000 in
set_option maxHeartbeats 400000 in
theorem insert60_grow (w : World) (g n cap : Nat) (xs : List Value) (h : Own 28 1 w (.slice (some ⟨g, 0, none⟩) n cap) n xs) (h1 : ∀ u ∈ xs, u.oneCell' = true) (hn : n ≤ 100000) (vb : Nat) (ys : List Value) (hy : One 28 1 w vb ys) (i : Nat) (hi : i < n) (hroom : ¬ n + 1 ≤ cap) :
    Calls Try.prog 61 #[.slice (some ⟨g, 0, none⟩) n cap, .int .i64 (i : Int), .slice (some ⟨vb, 0, none⟩) 1 1] w fun e w' => ∃ v', e = .returned v' ∧ Own 28 1 w' v' (n + 1) (xs.take (i * 1) ++ ys ++ xs.drop (i * 1)) ∧ Keeps (fun _ => False) w w' ∧ v'.ownBlock = some w.heap.size := by
  obtain ⟨cap2, cur2, w1, hA, hg1, hs2, ht2, hc2, hm2, k1⟩ := append_zeros_run T60 w g i n cap xs h hi hn (by omega) 60
  have hcl := h.cells (g := g) rfl
  obtain ⟨hl, hc⟩ := h
  rcases hc with ⟨e, _⟩ | ⟨g', cap', cur, e, h0, hg, hnc, hcm, h3, h4⟩
  · cases e
  cases e
  have hlt : g < w.heap.size := (Array.getElem?_eq_some_iff.1 hg).1
  have hvlt : vb < w.heap.size := (Array.getElem?_eq_some_iff.1 hy.blk).1
  unfold maxLen at hcm hm2
  have hcm' : (cap : Int) ≤ 9223372036854775807 := by omega
  have hm2' : (cap2 : Int) ≤ 9223372036854775807 := by omega
  have hc2' : (n : Int) + 1 ≤ (cap2 : Int) := by omega
  have hn' : (n : Int) ≤ 100000 := by omega
  have hi' : (i : Int) < (n : Int) := by omega
  have hroom' : (cap : Int) < (n : Int) + 1 := by omega
  have hnb : ((i : Int) == (n : Int)) = false := by simp; omega
  have hdl : (xs.drop (i * 1)).length = (n - i) * 1 := by rw [List.length_drop, hl, Nat.sub_mul]
  have x0 := fun W => slice_from T60 g n cap i (by omega) W
  have x1 := fun W => slice_to T60 (some ⟨g, 0, none⟩) n cap i (by omega) W
  have x2 := fun W => slice_from T60 w.heap.size (n + 1) cap2 i (by omega) W
  have x3 := fun W => slice_from T60 w.heap.size (n + 1) cap2 (i + 1) (by omega) W
  rw [show ((i + 1 : Nat) : Int) = (i : Int) + 1 by omega, if_neg (show ¬ cap2 = i + 1 by omega)] at x3
  rw [if_neg (show ¬ cap2 = i by omega)] at x2
  rw [if_neg (show ¬ cap = i by omega)] at x0
  obtain ⟨c1, hc1⟩ : ∃ c1, c1 = putAt cur2.toList (i * 1) ys := ⟨_, rfl⟩
  have hls := list_grow cur2.toList 1 i n cap2 xs ys hi hc2 (by rw [Array.length_toList, hs2]) ht2 hl hy.len c1 hc1
  have hy1 : One 28 1 w1 vb ys := hy.of_block (k1.block vb hvlt (fun h => h))
  have hC1 := fun ty => copy_run T60 w1 w.heap.size (i * 1) (n + 1 - i) (cap2 - i) ⟨vb, 0, none⟩ 1 1 cur2 28 ys hg1 (by rw [hy.len]; simp only [Nat.min_def]; split <;> omega) hy1.cells (by rw [hy.len, hs2]; omega) hy.one ty
  simp only [← hc1] at hC1
  obtain ⟨w2, hw2⟩ : ∃ w2, w2 = w1.setRow w.heap.size c1.toArray := ⟨_, rfl⟩
  simp only [← hw2] at hC1
  have hg2 : w2.heap[w.heap.size]? = some (.cells c1.toArray 28 (0, 0)) := by rw [hw2]; exact setRow_heap w1 _ cur2 _ 28 _ hg1
  have k2 : Keeps (fun _ => False) w w2 := by rw [hw2]; exact k1.andThen (keeps_setRow w1 _ _) (fun k hk e => by omega)
  have hsrc : ∀ j u, (xs.drop (i * 1))[j]? = some u → w2.drew.cell? ((⟨g, i * 1, none⟩ : Addr).add j) = some u := by
    intro j u hu
    rw [List.getElem?_drop] at hu
    have := hcl _ _ hu
    rw [Addr.add_lit] at this ⊢
    show w2.cell? _ = _
    rw [show i * 1 + j = 0 + (i * 1 + j) by omega]
    exact k2.cell this (fun h => h)
  have hC2 := fun ty => copy_run T60 w2.drew w.heap.size ((i + 1) * 1) (n - i) (cap2 - (i + 1)) ⟨g, i * 1, none⟩ (n - i) (cap - i) c1.toArray 28 (xs.drop (i * 1)) hg2 (by rw [hdl]; congr 1; simp only [Nat.min_def]; split <;> omega) hsrc (by rw [hdl, List.size_toArray, hls.1]; omega) (fun u hu => h1 u (List.mem_of_mem_drop hu)) ty
  obtain ⟨w3, hw3⟩ : ∃ w3, w3 = w2.drew.setRow w.heap.size (putAt c1 ((i + 1) * 1) (xs.drop (i * 1))).toArray := ⟨_, rfl⟩
  simp only [← hw3] at hC2
  have HR : Hid (Own 28 1 w3 (.slice (some ⟨w.heap.size, 0, none⟩) (n + 1) cap2) (n + 1) (xs.take (i * 1) ++ ys ++ xs.drop (i * 1)) ∧ Keeps (fun _ => False) w w3) := by
    refine ⟨⟨?_, .inr ⟨w.heap.size, cap2, _, rfl, Nat.zero_le _, by rw [hw3]; exact setRow_heap _ _ _ _ 28 _ hg2, hc2, by unfold maxLen; omega, hls.2.1, hls.2.2⟩⟩, ?_⟩
    · rw [List.length_append, List.length_append, List.length_take, hdl, hy.len, hl]; omega
    · rw [hw3]; exact k2.drew.andThen (keeps_setRow w2.drew _ _) (fun k hk e => by omega)
  have hwr : IntKind.i64.wrap ((i : Int) + 1) = (i : Int) + 1 := by rw [IntKind.wrap_i64]; omega
  simp only [Nat.mul_one] at x0 x1 x2 x3 hC1 hC2
  clear hw2 hw3 hls hc1 k1 k2 hy1 hg1 hg2 hsrc hdl h3 h4 hg hl hy hcl
  go_enter Try.func61, Try.ntmps61
  go_wp2_with (first | (at_builtin; refine wpList_append_run _ rfl _ _ 60 3 rfl _ _ rfl rfl hA ?_) | (refine wpList_copy_run _ rfl _ _ 60 60 rfl _ _ rfl rfl (hC1 _) ?_))
  go_region_law (refine step_copy_run rfl _ _ 60 60 rfl _ _ (by simp [Act.eval, Act.put]) (by simp [Act.eval, Act.put]) (hC2 _) ?_)
  go_wp2
  go_ret
  exact ⟨_, rfl, HR.out.1, HR.out.2, rfl⟩

theorem insert60_any (w : World) (v : Value) (n : Nat) (xs : List Value) (h : Own 28 1 w v n xs) (h1 : ∀ u ∈ xs, u.oneCell' = true) (hn : n ≤ 100000) (vb : Nat) (ys : List Value) (hy : One 28 1 w vb ys) (hvb : v.ownBlock ≠ some vb) (i : Nat) (hi : i ≤ n) :
    Calls Try.prog 61 #[v, .int .i64 (i : Int), .slice (some ⟨vb, 0, none⟩) 1 1] w fun e w' => ∃ v', e = .returned v' ∧ Own 28 1 w' v' (n + 1) (xs.take (i * 1) ++ ys ++ xs.drop (i * 1)) ∧ Keeps (fun k => v.ownBlock = some k) w w' ∧ (v'.ownBlock = v.ownBlock ∨ v'.ownBlock = some w.heap.size) := by
  by_cases hin : i = n
  · subst hin
    refine (insert60_end w v i xs h hn vb ys hy).mono ?_
    rintro e w' ⟨v', rfl, r1, r2, r3⟩
    refine ⟨v', rfl, ?_, r2, r3⟩
    rw [List.take_of_length_le (by rw [h.1]; exact Nat.le_refl _), List.drop_eq_nil_of_le (by rw [h.1]; exact Nat.le_refl _), List.append_nil]
    exact r1
  · have h' := h
    obtain ⟨hl, hc⟩ := h'
    rcases hc with ⟨rfl, rfl⟩ | ⟨g, cap, cur, rfl, h0, hg, hnc, hcm, h3, h4⟩
    · omega
    · by_cases hroom : n + 1 ≤ cap
      · refine (insert60_shift w g n cap xs h h1 hn vb ys hy (fun e => hvb (by rw [e]; rfl)) i (by omega) hroom).mono ?_
        rintro e w' ⟨v', rfl, r1, r2, r3⟩
        exact ⟨v', rfl, r1, r2.mono (fun k _ e => by rw [e]; rfl), .inl r3⟩
      · refine (insert60_grow w g n cap xs h h1 hn vb ys hy i (by omega) hroom).mono ?_
        rintro e w' ⟨v', rfl, r1, r2, r3⟩
        exact ⟨v', rfl, r1, r2.mono (fun k _ e => e.elim), .inr r3⟩
end Go.Proofs.Qxb6601392a.Bt
