import Derived.Test.Qxb6601392aRow
namespace Go.Proofs.Qxb6601392a.Bt
open Go.RowKit

theorem own_empty (e : TypeId) (z : Nat) (w : World) : Own e z (w.alloc (.cells #[] e)) (.slice (some ⟨w.heap.size, 0, none⟩) 0 0) 0 [] :=
  ⟨by simp, .inr ⟨w.heap.size, 0, #[], rfl, Nat.zero_le _, heap_alloc_new w _, Nat.le_refl _, Nat.zero_le _, by simp, by simp⟩⟩


set_option maxRecDepth 100000 in
set_option maxHeartbeats 400000 in
theorem clone59_cells (w : World) (a : Addr) (n cap : Nat) (xs : List Value) (hl : xs.length = n * 3) (hc : ∀ j u, xs[j]? = some u → w.cell? (a.add j) = some u) (h1 : ∀ u ∈ xs, u.oneCell' = true) (hn : n ≤ 100000) :
    Calls Try.prog 49 #[.slice (some a) n cap] w fun e w' => ∃ v', e = .returned v' ∧ Own 75 3 w' v' n xs ∧ Keeps (fun _ => False) w w' ∧ ∀ k, v'.ownBlock = some k → w.heap.size ≤ k := by
  have he := fun W a n c => Lib.run_eql_slice_nil (P := Try.prog) W 59 75 a n c 0 0 Try.underlying59
  obtain ⟨v', w', hrun, ho', hk', hb'⟩ := append_own T59 (w.alloc (.cells #[] 75)) (own_empty 75 3 w) a n cap xs hl (fun j u hu => by
      have := hc j u hu
      rwa [World.cell?_alloc_lt w _ _ (cell_lt this)]) h1 (by omega) 59
  have HR : Hid (Own 75 3 w' v' n xs ∧ Keeps (fun _ => False) w w' ∧ ∀ k, v'.ownBlock = some k → w.heap.size ≤ k) := by
    refine ⟨by simpa using ho', ?_, fun k hk => ?_⟩
    · exact ((Keeps.refl _ w).alloc _).andThen hk' (fun i hi e => by simp [Value.ownBlock] at e; omega)
    · rcases hb' with e | e
      · rw [e] at hk; simp [Value.ownBlock] at hk; omega
      · rw [e] at hk; simp at hk; omega
  clear ho' hk' hb' hc hl
  go_enter Try.func49, Try.ntmps49
  go_wp2_with (at_builtin; refine wpList_append_run _ rfl _ _ 59 59 rfl _ _ rfl rfl hrun ?_)
  go_ret
  exact ⟨_, rfl, HR.out⟩

set_option maxRecDepth 100000 in
set_option maxHeartbeats 400000 in
theorem clone59_any (w : World) (v : Value) (n : Nat) (xs : List Value) (h : Own 75 3 w v n xs) (h1 : ∀ u ∈ xs, u.oneCell' = true) (hn : n ≤ 100000) :
    Calls Try.prog 49 #[v] w fun e w' => ∃ v', e = .returned v' ∧ Own 75 3 w' v' n xs ∧ Keeps (fun _ => False) w w' ∧ ∀ k, v'.ownBlock = some k → w.heap.size ≤ k := by
  have hown := h
  obtain ⟨hl, hc⟩ := h
  rcases hc with ⟨rfl, rfl⟩ | ⟨g, cap, cur, rfl, h0, hg, hnc, hcm, h3, h4⟩
  · have he := fun W a n c => Lib.run_eql_slice_nil (P := Try.prog) W 59 75 a n c 0 0 Try.underlying59
    go_enter Try.func49, Try.ntmps49
    go_wp2
    go_ret
    exact ⟨_, rfl, hown, Keeps.refl _ _, fun k hk => by cases hk⟩
  · exact clone59_cells w ⟨g, 0, none⟩ n cap xs hl (hown.cells (g := g) rfl) h1 hn

set_option maxRecDepth 100000 in
set_option maxHeartbeats 400000 in
theorem clone60_cells (w : World) (a : Addr) (n cap : Nat) (xs : List Value) (hl : xs.length = n * 1) (hc : ∀ j u, xs[j]? = some u → w.cell? (a.add j) = some u) (h1 : ∀ u ∈ xs, u.oneCell' = true) (hn : n ≤ 100000) :
    Calls Try.prog 50 #[.slice (some a) n cap] w fun e w' => ∃ v', e = .returned v' ∧ Own 28 1 w' v' n xs ∧ Keeps (fun _ => False) w w' ∧ ∀ k, v'.ownBlock = some k → w.heap.size ≤ k := by
  have he := fun W a n c => Lib.run_eql_slice_nil (P := Try.prog) W 60 28 a n c 0 0 Try.underlying60
  obtain ⟨v', w', hrun, ho', hk', hb'⟩ := append_own T60 (w.alloc (.cells #[] 28)) (own_empty 28 1 w) a n cap xs hl (fun j u hu => by
      have := hc j u hu
      rwa [World.cell?_alloc_lt w _ _ (cell_lt this)]) h1 (by omega) 60
  have HR : Hid (Own 28 1 w' v' n xs ∧ Keeps (fun _ => False) w w' ∧ ∀ k, v'.ownBlock = some k → w.heap.size ≤ k) := by
    refine ⟨by simpa using ho', ?_, fun k hk => ?_⟩
    · exact ((Keeps.refl _ w).alloc _).andThen hk' (fun i hi e => by simp [Value.ownBlock] at e; omega)
    · rcases hb' with e | e
      · rw [e] at hk; simp [Value.ownBlock] at hk; omega
      · rw [e] at hk; simp at hk; omega
  clear ho' hk' hb' hc hl
  go_enter Try.func50, Try.ntmps50
  go_wp2_with (at_builtin; refine wpList_append_run _ rfl _ _ 60 60 rfl _ _ rfl rfl hrun ?_)
  go_ret
  exact ⟨_, rfl, HR.out⟩

set_option maxRecDepth 100000 in
set_option maxHeartbeats 400000 in
theorem clone60_any (w : World) (v : Value) (n : Nat) (xs : List Value) (h : Own 28 1 w v n xs) (h1 : ∀ u ∈ xs, u.oneCell' = true) (hn : n ≤ 100000) :
    Calls Try.prog 50 #[v] w fun e w' => ∃ v', e = .returned v' ∧ Own 28 1 w' v' n xs ∧ Keeps (fun _ => False) w w' ∧ ∀ k, v'.ownBlock = some k → w.heap.size ≤ k := by
  have hown := h
  obtain ⟨hl, hc⟩ := h
  rcases hc with ⟨rfl, rfl⟩ | ⟨g, cap, cur, rfl, h0, hg, hnc, hcm, h3, h4⟩
  · have he := fun W a n c => Lib.run_eql_slice_nil (P := Try.prog) W 60 28 a n c 0 0 Try.underlying60
    go_enter Try.func50, Try.ntmps50
    go_wp2
    go_ret
    exact ⟨_, rfl, hown, Keeps.refl _ _, fun k hk => by cases hk⟩
  · exact clone60_cells w ⟨g, 0, none⟩ n cap xs hl (hown.cells (g := g) rfl) h1 hn
end Go.Proofs.Qxb6601392a.Bt
