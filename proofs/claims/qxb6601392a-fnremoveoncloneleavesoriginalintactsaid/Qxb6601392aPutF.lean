import Derived.Test.Qxb6601392aPutE
namespace Go.Proofs.Qxb6601392a.Bt
open Go.RowKit

theorem pos_exists (L : List It) (k : Key) (hs : Sorted L) : ∃ i f, Pos L k i f := by
  induction L with
  | nil => exact ⟨0, false, by simp, by simp, by simp, by simp⟩
  | cons y L ih =>
    obtain ⟨h1, h2⟩ := List.pairwise_cons.1 hs
    cases hy : klt y.key k with
    | false =>
      refine ⟨0, decide (y.key = k), by simp, fun j x _ hj => by omega, fun j x hx _ => ?_, by simp⟩
      cases j with
      | zero => simp at hx; subst hx; exact hy
      | succ j =>
        rw [List.getElem?_cons_succ] at hx
        cases hz : klt x.key k with
        | false => rfl
        | true => rw [klt_trans (h1 x (List.mem_of_getElem? hx)) hz] at hy; cases hy
    | true =>
      obtain ⟨i, f, hp⟩ := ih h2
      refine ⟨i + 1, f, by have := hp.le; simp; omega, fun j x hx hj => ?_, fun j x hx hj => ?_, by simp only [List.getElem?_cons_succ]; exact hp.found⟩
      · cases j with
        | zero => simp at hx; subst hx; exact hy
        | succ j => rw [List.getElem?_cons_succ] at hx; exact hp.lt j x hx (by omega)
      · cases j with
        | zero => omega
        | succ j => rw [List.getElem?_cons_succ] at hx; exact hp.ge j x hx (by omega)

theorem Pos.before {L : List It} {k : Key} {i : Nat} {f : Bool} (hp : Pos L k i f) : ∀ z ∈ L.take i, klt z.key k = true := by
  intro z hz
  obtain ⟨j, hj⟩ := List.getElem?_of_mem hz
  have hl := (List.getElem?_eq_some_iff.1 hj).1
  rw [List.length_take] at hl
  rw [List.getElem?_take_of_lt (by omega)] at hj
  exact hp.lt j z hj (by omega)
theorem Pos.behind {L : List It} {k : Key} {i : Nat} (hp : Pos L k i false) (hs : Sorted L) : ∀ z ∈ L.drop i, klt k z.key = true := by
  intro z hz
  obtain ⟨j, hj⟩ := List.getElem?_of_mem hz
  rw [List.getElem?_drop] at hj
  obtain ⟨y, hy⟩ : ∃ y, L[i]? = some y := ⟨_, List.getElem?_eq_getElem (by have := (List.getElem?_eq_some_iff.1 hj).1; omega)⟩
  have hky : klt k y.key = true := klt_total (hp.ge i y hy (Nat.le_refl _)) (fun h => by have := hp.found.2 ⟨y, hy, h⟩; cases this)
  cases j with
  | zero => rw [Nat.add_zero, hy] at hj; cases hj; exact hky
  | succ j => exact klt_trans hky (hs.get hy hj (by omega))
theorem Pos.ins_new {L : List It} {x : It} {i : Nat} (hp : Pos L x.key i false) (hs : Sorted L) : ins x L = L.take i ++ x :: L.drop i ∧ hasKey L x.key = false := by
  refine ⟨?_, ?_⟩
  · have := Bt.ins_new x (L.take i) (L.drop i) hp.before (hp.behind hs)
    rwa [List.take_append_drop] at this
  · cases h : hasKey L x.key with
    | false => rfl
    | true =>
      obtain ⟨y, hy, e⟩ := (hasKey_iff _ _).1 h
      rw [← List.take_append_drop i L] at hy
      rcases List.mem_append.1 hy with hy | hy
      · exact absurd e (klt_ne (hp.before y hy))
      · exact absurd e.symm (klt_ne (hp.behind hs y hy))
theorem Pos.ins_hit {L : List It} {x : It} {i : Nat} (hp : Pos L x.key i true) : ∃ y, L[i]? = some y ∧ y.key = x.key ∧ ins x L = L.set i x ∧ hasKey L x.key = true := by
  obtain ⟨y, hy, hk⟩ := hp.found.1 rfl
  have hil := (List.getElem?_eq_some_iff.1 hy).1
  refine ⟨y, hy, hk, ?_, (hasKey_iff _ _).2 ⟨y, List.mem_of_getElem? hy, hk⟩⟩
  have hI0 : L = L.take i ++ y :: L.drop (i + 1) := by
    obtain ⟨h, rfl⟩ := List.getElem?_eq_some_iff.1 hy
    rw [← List.drop_eq_getElem_cons h, List.take_append_drop]
  rw [List.set_eq_take_append_cons_drop, if_pos hil]
  conv => lhs; rw [hI0]
  exact Bt.ins_hit x y _ _ hp.before hk

theorem putOk_zero : PutOk 0 := by
  intro w o B c x pre hm
  obtain ⟨ow, iv, cv, hN, hI, hC, hmm, hf⟩ := pre.rep
  rcases hf with ⟨e, _⟩ | ⟨_, rfl, f3, f4, f5, f6, f7, _, _⟩
  · rw [pre.fz] at e; cases e
  obtain ⟨Ac, cc, rfl, _, _⟩ := hC.form
  have hB := pre.hB
  obtain ⟨i, f, hp⟩ := pos_exists c.L x.key pre.sorted
  have hlen := pre.len
  cases f with
  | true =>
    obtain ⟨y, hy, hk, hins, hhas⟩ := hp.ins_hit
    refine (put_found hN hI pre.sorted (by omega) x y pre.xok i hp hy (pre.ok y (List.mem_of_getElem? hy)).v (by omega) f5).mono ?_
    rintro e w' ⟨rfl, r1, r2, r3⟩
    have hkF : Keeps c.F w w' := r3.mono (fun k _ h => (f3 k).2 (by rcases h with h | h; exact .inr (.inl h); exact .inl h))
    refine ⟨⟨c.b, c.m, c.L.set i x, c.F, false⟩, by rw [hhas]; rfl, ⟨ow, iv, .slice Ac 0 cc, ?_, r2, ?_, ?_, .inr ⟨rfl, rfl, f3, f4, f5, f6, f7, fun k hk => (by cases hk), List.Pairwise.nil⟩⟩, rfl, hins.symm, Nat.le_refl _, Nat.le_succ _, rfl, fun y hy => .inl hy, hkF⟩
    · show NodeAt w' c.b ow iv _ (c.L.set i x).length
      rw [List.length_set]; exact r1
    · refine hC.of_block (fun k hk => r3.block k (hC.blk k hk) ?_)
      rintro (h | h)
      · exact f7 k h hk
      · exact f6 (h ▸ hk)
    · show c.m = (c.L.set i x).length
      rw [List.length_set]; exact hmm
  | false =>
    obtain ⟨hins, hhas⟩ := hp.ins_new pre.sorted
    have hlL : (c.L.take i ++ x :: c.L.drop i).length = c.L.length + 1 := by have := hp.le; simp; omega
    refine (put_leaf hN hI pre.sorted (by omega) x pre.xok i hp (by omega) f5).mono ?_
    rintro e w' ⟨iv', rfl, r1, r2, r3, r4⟩
    have hkF : Keeps c.F w w' := r3.mono (fun k _ h => (f3 k).2 (by rcases h with h | h; exact .inr (.inl h); exact .inl h))
    have hbl := hN.lt
    have hcl := fun k hk => hC.blk k hk
    refine ⟨⟨c.b, c.m + 1, c.L.take i ++ x :: c.L.drop i, fun y => y = c.b ∨ iv'.ownBlock = some y ∨ (Value.slice Ac 0 cc).ownBlock = some y, false⟩, by rw [hhas]; rfl, ⟨ow, iv', .slice Ac 0 cc, ?_, r2, ?_, ?_, .inr ⟨rfl, rfl, fun y => by simp, fun y hy => ?_, ?_, f6, fun y hy hy' => ?_, fun k hk => (by cases hk), List.Pairwise.nil⟩⟩, rfl, hins.symm, Nat.le_succ _, Nat.le_refl _, rfl, fun y hy => ?_, hkF⟩
    · show NodeAt w' c.b ow iv' _ (c.L.take i ++ x :: c.L.drop i).length
      rw [hlL]; exact r1
    · refine hC.of_block (fun k hk => r3.block k (hC.blk k hk) ?_)
      rintro (h | h)
      · exact f7 k h hk
      · exact f6 (h ▸ hk)
    · show c.m + 1 = (c.L.take i ++ x :: c.L.drop i).length
      rw [hlL, hmm]
    · rcases hy with hy | hy | hy
      · exact f4 y ((f3 y).2 (.inl hy))
      · rcases r4 y hy with h | h
        · exact f4 y ((f3 y).2 (.inr (.inl h)))
        · have := (Array.getElem?_eq_some_iff.1 pre.ho).1; omega
      · exact f4 y ((f3 y).2 (.inr (.inr (.inl hy))))
    · intro h
      rcases r4 c.b h with h | h
      · exact f5 h
      · omega
    · rcases r4 y hy with h | h
      · exact f7 y h hy'
      · have := hC.blk y hy'; omega
    · rcases hy with hy | hy | hy
      · exact .inl ((f3 y).2 (.inl hy))
      · rcases r4 y hy with h | h
        · exact .inl ((f3 y).2 (.inr (.inl h)))
        · exact .inr h
      · exact .inl ((f3 y).2 (.inr (.inr (.inl hy))))
end Go.Proofs.Qxb6601392a.Bt
