import Derived.Test.Qxb6601392aGrowT
namespace Go.Proofs.Qxb6601392a.Bt
open Go.RowKit

/-- the merge's parent built anew -/
theorem merge_parent {w w2 w' : World} {o B d : Nat} {c : Ch} {g cap gc cc : Nat} {I : List It} {A C : List Ch} {l0 r0 mg : Ch} (H : NodeO w o B d c (.slice (some ⟨g, 0, none⟩) I.length cap) (.slice (some ⟨gc, 0, none⟩) ((A ++ [l0, r0] ++ C).map Ch.b).length cc) I (A ++ [l0, r0] ++ C)) (hB : B ≤ w.heap.size) (hol : o < w.heap.size) (hs : Sorted c.L)
    (i2 i3 : Nat) (hA : A.length = i2) (h23 : i3 = i2 + 1) (x : It) (hx : I[i2]? = some x) (k02 : Keeps (fun _ => False) w w2) {lb' pl' : Nat} {ivl cvl ivl' cvl' iv' cv' : Value} {Il' : List It} {bsl' : List Nat}
    (hM : Merged w2 w' c.b o c.L.length g gc lb' pl' i2 i3 ivl cvl ivl' cvl' iv' cv' Il' I bsl' ((A ++ [l0, r0] ++ C).map Ch.b)) (hmb : mg.b = lb') (hmR : Rep w' o B d mg) (hmm : mg.m = 63) (hmL : mg.L = l0.L ++ x :: r0.L) (hmF : ∀ y, mg.F y → (l0.F y ∨ r0.F y) ∨ w.heap.size ≤ y)
    (hlF : ∀ k, (k = lb' ∨ ivl.ownBlock = some k ∨ cvl.ownBlock = some k) → l0.F k ∨ w.heap.size ≤ k) (i : Nat) (hi : i = i2 ∨ (i = i3 ∧ i3 = I.length)) : Grown w w' o B d c I i := by
  have h02 := k02.size
  have hs2 := hM.keep.size
  have hil := (List.getElem?_eq_some_iff.1 hx).1
  have hlen := H.len
  have hkl : (A ++ [l0, r0] ++ C).length = i2 + 2 + C.length := by simp; omega
  have hlk : ((A ++ [l0, r0] ++ C).map Ch.L).length = I.length + 1 := by rw [List.length_map]; exact H.len
  have hCl : (C.map Ch.L).length + (i2 + 1) = I.length := by rw [List.length_map]; omega
  have hAl : (A.map Ch.L).length = i2 := by rw [List.length_map]; exact hA
  have hbs : (((A ++ [l0, r0] ++ C).map Ch.b).take i3 ++ ((A ++ [l0, r0] ++ C).map Ch.b).drop (i3 + 1)).set i2 lb' = (A ++ [mg] ++ C).map Ch.b := by
    rw [h23, ← hA, ← hmb]
    have e1 : (A ++ [l0, r0] ++ C).map Ch.b = (A.map Ch.b ++ [l0.b]) ++ (r0.b :: C.map Ch.b) := by simp
    have e2 : (A.map Ch.b ++ [l0.b]).length = A.length + 1 := by simp
    rw [e1, ← e2, List.take_left, e2]
    have e3 : ((A.map Ch.b ++ [l0.b]) ++ (r0.b :: C.map Ch.b)).drop (A.length + 1 + 1) = C.map Ch.b := by
      have e4 : (A.map Ch.b ++ [l0.b]) ++ (r0.b :: C.map Ch.b) = (A.map Ch.b ++ [l0.b, r0.b]) ++ C.map Ch.b := by simp
      have e5 : (A.map Ch.b ++ [l0.b, r0.b]).length = A.length + 1 + 1 := by simp
      rw [e4, ← e5, List.drop_left]
    rw [e3]
    simp
  have hIl : (I.take i2 ++ I.drop (i2 + 1)).length + 1 = I.length := by simp; omega
  have hw1 : c.L = wpre (A.map Ch.L) (I.take i2) ++ (l0.L ++ x :: (r0.L ++ wpost (I.drop (i2 + 1)) (C.map Ch.L))) := by
    rw [H.L, List.map_append, List.map_append]
    simp only [List.map_cons, List.map_nil, List.append_assoc, List.cons_append, List.nil_append]
    exact weave_pair I _ _ l0.L r0.L x i2 hAl hx hCl
  have hw2 : c.L = weave (I.take i2 ++ I.drop (i2 + 1)) ((A ++ [mg] ++ C).map Ch.L) := by
    have h1 := weave_split (A.map Ch.L) (I.take i2) (I.drop (i2 + 1)) mg.L (C.map Ch.L) (by rw [List.length_take]; omega)
    rw [List.map_append, List.map_append]
    simp only [List.map_cons, List.map_nil, List.append_assoc, List.cons_append, List.nil_append]
    rw [h1, hw1, hmL]
    simp
  have hsI : Sorted I := by
    have := weave_sub I _ hlk
    rw [← H.L] at this
    exact hs.sublist this
  have hcs := hM.c
  rw [hbs] at hcs
  obtain ⟨c', q1, q2, q3, q4, q5, q6, q7⟩ := node_build H hB hol w'.heap.size (by omega) [mg] iv' cv' (I.take i2 ++ I.drop (i2 + 1)) c.L ((k02.mono (fun _ _ h => h.elim)).andThen hM.keep (fun y hy h => by
      rcases h with h | h | h | h
      · exact .inl h
      · exact .inr (.inl (by rw [h]; rfl))
      · exact .inr (.inr (.inl (by rw [h]; rfl)))
      · rcases hlF y h with h1 | h1
        · exact .inr (.inr (.inr ⟨l0, by simp, h1⟩))
        · omega)) hM.n hM.i hcs (by simp; omega) hw2 (fun k hk => by simp at hk; subst hk; exact hmR) (fun k hk => by simp at hk; subst hk; omega) (fun k hk y hy => by
      simp at hk; subst hk
      rcases hmF y hy with (h1 | h1) | h1
      · exact .inl ⟨l0, by simp, h1⟩
      · exact .inl ⟨r0, by simp, h1⟩
      · exact .inr ⟨h1, hmR.lt d _ y hy⟩) (List.pairwise_singleton _ _) (fun y hy => .inl (by rw [hM.iown y hy]; rfl)) (fun y hy => .inl (by rw [hM.cown y hy]; rfl)) (fun y hy hy' => by
      have e1 := hM.cown y hy
      have e2 := hM.iown y hy'
      exact H.ic g rfl (by rw [← e2, e1]; rfl))
  refine ⟨⟨c', _, _, _, _, i2, mg, q1, q2, q3, by rw [q4, H.m]; omega, by rw [q4, H.m]; omega, q6, by rw [← hA]; simp, by omega, fun key f hp => ?_, fun h => ?_⟩, q7⟩
  · rcases hi with rfl | ⟨rfl, h3⟩
    · exact ⟨false, pos_cut hsI hp hx⟩
    · exact ⟨false, pos_cut_last hp h3 h23⟩
  · rcases hi with rfl | ⟨rfl, h3⟩ <;> omega
end Go.Proofs.Qxb6601392a.Bt
