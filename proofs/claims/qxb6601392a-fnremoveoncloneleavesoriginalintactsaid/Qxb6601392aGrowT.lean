import Derived.Test.Qxb6601392aGrowS
import Derived.Test.Qxb6601392aGrowE
namespace Go.Proofs.Qxb6601392a.Bt
open Go.RowKit

/-- mutable, a node's own lists in sight -/
theorem mutable_node {w : World} {o B d : Nat} {c : Ch} {ow : Nat} {iv cv : Value} {I : List It} {ks : List Ch} (hN : NodeAt w c.b ow iv cv c.L.length) (hI : OwnI w iv I) (hC : OwnC w cv (ks.map Ch.b)) (hl : ks.length = I.length + 1) (hmm : c.m = I.length) (hL : c.L = weave I (ks.map Ch.L)) (hR : ∀ k ∈ ks, Rep w o B d k) (hz : ∀ k ∈ ks, 31 ≤ k.m ∧ k.m ≤ 63) (hf : Foot w o B c ow iv cv ks)
    (hB : B ≤ w.heap.size) (ho : OwnerAt w o) (hm : c.m ≤ 500) :
    Calls Try.prog 37 #[.pointer (some ⟨c.b, 0, none⟩), .pointer (some ⟨o, 0, none⟩)] w fun e w' => ∃ (c' : Ch) (iv' cv' : Value), e = .returned (.pointer (some ⟨c'.b, 0, none⟩)) ∧ NodeO w' o B d c' iv' cv' I ks ∧ c'.L = c.L ∧ c'.m = c.m ∧ (∀ x, c'.F x → c.F x ∨ w.heap.size ≤ x) ∧ (∀ x, iv'.ownBlock = some x → (c.fz = false ∧ iv.ownBlock = some x) ∨ w.heap.size ≤ x) ∧ (∀ x, cv'.ownBlock = some x → (c.fz = false ∧ cv.ownBlock = some x) ∨ w.heap.size ≤ x) ∧ ((c.fz = false ∧ c'.b = c.b) ∨ w.heap.size ≤ c'.b) ∧ Keeps (fun _ => False) w w' := by
  have hol : o < w.heap.size := (Array.getElem?_eq_some_iff.1 ho).1
  rcases hf with ⟨f1, f2, f3, f4, f5, f6, f7, f8, f9⟩ | ⟨f1, rfl, f3, f4, f5, f6, f7, f8, f9⟩
  · refine (mutable_copy hN f2 f3 ho I hI (ks.map Ch.b) hC (by omega) (by simp; omega)).mono ?_
    rintro e w' ⟨b', iv', cv', rfl, r1, r2, r3, r4, r5, r6, r7⟩
    have hkF : ∀ k ∈ ks, ∀ x, ¬ k.F x := fun k hk => (hR k hk).frozenF (f8 k hk)
    refine ⟨⟨b', c.m, c.L, fun x => x = b' ∨ iv'.ownBlock = some x ∨ cv'.ownBlock = some x, false⟩, iv', cv', rfl, ⟨rfl, r1, r2, r3, hl, hmm, hL, fun k hk => (hR k hk).keeps r7 hB (fun x h => h.elim) (fun x hx => absurd hx (hkF k hk x)), hz, fun x => ?_, fun x hx => ?_, fun e => (r5 _ e).2 rfl, fun e => (r6 _ e).2.1 rfl, fun x hx hx' => (r6 x hx').2.2 hx, fun k hk => ⟨hkF k hk _, fun x _ => hkF k hk x, fun x _ => hkF k hk x⟩, List.pairwise_of_forall_mem_list (fun a ha b hb x hx => absurd hx (hkF a ha x))⟩, rfl, rfl, fun x hx => ?_, fun x hx => .inr (r5 x hx).1, fun x hx => .inr (r6 x hx).1, .inr r4, r7⟩
    · constructor
      · rintro (h | h | h)
        · exact .inl h
        · exact .inr (.inl h)
        · exact .inr (.inr (.inl h))
      · rintro (h | h | h | ⟨k, hk, h⟩)
        · exact .inl h
        · exact .inr (.inl h)
        · exact .inr (.inr h)
        · exact absurd h (hkF k hk x)
    · rcases hx with rfl | hx | hx
      · omega
      · have := (r5 x hx).1; omega
      · have := (r6 x hx).1; omega
    · rcases hx with rfl | hx | hx
      · exact .inr r4
      · exact .inr (r5 x hx).1
      · exact .inr (r6 x hx).1
  · refine (mutable_same hN).mono ?_
    rintro e w' ⟨rfl, rfl⟩
    exact ⟨c, iv, cv, rfl, ⟨f1, hN, hI, hC, hl, hmm, hL, hR, hz, f3, f4, f5, f6, f7, f8, f9⟩, rfl, rfl, fun x hx => .inl hx, fun x hx => .inl ⟨f1, hx⟩, fun x hx => .inl ⟨f1, hx⟩, .inl ⟨f1, rfl⟩, Keeps.refl _ _⟩
theorem mutable_leaf {w : World} {o B : Nat} {c : Ch} (h : Rep w o B 0 c) (hB : B ≤ w.heap.size) (ho : OwnerAt w o) (hm : c.m ≤ 500) :
    Calls Try.prog 37 #[.pointer (some ⟨c.b, 0, none⟩), .pointer (some ⟨o, 0, none⟩)] w fun e w' => ∃ (c' : Ch) (iv' cv' : Value), e = .returned (.pointer (some ⟨c'.b, 0, none⟩)) ∧ LeafO w' o B c' iv' cv' ∧ c'.L = c.L ∧ c'.m = c.m ∧ (∀ x, c'.F x → c.F x ∨ w.heap.size ≤ x) ∧ Keeps (fun _ => False) w w' := by
  refine (mutable_any h hB ho hm).mono ?_
  rintro e w' ⟨c', rfl, r1, r2, r3, r4, r5, r6⟩
  obtain ⟨iv', cv', H⟩ := r1.leafO r4
  exact ⟨c', iv', cv', rfl, H, r2, r3, r5, r6⟩

theorem pos_cut {I : List It} {key : Key} {i : Nat} {f : Bool} {x : It} (hs : Sorted I) (hp : Pos I key i f) (hx : I[i]? = some x) : Pos (I.take i ++ I.drop (i + 1)) key i false := by
  have hil := (List.getElem?_eq_some_iff.1 hx).1
  have hl : (I.take i).length = i := by rw [List.length_take]; omega
  have hget : ∀ q, i ≤ q → (I.take i ++ I.drop (i + 1))[q]? = I[q + 1]? := fun q hq => by
    rw [List.getElem?_append_right (by omega), hl, List.getElem?_drop]; congr 1; omega
  have hgt : ∀ q y, i ≤ q → I[q + 1]? = some y → klt x.key y.key = true := fun q y hq hy => hs.get hx hy (by omega)
  have hge := hp.ge i x hx (Nat.le_refl _)
  refine ⟨by simp; omega, fun q y hy hq => ?_, fun q y hy hq => ?_, ?_⟩
  · rw [List.getElem?_append_left (by omega), List.getElem?_take_of_lt hq] at hy
    exact hp.lt q y hy hq
  · rw [hget q hq] at hy
    exact hp.ge (q + 1) y hy (by omega)
  · constructor
    · intro h; cases h
    · rintro ⟨y, hy, he⟩
      rw [hget i (Nat.le_refl _)] at hy
      have h1 := hgt i y (Nat.le_refl _) hy
      rw [he, hge] at h1
      cases h1
theorem pos_cut_last {I : List It} {key : Key} {i j : Nat} {f : Bool} (hp : Pos I key i f) (hi : i = I.length) (hij : i = j + 1) : Pos (I.take j ++ I.drop (j + 1)) key j false := by
  have hd : I.drop (j + 1) = [] := List.drop_eq_nil_of_le (by omega)
  rw [hd, List.append_nil]
  have hl : (I.take j).length = j := by rw [List.length_take]; omega
  refine ⟨by omega, fun q y hy hq => ?_, fun q y hy hq => ?_, ?_⟩
  · rw [List.getElem?_take_of_lt hq] at hy
    exact hp.lt q y hy (by omega)
  · have := (List.getElem?_eq_some_iff.1 hy).1; omega
  · constructor
    · intro h; cases h
    · rintro ⟨y, hy, _⟩
      have := (List.getElem?_eq_some_iff.1 hy).1; omega
end Go.Proofs.Qxb6601392a.Bt
