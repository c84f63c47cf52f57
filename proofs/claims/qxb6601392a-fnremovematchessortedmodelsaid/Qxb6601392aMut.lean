import Derived.Test.Qxb6601392aRep
namespace Go.Proofs.Qxb6601392a.Bt
open Go.RowKit

set_option maxHeartbeats 400000 in
theorem mutable_same {w : World} {b o p : Nat} {iv cv : Value} (h : NodeAt w b o iv cv p) : Calls Try.prog 37 #[.pointer (some ⟨b, 0, none⟩), .pointer (some ⟨o, 0, none⟩)] w fun e w' => e = .returned (.pointer (some ⟨b, 0, none⟩)) ∧ w' = w := by
  have h0 := h.c0
  have he := eqlOwner w o o (.inl rfl)
  rw [decide_eq_true rfl] at he
  clear h
  go_enter Try.func37, Try.ntmps37
  go_wp2
  go_ret
  exact ⟨rfl, rfl⟩

set_option maxRecDepth 100000 in
set_option maxHeartbeats 1000000 in
theorem mutable_copy {w : World} {b o ow p : Nat} {iv cv : Value} (h : NodeAt w b ow iv cv p) (hne : ow ≠ o) (h1 : OwnerAt w ow) (h2 : OwnerAt w o) (I : List It) (hI : OwnI w iv I) (bs : List Nat) (hC : OwnC w cv bs) (hn : I.length ≤ 1000) (hm : bs.length ≤ 1000) :
    Calls Try.prog 37 #[.pointer (some ⟨b, 0, none⟩), .pointer (some ⟨o, 0, none⟩)] w fun e w' => ∃ b' iv' cv', e = .returned (.pointer (some ⟨b', 0, none⟩)) ∧ NodeAt w' b' o iv' cv' p ∧ OwnI w' iv' I ∧ OwnC w' cv' bs ∧
      w.heap.size ≤ b' ∧ (∀ x, iv'.ownBlock = some x → w.heap.size ≤ x ∧ x ≠ b') ∧ (∀ x, cv'.ownBlock = some x → w.heap.size ≤ x ∧ x ≠ b' ∧ iv'.ownBlock ≠ some x) ∧ Keeps (fun _ => False) w w' := by
  have c0 := h.c0
  have c1 := h.c1
  have c2 := h.c2
  have c3 := h.c3
  have he := eqlOwner w ow o (.inr ⟨h1, h2⟩)
  rw [decide_eq_false hne] at he
  have HI : Hid (OwnI w iv I) := hI
  have HC : Hid (OwnC w cv bs) := hC
  clear h h1 h2 hI hC
  go_enter Try.func37, Try.ntmps37
  go_wp2_with fail
  go_region_held3 (fun w' => w'.cell? ⟨b, 1, none⟩ = some iv ∧ w'.cell? ⟨b, 2, none⟩ = some cv ∧ w'.cell? ⟨b, 3, none⟩ = some (.int .i64 (p : Int))) (first | go_keep | exact ⟨k1.cell c1 (fun h => h), k1.cell c2 (fun h => h), k1.cell c3 (fun h => h)⟩ | exact ⟨k2.cell (k1.cell c1 (fun h => h)) (fun h => h), k2.cell (k1.cell c2 (fun h => h)) (fun h => h), k2.cell (k1.cell c3 (fun h => h)) (fun h => h)⟩)
    (first
      | (go_at_call 49; refine (clone59_any _ iv I.length (icells I) (by exact HI.out) (icells_one I) (by omega)).mono ?_; rintro e w1 ⟨iv', rfl, hI1, k1, hb1⟩; obtain ⟨A1, cp1, rfl, _, _⟩ := hI1.form)
      | (go_at_call 50; refine (clone60_any _ cv bs.length (bs.map ptr) (by exact HC.out.of_block (fun k hk => k1.block k (HC.out.blk k hk) (fun h => h))) (ptr_one bs) (by omega)).mono ?_; rintro e w2 ⟨cv', rfl, hC2, k2, hb2⟩; obtain ⟨A2, cp2, rfl, _, _⟩ := hC2.form))
  go_wp2
  go_ret
  have q2 : Keeps (fun _ => False) w w2 := (Keeps.refl _ w).drew.trans (k1.trans k2)
  have hs1 : w.heap.size ≤ w1.heap.size := k1.size
  have hs2 := k2.size
  have hI2 : OwnI w2 (.slice A1 I.length cp1) I := hI1.of_block (fun k hk => k2.block k (hI1.blk k hk) (fun h => h))
  refine ⟨w2.heap.size, .slice A1 I.length cp1, .slice A2 bs.length cp2, rfl, nodeAt_new w2 o _ _ p, hI2.of_block (fun k hk => Below.heap_alloc _ _ _ (hI2.blk k hk)), hC2.of_block (fun k hk => Below.heap_alloc _ _ _ (hC2.blk k hk)), by omega, fun x hx => ⟨hb1 x hx, ?_⟩, fun x hx => ⟨?_, ?_, fun hx' => ?_⟩, q2.alloc _⟩
  · have := hI2.blk x hx; omega
  · have := hb2 x hx; omega
  · have := hC2.blk x hx; omega
  · have := hb2 x hx; have := hI1.blk x hx'; omega

/-- THE NODE THAT o MAY CHANGE: c itself, or a copy of it -/
theorem mutable_any {w : World} {o B d : Nat} {c : Ch} (h : Rep w o B d c) (hB : B ≤ w.heap.size) (ho : OwnerAt w o) (hm : c.m ≤ 500) :
    Calls Try.prog 37 #[.pointer (some ⟨c.b, 0, none⟩), .pointer (some ⟨o, 0, none⟩)] w fun e w' => ∃ c' : Ch, e = .returned (.pointer (some ⟨c'.b, 0, none⟩)) ∧ Rep w' o B d c' ∧ c'.L = c.L ∧ c'.m = c.m ∧ c'.fz = false ∧
      (∀ x, c'.F x → c.F x ∨ w.heap.size ≤ x) ∧ Keeps (fun _ => False) w w' := by
  have hol : o < w.heap.size := (Array.getElem?_eq_some_iff.1 ho).1
  cases hfz : c.fz with
  | false =>
    have h' := h
    have key : ∃ iv cv, NodeAt w c.b o iv cv c.L.length := by
      cases d with
      | zero =>
        obtain ⟨ow, iv, cv, hN, _, _, _, hf⟩ := h
        rcases hf with ⟨e, _⟩ | ⟨_, rfl, _⟩
        · rw [hfz] at e; cases e
        · exact ⟨iv, cv, hN⟩
      | succ d =>
        obtain ⟨ow, iv, cv, I, ks, hN, _, _, _, _, _, _, _, hf⟩ := h
        rcases hf with ⟨e, _⟩ | ⟨_, rfl, _⟩
        · rw [hfz] at e; cases e
        · exact ⟨iv, cv, hN⟩
    obtain ⟨iv, cv, hN⟩ := key
    refine (mutable_same hN).mono ?_
    rintro e w' ⟨rfl, rfl⟩
    exact ⟨c, rfl, h', rfl, rfl, hfz, fun x hx => .inl hx, Keeps.refl _ _⟩
  | true =>
    cases d with
    | zero =>
      obtain ⟨ow, iv, cv, hN, hI, hC, hmm, hf⟩ := h
      rcases hf with ⟨_, f2, f3, f4, f5, f6, f7, f8, f9⟩ | ⟨e, _⟩
      rotate_left
      · rw [hfz] at e; cases e
      refine (mutable_copy hN f2 f3 ho c.L hI [] hC (by omega) (by simp)).mono ?_
      rintro e w' ⟨b', iv', cv', rfl, r1, r2, r3, r4, r5, r6, r7⟩
      refine ⟨⟨b', c.m, c.L, fun x => x = b' ∨ iv'.ownBlock = some x ∨ cv'.ownBlock = some x, false⟩, rfl, ⟨o, iv', cv', r1, r2, r3, hmm, .inr ⟨rfl, rfl, fun x => ?_, fun x hx => ?_, fun e => (r5 _ e).2 rfl, fun e => (r6 _ e).2.1 rfl, fun x hx hx' => (r6 x hx').2.2 hx, fun k hk => (by cases hk), List.Pairwise.nil⟩⟩, rfl, rfl, rfl, fun x hx => ?_, r7⟩
      · simp
      · rcases hx with rfl | hx | hx
        · omega
        · have := (r5 x hx).1; omega
        · have := (r6 x hx).1; omega
      · rcases hx with rfl | hx | hx
        · exact .inr r4
        · exact .inr (r5 x hx).1
        · exact .inr (r6 x hx).1
    | succ d =>
      obtain ⟨ow, iv, cv, I, ks, hN, hI, hC, hl, hmm, hL, hR, hz, hf⟩ := h
      rcases hf with ⟨_, f2, f3, f4, f5, f6, f7, f8, f9⟩ | ⟨e, _⟩
      rotate_left
      · rw [hfz] at e; cases e
      refine (mutable_copy hN f2 f3 ho I hI (ks.map Ch.b) hC (by omega) (by simp; omega)).mono ?_
      rintro e w' ⟨b', iv', cv', rfl, r1, r2, r3, r4, r5, r6, r7⟩
      have hkF : ∀ k ∈ ks, ∀ x, ¬ k.F x := fun k hk => (hR k hk).frozenF (f8 k hk)
      refine ⟨⟨b', c.m, c.L, fun x => x = b' ∨ iv'.ownBlock = some x ∨ cv'.ownBlock = some x, false⟩, rfl, ⟨o, iv', cv', I, ks, r1, r2, r3, hl, hmm, hL, fun k hk => (hR k hk).keeps r7 hB (fun x h => h.elim) (fun x hx => absurd hx (hkF k hk x)), hz,
        .inr ⟨rfl, rfl, fun x => ?_, fun x hx => ?_, fun e => (r5 _ e).2 rfl, fun e => (r6 _ e).2.1 rfl, fun x hx hx' => (r6 x hx').2.2 hx, fun k hk => ⟨hkF k hk _, fun x _ => hkF k hk x, fun x _ => hkF k hk x⟩, ?_⟩⟩, rfl, rfl, rfl, fun x hx => ?_, r7⟩
      · constructor
        · rintro (h | h | h)
          · exact .inl h
          · exact .inr (.inl h)
          · exact .inr (.inr (.inl h))
        · rintro (h | h | h | ⟨k, hk, h⟩)
          · exact .inl h
          · exact .inr (.inl h)
          · exact .inr (.inr h)
          · exact absurd h (hkF k hk x)
      · rcases hx with rfl | hx | hx
        · omega
        · have := (r5 x hx).1; omega
        · have := (r6 x hx).1; omega
      · exact List.pairwise_of_forall_mem_list (fun a ha b hb x hx => absurd hx (hkF a ha x))
      · rcases hx with rfl | hx | hx
        · exact .inr r4
        · exact .inr (r5 x hx).1
        · exact .inr (r6 x hx).1
end Go.Proofs.Qxb6601392a.Bt
