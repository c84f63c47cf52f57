import Derived.Test.Qxb6601392aPutD
import Derived.Test.Qxb6601392aModelB
namespace Go.Proofs.Qxb6601392a.Bt
open Go.RowKit

theorem delete59_node {w : World} {b o p : Nat} {A : Option Addr} {cap : Nat} {cv : Value} {I : List It} (hI : OwnI w (.slice A I.length cap) I) (hN : NodeAt w b o (.slice A I.length cap) cv p) (hib : (Value.slice A I.length cap).ownBlock ≠ some b) (hn : I.length ≤ 100000) (i : Nat) (hi : i < I.length) :
    Calls Try.prog 55 #[.slice A I.length cap, .int .i64 (i : Int), .int .i64 ((i : Int) + 1)] w fun e w2 => ∃ A3 n3 cap3, e = .returned (.slice A3 n3 cap3) ∧ OwnI w2 (.slice A3 n3 cap3) (I.take i ++ I.drop (i + 1)) ∧
      Keeps (fun k => (Value.slice A I.length cap).ownBlock = some k) w w2 ∧ (Value.slice A3 n3 cap3).ownBlock = (Value.slice A I.length cap).ownBlock ∧ NodeAt w2 b o (.slice A I.length cap) cv p := by
  refine (delete59_any w (.slice A I.length cap) I.length (icells I) hI (icells_one I) hn i hi).mono ?_
  rintro e w2 ⟨v', rfl, r1, r2, r3, _⟩
  obtain ⟨A3, cap3, rfl, _, _⟩ := r1.form
  refine ⟨A3, _, cap3, rfl, ?_, r2, r3, hN.of_block (r2.block b hN.lt hib)⟩
  unfold OwnI
  rw [icells_take, icells_drop] at r1
  have hl : (I.take i ++ I.drop (i + 1)).length = I.length - 1 := by simp; omega
  rw [icells_append, hl]; exact r1
theorem delete60_node {w : World} {b o p : Nat} {A : Option Addr} {cap : Nat} {iv : Value} {bs : List Nat} (hC : OwnC w (.slice A bs.length cap) bs) (hN : NodeAt w b o iv (.slice A bs.length cap) p) (hib : (Value.slice A bs.length cap).ownBlock ≠ some b) (hn : bs.length ≤ 100000) (i : Nat) (hi : i < bs.length) :
    Calls Try.prog 56 #[.slice A bs.length cap, .int .i64 (i : Int), .int .i64 ((i : Int) + 1)] w fun e w2 => ∃ A3 n3 cap3, e = .returned (.slice A3 n3 cap3) ∧ OwnC w2 (.slice A3 n3 cap3) (bs.take i ++ bs.drop (i + 1)) ∧
      Keeps (fun k => (Value.slice A bs.length cap).ownBlock = some k) w w2 ∧ (Value.slice A3 n3 cap3).ownBlock = (Value.slice A bs.length cap).ownBlock ∧ NodeAt w2 b o iv (.slice A bs.length cap) p := by
  refine (delete60_any w (.slice A bs.length cap) bs.length (bs.map ptr) hC (ptr_one bs) hn i hi).mono ?_
  rintro e w2 ⟨v', rfl, r1, r2, r3, _⟩
  obtain ⟨A3, cap3, rfl, _, _⟩ := r1.form
  refine ⟨A3, _, cap3, rfl, ?_, r2, r3, hN.of_block (r2.block b hN.lt hib)⟩
  unfold OwnC
  rw [Nat.mul_one, Nat.mul_one, ← List.map_take, ← List.map_drop, ← List.map_append] at r1
  have hl : (bs.take i ++ bs.drop (i + 1)).length = bs.length - 1 := by simp; omega
  rw [hl]; exact r1

/-- a node on its way: w0 where it began, wc now -/
structure Way (w0 wc : World) (b o : Nat) (iv0 cv0 : Value) (iv cv : Value) (p : Nat) (I : List It) (bs : List Nat) : Prop where
  n : NodeAt wc b o iv cv p
  i : OwnI wc iv I
  c : OwnC wc cv bs
  k : Keeps (fun k => iv0.ownBlock = some k ∨ cv0.ownBlock = some k ∨ k = b) w0 wc
  ib : ∀ k, iv.ownBlock = some k → (iv0.ownBlock = some k ∨ w0.heap.size ≤ k) ∧ k ≠ b
  cb : ∀ k, cv.ownBlock = some k → (cv0.ownBlock = some k ∨ w0.heap.size ≤ k) ∧ k ≠ b
  ic : ∀ k, cv.ownBlock = some k → iv.ownBlock ≠ some k

theorem Way.below {w0 w w' : World} {b o p : Nat} {iv0 cv0 iv cv : Value} {I : List It} {bs : List Nat} (h : Way w0 w b o iv0 cv0 iv cv p I bs) (hb : Below w.heap.size w w') : Way w0 w' b o iv0 cv0 iv cv p I bs :=
  ⟨h.n.of_block (hb.block b h.n.lt), h.i.of_block (fun k hk => hb.block k (h.i.blk k hk)), h.c.of_block (fun k hk => hb.block k (h.c.blk k hk)), h.k.andThen (keeps_of_below (S := fun _ => False) hb) (fun _ _ e => e.elim), h.ib, h.cb, h.ic⟩
theorem Way.set3 {w0 w : World} {b o p : Nat} {iv0 cv0 iv cv : Value} {I : List It} {bs : List Nat} (h : Way w0 w b o iv0 cv0 iv cv p I bs) (q : Nat) : Way w0 (w.setCell ⟨b, 3, none⟩ (.int .i64 (q : Int))) b o iv0 cv0 iv cv q I bs :=
  ⟨h.n.set3 q, h.i.of_block (fun k hk => Below.heap_setCell _ ⟨b, 3, none⟩ _ _ (h.ib k hk).2), h.c.of_block (fun k hk => Below.heap_setCell _ ⟨b, 3, none⟩ _ _ (h.cb k hk).2), h.k.setCell (p := ⟨b, 3, none⟩) (.inl (.inr (.inr rfl))) _, h.ib, h.cb, h.ic⟩
theorem Way.drew {w0 w : World} {b o p : Nat} {iv0 cv0 iv cv : Value} {I : List It} {bs : List Nat} (h : Way w0 w b o iv0 cv0 iv cv p I bs) : Way w0 w.drew b o iv0 cv0 iv cv p I bs := h.below ⟨rfl, rfl, rfl, Nat.le_refl _, fun _ _ => rfl⟩
theorem Way.other {w0 w : World} {b o p : Nat} {iv0 cv0 iv cv : Value} {I : List It} {bs : List Nat} (h : Way w0 w b o iv0 cv0 iv cv p I bs) {k0 : Nat} (j : Nat) (u : Value) (h1 : k0 ≠ b) (h2 : iv.ownBlock ≠ some k0) (h3 : cv.ownBlock ≠ some k0) (h4 : w0.heap.size ≤ k0) : Way w0 (w.setCell ⟨k0, j, none⟩ u) b o iv0 cv0 iv cv p I bs :=
  ⟨h.n.of_block (Below.heap_setCell _ ⟨k0, j, none⟩ _ _ (fun e => h1 e.symm)), h.i.of_block (fun k hk => Below.heap_setCell _ ⟨k0, j, none⟩ _ _ (fun e => h2 (by rw [hk, show k = k0 from e]))), h.c.of_block (fun k hk => Below.heap_setCell _ ⟨k0, j, none⟩ _ _ (fun e => h3 (by rw [hk, show k = k0 from e]))), h.k.setCell (p := ⟨k0, j, none⟩) (.inr h4) _, h.ib, h.cb, h.ic⟩
/-- the items' slice turned, then laid into the node -/
theorem Way.items {w0 w w2 : World} {b o p : Nat} {iv0 cv0 iv cv iv' : Value} {I I' : List It} {bs : List Nat} (h : Way w0 w b o iv0 cv0 iv cv p I bs) (hk : Keeps (fun k => iv.ownBlock = some k) w w2) (hI : OwnI w2 iv' I') (hN : NodeAt w2 b o iv cv p) (ho : ∀ k, iv'.ownBlock = some k → iv.ownBlock = some k ∨ w.heap.size ≤ k) :
    Way w0 (w2.setCell ⟨b, 1, none⟩ iv') b o iv0 cv0 iv' cv p I' bs := by
  have hbl := h.n.lt
  have hs := h.k.size
  have hib : ∀ k, iv'.ownBlock = some k → (iv0.ownBlock = some k ∨ w0.heap.size ≤ k) ∧ k ≠ b := fun k hk' => by
    rcases ho k hk' with e | e
    · exact h.ib k e
    · exact ⟨.inr (by omega), by omega⟩
  have hc2 : OwnC w2 cv bs := h.c.of_block (fun k hk' => hk.block k (h.c.blk k hk') (h.ic k hk'))
  refine ⟨hN.set1 _, hI.of_block (fun k hk' => Below.heap_setCell _ ⟨b, 1, none⟩ _ _ (hib k hk').2), hc2.of_block (fun k hk' => Below.heap_setCell _ ⟨b, 1, none⟩ _ _ (h.cb k hk').2), (h.k.andThen hk (fun k hk0 e => ?_)).setCell (p := ⟨b, 1, none⟩) (.inl (.inr (.inr rfl))) _, hib, h.cb, fun k hk' e => ?_⟩
  · rcases (h.ib k e).1 with e' | e'
    · exact .inl e'
    · omega
  · rcases ho k e with e' | e'
    · exact h.ic k hk' e'
    · have := h.c.blk k hk'; omega
theorem Way.kids {w0 w w2 : World} {b o p : Nat} {iv0 cv0 iv cv cv' : Value} {I : List It} {bs bs' : List Nat} (h : Way w0 w b o iv0 cv0 iv cv p I bs) (hk : Keeps (fun k => cv.ownBlock = some k) w w2) (hC : OwnC w2 cv' bs') (hN : NodeAt w2 b o iv cv p) (ho : ∀ k, cv'.ownBlock = some k → cv.ownBlock = some k ∨ w.heap.size ≤ k) :
    Way w0 (w2.setCell ⟨b, 2, none⟩ cv') b o iv0 cv0 iv cv' p I bs' := by
  have hbl := h.n.lt
  have hs := h.k.size
  have hcb : ∀ k, cv'.ownBlock = some k → (cv0.ownBlock = some k ∨ w0.heap.size ≤ k) ∧ k ≠ b := fun k hk' => by
    rcases ho k hk' with e | e
    · exact h.cb k e
    · exact ⟨.inr (by omega), by omega⟩
  have hi2 : OwnI w2 iv I := h.i.of_block (fun k hk' => hk.block k (h.i.blk k hk') (fun e => h.ic k e hk'))
  refine ⟨hN.set2 _, hi2.of_block (fun k hk' => Below.heap_setCell _ ⟨b, 2, none⟩ _ _ (h.ib k hk').2), hC.of_block (fun k hk' => Below.heap_setCell _ ⟨b, 2, none⟩ _ _ (hcb k hk').2), (h.k.andThen hk (fun k hk0 e => ?_)).setCell (p := ⟨b, 2, none⟩) (.inl (.inr (.inr rfl))) _, h.ib, hcb, fun k hk' e => ?_⟩
  · rcases (h.cb k e).1 with e' | e'
    · exact .inr (.inl e')
    · omega
  · rcases ho k hk' with e' | e'
    · exact h.ic k e' e
    · have := h.i.blk k e; omega

set_option maxRecDepth 100000 in
set_option maxHeartbeats 4000000 in
theorem takeEnd_raw {w : World} {b o p q q2 : Nat} {iv cv : Value} {I : List It} {bs bs' : List Nat} {kval : Value} (W : Way w w b o iv cv iv cv p I bs) (last : Bool) (i : Nat) (cz : Int) (hE : if last then i + 1 = I.length ∧ cz = (bs.length : Int) - 1 else i = 0 ∧ cz = 0) (it : It) (hit : I[i]? = some it) (hv : it.v.size ≤ 1048576) (hn : I.length ≤ 10000) (hbn : bs.length ≤ 10000) (hq : q + 1 = p) (hp2 : p ≤ 4611686018427387904)
    (hkid : (bs = [] ∧ kval = .pointer none ∧ bs' = [] ∧ q2 = q) ∨ (∃ c kb pk : Nat, cz = (c : Int) ∧ bs[c]? = some kb ∧ kval = .pointer (some ⟨kb, 0, none⟩) ∧ bs' = bs.take c ++ bs.drop (c + 1) ∧ w.cell? ⟨kb, 3, none⟩ = some (.int .i64 (pk : Int)) ∧ kb ≠ b ∧ iv.ownBlock ≠ some kb ∧ cv.ownBlock ≠ some kb ∧ q2 + pk = q)) :
    Calls Try.prog 52 #[.pointer (some ⟨b, 0, none⟩), .bool last] w fun e w' => ∃ iv' cv', e = .returned (.tuple #[it.val, kval]) ∧ Way w w' b o iv cv iv' cv' q2 (I.take i ++ I.drop (i + 1)) bs' := by
  obtain ⟨A, cap, rfl, _, _⟩ := W.i.form
  obtain ⟨Ac, cc, rfl, _, _⟩ := W.c.form
  have HW := hide' W
  have hil : i < I.length := (List.getElem?_eq_some_iff.1 hit).1
  have hil' : (i : Int) < (I.length : Int) := by omega
  have hn' : (I.length : Int) ≤ 10000 := by omega
  have hbn' : (bs.length : Int) ≤ 10000 := by omega
  have hbl := W.n.lt
  have HIT := hide' hit
  have HE := hide' hE
  have HKID := hide' hkid
  have hq0 : (0 : Int) ≤ (q : Int) := by omega
  have hwp : IntKind.i64.wrap ((p : Int) - 1) = (q : Int) := by rw [IntKind.wrap_i64]; omega
  clear W hit hE hkid
  go_enter Try.func52, Try.ntmps52
  go_upto_if 10 with fail
  go_cut [6, 7] (fun x y wc => x = .int .i64 (i : Int) ∧ y = .int .i64 cz ∧ Below w.heap.size w wc ∧ wc.heap.size = w.heap.size + 1 ∧ wc.heap[w.heap.size]? = some (.cells #[.string ⟨#[]⟩, .string ⟨#[]⟩, .int .u64 0] 75))
  case first =>
    cases last with
    | true =>
      have c1 := HW.out.n.c1
      have c2 := HW.out.n.c2
      have hEE := HE.out
      simp only [if_true] at hEE
      have hw1 : IntKind.i64.wrap ((I.length : Int) - 1) = (i : Int) := by rw [IntKind.wrap_i64]; omega
      have hw2 : IntKind.i64.wrap ((bs.length : Int) - 1) = cz := by rw [IntKind.wrap_i64]; omega
      clear hEE
      go_wp2_with fail
      go_quiet (fail)
      go_wp2_with fail
      go_meet
      case rel => exact ⟨rfl, rfl, below_drewN ((Below.refl _ _).alloc (Nat.le_refl _) _) _, World.size_alloc _ _, heap_alloc_new _ _⟩
    | false =>
      obtain ⟨rfl, rfl⟩ : i = 0 ∧ cz = 0 := by simpa using HE.out
      go_wp2_with fail
      go_meet
      case rel => exact ⟨rfl, rfl, (Below.refl _ _).alloc (Nat.le_refl _) _, by simp, heap_alloc_new _ _⟩
  case rest =>
    obtain ⟨rfl, rfl, hbc, hsc, hz⟩ := hcut
    obtain ⟨w4, rfl⟩ : ∃ w4 : World, w4 = wc := ⟨_, rfl⟩
    have hWc := HW.out.below hbc
    obtain ⟨g, cap', hv', m0, m1, m2, _, _, _⟩ := hWc.i.at HIT.out
    injection hv' with hA1 hA3 hA2
    clear hA3
    subst hA1 hA2
    have x59 := fun W => idx59 g I.length cap i hil W
    have n1 := hWc.n.c1
    obtain ⟨w5, hw5⟩ : ∃ w5, w5 = w4.alloc (.cells #[.string it.k, .string it.v, .int .u64 it.r] 75) := ⟨_, rfl⟩
    have hb5 : Below w4.heap.size w4 w5 := by rw [hw5]; exact (Below.refl _ _).alloc (Nat.le_refl _) _
    have hW5 := hWc.below hb5
    have n51 := hW5.n.c1
    have hbox : w5.heap[w4.heap.size]? = some (.cells #[.string it.k, .string it.v, .int .u64 it.r] 75) := by rw [hw5]; exact heap_alloc_new _ _
    have hz5 : w5.heap[w.heap.size]? = some (.cells #[.string ⟨#[]⟩, .string ⟨#[]⟩, .int .u64 0] 75) := (hb5.block _ (by omega)).trans hz
    have hs5 : w5.heap.size = w.heap.size + 2 := by rw [hw5]; simp; omega
    have HDEL := hide' (delete59_node hW5.i hW5.n (fun e => (hW5.ib b e).2 rfl) (by omega) i hil)
    have hwi : IntKind.i64.wrap ((i : Int) + 1) = (i : Int) + 1 := by rw [IntKind.wrap_i64]; omega
    have hgb : g ≠ b := fun e => (hWc.ib g rfl).2 e
    have HW5 := hide' hW5
    have HWE := hide' hw5
    have HBX := hide' hbox
    have HZ5 := hide' hz5
    have HS5 := hide' hs5
    have HSC := hide' hsc
    clear hWc hb5 hW5 hbox hz5 hs5 hw5 hz hsc hbc
    go_upto_region 5 with fail
    rw [← HWE.out]
    go_wp2_with fail
    refine HDEL.out.mono ?_
    rintro e w6 ⟨A3, n3, cap3, rfl, r1, r2, r3, r4⟩
    have f6 := r4.free 1
    have f6' := r4.c1
    have hW7 := HW5.out.items r2 r1 r4 (fun k hk => .inl (r3 ▸ hk))
    obtain ⟨w7, hw7⟩ : ∃ w7, w7 = w6.setCell ⟨b, 1, none⟩ (.slice A3 n3 cap3) := ⟨_, rfl⟩
    rw [← hw7] at hW7
    have hkb : ∀ k, w.heap.size ≤ k → k < w.heap.size + 2 → w7.heap[k]? = w5.heap[k]? := fun k hk hk2 => by
      rw [hw7]
      refine (Below.heap_setCell _ ⟨b, 1, none⟩ _ _ (by show k ≠ b; omega)).trans (r2.block k (by rw [HS5.out]; exact hk2) (fun e => ?_))
      have := HW.out.i.blk k e
      omega
    have hbx7 := (hkb w4.heap.size (by rw [HSC.out]; omega) (by rw [HSC.out]; omega)).trans HBX.out
    have hz7 := (hkb w.heap.size (Nat.le_refl _) (by omega)).trans HZ5.out
    have hs7 : w.heap.size + 2 ≤ w7.heap.size := by have := r2.size; rw [hw7]; simp; rw [HS5.out] at this; exact this
    have c73 := hW7.n.c3
    have f73 := hW7.n.free 3
    have v7 : w7.cell? ⟨w4.heap.size, 1, none⟩ = some (.string it.v) := by simp [World.cell?, hbx7]
    have hbne : b ≠ w4.heap.size := by rw [HSC.out]; omega
    have HR3 : Hid ((Value.slice A3 n3 cap3).ownBlock ≠ some w.heap.size) := by
      show _ ≠ _
      rw [r3]
      intro e
      have := HW.out.i.blk _ e
      omega
    have HC3 : Hid ((Value.slice Ac bs.length cc).ownBlock ≠ some w.heap.size) := fun e => by
      have := HW.out.c.blk _ e
      omega
    have HW7 := hide' hW7
    have HWW := hide' hw7
    have HBX7 := hide' hbx7
    have HZ7 := hide' hz7
    have HS7 := hide' hs7
    clear hW7 hw7 hbx7 hz7 hs7 hkb r1 r2 r3 r4 m0 m1 m2 n1 n51
    go_upto_region 6 with fail
    rw [← HWW.out]
    go_cut [] (fun wd => wd = (w7.setCell ⟨b, 3, none⟩ (.int .i64 (q : Int))).drew)
    case first =>
      go_region_with (go_at_call 54; refine (pieces_one _ hv _).mono ?_; rintro e w' ⟨rfl, rfl⟩)
      all_goals first | (go_meet; exact rfl) | (go_wp2_with fail; go_meet; exact rfl)
    case rest =>
      have hW9 : Way w wc b o (.slice (some ⟨g, 0, none⟩) I.length cap) (.slice Ac bs.length cc) (.slice A3 n3 cap3) (.slice Ac bs.length cc) q (I.take i ++ I.drop (i + 1)) bs := by rw [hcut]; exact (HW7.out.set3 q).drew
      have hk9 : ∀ k, k ≠ b → wc.heap[k]? = w7.heap[k]? := fun k hk => by rw [hcut]; exact Below.heap_setCell _ ⟨b, 3, none⟩ _ _ hk
      have hbx9 := (hk9 w4.heap.size (fun e => hbne e.symm)).trans HBX7.out
      have hz9 := (hk9 w.heap.size (fun e => by omega)).trans HZ7.out
      have hs9 : w.heap.size + 2 ≤ wc.heap.size := by rw [hcut]; simp [World.drew]; exact HS7.out
      have HW9 := hide' hW9
      have HBX9 := hide' hbx9
      have HZ9 := hide' hz9
      have HS9 := hide' hs9
      have c92 := hW9.n.c2
      clear hW9 hk9 hbx9 hz9 hs9 hcut c73 f73 v7
      rcases HKID.out with ⟨hbs, rfl, rfl, rfl⟩ | ⟨c, kb, pk, rfl, hkb, rfl, rfl, hpk, hkb1, hkb2, hkb3, hq2⟩
      · have hd0 : decide ((0 : Int) < (bs.length : Int)) = false := by rw [hbs]; rfl
        have z0 : wc.cell? ⟨w.heap.size, 0, none⟩ = some (.string ⟨#[]⟩) := by simp [World.cell?, HZ9.out]
        have z1 : wc.cell? ⟨w.heap.size, 1, none⟩ = some (.string ⟨#[]⟩) := by simp [World.cell?, HZ9.out]
        have z2 : wc.cell? ⟨w.heap.size, 2, none⟩ = some (.int .u64 0) := by simp [World.cell?, HZ9.out]
        have zf : ∀ j, wc.frozen? ⟨w.heap.size, j, none⟩ = false := fun j => by simp [World.frozen?, HZ9.out]
        have x0 : wc.cell? ⟨w4.heap.size, 0, none⟩ = some (.string it.k) := by simp [World.cell?, HBX9.out]
        have x1 : wc.cell? ⟨w4.heap.size, 1, none⟩ = some (.string it.v) := by simp [World.cell?, HBX9.out]
        have x2 : wc.cell? ⟨w4.heap.size, 2, none⟩ = some (.int .u64 it.r) := by simp [World.cell?, HBX9.out]
        have hle : (bs.length : Int) ≤ 0 := by rw [hbs]; simp
        have HBS := hide' hbs
        clear hbs
        go_wp2_with fail
        refine bodyPost_ret (v := .tuple #[.agg #[.string it.k, .string it.v, .int .u64 it.r], .pointer none]) ?_ rfl ⟨rfl, .slice A3 n3 cap3, .slice Ac bs.length cc, ?_⟩
        · simp [results, Try.results52, go_sem, z0, z1, z2]
        · have hf := HW9.out
          have hbw : w.heap.size ≠ b := by omega
          have hr := ((hf.other 0 (.string it.k) hbw HR3.out HC3.out (Nat.le_refl _)).other 1 (.string it.v) hbw HR3.out HC3.out (Nat.le_refl _)).other 2 (.int .u64 it.r) hbw HR3.out HC3.out (Nat.le_refl _)
          have hbs' := HBS.out
          subst hbs'
          exact hr
      · have hcl : c < bs.length := (List.getElem?_eq_some_iff.1 hkb).1
        have hcl' : (c : Int) < (bs.length : Int) := by omega
        have hd0 : (0 : Int) < (bs.length : Int) := by omega
        obtain ⟨gc, cc', hv', k0, _, _, _⟩ := HW9.out.c.at hkb
        injection hv' with hA1 hA3 hA2
        clear hA3
        subst hA1 hA2
        have x60 := fun W => idx60 gc bs.length cc c hcl W
        have hwc : IntKind.i64.wrap ((c : Int) + 1) = (c : Int) + 1 := by rw [IntKind.wrap_i64]; omega
        have HDEL2 := hide' (delete60_node HW9.out.c HW9.out.n (fun e => (HW9.out.cb b e).2 rfl) (by omega) c hcl)
        have hkl : kb < w.heap.size := cell_lt hpk
        have hpk9 : wc.cell? ⟨kb, 3, none⟩ = some (.int .i64 (pk : Int)) := HW9.out.k.cell hpk (by
          rintro (e | e | e)
          · exact hkb2 e
          · exact hkb3 e
          · exact hkb1 e)
        have hkg : kb ≠ gc := fun e => hkb3 (by rw [e]; rfl)
        have HQ2 := hide' hq2
        have hwq : IntKind.i64.wrap ((q : Int) - (pk : Int)) = (q2 : Int) := by rw [IntKind.wrap_i64]; omega
        have HPK := hide' hpk9
        have HKB1 := hide' hkb1
        clear hkb hpk hq2 hkb2 hkb3
        go_wp2_with fail
        refine HDEL2.out.mono ?_
        rintro e w10 ⟨A5, n5, cap5, rfl, r1, r2, r3, r4⟩
        have f10 := r4.free 2
        have f10' := r4.c2
        have hW11 := HW9.out.kids r2 r1 r4 (fun k hk => .inl (r3 ▸ hk))
        obtain ⟨w11, hw11⟩ : ∃ w11, w11 = w10.setCell ⟨b, 2, none⟩ (.slice A5 n5 cap5) := ⟨_, rfl⟩
        rw [← hw11] at hW11
        have hk11 : ∀ k, k < wc.heap.size → k ≠ b → k ≠ gc → w11.heap[k]? = wc.heap[k]? := fun k hk hkb hkg => by
          rw [hw11]
          exact (Below.heap_setCell _ ⟨b, 2, none⟩ _ _ hkb).trans (r2.block k hk (fun e => hkg (by simpa [Value.ownBlock] using e.symm)))
        have hgcl : gc < w.heap.size := HW.out.c.blk gc rfl
        have hs9 := HS9.out
        have h4s := HSC.out
        have hbx11 := (hk11 w4.heap.size (by omega) (fun e => hbne e.symm) (by omega)).trans HBX9.out
        have hz11 := (hk11 w.heap.size (by omega) (by omega) (by omega)).trans HZ9.out
        have hpk11 : w11.cell? ⟨kb, 3, none⟩ = some (.int .i64 (pk : Int)) := (World.cell?_of_block (w := wc) (a := ⟨kb, 3, none⟩) (hk11 kb (by omega) HKB1.out hkg)).trans HPK.out
        have HC5 : Hid ((Value.slice A5 n5 cap5).ownBlock ≠ some w.heap.size) := by
          show _ ≠ _
          rw [r3]
          simp [Value.ownBlock]
          omega
        have c113 := hW11.n.c3
        have f113 := hW11.n.free 3
        have HW11 := hide' hW11
        have HWW := hide' hw11
        have HBX11 := hide' hbx11
        have HZ11 := hide' hz11
        clear hW11 hw11 hbx11 hz11 hk11 r1 r2 r3 r4 k0 hpk9 h4s hs9 hgcl
        go_upto_region 11 with fail
        rw [← HWW.out]
        go_cut [] (fun wd => wd = (w11.setCell ⟨b, 3, none⟩ (.int .i64 (q2 : Int))).drew)
        case first =>
          go_region
          all_goals first | (go_meet; exact rfl) | (go_wp2_with fail; go_meet; exact rfl)
        case rest =>
          have hW12 : Way w wc b o (.slice (some ⟨g, 0, none⟩) I.length cap) (.slice (some ⟨gc, 0, none⟩) bs.length cc) (.slice A3 n3 cap3) (.slice A5 n5 cap5) q2 (I.take i ++ I.drop (i + 1)) (bs.take c ++ bs.drop (c + 1)) := by rw [hcut]; exact (HW11.out.set3 q2).drew
          have hk12 : ∀ k, k ≠ b → wc.heap[k]? = w11.heap[k]? := fun k hk => by rw [hcut]; exact Below.heap_setCell _ ⟨b, 3, none⟩ _ _ hk
          have hbx12 := (hk12 w4.heap.size (fun e => hbne e.symm)).trans HBX11.out
          have hz12 := (hk12 w.heap.size (fun e => by omega)).trans HZ11.out
          have z0 : wc.cell? ⟨w.heap.size, 0, none⟩ = some (.string ⟨#[]⟩) := by simp [World.cell?, hz12]
          have z1 : wc.cell? ⟨w.heap.size, 1, none⟩ = some (.string ⟨#[]⟩) := by simp [World.cell?, hz12]
          have z2 : wc.cell? ⟨w.heap.size, 2, none⟩ = some (.int .u64 0) := by simp [World.cell?, hz12]
          have zf : ∀ j, wc.frozen? ⟨w.heap.size, j, none⟩ = false := fun j => by simp [World.frozen?, hz12]
          have x0 : wc.cell? ⟨w4.heap.size, 0, none⟩ = some (.string it.k) := by simp [World.cell?, hbx12]
          have x1 : wc.cell? ⟨w4.heap.size, 1, none⟩ = some (.string it.v) := by simp [World.cell?, hbx12]
          have x2 : wc.cell? ⟨w4.heap.size, 2, none⟩ = some (.int .u64 it.r) := by simp [World.cell?, hbx12]
          have HW12 := hide' hW12
          clear hW12 hk12 hbx12 hz12 hcut
          go_wp2_with fail
          refine bodyPost_ret (v := .tuple #[.agg #[.string it.k, .string it.v, .int .u64 it.r], .pointer (some ⟨kb, 0, none⟩)]) ?_ rfl ⟨.slice A3 n3 cap3, .slice A5 n5 cap5, rfl, ?_⟩
          · simp [results, Try.results52, go_sem, z0, z1, z2]
          · have hf := HW12.out
            have hbw : w.heap.size ≠ b := by omega
            exact ((hf.other 0 (.string it.k) hbw HR3.out HC5.out (Nat.le_refl _)).other 1 (.string it.v) hbw HR3.out HC5.out (Nat.le_refl _)).other 2 (.int .u64 it.r) hbw HR3.out HC5.out (Nat.le_refl _)
end Go.Proofs.Qxb6601392a.Bt
