import Derived.Test.Qxb6601392aPutC
namespace Go.Proofs.Qxb6601392a.Bt
open Go.RowKit

/-- the node behind a split of its child, the middle item and the right half laid into it -/
structure Up (w4 w8 : World) (b o p : Nat) (iv cv iv' cv' : Value) (I' : List It) (bs' : List Nat) : Prop where
  n : NodeAt w8 b o iv' cv' p
  i : OwnI w8 iv' I'
  c : OwnC w8 cv' bs'
  keep : Keeps (fun k => iv.ownBlock = some k ∨ cv.ownBlock = some k ∨ k = b) w4 w8
  ib : ∀ k, iv'.ownBlock = some k → (iv.ownBlock = some k ∨ w4.heap.size ≤ k) ∧ k ≠ b
  cb : ∀ k, cv'.ownBlock = some k → (cv.ownBlock = some k ∨ w4.heap.size ≤ k) ∧ k ≠ b ∧ iv'.ownBlock ≠ some k

/-- a child put in among the children of a node -/
theorem insert60_node {w : World} {b o p : Nat} {A : Option Addr} {cap : Nat} {iv : Value} {bs : List Nat} (hC : OwnC w (.slice A bs.length cap) bs) (hN : NodeAt w b o iv (.slice A bs.length cap) p) (hib : (Value.slice A bs.length cap).ownBlock ≠ some b) (hn : bs.length ≤ 100000) (r : Nat) (i : Nat) (hi : i ≤ bs.length) :
    Calls Try.prog 61 #[.slice A bs.length cap, .int .i64 (i : Int), .slice (some ⟨w.heap.size, 0, none⟩) 1 1] (w.alloc (.cells #[.pointer (some ⟨r, 0, none⟩)] 28)) fun e w2 => ∃ A3 cap3, e = .returned (.slice A3 (bs.length + 1) cap3) ∧ OwnC w2 (.slice A3 (bs.length + 1) cap3) (bs.take i ++ r :: bs.drop i) ∧
      Keeps (fun k => (Value.slice A bs.length cap).ownBlock = some k) w w2 ∧ (∀ k, (Value.slice A3 (bs.length + 1) cap3).ownBlock = some k → ((Value.slice A bs.length cap).ownBlock = some k ∨ w.heap.size ≤ k) ∧ k ≠ b) ∧ NodeAt w2 b o iv (.slice A bs.length cap) p := by
  refine (insert60_any (w.alloc (.cells #[.pointer (some ⟨r, 0, none⟩)] 28)) (.slice A bs.length cap) bs.length (bs.map ptr) (hC.of_block (fun k hk => Below.heap_alloc _ _ _ (hC.blk k hk))) (ptr_one bs) hn w.heap.size [ptr r] ⟨heap_alloc_new _ _, rfl, ptr_one [r]⟩ (fun e => by have := hC.blk _ e; omega) i hi).mono ?_
  rintro e w2 ⟨v', rfl, r1, r2, r3⟩
  obtain ⟨A3, cap3, rfl, _, _⟩ := r1.form
  have k2 : Keeps (fun k => (Value.slice A bs.length cap).ownBlock = some k) w w2 := ((Keeps.refl _ w).alloc _).trans r2
  have hbl := hN.lt
  refine ⟨A3, cap3, rfl, ?_, k2, fun k hk => ?_, hN.of_block (k2.block b hbl hib)⟩
  · unfold OwnC
    rw [Nat.mul_one, ← List.map_take, ← List.map_drop, List.append_assoc] at r1
    rw [List.map_append, List.map_cons]
    have hl : (bs.take i ++ r :: bs.drop i).length = bs.length + 1 := by simp; omega
    rw [hl]; exact r1
  · rcases r3 with r3 | r3
    · rw [r3] at hk
      exact ⟨.inl hk, fun e => hib (e ▸ hk)⟩
    · rw [r3] at hk
      injection hk with hk
      simp at hk
      exact ⟨.inr (by omega), by omega⟩
set_option maxRecDepth 100000 in
set_option maxHeartbeats 4000000 in
theorem put_split_raw {w : World} {b o p gc cc : Nat} {iv : Value} {I : List It} {bs : List Nat} (hN : NodeAt w b o iv (.slice (some ⟨gc, 0, none⟩) bs.length cc) p) (hI : OwnI w iv I) (hs : Sorted I) (hn : I.length ≤ 10000) (hC : OwnC w (.slice (some ⟨gc, 0, none⟩) bs.length cc) bs) (x : It) (i : Nat) (hP : Pos I x.key i false) (kb : Nat) (hkb : bs[i]? = some kb) (hbl' : bs.length ≤ 10000)
    (hgb : gc ≠ b) (hib0 : iv.ownBlock ≠ some b) (hig : iv.ownBlock ≠ some gc)
    (M : World → World → Nat → Prop) (hmut : ∀ w1, Below w.heap.size w w1 → Calls Try.prog 37 #[.pointer (some ⟨kb, 0, none⟩), .pointer (some ⟨o, 0, none⟩)] w1 fun e w2 => ∃ kb', e = .returned (.pointer (some ⟨kb', 0, none⟩)) ∧ M w1 w2 kb')
    (hM : ∀ w1 w2 kb', Below w.heap.size w w1 → M w1 w2 kb' → Keeps (fun _ => False) w1 w2 ∧ kb' ≠ gc ∧ ∃ ow A q cvk pk, NodeAt w2 kb' ow (.slice A 63 q) cvk pk)
    (S : World → World → Nat → It → Nat → World → Prop)
    (hspl : ∀ w1 w2 kb', Below w.heap.size w w1 → M w1 w2 kb' → Calls Try.prog 57 #[.pointer (some ⟨kb', 0, none⟩), .pointer (some ⟨o, 0, none⟩)] (w2.setCell ⟨gc, i, none⟩ (.pointer (some ⟨kb', 0, none⟩))) fun e w4 => ∃ mid r, e = .returned (.tuple #[It.val mid, .pointer (some ⟨r, 0, none⟩)]) ∧ S w1 w2 kb' mid r w4)
    (hS : ∀ w1 w2 kb' mid r w4, Below w.heap.size w w1 → w.heap.size < w1.heap.size → M w1 w2 kb' → S w1 w2 kb' mid r w4 → w2.heap.size ≤ w4.heap.size ∧ ∀ k, (k = b ∨ iv.ownBlock = some k ∨ k = gc ∨ k = w.heap.size) → w4.heap[k]? = (w2.setCell ⟨gc, i, none⟩ (.pointer (some ⟨kb', 0, none⟩))).heap[k]?)
    (R : Ending → World → Prop)
    (hrec : ∀ w1 w2 kb' mid r w4 w8 iv' cv', Below w.heap.size w w1 → M w1 w2 kb' → S w1 w2 kb' mid r w4 → Up w4 w8 b o p iv (.slice (some ⟨gc, 0, none⟩) bs.length cc) iv' cv' (I.take i ++ mid :: I.drop i) ((bs.set i kb').take (i + 1) ++ r :: (bs.set i kb').drop (i + 1)) →
      Calls Try.prog 58 #[.pointer (some ⟨b, 0, none⟩), .string x.k, .agg #[.string x.v, .int .u64 x.r], .pointer (some ⟨o, 0, none⟩)] w8 fun e w' => (∃ (gr : Int) (hd : Bool), e = .returned (.tuple #[.int .i64 gr, .bool hd])) ∧ R e w') :
    Calls Try.prog 58 #[.pointer (some ⟨b, 0, none⟩), .string x.k, .agg #[.string x.v, .int .u64 x.r], .pointer (some ⟨o, 0, none⟩)] w R := by
  obtain ⟨A, cap, rfl, hcap, hcm⟩ := hI.form
  have HI : Hid (OwnI w (.slice A I.length cap) I) := hI
  have HC : Hid (OwnC w (.slice (some ⟨gc, 0, none⟩) bs.length cc) bs) := hC
  have HP : Hid (Pos I x.key i false) := hP
  have HN : Hid (NodeAt w b o (.slice A I.length cap) (.slice (some ⟨gc, 0, none⟩) bs.length cc) p) := hN
  have HM := hide hmut
  have HMM := hide hM
  have HSPL := hide hspl
  have HS := hide hS
  have HREC := hide hrec
  have HIG := hide hig
  have HIB := hide hib0
  have HKB : Hid (bs[i]? = some kb) := hkb
  have hib : i < bs.length := (List.getElem?_eq_some_iff.1 hkb).1
  have hib' : (i : Int) < (bs.length : Int) := by omega
  have hbll : (bs.length : Int) ≤ 10000 := by omega
  have hb0' : (0 : Int) < (bs.length : Int) := by omega
  have hbl := hN.lt
  have x60 := fun W => idx60 gc bs.length cc i hib W
  have HIL := hide hP.le
  have HNN := hide hn
  clear hN hP hI hmut hM hspl hS hrec hkb hC hib0 hig
  go_enter Try.func58, Try.ntmps58
  go_wp2_with fail
  have hb0 : Below w.heap.size w (w.alloc (.cells #[.string x.v, .int .u64 x.r] 64)) := (Below.refl _ _).alloc (Nat.le_refl _) _
  refine (find_any (HN.out.of_block (hb0.block _ hbl)) I (HI.out.of_block (fun k hk => hb0.block k (HI.out.blk k hk))) hs (by omega) x.k).mono ?_
  rintro e w1 ⟨i', found, rfl, hp1, hb1⟩
  obtain ⟨rfl, rfl⟩ := HP.out.uniq hp1
  have hs1 := hb1.size
  simp only [World.size_alloc] at hs1
  have hbb : Below w.heap.size w w1 := hb0.trans (hb1.mono (by simp))
  have HB : Hid (Below w.heap.size w w1) := hbb
  have e0 : w1.heap[w.heap.size]? = some (.cells #[.string x.v, .int .u64 x.r] 64) := (hb1.block _ (by simp)).trans (heap_alloc_new _ _)
  have E0 : Hid (w1.heap[w.heap.size]? = some (.cells #[.string x.v, .int .u64 x.r] 64)) := e0
  have hN1 := HN.out.of_block (hbb.block _ hbl)
  have n2 := hN1.c2
  obtain ⟨g', cap', hv', m0, mf, _, _⟩ := OwnC.at (HC.out.of_block (fun k hk => hbb.block k (HC.out.blk k hk))) HKB.out
  injection hv' with hv1 hv2 hv3
  injection hv1 with hv1
  injection hv1 with hv1
  clear hv2
  subst hv1 hv3
  have hgcl : gc < w.heap.size := HC.out.blk gc rfl
  have HN1 : Hid (NodeAt w1 b o (.slice A I.length cap) (.slice (some ⟨gc, 0, none⟩) bs.length cc) p) := hN1
  clear hb1 hbb hp1 hN1 e0 hb0 hn hs
  go_wp2_with fail
  refine (HM.out w1 HB.out).mono ?_
  rintro e w2 ⟨kb', rfl, hM2⟩
  obtain ⟨k2, hkg, ow, Ak, qk, cvk, pk, hK⟩ := HMM.out w1 w2 kb' HB.out hM2
  have HM2 := hide hM2
  have HK2 := hide k2
  have hN2 := HN1.out.of_block (k2.block b HN1.out.lt (fun h => h))
  have n2' := hN2.c2
  have hs2 := k2.size
  have c2 : w2.cell? ⟨gc, i, none⟩ = some (.pointer (some ⟨kb, 0, none⟩)) := k2.cell m0 (fun h => h)
  have fr2 : w2.frozen? ⟨gc, i, none⟩ = false := by
    have := mf i
    unfold World.frozen? at this ⊢
    rw [k2.block gc (by omega) (fun h => h)]; exact this
  have kc1 := hK.c1
  have HN2 := hide hN2
  have HSW := hide (HSPL.out w1 w2 kb' HB.out hM2)
  clear hM2 k2 hK m0 mf n2 hN2
  go_wp2_with fail
  refine HSW.out.mono ?_
  rintro e w4 ⟨mid, r, rfl, hS4⟩
  obtain ⟨hs4, hbk⟩ := HS.out w1 w2 kb' mid r w4 HB.out (by omega) HM2.out hS4
  have HS4 := hide hS4
  have hN4 : NodeAt w4 b o (.slice A I.length cap) (.slice (some ⟨gc, 0, none⟩) bs.length cc) p := HN2.out.of_block ((hbk b (.inl rfl)).trans (Below.heap_setCell _ ⟨gc, i, none⟩ _ _ (fun e => hgb e.symm)))
  have hI4 : OwnI w4 (.slice A I.length cap) I := HI.out.of_block (fun k hk => (hbk k (.inr (.inl hk))).trans ((Below.heap_setCell _ ⟨gc, i, none⟩ _ _ (fun e => HIG.out (by rw [hk, show k = gc from e]))).trans ((HK2.out.block k (by have := HI.out.blk k hk; omega) (fun h => h)).trans (HB.out.block k (HI.out.blk k hk)))))
  have hC4 : OwnC w4 (.slice (some ⟨gc, 0, none⟩) bs.length cc) (bs.set i kb') := (OwnC.put (HC.out.of_block (fun k hk => (HK2.out.block k (by have := HC.out.blk k hk; omega) (fun h => h)).trans (HB.out.block k (HC.out.blk k hk)))) i kb').of_block (fun k hk => hbk k (.inr (.inr (.inl (by simp [Value.ownBlock] at hk; exact hk.symm)))))
  have E4 : w4.heap[w.heap.size]? = some (.cells #[.string x.v, .int .u64 x.r] 64) := (hbk _ (.inr (.inr (.inr rfl)))).trans ((Below.heap_setCell _ ⟨gc, i, none⟩ _ _ (by show w.heap.size ≠ gc; omega)).trans ((HK2.out.block _ (by omega) (fun h => h)).trans E0.out))
  unfold It.val
  obtain ⟨w5, hw5⟩ : ∃ w5, w5 = w4.alloc (.cells #[.string mid.k, .string mid.v, .int .u64 mid.r] 75) := ⟨_, rfl⟩
  have hsz : w5.heap.size = w4.heap.size + 1 := by rw [hw5]; simp
  have k5 : Keeps (fun _ => False) w4 w5 := by rw [hw5]; exact (Keeps.refl _ _).alloc _
  have hN5 := hN4.of_block (k5.block b hN4.lt (fun h => h))
  have hI5 : OwnI w5 (.slice A I.length cap) I := hI4.of_block (fun k hk => k5.block k (hI4.blk k hk) (fun h => h))
  have HINS := hide (insert59_leaf hI5 hN5 HIB.out (by have := HNN.out; omega) mid i HIL.out)
  have n51 := hN5.c1
  have n5f := hN5.free 1
  have m5 : w5.heap[w4.heap.size]? = some (.cells #[.string mid.k, .string mid.v, .int .u64 mid.r] 75) := by rw [hw5]; exact heap_alloc_new _ _
  have m50 : w5.cell? ⟨w4.heap.size, 0, none⟩ = some (.string mid.k) := by simp [World.cell?, m5]
  have m51 : w5.cell? ⟨w4.heap.size, 1, none⟩ = some (.string mid.v) := by simp [World.cell?, m5]
  have m52 : w5.cell? ⟨w4.heap.size, 2, none⟩ = some (.int .u64 mid.r) := by simp [World.cell?, m5]
  have HI5 := hide hI5
  have HN5 := hide hN5
  have HC5 : Hid (OwnC w5 (.slice (some ⟨gc, 0, none⟩) bs.length cc) (bs.set i kb')) := hC4.of_block (fun k hk => k5.block k (hC4.blk k hk) (fun h => h))
  have HE5 : Hid (w5.heap[w.heap.size]? = some (.cells #[.string x.v, .int .u64 x.r] 64)) := (k5.block _ (heap_lt E4) (fun h => h)).trans E4
  have HK5 := hide k5
  have HW5 := hide hw5
  have HSZ := hide hsz
  have hbl5 : b < w5.heap.size := hN5.lt
  clear hN4 hI4 hC4 E4 hN5 hI5 hbk hS4 m5 k5 hw5 hsz c2 fr2 kc1 n2'
  go_upto_region 15 with fail
  rw [← HW5.out]
  go_cut [] (fun wc => ∃ iv', NodeAt wc b o iv' (.slice (some ⟨gc, 0, none⟩) bs.length cc) p ∧ OwnI wc iv' (I.take i ++ mid :: I.drop i) ∧ Keeps (fun k => (Value.slice A I.length cap).ownBlock = some k ∨ k = b) w5 wc ∧ (∀ k, iv'.ownBlock = some k → ((Value.slice A I.length cap).ownBlock = some k ∨ w5.heap.size ≤ k) ∧ k ≠ b))
  case first =>
    go_region_with (go_at_call 60; refine HINS.out.mono ?_; rintro e w6 ⟨A3, cap3, rfl, r1, r2, r3, r4⟩; have f2 := r4.free 1; have f2' := r4.c1)
    all_goals (try go_wp2_with fail)
    all_goals go_meet
    all_goals
      have kk : Keeps (fun k => (Value.slice A I.length cap).ownBlock = some k ∨ k = b) w5 w6 := r2.mono (fun _ _ h => .inl h)
      exact ⟨.slice A3 (I.length + 1) cap3, r4.set1 _, r1.of_block (fun k hk => Below.heap_setCell _ ⟨b, 1, none⟩ _ _ (r3 k hk).2), kk.setCell (p := ⟨b, 1, none⟩) (.inl (.inr rfl)) _, fun k hk => r3 k hk⟩
  case rest =>
    obtain ⟨iv', q1, q2, q3, q4⟩ := hcut
    have hC6 : OwnC wc (.slice (some ⟨gc, 0, none⟩) (bs.set i kb').length cc) (bs.set i kb') := by
      rw [List.length_set]
      refine HC5.out.of_block (fun k hk => q3.block k (HC5.out.blk k hk) ?_)
      have hk' : gc = k := by simpa [Value.ownBlock] using hk
      rintro (h | h)
      · exact HIG.out (by rw [h, hk'])
      · omega
    have q1' : NodeAt wc b o iv' (.slice (some ⟨gc, 0, none⟩) (bs.set i kb').length cc) p := by rw [List.length_set]; exact q1
    have hins := insert60_node hC6 q1' (by simp [Value.ownBlock]; exact hgb) (by rw [List.length_set]; omega) r (i + 1) (by rw [List.length_set]; omega)
    simp only [List.length_set, Int.natCast_add, Int.natCast_one] at hins
    have HINS6 := hide hins
    have c62 := q1.c2
    have c6f := q1.free 2
    have hwi : IntKind.i64.wrap ((i : Int) + 1) = (i : Int) + 1 := by rw [IntKind.wrap_i64]; omega
    have E6 : wc.heap[w.heap.size]? = some (.cells #[.string x.v, .int .u64 x.r] 64) := (q3.block _ (heap_lt HE5.out) (by
      rintro (h | h)
      · have := HI.out.blk _ h; omega
      · omega)).trans HE5.out
    have hbl6 : b < wc.heap.size := q1.lt
    have HE6 := hide E6
    have Q1 := hide q1
    have Q2 := hide q2
    have Q3 := hide q3
    have Q4 := hide q4
    clear q1 q2 q3 q4 E6 hins hC6 q1' n51 n5f m50 m51 m52
    go_wp2_with fail
    refine HINS6.out.mono ?_
    rintro e w7 ⟨A7, cap7, rfl, r1, r2, r3, r4⟩
    have f7 := r4.free 2
    have f7' := r4.c2
    have E7 : w7.heap[w.heap.size]? = some (.cells #[.string x.v, .int .u64 x.r] 64) := (r2.block _ (heap_lt HE6.out) (by simp [Value.ownBlock]; omega)).trans HE6.out
    have e71 : w7.cell? ⟨w.heap.size, 0, none⟩ = some (.string x.v) := by simp [World.cell?, E7]
    have e72 : w7.cell? ⟨w.heap.size, 1, none⟩ = some (.int .u64 x.r) := by simp [World.cell?, E7]
    have hbw : b ≠ w.heap.size := by omega
    have hup : Up w4 (w7.setCell ⟨b, 2, none⟩ (.slice A7 (bs.length + 1) cap7)) b o p (.slice A I.length cap) (.slice (some ⟨gc, 0, none⟩) bs.length cc) iv' (.slice A7 (bs.length + 1) cap7) (I.take i ++ mid :: I.drop i) ((bs.set i kb').take (i + 1) ++ r :: (bs.set i kb').drop (i + 1)) := by
      have hs5 := HSZ.out
      have hs6 := Q3.out.size
      refine ⟨r4.set2 _, Q2.out.of_block (fun k hk => ?_), r1.of_block (fun k hk => Below.heap_setCell _ ⟨b, 2, none⟩ _ _ (r3 k hk).2), ?_, fun k hk => ⟨?_, (Q4.out k hk).2⟩, fun k hk => ⟨?_, (r3 k hk).2, fun hk' => ?_⟩⟩
      · refine (Below.heap_setCell _ ⟨b, 2, none⟩ _ _ (Q4.out k hk).2).trans (r2.block k (Q2.out.blk k hk) (fun h => ?_))
        have hk' : gc = k := by simpa [Value.ownBlock] using h
        rcases (Q4.out k hk).1 with h | h
        · exact HIG.out (by rw [h, hk'])
        · omega
      · have k0 : Keeps (fun k => (Value.slice A I.length cap).ownBlock = some k ∨ (Value.slice (some ⟨gc, 0, none⟩) bs.length cc).ownBlock = some k ∨ k = b) w4 w5 := HK5.out.mono (fun _ _ h => h.elim)
        have k1 := k0.andThen Q3.out (fun k _ h => by
          rcases h with h | h
          · exact .inl h
          · exact .inr (.inr h))
        exact (k1.trans (r2.mono (fun k _ h => .inr (.inl h)))).setCell (p := ⟨b, 2, none⟩) (.inl (.inr (.inr rfl))) _
      · rcases (Q4.out k hk).1 with h | h
        · exact .inl h
        · exact .inr (by omega)
      · rcases (r3 k hk).1 with h | h
        · exact .inl h
        · exact .inr (by omega)
      · rcases (r3 k hk).1 with h | h
        · have e1 : gc = k := by simpa [Value.ownBlock] using h
          rcases (Q4.out k hk').1 with h' | h'
          · exact HIG.out (by rw [h', e1])
          · omega
        · have := Q2.out.blk k hk'
          omega
    have HRW := hide (HREC.out w1 w2 kb' mid r w4 _ iv' _ HB.out HM2.out HS4.out hup)
    clear hup r1 r2 r3 r4 E7
    go_wp2_with fail
    refine HRW.out.mono ?_
    rintro e w9 ⟨⟨gr, hd, rfl⟩, hR⟩
    have HR := hide hR
    clear hR
    go_wp2_with fail
    exact HR.out
end Go.Proofs.Qxb6601392a.Bt
