import Derived.Test.Qxb6601392aGrowA
import Derived.Deep.CutBlock
namespace Go.Proofs.Qxb6601392a.Bt
open Go.RowKit

set_option maxRecDepth 100000 in
set_option maxHeartbeats 4000000 in
theorem rem_down_raw {w : World} {b o p q g cap gc cc : Nat} {I : List It} {bs : List Nat} (W : Tri w b o p g cap gc cc I bs) (hs : Sorted I) (hn : I.length ≤ 10000) (hbn : bs.length ≤ 10000) (key : ByteArray) (last : Bool) (i : Nat) (hE : if last then i = I.length else Pos I key.data.toList i false) (kb : Nat) (hkb : bs[i]? = some kb)
    (Ak : Option Addr) (nk ck : Nat) (hk : w.cell? ⟨kb, 1, none⟩ = some (.slice Ak nk ck)) (hnk : 31 < nk) (hnk2 : nk ≤ 1000) (hq : q + 1 = p) (hp2 : p ≤ 4611686018427387904)
    (M : World → Nat → Prop) (hmut : ∀ w1, Below w.heap.size w w1 → w.heap.size < w1.heap.size → Calls Try.prog 37 #[.pointer (some ⟨kb, 0, none⟩), .pointer (some ⟨o, 0, none⟩)] w1 fun e w2 => ∃ kb', e = .returned (.pointer (some ⟨kb', 0, none⟩)) ∧ M w2 kb' ∧ Keeps (fun _ => False) w1 w2)
    (N : World → World → It → Prop) (hrem : ∀ w2 kb' w4, M w2 kb' → Below (w2.setCell ⟨gc, i, none⟩ (.pointer (some ⟨kb', 0, none⟩))).heap.size (w2.setCell ⟨gc, i, none⟩ (.pointer (some ⟨kb', 0, none⟩))) w4 → w2.heap.size < w4.heap.size → w.heap.size < w2.heap.size → Calls Try.prog 51 #[.pointer (some ⟨kb', 0, none⟩), .string key, .bool last, .pointer (some ⟨o, 0, none⟩)] w4 fun e w5 => ∃ y : It, e = .returned (It.val y) ∧ N w2 w5 y ∧ y.v.size ≤ 1048576 ∧ w4.heap.size ≤ w5.heap.size ∧ ∀ k, k = b ∨ k = g ∨ k = gc ∨ k = w.heap.size ∨ k = w2.heap.size → w5.heap[k]? = w4.heap[k]?) :
    Calls Try.prog 51 #[.pointer (some ⟨b, 0, none⟩), .string key, .bool last, .pointer (some ⟨o, 0, none⟩)] w fun e w' => ∃ y : It, e = .returned (It.val y) ∧ ∃ w2 kb' w5, M w2 kb' ∧ N w2 w5 y ∧ Tri w5 b o p g cap gc cc I (bs.set i kb') ∧ Tri w' b o q g cap gc cc I (bs.set i kb') ∧ Keeps (fun k => k = b ∨ w.heap.size ≤ k) w5 w' ∧ ∀ k, w.heap.size ≤ k → k ≠ w.heap.size → k ≠ w2.heap.size → k < w5.heap.size → w'.heap[k]? = w5.heap[k]? := by
  have HW := hide' W
  have hib : i < bs.length := (List.getElem?_eq_some_iff.1 hkb).1
  have hib' : (i : Int) < (bs.length : Int) := by omega
  have hn' : (I.length : Int) ≤ 10000 := by omega
  have hbn' : (bs.length : Int) ≤ 10000 := by omega
  have hb0' : ((bs.length : Int) == 0) = false := by rw [beq_eq_false_iff_ne]; omega
  have hlt := W.lt
  have HLT := hide' hlt
  have HKB := hide' hkb
  have HE := hide' hE
  have HSS := hide' hs
  have HK := hide' hk
  have HMUT := hide' hmut
  have HREM := hide' hrem
  have hnk' : (31 : Int) < (nk : Int) := by omega
  have hnkd : decide ((nk : Int) ≤ 31) = false := decide_eq_false (by omega)
  have hq0 : (0 : Int) ≤ (q : Int) := by omega
  have hwp : IntKind.i64.wrap ((p : Int) - 1) = (q : Int) := by rw [IntKind.wrap_i64]; omega
  have x60 := fun W => idx60 gc bs.length cc i hib W
  have hblw := hlt.1
  clear W hkb hE hs hk hmut hrem hlt
  go_enter Try.func51, Try.ntmps51
  go_upto_block 0 with fail
  go_cut [9, 10] (fun x y wc => x = .int .i64 (i : Int) ∧ y = .bool false ∧ Below w.heap.size w wc ∧ w.heap.size < wc.heap.size ∧ wc.heap[w.heap.size]? = some (.cells #[.string ⟨#[]⟩, .string ⟨#[]⟩, .int .u64 0] 75))
  case first =>
    have hb0 : Below w.heap.size w (w.alloc (.cells #[.string ⟨#[]⟩, .string ⟨#[]⟩, .int .u64 0] 75)) := (Below.refl _ _).alloc (Nat.le_refl _) _
    have hW1 := HW.out.of (fun k hk => hb0.block k (by have := HLT.out; omega))
    cases last with
    | true =>
      have c1 := HW.out.n.c1
      have c2 := HW.out.n.c2
      obtain rfl : i = I.length := by simpa using HE.out
      clear hW1 hb0
      go_wp2_with fail
      go_meet
      case rel => exact ⟨rfl, rfl, (Below.refl _ _).alloc (Nat.le_refl _) _, by simp, heap_alloc_new _ _⟩
    | false =>
      have HF := hide' (find_any hW1.n I hW1.i HSS.out (by omega) key)
      have hP : Pos I key.data.toList i false := by simpa using HE.out
      have HP := hide' hP
      clear hW1 hb0 hP
      go_wp2_with (go_at_call 59; refine HF.out.mono ?_; rintro e w1 ⟨i', f', rfl, hp1, hb1⟩; obtain ⟨rfl, rfl⟩ := HP.out.uniq hp1)
      go_meet
      case rel =>
        have hs1 := hb1.size
        rw [World.size_alloc] at hs1
        exact ⟨rfl, rfl, ((Below.refl _ _).alloc (Nat.le_refl _) _).trans (hb1.mono (by simp)), by omega, (hb1.block _ (by simp)).trans (heap_alloc_new _ _)⟩
  case rest =>
    obtain ⟨rfl, rfl, hbc, hsc, hz⟩ := hcut
    obtain ⟨w1, rfl⟩ : ∃ w1 : World, w1 = wc := ⟨_, rfl⟩
    have hW1 := HW.out.of (fun k hk => hbc.block k (by have := HLT.out; omega))
    have n2 := hW1.n.c2
    obtain ⟨k0, kf⟩ := hW1.c.cell HKB.out
    have hk1 := bcell hbc HK.out
    have HM1 := hide' (HMUT.out w1 hbc hsc)
    have HW1 := hide' hW1
    have HZ := hide' hz
    have HSC := hide' hsc
    clear hW1 hbc hz hsc
    go_wp2_with fail
    refine HM1.out.mono ?_
    rintro e w2 ⟨kb', rfl, m2, q2⟩
    have hW2 := HW1.out.keeps q2
    have hz2 : w2.heap[w.heap.size]? = some (.cells #[.string ⟨#[]⟩, .string ⟨#[]⟩, .int .u64 0] 75) := (q2.block _ HSC.out (fun h => h)).trans HZ.out
    have hs2 : w.heap.size < w2.heap.size := by have := q2.size; have := HSC.out; omega
    have p2 := hW2.n.c2
    obtain ⟨k2, kf2⟩ := hW2.c.cell HKB.out
    have hW3 : Tri (w2.setCell ⟨gc, i, none⟩ (.pointer (some ⟨kb', 0, none⟩))) b o p g cap gc cc I (bs.set i kb') := by
      refine ⟨?_, ?_, ?_, hW2.gb, hW2.gcb, hW2.gg⟩
      · rw [List.length_set]; exact hW2.n.of_block (Below.heap_setCell _ ⟨gc, i, none⟩ _ _ (fun e => hW2.gcb e.symm))
      · exact hW2.i.of_block (fun k hk => Below.heap_setCell _ ⟨gc, i, none⟩ _ _ (fun e => hW2.gg (by simp [Value.ownBlock] at hk; rw [hk]; exact e)))
      · rw [List.length_set]; exact OwnC.put' hW2.c i kb'
    obtain ⟨w3, hw3⟩ : ∃ w3, w3 = w2.setCell ⟨gc, i, none⟩ (.pointer (some ⟨kb', 0, none⟩)) := ⟨_, rfl⟩
    rw [← hw3] at hW3
    have hz3 : w3.heap[w.heap.size]? = some (.cells #[.string ⟨#[]⟩, .string ⟨#[]⟩, .int .u64 0] 75) := by rw [hw3]; exact (Below.heap_setCell _ ⟨gc, i, none⟩ _ _ (by have := HLT.out; show w.heap.size ≠ gc; omega)).trans hz2
    have hs3 : w3.heap.size = w2.heap.size := by rw [hw3]; simp
    obtain ⟨w4, hw4⟩ : ∃ w4, w4 = w3.alloc (.cells #[.string ⟨#[]⟩, .string ⟨#[]⟩, .int .u64 0] 75) := ⟨_, rfl⟩
    have hb4 : Below w3.heap.size w3 w4 := by rw [hw4]; exact (Below.refl _ _).alloc (Nat.le_refl _) _
    have hs4 : w2.heap.size < w4.heap.size := by rw [hw4]; simp; omega
    have hx4 : w4.heap[w2.heap.size]? = some (.cells #[.string ⟨#[]⟩, .string ⟨#[]⟩, .int .u64 0] 75) := by rw [hw4, ← hs3]; exact heap_alloc_new _ _
    have hz4 := (hb4.block w.heap.size (by omega)).trans hz3
    have hW4 := hW3.of (fun k hk => hb4.block k (by have := hW3.lt; omega))
    have HCALL := hide' (HREM.out w2 kb' w4 m2 (by rw [← hw3]; exact hb4) hs4 hs2)
    have HMM := hide' m2
    have HW3' := hide' hw3
    have HW4' := hide' hw4
    have HS3 := hide' hs3
    have HZ4 := hide' hz4
    have HX4 := hide' hx4
    have HW4 := hide' hW4
    have HS2 := hide' hs2
    have HS4 := hide' hs4
    clear hW2 hz2 q2 m2 hW3 hw3 hz3 hs3 hw4 hb4 hx4 hz4 hW4 n2 k0 kf hs2 hs4
    go_upto_region 22 with fail
    rw [← HW3'.out, ← HW4'.out]
    go_wp2_with fail
    refine HCALL.out.mono ?_
    rintro e w5 ⟨y, rfl, n5, hyv, hs5, hk5⟩
    have hW5 := HW4.out.of (fun k hk => hk5 k (by rcases hk with e | e | e <;> simp [e]))
    have hx5 := (hk5 w2.heap.size (by simp)).trans HX4.out
    have hz5 := (hk5 w.heap.size (by simp)).trans HZ4.out
    have b0 : w5.cell? ⟨w2.heap.size, 0, none⟩ = some (.string ⟨#[]⟩) := by simp [World.cell?, hx5]
    have b1 : w5.cell? ⟨w2.heap.size, 1, none⟩ = some (.string ⟨#[]⟩) := by simp [World.cell?, hx5]
    have b2 : w5.cell? ⟨w2.heap.size, 2, none⟩ = some (.int .u64 0) := by simp [World.cell?, hx5]
    have bf : ∀ j, w5.frozen? ⟨w2.heap.size, j, none⟩ = false := fun j => by simp [World.frozen?, hx5]
    obtain ⟨w6, hw6⟩ : ∃ w6, w6 = ((w5.setCell ⟨w2.heap.size, 0, none⟩ (.string y.k)).setCell ⟨w2.heap.size, 1, none⟩ (.string y.v)).setCell ⟨w2.heap.size, 2, none⟩ (.int .u64 y.r) := ⟨_, rfl⟩
    have hs2 := HS2.out
    have hlt := HLT.out
    have hk6 : ∀ k, k ≠ w2.heap.size → w6.heap[k]? = w5.heap[k]? := fun k hk => by
      rw [hw6]
      exact (Below.heap_setCell _ ⟨w2.heap.size, 2, none⟩ _ _ hk).trans ((Below.heap_setCell _ ⟨w2.heap.size, 1, none⟩ _ _ hk).trans (Below.heap_setCell _ ⟨w2.heap.size, 0, none⟩ _ _ hk))
    have hx6 : w6.heap[w2.heap.size]? = some (.cells #[.string y.k, .string y.v, .int .u64 y.r] 75) := by
      rw [hw6]
      have h1 := heap_setCell_same w5 w2.heap.size 0 _ _ (.string y.k) hx5
      have h2 := heap_setCell_same _ w2.heap.size 1 _ _ (.string y.v) h1
      have h3 := heap_setCell_same _ w2.heap.size 2 _ _ (.int .u64 y.r) h2
      exact h3
    have hW6 := hW5.of (fun k hk => hk6 k (by omega))
    have hz6 := (hk6 w.heap.size (by omega)).trans hz5
    have k56 : Keeps (fun k => k = b ∨ w.heap.size ≤ k) w5 w6 := by
      rw [hw6]
      exact (((Keeps.refl _ w5).setCell (p := ⟨w2.heap.size, 0, none⟩) (.inl (.inr (by show w.heap.size ≤ w2.heap.size; omega))) _).setCell (p := ⟨w2.heap.size, 1, none⟩) (.inl (.inr (by show w.heap.size ≤ w2.heap.size; omega))) _).setCell (p := ⟨w2.heap.size, 2, none⟩) (.inl (.inr (by show w.heap.size ≤ w2.heap.size; omega))) _
    have c63 := hW6.n.c3
    have f63 := hW6.n.free 3
    have v6 : w6.cell? ⟨w2.heap.size, 1, none⟩ = some (.string y.v) := by simp [World.cell?, hx6]
    have hbne : b ≠ w2.heap.size := by omega
    have HN5 := hide' n5
    have HW5 := hide' hW5
    have HW6 := hide' hW6
    have HWW := hide' hw6
    have HX6 := hide' hx6
    have HZ6 := hide' hz6
    have HK56 := hide' k56
    have HK6 := hide' hk6
    clear n5 hs5 hk5 hW5 hx5 hz5 hk6 hx6 hW6 hz6 k56 hs2 hlt hw6
    unfold It.val
    go_upto_region 23 with fail
    rw [← HWW.out]
    go_cut [] (fun wd => wd = (w6.setCell ⟨b, 3, none⟩ (.int .i64 (q : Int))).drew)
    case first =>
      go_region_with (go_at_call 54; refine (pieces_one _ hyv _).mono ?_; rintro e w' ⟨rfl, rfl⟩)
      all_goals first | (go_meet; exact rfl) | (go_wp2_with fail; go_meet; exact rfl)
    case rest =>
      obtain ⟨w7, rfl⟩ : ∃ w7 : World, w7 = wc := ⟨_, rfl⟩
      have hs2 := HS2.out
      have hlt := HLT.out
      have h6 := HW6.out
      have hk7 : ∀ k, k ≠ b → w7.heap[k]? = w6.heap[k]? := fun k hk => by rw [hcut]; exact Below.heap_setCell _ ⟨b, 3, none⟩ _ _ hk
      have hW7 : Tri w7 b o q g cap gc cc I (bs.set i kb') := by
        refine ⟨?_, h6.i.of_block (fun k hk => hk7 k (fun e => h6.gb (by simp [Value.ownBlock] at hk; omega))), h6.c.of_block (fun k hk => hk7 k (fun e => h6.gcb (by simp [Value.ownBlock] at hk; omega))), h6.gb, h6.gcb, h6.gg⟩
        rw [hcut]; exact (h6.n.set3 q)
      have k67 : Keeps (fun k => k = b ∨ w.heap.size ≤ k) w6 w7 := by rw [hcut]; exact ((Keeps.refl _ w6).setCell (p := ⟨b, 3, none⟩) (.inl (.inl rfl)) _).drew
      have hx7 := (hk7 w2.heap.size (by omega)).trans HX6.out
      have hz7 := (hk7 w.heap.size (by omega)).trans HZ6.out
      have z0 : w7.cell? ⟨w.heap.size, 0, none⟩ = some (.string ⟨#[]⟩) := by simp [World.cell?, hz7]
      have z1 : w7.cell? ⟨w.heap.size, 1, none⟩ = some (.string ⟨#[]⟩) := by simp [World.cell?, hz7]
      have z2 : w7.cell? ⟨w.heap.size, 2, none⟩ = some (.int .u64 0) := by simp [World.cell?, hz7]
      have zf : ∀ j, w7.frozen? ⟨w.heap.size, j, none⟩ = false := fun j => by simp [World.frozen?, hz7]
      have x0 : w7.cell? ⟨w2.heap.size, 0, none⟩ = some (.string y.k) := by simp [World.cell?, hx7]
      have x1 : w7.cell? ⟨w2.heap.size, 1, none⟩ = some (.string y.v) := by simp [World.cell?, hx7]
      have x2 : w7.cell? ⟨w2.heap.size, 2, none⟩ = some (.int .u64 y.r) := by simp [World.cell?, hx7]
      have hzx : w.heap.size ≠ w2.heap.size := by omega
      have HW7 := hide' hW7
      have HK7 := hide' hk7
      have HK67 := hide' k67
      clear hcut hk7 hW7 k67 hx7 hz7 h6 hs2 hlt c63 f63 v6 b0 b1 b2 bf
      go_wp2_with fail
      have hlt := HLT.out
      have hk8 : ∀ k, k ≠ w.heap.size → (((w7.setCell ⟨w.heap.size, 0, none⟩ (.string y.k)).setCell ⟨w.heap.size, 1, none⟩ (.string y.v)).setCell ⟨w.heap.size, 2, none⟩ (.int .u64 y.r)).heap[k]? = w7.heap[k]? := fun k hk =>
        (Below.heap_setCell _ ⟨w.heap.size, 2, none⟩ _ _ hk).trans ((Below.heap_setCell _ ⟨w.heap.size, 1, none⟩ _ _ hk).trans (Below.heap_setCell _ ⟨w.heap.size, 0, none⟩ _ _ hk))
      have k78 : Keeps (fun k => k = b ∨ w.heap.size ≤ k) w7 (((w7.setCell ⟨w.heap.size, 0, none⟩ (.string y.k)).setCell ⟨w.heap.size, 1, none⟩ (.string y.v)).setCell ⟨w.heap.size, 2, none⟩ (.int .u64 y.r)) :=
        (((Keeps.refl _ w7).setCell (p := ⟨w.heap.size, 0, none⟩) (.inl (.inr (Nat.le_refl _))) _).setCell (p := ⟨w.heap.size, 1, none⟩) (.inl (.inr (Nat.le_refl _))) _).setCell (p := ⟨w.heap.size, 2, none⟩) (.inl (.inr (Nat.le_refl _))) _
      refine bodyPost_ret (v := .agg #[.string y.k, .string y.v, .int .u64 y.r]) ?_ rfl ⟨y, rfl, w2, kb', w5, HMM.out, HN5.out, HW5.out, HW7.out.of (fun k hk => hk8 k (by omega)), (HK56.out.trans HK67.out).trans k78, fun k hk hk1 hk2 _ => (hk8 k hk1).trans ((HK7.out k (by omega)).trans (HK6.out k hk2))⟩
      simp [results, Try.results51, go_sem, z0, z1, z2]
end Go.Proofs.Qxb6601392a.Bt
