import Derived.Test.Qxb6601392aRemB
namespace Go.Proofs.Qxb6601392a.Bt
open Go.RowKit

theorem icells_set3 (I : List It) (i : Nat) (x : It) : icells (I.set i x) = (((icells I).set (i * 3) (.string x.k)).set (i * 3 + 1) (.string x.v)).set (i * 3 + 2) (.int .u64 x.r) := by
  induction I generalizing i with
  | nil => simp [icells]
  | cons a I ih =>
    cases i with
    | zero => simp [icells_cons, It.cells]
    | succ i =>
      rw [List.set_cons_succ, icells_cons, icells_cons, ih i]
      have e0 : (i + 1) * 3 = i * 3 + 3 := by omega
      have e1 : (i + 1) * 3 + 1 = (i * 3 + 1) + 3 := by omega
      have e2 : (i + 1) * 3 + 2 = (i * 3 + 2) + 3 := by omega
      rw [e2, e1, e0]
      simp [It.cells]
theorem OwnI.put3 {g n cap : Nat} {w : World} {I : List It} (h : OwnI w (.slice (some ⟨g, 0, none⟩) n cap) I) (i : Nat) (x : It) :
    OwnI (((w.setCell ⟨g, i * 3, none⟩ (.string x.k)).setCell ⟨g, i * 3 + 1, none⟩ (.string x.v)).setCell ⟨g, i * 3 + 2, none⟩ (.int .u64 x.r)) (.slice (some ⟨g, 0, none⟩) n cap) (I.set i x) := by
  obtain ⟨A, c, hv, _, _⟩ := h.form
  cases hv
  have := Own.put1 (Own.put1 (Own.put1 h (i * 3) (.string x.k)) (i * 3 + 1) (.string x.v)) (i * 3 + 2) (.int .u64 x.r)
  rw [← icells_set3] at this
  unfold OwnI; rw [List.length_set]; exact this

set_option maxRecDepth 100000 in
set_option maxHeartbeats 4000000 in
theorem rem_found_raw {w : World} {b o p q g cap gc cc : Nat} {I : List It} {bs : List Nat} (W : Tri w b o p g cap gc cc I bs) (hs : Sorted I) (hn : I.length ≤ 10000) (hbn : bs.length ≤ 10000) (key : ByteArray) (i : Nat) (hE : Pos I key.data.toList i true) (x : It) (hx : I[i]? = some x) (hxv : x.v.size ≤ 1048576) (kb : Nat) (hkb : bs[i]? = some kb)
    (Ak : Option Addr) (nk ck : Nat) (hk : w.cell? ⟨kb, 1, none⟩ = some (.slice Ak nk ck)) (hnk : 31 < nk) (hnk2 : nk ≤ 1000) (hq : q + 1 = p) (hp2 : p ≤ 4611686018427387904)
    (M : World → Nat → Prop) (hmut : ∀ w1, Below w.heap.size w w1 → w.heap.size < w1.heap.size → Calls Try.prog 37 #[.pointer (some ⟨kb, 0, none⟩), .pointer (some ⟨o, 0, none⟩)] w1 fun e w2 => ∃ kb', e = .returned (.pointer (some ⟨kb', 0, none⟩)) ∧ M w2 kb' ∧ Keeps (fun _ => False) w1 w2)
    (N : World → World → It → Prop) (hrem : ∀ w2 kb' w4, M w2 kb' → Below (w2.setCell ⟨gc, i, none⟩ (.pointer (some ⟨kb', 0, none⟩))).heap.size (w2.setCell ⟨gc, i, none⟩ (.pointer (some ⟨kb', 0, none⟩))) w4 → w2.heap.size < w4.heap.size → w.heap.size < w2.heap.size → Calls Try.prog 51 #[.pointer (some ⟨kb', 0, none⟩), .string ⟨#[]⟩, .bool true, .pointer (some ⟨o, 0, none⟩)] w4 fun e w5 => ∃ y : It, e = .returned (It.val y) ∧ N w2 w5 y ∧ w4.heap.size ≤ w5.heap.size ∧ ∀ k, k = b ∨ k = g ∨ k = gc ∨ k = w.heap.size ∨ k = w2.heap.size → w5.heap[k]? = w4.heap[k]?) :
    Calls Try.prog 51 #[.pointer (some ⟨b, 0, none⟩), .string key, .bool false, .pointer (some ⟨o, 0, none⟩)] w fun e w' => ∃ y : It, e = .returned (It.val x) ∧ ∃ w2 kb' w5, M w2 kb' ∧ N w2 w5 y ∧ Tri w5 b o p g cap gc cc I (bs.set i kb') ∧ Tri w' b o q g cap gc cc (I.set i y) (bs.set i kb') ∧ Keeps (fun k => k = b ∨ k = g ∨ w.heap.size ≤ k) w5 w' ∧ ∀ k, w.heap.size ≤ k → k ≠ w.heap.size → k ≠ w2.heap.size → k < w5.heap.size → w'.heap[k]? = w5.heap[k]? := by
  have HW := hide' W
  have hib : i < bs.length := (List.getElem?_eq_some_iff.1 hkb).1
  have hib' : (i : Int) < (bs.length : Int) := by omega
  have hn' : (I.length : Int) ≤ 10000 := by omega
  have hbn' : (bs.length : Int) ≤ 10000 := by omega
  have hb0' : ((bs.length : Int) == 0) = false := by rw [beq_eq_false_iff_ne]; omega
  have hlt := W.lt
  have HLT := hide' hlt
  have HKB := hide' hkb
  have HX := hide' hx
  have hiI : i < I.length := (List.getElem?_eq_some_iff.1 hx).1
  have hiI' : (i : Int) < (I.length : Int) := by omega
  have x59 := fun W => idx59 g I.length cap i hiI W
  have HE := hide' hE
  have HSS := hide' hs
  have HK := hide' hk
  have HMUT := hide' hmut
  have HREM := hide' hrem
  have hnk' : (31 : Int) < (nk : Int) := by omega
  have hnkd : decide ((nk : Int) ≤ 31) = false := decide_eq_false (by omega)
  have hq0 : (0 : Int) ≤ (q : Int) := by omega
  have hwp : IntKind.i64.wrap ((p : Int) - 1) = (q : Int) := by rw [IntKind.wrap_i64]; omega
  have x60 := fun W => idx60 gc bs.length cc i hib W
  have hblw := hlt.1
  clear W hkb hE hs hk hmut hrem hlt hx
  go_enter Try.func51, Try.ntmps51
  go_upto_block 0 with fail
  go_cut [9, 10] (fun x y wc => x = .int .i64 (i : Int) ∧ y = .bool true ∧ Below w.heap.size w wc ∧ w.heap.size < wc.heap.size ∧ wc.heap[w.heap.size]? = some (.cells #[.string ⟨#[]⟩, .string ⟨#[]⟩, .int .u64 0] 75))
  case first =>
    have hb0 : Below w.heap.size w (w.alloc (.cells #[.string ⟨#[]⟩, .string ⟨#[]⟩, .int .u64 0] 75)) := (Below.refl _ _).alloc (Nat.le_refl _) _
    have hW1 := HW.out.of (fun k hk => hb0.block k (by have := HLT.out; omega))
    have HF := hide' (find_any hW1.n I hW1.i HSS.out (by omega) key)
    have HP := hide' HE.out
    clear hW1 hb0
    go_wp2_with (go_at_call 59; refine HF.out.mono ?_; rintro e w1 ⟨i', f', rfl, hp1, hb1⟩; obtain ⟨rfl, rfl⟩ := HP.out.uniq hp1)
    go_meet
    case rel =>
      have hs1 := hb1.size
      rw [World.size_alloc] at hs1
      exact ⟨rfl, rfl, ((Below.refl _ _).alloc (Nat.le_refl _) _).trans (hb1.mono (by simp)), by omega, (hb1.block _ (by simp)).trans (heap_alloc_new _ _)⟩
  case rest =>
    obtain ⟨rfl, rfl, hbc, hsc, hz⟩ := hcut
    obtain ⟨w1, rfl⟩ : ∃ w1 : World, w1 = wc := ⟨_, rfl⟩
    have hW1 := HW.out.of (fun k hk => hbc.block k (by have := HLT.out; omega))
    have n2 := hW1.n.c2
    obtain ⟨k0, kf⟩ := hW1.c.cell HKB.out
    have hk1 := bcell hbc HK.out
    have HM1 := hide' (HMUT.out w1 hbc hsc)
    have HW1 := hide' hW1
    have HZ := hide' hz
    have HSC := hide' hsc
    clear hW1 hbc hz hsc
    go_wp2_with fail
    refine HM1.out.mono ?_
    rintro e w2 ⟨kb', rfl, m2, q2⟩
    have hW2 := HW1.out.keeps q2
    have hz2 : w2.heap[w.heap.size]? = some (.cells #[.string ⟨#[]⟩, .string ⟨#[]⟩, .int .u64 0] 75) := (q2.block _ HSC.out (fun h => h)).trans HZ.out
    have hs2 : w.heap.size < w2.heap.size := by have := q2.size; have := HSC.out; omega
    have p2 := hW2.n.c2
    obtain ⟨k2, kf2⟩ := hW2.c.cell HKB.out
    have hW3 : Tri (w2.setCell ⟨gc, i, none⟩ (.pointer (some ⟨kb', 0, none⟩))) b o p g cap gc cc I (bs.set i kb') := by
      refine ⟨?_, ?_, ?_, hW2.gb, hW2.gcb, hW2.gg⟩
      · rw [List.length_set]; exact hW2.n.of_block (Below.heap_setCell _ ⟨gc, i, none⟩ _ _ (fun e => hW2.gcb e.symm))
      · exact hW2.i.of_block (fun k hk => Below.heap_setCell _ ⟨gc, i, none⟩ _ _ (fun e => hW2.gg (by simp [Value.ownBlock] at hk; rw [hk]; exact e)))
      · rw [List.length_set]; exact OwnC.put' hW2.c i kb'
    obtain ⟨w3, hw3⟩ : ∃ w3, w3 = w2.setCell ⟨gc, i, none⟩ (.pointer (some ⟨kb', 0, none⟩)) := ⟨_, rfl⟩
    rw [← hw3] at hW3
    have hz3 : w3.heap[w.heap.size]? = some (.cells #[.string ⟨#[]⟩, .string ⟨#[]⟩, .int .u64 0] 75) := by rw [hw3]; exact (Below.heap_setCell _ ⟨gc, i, none⟩ _ _ (by have := HLT.out; show w.heap.size ≠ gc; omega)).trans hz2
    have hs3 : w3.heap.size = w2.heap.size := by rw [hw3]; simp
    obtain ⟨w4, hw4⟩ : ∃ w4, w4 = w3.alloc (.cells #[.string ⟨#[]⟩, .string ⟨#[]⟩, .int .u64 0] 75) := ⟨_, rfl⟩
    have hb4 : Below w3.heap.size w3 w4 := by rw [hw4]; exact (Below.refl _ _).alloc (Nat.le_refl _) _
    have hs4 : w2.heap.size < w4.heap.size := by rw [hw4]; simp; omega
    have hx4 : w4.heap[w2.heap.size]? = some (.cells #[.string ⟨#[]⟩, .string ⟨#[]⟩, .int .u64 0] 75) := by rw [hw4, ← hs3]; exact heap_alloc_new _ _
    have hz4 := (hb4.block w.heap.size (by omega)).trans hz3
    have hW4 := hW3.of (fun k hk => hb4.block k (by have := hW3.lt; omega))
    obtain ⟨w4b, hw4b⟩ : ∃ w4b, w4b = ((w4.setCell ⟨w2.heap.size, 0, none⟩ (.string x.k)).setCell ⟨w2.heap.size, 1, none⟩ (.string x.v)).setCell ⟨w2.heap.size, 2, none⟩ (.int .u64 x.r) := ⟨_, rfl⟩
    have hk4b : ∀ k, k ≠ w2.heap.size → w4b.heap[k]? = w4.heap[k]? := fun k hk => by
      rw [hw4b]
      exact (Below.heap_setCell _ ⟨w2.heap.size, 2, none⟩ _ _ hk).trans ((Below.heap_setCell _ ⟨w2.heap.size, 1, none⟩ _ _ hk).trans (Below.heap_setCell _ ⟨w2.heap.size, 0, none⟩ _ _ hk))
    have hx4b : w4b.heap[w2.heap.size]? = some (.cells #[.string x.k, .string x.v, .int .u64 x.r] 75) := by
      rw [hw4b]
      exact heap_setCell_same _ w2.heap.size 2 _ _ (.int .u64 x.r) (heap_setCell_same _ w2.heap.size 1 _ _ (.string x.v) (heap_setCell_same w4 w2.heap.size 0 _ _ (.string x.k) hx4))
    have hb4b : Below w3.heap.size w3 w4b := by
      rw [hw4b]
      exact ((hb4.setCell (p := ⟨w2.heap.size, 0, none⟩) (by show w3.heap.size ≤ w2.heap.size; omega) _).setCell (p := ⟨w2.heap.size, 1, none⟩) (by show w3.heap.size ≤ w2.heap.size; omega) _).setCell (p := ⟨w2.heap.size, 2, none⟩) (by show w3.heap.size ≤ w2.heap.size; omega) _
    have hs4b : w2.heap.size < w4b.heap.size := by rw [hw4b]; simpa using hs4
    have hlt2 := hW3.lt
    have hW4b := hW4.of (fun k hk => hk4b k (by omega))
    have hz4b := (hk4b w.heap.size (by omega)).trans hz4
    have HCALL := hide' (fun w4c (h1 : Below w3.heap.size w3 w4c) h2 => HREM.out w2 kb' w4c m2 (by rw [← hw3]; exact h1) h2 hs2)
    have a1 := hW4.n.c1
    obtain ⟨a2, a3, a4, _⟩ := hW4.i.cell' HX.out
    have e0 : w4.cell? ⟨w2.heap.size, 0, none⟩ = some (.string ⟨#[]⟩) := by simp [World.cell?, hx4]
    have e1 : w4.cell? ⟨w2.heap.size, 1, none⟩ = some (.string ⟨#[]⟩) := by simp [World.cell?, hx4]
    have e2 : w4.cell? ⟨w2.heap.size, 2, none⟩ = some (.int .u64 0) := by simp [World.cell?, hx4]
    have ef : ∀ j, w4.frozen? ⟨w2.heap.size, j, none⟩ = false := fun j => by simp [World.frozen?, hx4]
    have t1 := hW4b.n.c1
    have HMM := hide' m2
    have HW3' := hide' hw3
    have HW4' := hide' hw4
    have HWb' := hide' hw4b
    have HZ4 := hide' hz4b
    have HX4 := hide' hx4b
    have HW4 := hide' hW4b
    have HS2 := hide' hs2
    have HB4 := hide' hb4b
    have HS4 := hide' hs4b
    have hgx : g ≠ w2.heap.size := by omega
    clear hW2 hz2 q2 m2 hW3 hw3 hz3 hs3 hw4 hb4 hx4 hz4 hW4 n2 k0 kf hs2 hs4 hw4b hk4b hx4b hb4b hs4b hW4b hz4b hlt2
    go_upto_if 116 with fail
    rw [← HW3'.out, ← HW4'.out]
    go_cut [] (fun wd => ∃ y w5, N w2 w5 y ∧ w4b.heap.size ≤ w5.heap.size ∧ (∀ k, k = b ∨ k = g ∨ k = gc ∨ k = w.heap.size ∨ k = w2.heap.size → w5.heap[k]? = w4b.heap[k]?) ∧ wd = ((w5.setCell ⟨g, i * 3, none⟩ (.string y.k)).setCell ⟨g, i * 3 + 1, none⟩ (.string y.v)).setCell ⟨g, i * 3 + 2, none⟩ (.int .u64 y.r))
    case first =>
      go_upto_region 21 with fail
      rw [← HWb'.out]
      go_region_with (go_at_call 51; refine (HCALL.out _ ?_ ?_).mono ?_; exact HB4.out.trans ⟨rfl, rfl, rfl, Nat.le_refl _, fun _ _ => rfl⟩; exact HS4.out; rintro e w5 ⟨y, rfl, n5, hs5, hk5⟩; have n5' := HW4.out.of (w' := w5) (fun k hk => hk5 k (by rcases hk with e | e | e <;> simp [e])); have u1 := n5'.n.c1; obtain ⟨u2, u3, u4, uf⟩ := n5'.i.cell' HX.out; have HN5 := hide' n5; have HS5 := hide' hs5; have HK5 := hide' hk5; clear n5 hs5 hk5 n5'; unfold It.val)
      all_goals (try go_wp2_with fail)
      all_goals (go_meet; exact ⟨y, w5, HN5.out, HS5.out, HK5.out, rfl⟩)
    case rest =>
      obtain ⟨y, w5, n5, hs5, hk5, hcut⟩ := hcut
      obtain ⟨w6, rfl⟩ : ∃ w6 : World, w6 = wc := ⟨_, rfl⟩
      have hs2 := HS2.out
      have hs4 := HS4.out
      have hlt := HLT.out
      have hW5 : Tri w5 b o p g cap gc cc I (bs.set i kb') := HW4.out.of (fun k hk => hk5 k (by rcases hk with e | e | e <;> simp [e]))
      have hk6 : ∀ k, k ≠ g → w6.heap[k]? = w5.heap[k]? := fun k hk => by
        rw [hcut]
        exact (Below.heap_setCell _ ⟨g, i * 3 + 2, none⟩ _ _ hk).trans ((Below.heap_setCell _ ⟨g, i * 3 + 1, none⟩ _ _ hk).trans (Below.heap_setCell _ ⟨g, i * 3, none⟩ _ _ hk))
      have hW6 : Tri w6 b o p g cap gc cc (I.set i y) (bs.set i kb') := by
        refine ⟨?_, ?_, hW5.c.of_block (fun k hk => hk6 k (fun e => hW5.gg (by simp [Value.ownBlock] at hk; omega))), hW5.gb, hW5.gcb, hW5.gg⟩
        · rw [List.length_set]; exact hW5.n.of_block (hk6 b (fun e => hW5.gb e.symm))
        · rw [List.length_set, hcut]; exact OwnI.put3 hW5.i i y
      have hx6 := (hk6 w2.heap.size (by omega)).trans ((hk5 w2.heap.size (by simp)).trans HX4.out)
      have hz6 := (hk6 w.heap.size (by omega)).trans ((hk5 w.heap.size (by simp)).trans HZ4.out)
      have k56 : Keeps (fun k => k = b ∨ k = g ∨ w.heap.size ≤ k) w5 w6 := by
        rw [hcut]
        exact (((Keeps.refl _ w5).setCell (p := ⟨g, i * 3, none⟩) (.inl (.inr (.inl rfl))) _).setCell (p := ⟨g, i * 3 + 1, none⟩) (.inl (.inr (.inl rfl))) _).setCell (p := ⟨g, i * 3 + 2, none⟩) (.inl (.inr (.inl rfl))) _
      have c63 := hW6.n.c3
      have f63 := hW6.n.free 3
      have v6 : w6.cell? ⟨w2.heap.size, 1, none⟩ = some (.string x.v) := by simp [World.cell?, hx6]
      have hbne : b ≠ w2.heap.size := by omega
      have HN5 := hide' n5
      have HW5 := hide' hW5
      have HW6 := hide' hW6
      have HX6 := hide' hx6
      have HZ6 := hide' hz6
      have HK56 := hide' k56
      have HK6 := hide' hk6
      clear n5 hs5 hk5 hW5 hk6 hx6 hW6 hz6 k56 hs2 hs4 hlt hcut a1 a2 a3 a4 e0 e1 e2 ef t1
      go_upto_region 23 with fail
      go_cut [] (fun wd => wd = (w6.setCell ⟨b, 3, none⟩ (.int .i64 (q : Int))).drew)
      case first =>
        go_region_with (go_at_call 54; refine (pieces_one _ hxv _).mono ?_; rintro e w' ⟨rfl, rfl⟩)
        all_goals first | (go_meet; exact rfl) | (go_wp2_with fail; go_meet; exact rfl)
      case rest =>
        obtain ⟨w7, rfl⟩ : ∃ w7 : World, w7 = wc := ⟨_, rfl⟩
        have hs2 := HS2.out
        have hlt := HLT.out
        have h6 := HW6.out
        have hk7 : ∀ k, k ≠ b → w7.heap[k]? = w6.heap[k]? := fun k hk => by rw [hcut]; exact Below.heap_setCell _ ⟨b, 3, none⟩ _ _ hk
        have hW7 : Tri w7 b o q g cap gc cc (I.set i y) (bs.set i kb') := by
          refine ⟨?_, h6.i.of_block (fun k hk => hk7 k (fun e => h6.gb (by simp [Value.ownBlock] at hk; omega))), h6.c.of_block (fun k hk => hk7 k (fun e => h6.gcb (by simp [Value.ownBlock] at hk; omega))), h6.gb, h6.gcb, h6.gg⟩
          rw [hcut]; exact (h6.n.set3 q)
        have k67 : Keeps (fun k => k = b ∨ k = g ∨ w.heap.size ≤ k) w6 w7 := by rw [hcut]; exact ((Keeps.refl _ w6).setCell (p := ⟨b, 3, none⟩) (.inl (.inl rfl)) _).drew
        have hx7 := (hk7 w2.heap.size (by omega)).trans HX6.out
        have hz7 := (hk7 w.heap.size (by omega)).trans HZ6.out
        have z0 : w7.cell? ⟨w.heap.size, 0, none⟩ = some (.string ⟨#[]⟩) := by simp [World.cell?, hz7]
        have z1 : w7.cell? ⟨w.heap.size, 1, none⟩ = some (.string ⟨#[]⟩) := by simp [World.cell?, hz7]
        have z2 : w7.cell? ⟨w.heap.size, 2, none⟩ = some (.int .u64 0) := by simp [World.cell?, hz7]
        have zf : ∀ j, w7.frozen? ⟨w.heap.size, j, none⟩ = false := fun j => by simp [World.frozen?, hz7]
        have x0 : w7.cell? ⟨w2.heap.size, 0, none⟩ = some (.string x.k) := by simp [World.cell?, hx7]
        have x1 : w7.cell? ⟨w2.heap.size, 1, none⟩ = some (.string x.v) := by simp [World.cell?, hx7]
        have x2 : w7.cell? ⟨w2.heap.size, 2, none⟩ = some (.int .u64 x.r) := by simp [World.cell?, hx7]
        have hzx : w.heap.size ≠ w2.heap.size := by omega
        have HW7 := hide' hW7
        have HK7 := hide' hk7
        have HK67 := hide' k67
        clear hcut hk7 hW7 k67 hx7 hz7 h6 hs2 hlt c63 f63 v6
        go_wp2_with fail
        have hlt := HLT.out
        have hk8 : ∀ k, k ≠ w.heap.size → (((w7.setCell ⟨w.heap.size, 0, none⟩ (.string x.k)).setCell ⟨w.heap.size, 1, none⟩ (.string x.v)).setCell ⟨w.heap.size, 2, none⟩ (.int .u64 x.r)).heap[k]? = w7.heap[k]? := fun k hk =>
          (Below.heap_setCell _ ⟨w.heap.size, 2, none⟩ _ _ hk).trans ((Below.heap_setCell _ ⟨w.heap.size, 1, none⟩ _ _ hk).trans (Below.heap_setCell _ ⟨w.heap.size, 0, none⟩ _ _ hk))
        have k78 : Keeps (fun k => k = b ∨ k = g ∨ w.heap.size ≤ k) w7 (((w7.setCell ⟨w.heap.size, 0, none⟩ (.string x.k)).setCell ⟨w.heap.size, 1, none⟩ (.string x.v)).setCell ⟨w.heap.size, 2, none⟩ (.int .u64 x.r)) :=
          (((Keeps.refl _ w7).setCell (p := ⟨w.heap.size, 0, none⟩) (.inl (.inr (.inr (Nat.le_refl _)))) _).setCell (p := ⟨w.heap.size, 1, none⟩) (.inl (.inr (.inr (Nat.le_refl _)))) _).setCell (p := ⟨w.heap.size, 2, none⟩) (.inl (.inr (.inr (Nat.le_refl _)))) _
        have hfin := (HK56.out.trans HK67.out).trans k78
        have htri := HW7.out.of (fun k hk => hk8 k (by omega))
        have hold : ∀ k, w.heap.size ≤ k → k ≠ w.heap.size → k ≠ w2.heap.size → k < w5.heap.size → (((w7.setCell ⟨w.heap.size, 0, none⟩ (.string x.k)).setCell ⟨w.heap.size, 1, none⟩ (.string x.v)).setCell ⟨w.heap.size, 2, none⟩ (.int .u64 x.r)).heap[k]? = w5.heap[k]? := fun k hk hk1 hk2 _ => (hk8 k hk1).trans ((HK7.out k (by omega)).trans (HK6.out k (by omega)))
        refine bodyPost_ret (v := .agg #[.string x.k, .string x.v, .int .u64 x.r]) ?_ rfl ?_
        · simp [results, Try.results51, go_sem, z0, z1, z2]
        · first | exact ⟨y, rfl, w2, kb', w5, HMM.out, HN5.out, HW5.out, htri, hfin, hold⟩ | exact ⟨rfl, y, w2, kb', w5, HMM.out, HN5.out, HW5.out, htri, hfin, hold⟩
end Go.Proofs.Qxb6601392a.Bt
