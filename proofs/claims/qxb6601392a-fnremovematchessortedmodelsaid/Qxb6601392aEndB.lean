import Derived.Test.Qxb6601392aEndA
namespace Go.Proofs.Qxb6601392a.Bt
open Go.RowKit

set_option maxRecDepth 100000 in
set_option maxHeartbeats 4000000 in
theorem putEnd_raw {w : World} {b o p q2 : Nat} {iv cv : Value} {I : List It} {bs bs' : List Nat} {kval : Value} (W : Way w w b o iv cv iv cv p I bs) (last : Bool) (i : Nat) (cz : Int) (hE : if last then i = I.length ∧ cz = (bs.length : Int) else i = 0 ∧ cz = 0) (it : It) (hv : it.v.size ≤ 1048576) (hn : I.length ≤ 10000) (hbn : bs.length ≤ 10000) (hp2 : p + 1 ≤ 2305843009213693952) (hq : q2 ≤ 4611686018427387904)
    (hkid : (kval = .pointer none ∧ bs' = bs ∧ q2 = p + 1) ∨ (∃ c kb pk : Nat, cz = (c : Int) ∧ c ≤ bs.length ∧ kval = .pointer (some ⟨kb, 0, none⟩) ∧ bs' = bs.take c ++ kb :: bs.drop c ∧ w.cell? ⟨kb, 3, none⟩ = some (.int .i64 (pk : Int)) ∧ kb ≠ b ∧ iv.ownBlock ≠ some kb ∧ cv.ownBlock ≠ some kb ∧ q2 = p + 1 + pk)) :
    Calls Try.prog 53 #[.pointer (some ⟨b, 0, none⟩), .bool last, .agg #[.string it.k, .string it.v, .int .u64 it.r], kval] w fun e w' => ∃ iv' cv', e = .returned (.tuple #[]) ∧ Way w w' b o iv cv iv' cv' q2 (I.take i ++ it :: I.drop i) bs' := by
  obtain ⟨A, cap, rfl, _, _⟩ := W.i.form
  obtain ⟨Ac, cc, rfl, _, _⟩ := W.c.form
  have HW := hide' W
  have hil : i ≤ I.length := by
    cases last <;> simp at hE <;> omega
  have hil' : (i : Int) ≤ (I.length : Int) := by omega
  have hn' : (I.length : Int) ≤ 10000 := by omega
  have hbn' : (bs.length : Int) ≤ 10000 := by omega
  have hbl := W.n.lt
  have HE := hide' hE
  have HKID := hide' hkid
  have hwp : IntKind.i64.wrap ((p : Int) + 1) = (p : Int) + 1 := by rw [IntKind.wrap_i64]; omega
  obtain ⟨q, hq1⟩ : ∃ q : Nat, q = p + 1 := ⟨_, rfl⟩
  have hqq : (p : Int) + 1 = (q : Int) := by omega
  have HQQ := hide' hqq
  have HQ1 := hide' hq1
  clear W hE hkid hqq hq1
  go_enter Try.func53, Try.ntmps53
  go_upto_if 10 with fail
  go_cut [8, 9] (fun x y wc => x = .int .i64 (i : Int) ∧ y = .int .i64 cz ∧ Below w.heap.size w wc ∧ wc.heap.size = w.heap.size + 1 ∧ wc.heap[w.heap.size]? = some (.cells #[.string it.k, .string it.v, .int .u64 it.r] 75))
  case first =>
    cases last with
    | true =>
      have c1 := HW.out.n.c1
      have c2 := HW.out.n.c2
      obtain ⟨rfl, rfl⟩ : i = I.length ∧ cz = (bs.length : Int) := by simpa using HE.out
      go_wp2_with fail
      go_quiet (fail)
      go_wp2_with fail
      go_meet
      case rel => exact ⟨rfl, rfl, below_drewN ((Below.refl _ _).alloc (Nat.le_refl _) _) _, World.size_alloc _ _, heap_alloc_new _ _⟩
    | false =>
      obtain ⟨rfl, rfl⟩ : i = 0 ∧ cz = 0 := by simpa using HE.out
      go_wp2_with fail
      go_meet
      case rel => exact ⟨rfl, rfl, (Below.refl _ _).alloc (Nat.le_refl _) _, by simp, heap_alloc_new _ _⟩
  case rest =>
    obtain ⟨rfl, rfl, hbc, hsc, hbox⟩ := hcut
    obtain ⟨w4, rfl⟩ : ∃ w4 : World, w4 = wc := ⟨_, rfl⟩
    have hW4 := HW.out.below hbc
    have n1 := hW4.n.c1
    have nf := hW4.n.free 1
    have b0 : w4.cell? ⟨w.heap.size, 0, none⟩ = some (.string it.k) := by simp [World.cell?, hbox]
    have b1 : w4.cell? ⟨w.heap.size, 1, none⟩ = some (.string it.v) := by simp [World.cell?, hbox]
    have b2 : w4.cell? ⟨w.heap.size, 2, none⟩ = some (.int .u64 it.r) := by simp [World.cell?, hbox]
    have HINS := hide' (insert59_leaf hW4.i hW4.n (fun e => (hW4.ib b e).2 rfl) (by omega) it i hil)
    have hbl4 : b < w4.heap.size := hW4.n.lt
    have HW4 := hide' hW4
    have HBX := hide' hbox
    have HSC := hide' hsc
    clear hW4 hbox hsc hbc
    go_upto_region 4 with fail
    go_cut [] (fun wc => ∃ iv', Way w wc b o (.slice A I.length cap) (.slice Ac bs.length cc) iv' (.slice Ac bs.length cc) p (I.take i ++ it :: I.drop i) bs ∧ wc.heap[w.heap.size]? = some (.cells #[.string it.k, .string it.v, .int .u64 it.r] 75))
    case first =>
      go_region_with (go_at_call 60; refine HINS.out.mono ?_; rintro e w6 ⟨A3, cap3, rfl, r1, r2, r3, r4⟩; have f2 := r4.free 1; have f2' := r4.c1)
      all_goals (try go_wp2_with fail)
      all_goals go_meet
      all_goals
        refine ⟨.slice A3 (I.length + 1) cap3, HW4.out.items r2 r1 r4 (fun k hk => (r3 k hk).1), ?_⟩
        refine (Below.heap_setCell _ ⟨b, 1, none⟩ _ _ (by show w.heap.size ≠ b; omega)).trans ((r2.block _ (by rw [HSC.out]; omega) (fun e => ?_)).trans HBX.out)
        have := HW.out.i.blk _ e
        omega
    case rest =>
      obtain ⟨iv', hW7, hbx7⟩ := hcut
      obtain ⟨w7, rfl⟩ : ∃ w7 : World, w7 = wc := ⟨_, rfl⟩
      have c73 := hW7.n.c3
      have f73 := hW7.n.free 3
      have v7 : w7.cell? ⟨w.heap.size, 1, none⟩ = some (.string it.v) := by simp [World.cell?, hbx7]
      have hbne : b ≠ w.heap.size := by omega
      have HW7 := hide' hW7
      clear hW7 hbx7 b0 b1 b2 n1 nf
      go_upto_region 5 with fail
      go_cut [] (fun wd => wd = (w7.setCell ⟨b, 3, none⟩ (.int .i64 ((p : Int) + 1))).drew)
      case first =>
        go_region_with (go_at_call 54; refine (pieces_one _ hv _).mono ?_; rintro e w' ⟨rfl, rfl⟩)
        all_goals first | (go_meet; exact rfl) | (go_wp2_with fail; go_meet; exact rfl)
      case rest =>
        have hW9 : Way w wc b o (.slice A I.length cap) (.slice Ac bs.length cc) iv' (.slice Ac bs.length cc) q (I.take i ++ it :: I.drop i) bs := by rw [hcut, HQQ.out]; exact (HW7.out.set3 q).drew
        have HW9 := hide' hW9
        have c92 := hW9.n.c2
        have hs9 := hW9.n.lt
        clear hW9 hcut c73 f73 v7
        rcases HKID.out with ⟨rfl, rfl, hq2⟩ | ⟨c, kb, pk, rfl, hcl, rfl, rfl, hpk, hkb1, hkb2, hkb3, hq2⟩
        · have HQ2 : Hid (q2 = q) := hq2.trans HQ1.out.symm
          clear hq2
          go_wp2_with fail
          refine bodyPost_end (v := .tuple #[]) (by simp [results, Try.results53, go_sem]) rfl ⟨rfl, iv', .slice Ac bs'.length cc, ?_⟩
          rw [HQ2.out]
          exact HW9.out
        · have HINS2 := hide' (insert60_node HW9.out.c HW9.out.n (fun e => (HW9.out.cb b e).2 rfl) (by omega) kb c hcl)
          have hkl : kb < w.heap.size := cell_lt hpk
          have hpk9 : wc.cell? ⟨kb, 3, none⟩ = some (.int .i64 (pk : Int)) := HW9.out.k.cell hpk (by
            rintro (e | e | e)
            · exact hkb2 e
            · exact hkb3 e
            · exact hkb1 e)
          have HQ2 : Hid ((q : Int) + (pk : Int) = (q2 : Int)) := by show _ = _; have := HQ1.out; omega
          have hwq : IntKind.i64.wrap ((q : Int) + (pk : Int)) = (q2 : Int) := by rw [HQ2.out, IntKind.wrap_i64]; omega
          have hsw : w.heap.size ≤ wc.heap.size := HW9.out.k.size
          have HPK := hide' hpk9
          have HKB1 := hide' hkb1
          have HKB3 := hide' hkb3
          have HSW := hide' hsw
          clear hpk hq2 hkb2 hkb3 hsw
          go_wp2_with fail
          refine HINS2.out.mono ?_
          rintro e w10 ⟨A5, cap5, rfl, r1, r2, r3, r4⟩
          have f10 := r4.free 2
          have f10' := r4.c2
          have hW11 := HW9.out.kids r2 r1 r4 (fun k hk => (r3 k hk).1)
          obtain ⟨w11, hw11⟩ : ∃ w11, w11 = w10.setCell ⟨b, 2, none⟩ (.slice A5 (bs.length + 1) cap5) := ⟨_, rfl⟩
          rw [← hw11] at hW11
          have hpk11 : w11.cell? ⟨kb, 3, none⟩ = some (.int .i64 (pk : Int)) := by
            rw [hw11]
            exact (World.cell?_of_block (w := wc) (a := ⟨kb, 3, none⟩) ((Below.heap_setCell _ ⟨b, 2, none⟩ _ _ HKB1.out).trans (r2.block kb (by have := HSW.out; omega) HKB3.out))).trans HPK.out
          have c113 := hW11.n.c3
          have f113 := hW11.n.free 3
          have HW11 := hide' hW11
          have HWW := hide' hw11
          clear hW11 hw11 r1 r2 r3 r4 hpk9
          go_upto_region 8 with fail
          rw [← HWW.out]
          go_region
          all_goals (try go_wp2_with fail)
          all_goals
            refine bodyPost_end (v := .tuple #[]) (by simp [results, Try.results53, go_sem]) rfl ?_
            exact ⟨iv', .slice A5 (bs.length + 1) cap5, rfl, (HW11.out.set3 q2).drew⟩
end Go.Proofs.Qxb6601392a.Bt
