import Derived.Test.Qxb6601392aEndA
import Derived.Deep.CutBlock
namespace Go.Proofs.Qxb6601392a.Bt
open Go.RowKit

set_option maxRecDepth 100000 in
set_option maxHeartbeats 4000000 in
theorem remove_leaf_raw {w : World} {b o p q : Nat} {iv cv : Value} {I : List It} (W : Way w w b o iv cv iv cv p I []) (hs : Sorted I) (key : ByteArray) (last : Bool) (i : Nat) (hE : if last then i + 1 = I.length else Pos I key.data.toList i true) (it : It) (hit : I[i]? = some it) (hv : it.v.size ≤ 1048576) (hn : I.length ≤ 10000) (hq : q + 1 = p) (hp2 : p ≤ 4611686018427387904) :
    Calls Try.prog 51 #[.pointer (some ⟨b, 0, none⟩), .string key, .bool last, .pointer (some ⟨o, 0, none⟩)] w fun e w' => ∃ iv' cv', e = .returned it.val ∧ Way w w' b o iv cv iv' cv' q (I.take i ++ I.drop (i + 1)) [] := by
  obtain ⟨A, cap, rfl, _, _⟩ := W.i.form
  obtain ⟨Ac, cc, rfl, _, _⟩ := W.c.form
  have HW := hide' W
  have hil : i < I.length := (List.getElem?_eq_some_iff.1 hit).1
  have hil' : (i : Int) < (I.length : Int) := by omega
  have hn' : (I.length : Int) ≤ 10000 := by omega
  have hbl := W.n.lt
  have HIT := hide' hit
  have HE := hide' hE
  have HSS := hide' hs
  have hq0 : (0 : Int) ≤ (q : Int) := by omega
  have hwp : IntKind.i64.wrap ((p : Int) - 1) = (q : Int) := by rw [IntKind.wrap_i64]; omega
  clear W hit hE hs
  go_enter Try.func51, Try.ntmps51
  go_upto_block 0 with fail
  go_cut [9, 10] (fun x y wc => x = .int .i64 (i : Int) ∧ Below w.heap.size w wc ∧ w.heap.size < wc.heap.size ∧ wc.heap[w.heap.size]? = some (.cells #[.string ⟨#[]⟩, .string ⟨#[]⟩, .int .u64 0] 75))
  case first =>
    have hb0 : Below w.heap.size w (w.alloc (.cells #[.string ⟨#[]⟩, .string ⟨#[]⟩, .int .u64 0] 75)) := (Below.refl _ _).alloc (Nat.le_refl _) _
    have hW1 := HW.out.below hb0
    cases last with
    | true =>
      have c1 := HW.out.n.c1
      have c2 := HW.out.n.c2
      have hw1 : IntKind.i64.wrap ((I.length : Int) - 1) = (i : Int) := by
        have := HE.out
        simp at this
        rw [IntKind.wrap_i64]; omega
      clear hW1 hb0
      go_wp2_with fail
      go_meet
      case rel => exact ⟨rfl, (Below.refl _ _).alloc (Nat.le_refl _) _, by simp, heap_alloc_new _ _⟩
    | false =>
      have HF := hide' (find_any hW1.n I hW1.i HSS.out (by omega) key)
      have hP : Pos I key.data.toList i true := by simpa using HE.out
      have HP := hide' hP
      clear hW1 hb0 hP
      go_wp2_with (go_at_call 59; refine HF.out.mono ?_; rintro e w1 ⟨i', f', rfl, hp1, hb1⟩; obtain ⟨rfl, rfl⟩ := HP.out.uniq hp1)
      go_meet
      case rel =>
        have hs1 := hb1.size
        rw [World.size_alloc] at hs1
        exact ⟨rfl, ((Below.refl _ _).alloc (Nat.le_refl _) _).trans (hb1.mono (by simp)), by omega, (hb1.block _ (by simp)).trans (heap_alloc_new _ _)⟩
  case rest =>
    obtain ⟨rfl, hbc, hsc, hz⟩ := hcut
    obtain ⟨w4, rfl⟩ : ∃ w4 : World, w4 = wc := ⟨_, rfl⟩
    have hW4 := HW.out.below hbc
    obtain ⟨g, cap', hv', m0, m1, m2, _, _, _⟩ := hW4.i.at HIT.out
    injection hv' with hA1 hA3 hA2
    clear hA3
    subst hA1 hA2
    have x59 := fun W => idx59 g I.length cap i hil W
    have n1 := hW4.n.c1
    have n2 := hW4.n.c2
    obtain ⟨w5, hw5⟩ : ∃ w5, w5 = w4.alloc (.cells #[.string it.k, .string it.v, .int .u64 it.r] 75) := ⟨_, rfl⟩
    have hb5 : Below w4.heap.size w4 w5 := by rw [hw5]; exact (Below.refl _ _).alloc (Nat.le_refl _) _
    have hW5 := hW4.below hb5
    have n51 := hW5.n.c1
    have hbox : w5.heap[w4.heap.size]? = some (.cells #[.string it.k, .string it.v, .int .u64 it.r] 75) := by rw [hw5]; exact heap_alloc_new _ _
    have hz5 : w5.heap[w.heap.size]? = some (.cells #[.string ⟨#[]⟩, .string ⟨#[]⟩, .int .u64 0] 75) := (hb5.block _ (by omega)).trans hz
    have hs5 : w5.heap.size = w4.heap.size + 1 := by rw [hw5]; simp
    have HDEL := hide' (delete59_node hW5.i hW5.n (fun e => (hW5.ib b e).2 rfl) (by omega) i hil)
    have hwi : IntKind.i64.wrap ((i : Int) + 1) = (i : Int) + 1 := by rw [IntKind.wrap_i64]; omega
    have hgb : g ≠ b := fun e => (hW4.ib g rfl).2 e
    have HW5 := hide' hW5
    have HWE := hide' hw5
    have HBX := hide' hbox
    have HZ5 := hide' hz5
    have HS5 := hide' hs5
    have HSC := hide' hsc
    clear hW4 hb5 hW5 hbox hz5 hs5 hw5 hz hsc hbc
    go_upto_region 10 with fail
    rw [← HWE.out]
    go_wp2_with fail
    refine HDEL.out.mono ?_
    rintro e w6 ⟨A3, n3, cap3, rfl, r1, r2, r3, r4⟩
    have f6 := r4.free 1
    have f6' := r4.c1
    have hW7 := HW5.out.items r2 r1 r4 (fun k hk => .inl (r3 ▸ hk))
    obtain ⟨w7, hw7⟩ : ∃ w7, w7 = w6.setCell ⟨b, 1, none⟩ (.slice A3 n3 cap3) := ⟨_, rfl⟩
    rw [← hw7] at hW7
    have hkb : ∀ k, w.heap.size ≤ k → k < w5.heap.size → w7.heap[k]? = w5.heap[k]? := fun k hk hk2 => by
      rw [hw7]
      refine (Below.heap_setCell _ ⟨b, 1, none⟩ _ _ (by show k ≠ b; omega)).trans (r2.block k hk2 (fun e => ?_))
      have := HW.out.i.blk k e
      omega
    have hsc' := HSC.out
    have hs5' := HS5.out
    have hbx7 := (hkb w4.heap.size (by omega) (by omega)).trans HBX.out
    have hz7 := (hkb w.heap.size (Nat.le_refl _) (by omega)).trans HZ5.out
    have c73 := hW7.n.c3
    have f73 := hW7.n.free 3
    have v7 : w7.cell? ⟨w4.heap.size, 1, none⟩ = some (.string it.v) := by simp [World.cell?, hbx7]
    have hbne : b ≠ w4.heap.size := by omega
    have HR3 : Hid ((Value.slice A3 n3 cap3).ownBlock ≠ some w.heap.size) := by
      show _ ≠ _
      rw [r3]
      intro e
      have := HW.out.i.blk _ e
      omega
    have HC3 : Hid ((Value.slice Ac ([] : List Nat).length cc).ownBlock ≠ some w.heap.size) := fun e => by
      have := HW.out.c.blk _ e
      omega
    have hzne : w.heap.size ≠ w4.heap.size := by omega
    have HW7 := hide' hW7
    have HWW := hide' hw7
    have HBX7 := hide' hbx7
    have HZ7 := hide' hz7
    clear hW7 hw7 hbx7 hz7 hkb r1 r2 r3 r4 m0 m1 m2 n1 n2 n51 hsc' hs5'
    go_upto_region 11 with fail
    rw [← HWW.out]
    go_cut [] (fun wd => wd = (w7.setCell ⟨b, 3, none⟩ (.int .i64 (q : Int))).drew)
    case first =>
      go_region_with (go_at_call 54; refine (pieces_one _ hv _).mono ?_; rintro e w' ⟨rfl, rfl⟩)
      all_goals first | (go_meet; exact rfl) | (go_wp2_with fail; go_meet; exact rfl)
    case rest =>
      have hW9 : Way w wc b o (.slice (some ⟨g, 0, none⟩) I.length cap) (.slice Ac ([] : List Nat).length cc) (.slice A3 n3 cap3) (.slice Ac ([] : List Nat).length cc) q (I.take i ++ I.drop (i + 1)) [] := by rw [hcut]; exact (HW7.out.set3 q).drew
      have hk9 : ∀ k, k ≠ b → wc.heap[k]? = w7.heap[k]? := fun k hk => by rw [hcut]; exact Below.heap_setCell _ ⟨b, 3, none⟩ _ _ hk
      have hbx9 := (hk9 w4.heap.size (fun e => hbne e.symm)).trans HBX7.out
      have hz9 := (hk9 w.heap.size (fun e => by omega)).trans HZ7.out
      have z0 : wc.cell? ⟨w.heap.size, 0, none⟩ = some (.string ⟨#[]⟩) := by simp [World.cell?, hz9]
      have z1 : wc.cell? ⟨w.heap.size, 1, none⟩ = some (.string ⟨#[]⟩) := by simp [World.cell?, hz9]
      have z2 : wc.cell? ⟨w.heap.size, 2, none⟩ = some (.int .u64 0) := by simp [World.cell?, hz9]
      have zf : ∀ j, wc.frozen? ⟨w.heap.size, j, none⟩ = false := fun j => by simp [World.frozen?, hz9]
      have x0 : wc.cell? ⟨w4.heap.size, 0, none⟩ = some (.string it.k) := by simp [World.cell?, hbx9]
      have x1 : wc.cell? ⟨w4.heap.size, 1, none⟩ = some (.string it.v) := by simp [World.cell?, hbx9]
      have x2 : wc.cell? ⟨w4.heap.size, 2, none⟩ = some (.int .u64 it.r) := by simp [World.cell?, hbx9]
      have HW9 := hide' hW9
      clear hW9 hk9 hbx9 hz9 hcut c73 f73 v7
      go_wp2_with fail
      have hbw : w.heap.size ≠ b := by omega
      have hr := ((HW9.out.other 0 (.string it.k) hbw HR3.out HC3.out (Nat.le_refl _)).other 1 (.string it.v) hbw HR3.out HC3.out (Nat.le_refl _)).other 2 (.int .u64 it.r) hbw HR3.out HC3.out (Nat.le_refl _)
      refine bodyPost_ret (v := .agg #[.string it.k, .string it.v, .int .u64 it.r]) ?_ rfl ?_
      · simp [results, Try.results51, go_sem, z0, z1, z2]
      · first | exact ⟨.slice A3 n3 cap3, .slice Ac ([] : List Nat).length cc, rfl, hr⟩ | exact ⟨rfl, .slice A3 n3 cap3, .slice Ac ([] : List Nat).length cc, hr⟩
end Go.Proofs.Qxb6601392a.Bt
