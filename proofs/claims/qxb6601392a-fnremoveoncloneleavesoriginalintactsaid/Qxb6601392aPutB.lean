import Derived.Test.Qxb6601392aPutA
import Derived.Deep.DeepCutAuto
namespace Go.Proofs.Qxb6601392a.Bt
open Go.RowKit


/-- an item put in among the items of a node -/
theorem insert59_leaf {w : World} {b o p : Nat} {A : Option Addr} {cap : Nat} {cv : Value} {I : List It} (hI : OwnI w (.slice A I.length cap) I) (hN : NodeAt w b o (.slice A I.length cap) cv p) (hib : (Value.slice A I.length cap).ownBlock ≠ some b) (hn : I.length ≤ 100000) (x : It) (i : Nat) (hi : i ≤ I.length) :
    Calls Try.prog 60 #[.slice A I.length cap, .int .i64 (i : Int), .slice (some ⟨w.heap.size, 0, none⟩) 1 1] (w.alloc (.cells #[.string x.k, .string x.v, .int .u64 x.r] 75)).drew fun e w2 => ∃ A3 cap3, e = .returned (.slice A3 (I.length + 1) cap3) ∧ OwnI w2 (.slice A3 (I.length + 1) cap3) (I.take i ++ x :: I.drop i) ∧
      Keeps (fun k => (Value.slice A I.length cap).ownBlock = some k) w w2 ∧ (∀ k, (Value.slice A3 (I.length + 1) cap3).ownBlock = some k → ((Value.slice A I.length cap).ownBlock = some k ∨ w.heap.size ≤ k) ∧ k ≠ b) ∧ NodeAt w2 b o (.slice A I.length cap) cv p := by
  refine (insert59_any (w.alloc (.cells #[.string x.k, .string x.v, .int .u64 x.r] 75)).drew (.slice A I.length cap) I.length (icells I) (hI.of_block (fun k hk => Below.heap_alloc _ _ _ (hI.blk k hk))) (icells_one I) hn w.heap.size x.cells ⟨heap_alloc_new _ _, rfl, ?_⟩ (fun e => by have := hI.blk _ e; omega) i hi).mono ?_
  · have := icells_one [x]
    simpa [icells] using this
  rintro e w2 ⟨v', rfl, r1, r2, r3⟩
  obtain ⟨A3, cap3, rfl, _, _⟩ := r1.form
  have k2 : Keeps (fun k => (Value.slice A I.length cap).ownBlock = some k) w w2 := ((Keeps.refl _ w).alloc _).drew.trans r2
  have hbl := hN.lt
  refine ⟨A3, cap3, rfl, ?_, k2, fun k hk => ?_, hN.of_block (k2.block b hbl hib)⟩
  · unfold OwnI
    rw [icells_take, icells_drop, List.append_assoc] at r1
    rw [icells_append, icells_cons]
    have hl : (I.take i ++ x :: I.drop i).length = I.length + 1 := by simp; omega
    rw [hl]; exact r1
  · rcases r3 with r3 | r3
    · rw [r3] at hk
      exact ⟨.inl hk, fun e => hib (e ▸ hk)⟩
    · rw [r3] at hk
      injection hk with hk
      simp [World.drew] at hk
      exact ⟨.inr (by omega), by omega⟩

set_option maxRecDepth 100000 in
set_option maxHeartbeats 2000000 in
theorem put_leaf {w : World} {b o p : Nat} {iv : Value} {I : List It} {Ac : Option Addr} {cc : Nat} (hN : NodeAt w b o iv (.slice Ac 0 cc) p) (hI : OwnI w iv I) (hs : Sorted I) (hn : I.length ≤ 10000) (x : It) (hx : x.ok) (i : Nat) (hP : Pos I x.key i false) (hp : p ≤ 4611686018427387904) (hib : iv.ownBlock ≠ some b) :
    Calls Try.prog 58 #[.pointer (some ⟨b, 0, none⟩), .string x.k, .agg #[.string x.v, .int .u64 x.r], .pointer (some ⟨o, 0, none⟩)] w fun e w' => ∃ iv', e = .returned (.tuple #[.int .i64 1, .bool false]) ∧ NodeAt w' b o iv' (.slice Ac 0 cc) (p + 1) ∧ OwnI w' iv' (I.take i ++ x :: I.drop i) ∧ Keeps (fun k => iv.ownBlock = some k ∨ k = b) w w' ∧ (∀ k, iv'.ownBlock = some k → iv.ownBlock = some k ∨ w.heap.size ≤ k) := by
  obtain ⟨A, cap, rfl, hcap, hcm⟩ := hI.form
  have HI : Hid (OwnI w (.slice A I.length cap) I) := hI
  have HP : Hid (Pos I x.key i false) := hP
  have HN : Hid (NodeAt w b o (.slice A I.length cap) (.slice Ac 0 cc) p) := hN
  have hxv := hx.v
  have HIL : Hid (i ≤ I.length) := hP.le
  have HIB : Hid ((Value.slice A I.length cap).ownBlock ≠ some b) := hib
  have hbl := hN.lt
  have hp' : (p : Int) ≤ 4611686018427387904 := by omega
  have hwp : IntKind.i64.wrap ((p : Int) + 1) = (p : Int) + 1 := by rw [IntKind.wrap_i64]; omega
  have HNN : Hid (I.length ≤ 10000) := hn
  clear hN hP hI hib
  go_enter Try.func58, Try.ntmps58
  go_wp2_with fail
  have hb0 : Below w.heap.size w (w.alloc (.cells #[.string x.v, .int .u64 x.r] 64)) := (Below.refl _ _).alloc (Nat.le_refl _) _
  refine (find_any (HN.out.of_block (hb0.block _ hbl)) I (HI.out.of_block (fun k hk => hb0.block k (HI.out.blk k hk))) hs (by omega) x.k).mono ?_
  rintro e w1 ⟨i', found, rfl, hp1, hb1⟩
  obtain ⟨rfl, rfl⟩ := HP.out.uniq hp1
  have hs1 := hb1.size
  simp only [World.size_alloc] at hs1
  have hbb : Below w.heap.size w w1 := hb0.trans (hb1.mono (by simp))
  have HB : Hid (Below w.heap.size w w1) := hbb
  have e0 : w1.heap[w.heap.size]? = some (.cells #[.string x.v, .int .u64 x.r] 64) := (hb1.block _ (by simp)).trans (heap_alloc_new _ _)
  have E0 : Hid (w1.heap[w.heap.size]? = some (.cells #[.string x.v, .int .u64 x.r] 64)) := e0
  have e1 : w1.cell? ⟨w.heap.size, 0, none⟩ = some (.string x.v) := by simp [World.cell?, e0]
  have e2 : w1.cell? ⟨w.heap.size, 1, none⟩ = some (.int .u64 x.r) := by simp [World.cell?, e0]
  have hN1 := HN.out.of_block (hbb.block _ hbl)
  have HN1 := hN1
  have n1 := hN1.c1
  have n2 := hN1.c2
  have nf1 := hN1.free 1
  have HI1 : Hid (OwnI w1 (.slice A I.length cap) I) := HI.out.of_block (fun k hk => hbb.block k (HI.out.blk k hk))
  have HNN1 : Hid (NodeAt w1 b o (.slice A I.length cap) (.slice Ac 0 cc) p) := hN1
  have hbl1 : b < w1.heap.size := hN1.lt
  have HINS := hide (insert59_leaf HI1.out HNN1.out HIB.out (by have := HNN.out; omega) x i HIL.out)
  clear hb1 hbb hp1 hN1 HN1 e0 hb0 hn hs
  go_upto_region 8 with fail
  go_cut [] (fun wc => ∃ iv', NodeAt wc b o iv' (.slice Ac 0 cc) p ∧ OwnI wc iv' (I.take i ++ x :: I.drop i) ∧ Keeps (fun k => (Value.slice A I.length cap).ownBlock = some k ∨ k = b) w1 wc ∧ (∀ k, iv'.ownBlock = some k → (Value.slice A I.length cap).ownBlock = some k ∨ w1.heap.size ≤ k))
  case first =>
    go_region_with (go_at_call 60; refine HINS.out.mono ?_; rintro e w2 ⟨A3, cap3, rfl, r1, r2, r3, r4⟩; have f2 := r4.free 1; have f2' := r4.c1)
    all_goals (try go_wp2_with fail)
    all_goals go_meet
    all_goals
      have kk : Keeps (fun k => (Value.slice A I.length cap).ownBlock = some k ∨ k = b) w1 w2 := r2.mono (fun _ _ h => .inl h)
      exact ⟨.slice A3 (I.length + 1) cap3, r4.set1 _, r1.of_block (fun k hk => Below.heap_setCell _ ⟨b, 1, none⟩ _ _ (r3 k hk).2), kk.setCell (p := ⟨b, 1, none⟩) (.inl (.inr rfl)) _, fun k hk => (r3 k hk).1⟩
  case rest =>
    obtain ⟨iv', q1, q2, q3, q4⟩ := hcut
    have c3 := q1.c3
    have cf3 := q1.free 3
    have E1 : wc.heap[w.heap.size]? = some (.cells #[.string x.v, .int .u64 x.r] 64) := (q3.block _ (heap_lt E0.out) (by
      rintro (h | h)
      · have := HI.out.blk _ h; omega
      · omega)).trans E0.out
    have e1' : wc.cell? ⟨w.heap.size, 0, none⟩ = some (.string x.v) := by simp [World.cell?, E1]
    have hne : b ≠ w.heap.size := by omega
    have Q1 := hide q1
    have Q2 := hide q2
    have Q3 := hide q3
    have Q4 := hide q4
    clear q1 q2 q3 q4 E1 e1 e2 n1 n2 nf1
    go_upto_region 9 with fail
    go_cut [] (fun wd => wd = (wc.setCell ⟨b, 3, none⟩ (.int .i64 ((p : Int) + 1))).drew)
    case first =>
      go_region_with (go_at_call 54; refine (pieces_one _ hxv _).mono ?_; rintro e w' ⟨rfl, rfl⟩)
      all_goals first | (go_meet; exact rfl) | (go_wp2_with fail; go_meet; exact rfl)
    case rest =>
      subst hcut
      go_wp2_with (go_at_call 54; refine (pieces_one _ hxv _).mono ?_; rintro e w' ⟨rfl, rfl⟩)
      go_ret2
      refine ⟨iv', rfl, Q1.out.set3 (p + 1), Q2.out.of_block (fun k hk => Below.heap_setCell _ ⟨b, 3, none⟩ _ _ (fun e => ?_)), ?_, fun k hk => ?_⟩
      · rcases Q4.out k hk with h | h
        · have e' : k = b := e
          subst e'
          exact HIB.out h
        · have e' : k = b := e
          omega
      · exact ((keeps_of_below HB.out : Keeps (fun k => (Value.slice A I.length cap).ownBlock = some k ∨ k = b) w w1).trans Q3.out |>.setCell (p := ⟨b, 3, none⟩) (.inl (.inr rfl)) _).drew
      · rcases Q4.out k hk with h | h
        · exact .inl h
        · exact .inr (by omega)
end Go.Proofs.Qxb6601392a.Bt
