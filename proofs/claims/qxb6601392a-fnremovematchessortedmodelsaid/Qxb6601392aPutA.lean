import Derived.Test.Qxb6601392aSplitB
import Derived.Deep.RegionWith
namespace Go.Proofs.Qxb6601392a.Bt
open Go.RowKit

theorem Own.set1 {e : TypeId} {z n g cap : Nat} {w : World} {xs : List Value} (h : Own e z w (.slice (some ⟨g, 0, none⟩) n cap) n xs) (j : Nat) (u : Value) : Own e z (w.setCell ⟨g, j, none⟩ u) (.slice (some ⟨g, 0, none⟩) n cap) n (xs.set j u) := by
  obtain ⟨hl, hc⟩ := h
  rcases hc with ⟨e, _⟩ | ⟨g', cap', cur, e, h0, hg, hnc, hcm, h3, h4⟩
  · cases e
  · cases e
    refine ⟨by rw [List.length_set]; exact hl, .inr ⟨g, cap, cur.setIfInBounds j u, rfl, h0, heap_setCell_same w g j cur _ u hg, hnc, hcm, by rw [Array.size_setIfInBounds]; exact h3, ?_⟩⟩
    rw [Array.toList_setIfInBounds, ← h4]
    rw [List.take_set]

theorem icells_set (I : List It) (i : Nat) (x y : It) (hy : I[i]? = some y) (hk : y.k = x.k) : icells (I.set i x) = ((icells I).set (i * 3 + 1) (.string x.v)).set (i * 3 + 2) (.int .u64 x.r) := by
  induction I generalizing i with
  | nil => simp at hy
  | cons a I ih =>
    cases i with
    | zero =>
      simp only [List.getElem?_cons_zero, Option.some.injEq] at hy
      subst hy
      simp [icells_cons, It.cells, hk]
    | succ i =>
      rw [List.getElem?_cons_succ] at hy
      rw [List.set_cons_succ, icells_cons, icells_cons, ih i hy]
      have e1 : (i + 1) * 3 + 1 = (i * 3 + 1) + 3 := by omega
      have e2 : (i + 1) * 3 + 2 = (i * 3 + 2) + 3 := by omega
      rw [e1, e2]
      simp [It.cells]

theorem OwnI.put {g cap : Nat} {w : World} {I : List It} (h : OwnI w (.slice (some ⟨g, 0, none⟩) I.length cap) I) (i : Nat) (x y : It) (hy : I[i]? = some y) (hk : y.k = x.k) :
    OwnI ((w.setCell ⟨g, i * 3 + 1, none⟩ (.string x.v)).setCell ⟨g, i * 3 + 2, none⟩ (.int .u64 x.r)) (.slice (some ⟨g, 0, none⟩) I.length cap) (I.set i x) := by
  have := (Own.set1 (Own.set1 h (i * 3 + 1) (.string x.v)) (i * 3 + 2) (.int .u64 x.r))
  rw [← icells_set I i x y hy hk] at this
  unfold OwnI
  rw [List.length_set]
  exact this

theorem key_inj {x y : It} (h : x.key = y.key) : x.k = y.k := by
  unfold It.key at h
  have : x.k.data = y.k.data := Array.toList_inj.1 h
  cases hx : x.k; cases hy : y.k
  rw [hx, hy] at this
  cases this
  rfl

theorem Pos.uniq {L : List It} {k : Key} {i i' : Nat} {f f' : Bool} (h : Pos L k i f) (h' : Pos L k i' f') : i = i' ∧ f = f' := by
  have hi : i = i' := by
    rcases Nat.lt_trichotomy i i' with hl | hl | hl
    · exfalso
      obtain ⟨x, hx⟩ : ∃ x, L[i]? = some x := ⟨_, List.getElem?_eq_getElem (by have := h'.le; omega)⟩
      have h1 := h.ge i x hx (Nat.le_refl _)
      rw [h'.lt i x hx hl] at h1; cases h1
    · exact hl
    · exfalso
      obtain ⟨x, hx⟩ : ∃ x, L[i']? = some x := ⟨_, List.getElem?_eq_getElem (by have := h.le; omega)⟩
      have h1 := h'.ge i' x hx (Nat.le_refl _)
      rw [h.lt i' x hx hl] at h1; cases h1
  subst hi
  refine ⟨rfl, ?_⟩
  have := h.found.trans h'.found.symm
  cases f <;> cases f' <;> simp_all

set_option maxRecDepth 100000 in
set_option maxHeartbeats 1000000 in
theorem put_found {w : World} {b o p : Nat} {iv cv : Value} {I : List It} (hN : NodeAt w b o iv cv p) (hI : OwnI w iv I) (hs : Sorted I) (hn : I.length ≤ 100000) (x y : It) (hx : x.ok) (i : Nat) (hP : Pos I x.key i true) (hy : I[i]? = some y) (hyv : y.v.size ≤ 1048576) (hp : p ≤ 4611686018427387904) (hib : iv.ownBlock ≠ some b) :
    Calls Try.prog 58 #[.pointer (some ⟨b, 0, none⟩), .string x.k, .agg #[.string x.v, .int .u64 x.r], .pointer (some ⟨o, 0, none⟩)] w fun e w' => e = .returned (.tuple #[.int .i64 0, .bool true]) ∧ NodeAt w' b o iv cv p ∧ OwnI w' iv (I.set i x) ∧ Keeps (fun k => iv.ownBlock = some k ∨ k = b) w w' := by
  obtain ⟨g, cap, rfl, m0, m1, m2, mf, hcap, hcm⟩ := hI.at hy
  have HI : Hid (OwnI w (.slice (some ⟨g, 0, none⟩) I.length cap) I) := hI
  have HP : Hid (Pos I x.key i true) := hP
  have HY : Hid (I[i]? = some y) := hy
  have HN : Hid (NodeAt w b o (.slice (some ⟨g, 0, none⟩) I.length cap) cv p) := hN
  have hxv := hx.v
  have hw0 : IntKind.i64.wrap 0 = 0 := rfl
  have HK : Hid (y.k = x.k) := key_inj (by obtain ⟨z, hz, hk⟩ := hP.found.1 rfl; rw [hy] at hz; cases hz; exact hk)
  have hil : i < I.length := (List.getElem?_eq_some_iff.1 hy).1
  have hil' : (i : Int) < (I.length : Int) := by omega
  have hn' : (I.length : Int) ≤ 100000 := by omega
  have hgl : g < w.heap.size := cell_lt m0
  have hbl := hN.lt
  have hgb : g ≠ b := fun e => hib (by simp [Value.ownBlock, e])
  have x59 := fun W => idx59 g I.length cap i hil W
  clear hN hP hy hI m0 m1 m2 mf hib
  go_enter Try.func58, Try.ntmps58
  go_wp2_with fail
  have hb0 : Below w.heap.size w (w.alloc (.cells #[.string x.v, .int .u64 x.r] 64)) := (Below.refl _ _).alloc (Nat.le_refl _) _
  refine (find_any (HN.out.of_block (hb0.block _ hbl)) I (HI.out.of_block (fun k hk => hb0.block k (HI.out.blk k hk))) hs hn x.k).mono ?_
  rintro e w1 ⟨i', found, rfl, hp1, hb1⟩
  obtain ⟨rfl, rfl⟩ := HP.out.uniq hp1
  have hs1 := hb1.size
  simp only [World.size_alloc] at hs1
  have hbb : Below w.heap.size w w1 := hb0.trans (hb1.mono (by simp))
  have HB : Hid (Below w.heap.size w w1) := hbb
  have e0 : w1.heap[w.heap.size]? = some (.cells #[.string x.v, .int .u64 x.r] 64) := (hb1.block _ (by simp)).trans (heap_alloc_new _ _)
  have e1 : w1.cell? ⟨w.heap.size, 0, none⟩ = some (.string x.v) := by simp [World.cell?, e0]
  have e2 : w1.cell? ⟨w.heap.size, 1, none⟩ = some (.int .u64 x.r) := by simp [World.cell?, e0]
  have hN1 := HN.out.of_block (hbb.block _ hbl)
  have n1 := hN1.c1
  have n3 := hN1.c3
  have nf3 := hN1.free 3
  obtain ⟨g', cap', hv', m0, m1, m2, mf, _, _⟩ := OwnI.at (HI.out.of_block (fun k hk => hbb.block k (HI.out.blk k hk))) HY.out
  injection hv' with hv1 hv2 hv3
  injection hv1 with hv1
  injection hv1 with hv1
  clear hv2
  subst hv1 hv3
  have mf1 := mf (i * 3 + 1)
  have mf2 := mf (i * 3 + 2)
  clear hb1 hbb hp1 hN1 e0 mf hb0
  go_wp2_with fail
  go_region_held3 (fun w' => w'.cell? ⟨w.heap.size, 0, none⟩ = some (.string x.v) ∧ w'.cell? ⟨b, 1, none⟩ = some (.slice (some ⟨g, 0, none⟩) I.length cap) ∧ w'.cell? ⟨g, i * 3 + 1, none⟩ = some (.string y.v)) (go_keep)
    (first | (go_at_call_of 54 x.v; refine (pieces_one _ hxv _).mono ?_; rintro e w' ⟨rfl, rfl⟩) | (go_at_call_of 54 y.v; refine (pieces_one _ hyv _).mono ?_; rintro e w' ⟨rfl, rfl⟩))
  go_wp2_with fail
  go_region
  go_wp2_with fail
  go_ret2
  refine ⟨rfl, ?_, ?_, ?_⟩
  · have h1 := (HN.out.of_block (HB.out.block _ hbl))
    exact ((h1.of_block (Below.heap_setCell _ ⟨g, i * 3 + 1, none⟩ _ _ (fun e => hgb e.symm))).of_block (Below.heap_setCell _ ⟨g, i * 3 + 2, none⟩ _ _ (fun e => hgb e.symm))).set3 p
  · have h1 := OwnI.put (HI.out.of_block (fun k hk => HB.out.block k (HI.out.blk k hk))) i x y HY.out HK.out
    exact h1.of_block (fun k hk => Below.heap_setCell _ ⟨b, 3, none⟩ _ _ (fun e => hgb (by simp [Value.ownBlock] at hk; exact hk.trans e)))
  · have k0 : Keeps (fun k => (Value.slice (some ⟨g, 0, none⟩) I.length cap).ownBlock = some k ∨ k = b) w w1 := keeps_of_below HB.out
    exact (((k0.setCell (p := ⟨g, i * 3 + 1, none⟩) (.inl (.inl rfl)) _).setCell (p := ⟨g, i * 3 + 2, none⟩) (.inl (.inl rfl)) _).setCell (p := ⟨b, 3, none⟩) (.inl (.inr rfl)) _).drew.drew
end Go.Proofs.Qxb6601392a.Bt
