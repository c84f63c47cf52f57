import Derived.Test.Qxb6601392aMut
namespace Go.Proofs.Qxb6601392a.Bt
open Go.RowKit

abbrev zItem : Obj := .cells #[.string ⟨#[]⟩, .string ⟨#[]⟩, .int .u64 0] 75

theorem Own.window {e : TypeId} {z n g cap : Nat} {w : World} {xs : List Value} (h : Own e z w (.slice (some ⟨g, 0, none⟩) n cap) n xs) (q : Nat) : ∀ j u, (xs.drop q)[j]? = some u → w.cell? ((⟨g, q, none⟩ : Addr).add j) = some u := by
  intro j u hu
  rw [List.getElem?_drop] at hu
  have := h.cells (g := g) rfl _ _ hu
  rw [Addr.add_lit] at this ⊢
  rwa [Nat.zero_add] at this
/-- the row behind a slice -/
theorem Own.row {e : TypeId} {z n g cap : Nat} {w : World} {xs : List Value} (h : Own e z w (.slice (some ⟨g, 0, none⟩) n cap) n xs) : ∃ cur : Array Value, w.heap[g]? = some (.cells cur e (0, 0)) ∧ n ≤ cap ∧ cap ≤ maxLen ∧ cur.size = cap * z ∧ cur.toList.take (n * z) = xs := by
  obtain ⟨hl, hc⟩ := h
  rcases hc with ⟨e, _⟩ | ⟨g', cap', cur, e, h0, hg, hnc, hcm, h3, h4⟩
  · cases e
  · cases e; exact ⟨cur, hg, hnc, hcm, h3, h4⟩
/-- a slice cut at its head, what lies behind it overwritten -/
theorem Own.cutTo {e : TypeId} {z n g cap k : Nat} {w' : World} {xs vs : List Value} {cur : Array Value} (hg : w'.heap[g]? = some (.cells (putAt cur.toList (k * z) vs).toArray e (0, 0))) (hs : cur.size = cap * z) (ht : cur.toList.take (n * z) = xs) (hkn : k ≤ n) (hn : n ≤ cap) (hcm : cap ≤ maxLen) (hv : k * z + vs.length ≤ cur.size) :
    Own e z w' (.slice (some ⟨g, 0, none⟩) k cap) k (xs.take (k * z)) := by
  have hle : k * z ≤ n * z := Nat.mul_le_mul_right _ hkn
  have hle2 : n * z ≤ cap * z := Nat.mul_le_mul_right _ hn
  refine ⟨?_, .inr ⟨g, cap, _, rfl, Nat.zero_le _, hg, by omega, hcm, ?_, ?_⟩⟩
  · rw [← ht, List.length_take, List.length_take, Array.length_toList, hs]; omega
  · rw [List.size_toArray, putAt_len _ _ _ (by rw [Array.length_toList]; exact hv), Array.length_toList, hs]
  · show (putAt cur.toList (k * z) vs).take (k * z) = _
    rw [putAt_take _ _ _ (by rw [Array.length_toList]; exact hv) _ (Nat.le_refl _), ← ht, List.take_take, Nat.min_eq_left hle]
theorem Own.nilNo {e : TypeId} {z : Nat} {w : World} : Own e z w (.slice none 0 0) 0 [] := ⟨by simp, .inl ⟨rfl, rfl⟩⟩

/-- a node cut in two: what the walk knows -/
structure Half (w wc : World) (b o r p q : Nat) (iv0 cv0 iv1 cv1 iv2 cv2 : Value) (I1 I2 : List It) (b1 b2 : List Nat) (mid : It) : Prop where
  n1 : NodeAt wc b o iv1 cv1 p
  n2 : NodeAt wc r o iv2 cv2 q
  i1 : OwnI wc iv1 I1
  i2 : OwnI wc iv2 I2
  c1 : OwnC wc cv1 b1
  c2 : OwnC wc cv2 b2
  ib : iv1.ownBlock = iv0.ownBlock
  cb : cv1.ownBlock = cv0.ownBlock
  bl : b < w.heap.size
  lo : ∀ x, iv0.ownBlock = some x ∨ cv0.ownBlock = some x → x < w.heap.size ∧ x ≠ b
  rn : w.heap.size + 2 ≤ r
  ni : ∀ x, iv2.ownBlock = some x → w.heap.size + 2 ≤ x ∧ x ≠ r
  nc : ∀ x, cv2.ownBlock = some x → w.heap.size + 2 ≤ x ∧ x ≠ r ∧ iv2.ownBlock ≠ some x
  res : wc.heap[w.heap.size]? = some zItem
  mid : wc.heap[w.heap.size + 1]? = some (.cells #[.string mid.k, .string mid.v, .int .u64 mid.r] 75)
  keep : Keeps (fun k => k = b ∨ iv0.ownBlock = some k ∨ cv0.ownBlock = some k) w wc

theorem heap_lt {w : World} {k : Nat} {o : Obj} (h : w.heap[k]? = some o) : k < w.heap.size := (Array.getElem?_eq_some_iff.1 h).1

/-- right's pieces counted on -/
theorem Half.step {w wc w' : World} {b o r p q q' : Nat} {iv0 cv0 iv1 cv1 iv2 cv2 : Value} {I1 I2 : List It} {b1 b2 : List Nat} {mid : It} (h : Half w wc b o r p q iv0 cv0 iv1 cv1 iv2 cv2 I1 I2 b1 b2 mid)
    (k : Keeps (fun x => x = r) wc w') (hn : NodeAt w' r o iv2 cv2 q') : Half w w' b o r p q' iv0 cv0 iv1 cv1 iv2 cv2 I1 I2 b1 b2 mid := by
  have hr := h.rn
  have hb := h.bl
  refine ⟨h.n1.of_block (k.block _ h.n1.lt (by omega)), hn, h.i1.of_block fun x hx => k.block x (h.i1.blk x hx) ?_, h.i2.of_block fun x hx => k.block x (h.i2.blk x hx) (h.ni x hx).2, h.c1.of_block fun x hx => k.block x (h.c1.blk x hx) ?_, h.c2.of_block fun x hx => k.block x (h.c2.blk x hx) (h.nc x hx).2.1,
    h.ib, h.cb, h.bl, h.lo, h.rn, h.ni, h.nc, (k.block _ (heap_lt h.res) (by omega)).trans h.res, (k.block _ (heap_lt h.mid) (by omega)).trans h.mid, h.keep.andThen k (fun i hi e => by omega)⟩
  · have := h.lo x (.inl (h.ib.symm.trans hx)); omega
  · have := h.lo x (.inr (h.cb.symm.trans hx)); omega
/-- left's pieces counted down -/
theorem Half.stepL {w wc w' : World} {b o r p q p' : Nat} {iv0 cv0 iv1 cv1 iv2 cv2 : Value} {I1 I2 : List It} {b1 b2 : List Nat} {mid : It} (h : Half w wc b o r p q iv0 cv0 iv1 cv1 iv2 cv2 I1 I2 b1 b2 mid)
    (k : Keeps (fun x => x = b) wc w') (hn : NodeAt w' b o iv1 cv1 p') : Half w w' b o r p' q iv0 cv0 iv1 cv1 iv2 cv2 I1 I2 b1 b2 mid := by
  have hr := h.rn
  have hb := h.bl
  refine ⟨hn, h.n2.of_block (k.block _ h.n2.lt (by omega)), h.i1.of_block fun x hx => k.block x (h.i1.blk x hx) ?_, h.i2.of_block fun x hx => k.block x (h.i2.blk x hx) ?_, h.c1.of_block fun x hx => k.block x (h.c1.blk x hx) ?_, h.c2.of_block fun x hx => k.block x (h.c2.blk x hx) ?_,
    h.ib, h.cb, h.bl, h.lo, h.rn, h.ni, h.nc, (k.block _ (heap_lt h.res) (by omega)).trans h.res, (k.block _ (heap_lt h.mid) (by omega)).trans h.mid, h.keep.andThen k (fun i hi e => .inl e)⟩
  · have := h.lo x (.inl (h.ib.symm.trans hx)); omega
  · have := h.ni x hx; omega
  · have := h.lo x (.inr (h.cb.symm.trans hx)); omega
  · have := h.nc x hx; omega

theorem Half.more {w wc : World} {b o r p q : Nat} {iv0 cv0 iv1 cv1 iv2 cv2 : Value} {I1 I2 : List It} {b1 b2 : List Nat} {mid : It} (h : Half w wc b o r p q iv0 cv0 iv1 cv1 iv2 cv2 I1 I2 b1 b2 mid)
    (q' : Nat) (v : Int) (hv : v = (q' : Int)) (ob : Obj) : Half w ((wc.setCell ⟨r, 3, none⟩ (.int .i64 v)).alloc ob).drew b o r p q' iv0 cv0 iv1 cv1 iv2 cv2 I1 I2 b1 b2 mid := by
  subst hv
  have k : Keeps (fun x => x = r) wc (wc.setCell ⟨r, 3, none⟩ (.int .i64 (q' : Int))) := Keeps.setCell (S := fun x => x = r) (Keeps.refl _ wc) (.inl rfl) _
  have hn := h.n2.set3 q'
  exact h.step (k.alloc ob).drew (hn.of_block (Below.heap_alloc _ _ _ hn.lt))
theorem Half.more0 {w wc : World} {b o r p q : Nat} {iv0 cv0 iv1 cv1 iv2 cv2 : Value} {I1 I2 : List It} {b1 b2 : List Nat} {mid : It} (h : Half w wc b o r p q iv0 cv0 iv1 cv1 iv2 cv2 I1 I2 b1 b2 mid)
    (q' : Nat) (v : Int) (hv : v = (q' : Int)) : Half w (wc.setCell ⟨r, 3, none⟩ (.int .i64 v)).drew b o r p q' iv0 cv0 iv1 cv1 iv2 cv2 I1 I2 b1 b2 mid := by
  subst hv
  have k : Keeps (fun x => x = r) wc (wc.setCell ⟨r, 3, none⟩ (.int .i64 (q' : Int))) := Keeps.setCell (S := fun x => x = r) (Keeps.refl _ wc) (.inl rfl) _
  exact h.step k.drew (h.n2.set3 q')
theorem Half.less {w wc : World} {b o r p q : Nat} {iv0 cv0 iv1 cv1 iv2 cv2 : Value} {I1 I2 : List It} {b1 b2 : List Nat} {mid : It} (h : Half w wc b o r p q iv0 cv0 iv1 cv1 iv2 cv2 I1 I2 b1 b2 mid)
    (p' : Nat) (v : Int) (hv : v = (p' : Int)) : Half w (wc.setCell ⟨b, 3, none⟩ (.int .i64 v)) b o r p' q iv0 cv0 iv1 cv1 iv2 cv2 I1 I2 b1 b2 mid := by
  subst hv
  have k : Keeps (fun x => x = b) wc (wc.setCell ⟨b, 3, none⟩ (.int .i64 (p' : Int))) := Keeps.setCell (S := fun x => x = b) (Keeps.refl _ wc) (.inl rfl) _
  exact h.stepL k (h.n1.set3 p')

/-- the node and its right half, when split has come back -/
structure Two (w wc : World) (b o r p q : Nat) (iv0 cv0 iv1 cv1 iv2 cv2 : Value) (I1 I2 : List It) (b1 b2 : List Nat) : Prop where
  n1 : NodeAt wc b o iv1 cv1 p
  n2 : NodeAt wc r o iv2 cv2 q
  i1 : OwnI wc iv1 I1
  i2 : OwnI wc iv2 I2
  c1 : OwnC wc cv1 b1
  c2 : OwnC wc cv2 b2
  ib : iv1.ownBlock = iv0.ownBlock
  cb : cv1.ownBlock = cv0.ownBlock
  rn : w.heap.size ≤ r
  ni : ∀ x, iv2.ownBlock = some x → w.heap.size ≤ x ∧ x ≠ r
  nc : ∀ x, cv2.ownBlock = some x → w.heap.size ≤ x ∧ x ≠ r ∧ iv2.ownBlock ≠ some x
  keep : Keeps (fun k => k = b ∨ iv0.ownBlock = some k ∨ cv0.ownBlock = some k) w wc
theorem Half.two {w wc w' : World} {b o r p q : Nat} {iv0 cv0 iv1 cv1 iv2 cv2 : Value} {I1 I2 : List It} {b1 b2 : List Nat} {mid : It} (h : Half w wc b o r p q iv0 cv0 iv1 cv1 iv2 cv2 I1 I2 b1 b2 mid)
    (k : Keeps (fun x => x = w.heap.size) wc w') : Two w w' b o r p q iv0 cv0 iv1 cv1 iv2 cv2 I1 I2 b1 b2 := by
  have hr := h.rn
  have hb := h.bl
  refine ⟨h.n1.of_block (k.block _ h.n1.lt (by omega)), h.n2.of_block (k.block _ h.n2.lt (by omega)), h.i1.of_block fun x hx => k.block x (h.i1.blk x hx) ?_, h.i2.of_block fun x hx => k.block x (h.i2.blk x hx) ?_, h.c1.of_block fun x hx => k.block x (h.c1.blk x hx) ?_, h.c2.of_block fun x hx => k.block x (h.c2.blk x hx) ?_,
    h.ib, h.cb, by omega, fun x hx => ⟨by have := (h.ni x hx).1; omega, (h.ni x hx).2⟩, fun x hx => ⟨by have := (h.nc x hx).1; omega, (h.nc x hx).2⟩, h.keep.andThen k (fun i hi e => by omega)⟩
  · have := h.lo x (.inl (h.ib.symm.trans hx)); omega
  · have := h.ni x hx; omega
  · have := h.lo x (.inr (h.cb.symm.trans hx)); omega
  · have := h.nc x hx; omega

theorem half_first {w w1 : World} {b o p g cap : Nat} {I : List It} {bs : List Nat} {cv iv2 : Value} {mid : It} {cur : Array Value} {vs : List Value} (hN : NodeAt w b o (.slice (some ⟨g, 0, none⟩) 63 cap) cv p) (hI : Own 75 3 w (.slice (some ⟨g, 0, none⟩) 63 cap) 63 (icells I)) (hC : OwnC w cv bs) (h63 : I.length = 63)
    (hgb : g ≠ b) (hcb : cv.ownBlock ≠ some b) (hcg : cv.ownBlock ≠ some g) (k1 : Keeps (fun _ => False) ((w.alloc zItem).alloc (.cells #[.string mid.k, .string mid.v, .int .u64 mid.r] 75)) w1) (hI2 : Own 75 3 w1 iv2 31 (icells (I.drop 32))) (hb2 : ∀ k, iv2.ownBlock = some k → w.heap.size + 2 ≤ k)
    (hg : w.heap[g]? = some (.cells cur 75 (0, 0))) (hs : cur.size = cap * 3) (ht : cur.toList.take (63 * 3) = icells I) (hv : vs.length = 96) :
    NodeAt ((w1.alloc (.cells #[.pointer (some ⟨o, 0, none⟩), iv2, .slice none 0 0, .int .i64 0] 62)).setRow g (putAt cur.toList 93 vs).toArray) b o (.slice (some ⟨g, 0, none⟩) 63 cap) cv p ∧
    Half w (((w1.alloc (.cells #[.pointer (some ⟨o, 0, none⟩), iv2, .slice none 0 0, .int .i64 0] 62)).setRow g (putAt cur.toList 93 vs).toArray).setCell ⟨b, 1, none⟩ (.slice (some ⟨g, 0, none⟩) 31 cap)) b o w1.heap.size p 0 (.slice (some ⟨g, 0, none⟩) 63 cap) cv (.slice (some ⟨g, 0, none⟩) 31 cap) cv iv2 (.slice none 0 0) (I.take 31) (I.drop 32) bs [] mid := by
  have hbl := hN.lt
  have hgl := heap_lt hg
  have hs1 : w.heap.size + 2 ≤ w1.heap.size := by have := k1.size; simp only [World.size_alloc] at this; exact this
  have K1 : Keeps (fun _ => False) w w1 := (((Keeps.refl _ w).alloc _).alloc _).trans k1
  obtain ⟨_, _, hcap, hcm, _, _⟩ := hI.row
  generalize hw2 : (w1.alloc (.cells #[.pointer (some ⟨o, 0, none⟩), iv2, .slice none 0 0, .int .i64 0] 62)).setRow g (putAt cur.toList 93 vs).toArray = w2
  have k2 : Keeps (fun k => k = g) w1 w2 := by rw [← hw2]; exact ((Keeps.refl _ w1).alloc _).trans (keeps_setRow _ _ _)
  have hn2 : NodeAt w2 b o (.slice (some ⟨g, 0, none⟩) 63 cap) cv p := (hN.of_block (K1.block b hbl (fun h => h))).of_block (k2.block b (by omega) (fun e => hgb e.symm))
  have hr2 : NodeAt w2 w1.heap.size o iv2 (.slice none 0 0) 0 := by
    rw [← hw2]
    exact (nodeAt_new w1 o _ _ 0).of_block (setRow_other _ _ _ _ (by omega))
  have hg2 : w2.heap[g]? = some (.cells (putAt cur.toList 93 vs).toArray 75 (0, 0)) := by
    rw [← hw2]
    exact setRow_heap _ g cur _ 75 _ ((Below.heap_alloc _ _ _ (by omega)).trans ((K1.block g hgl (fun h => h)).trans hg))
  have k3 : Keeps (fun k => k = b) w2 (w2.setCell ⟨b, 1, none⟩ (.slice (some ⟨g, 0, none⟩) 31 cap)) := Keeps.setCell (S := fun k => k = b) (Keeps.refl _ w2) (.inl rfl) _
  have hs2 := k2.size
  have e2 : ∀ x, x < w1.heap.size → x ≠ g → x ≠ b → (w2.setCell ⟨b, 1, none⟩ (.slice (some ⟨g, 0, none⟩) 31 cap)).heap[x]? = w1.heap[x]? := fun x hx h1 h2 => (k3.block x (by omega) h2).trans (k2.block x hx h1)
  have hI1 : Own 75 3 w2 (.slice (some ⟨g, 0, none⟩) 31 cap) 31 (icells I |>.take (31 * 3)) := Own.cutTo hg2 hs ht (by omega) hcap hcm (by rw [hs, hv]; omega)
  rw [icells_take] at hI1
  have l1 : (I.take 31).length = 31 := by rw [List.length_take, h63]; rfl
  have l2 : (I.drop 32).length = 31 := by rw [List.length_drop, h63]
  have r0 : ((w.alloc zItem).alloc (.cells #[.string mid.k, .string mid.v, .int .u64 mid.r] 75)).heap[w.heap.size]? = some zItem := heap_alloc2_old _ _ _
  have r1 : ((w.alloc zItem).alloc (.cells #[.string mid.k, .string mid.v, .int .u64 mid.r] 75)).heap[w.heap.size + 1]? = some (.cells #[.string mid.k, .string mid.v, .int .u64 mid.r] 75) := heap_alloc2_new _ _ _
  refine ⟨hn2, hn2.set1 _, hr2.of_block (k3.block _ hr2.lt (by omega)), ?_, ?_, ?_, Own.nilNo, rfl, rfl, hbl, fun x hx => ?_, by omega, fun x hx => ⟨hb2 x hx, ?_⟩, fun x hx => (by cases hx), ?_, ?_, ?_⟩
  · unfold OwnI
    rw [l1]
    exact hI1.of_block fun x hx => k3.block x (hI1.blk x hx) (fun e => hgb (by simp [Value.ownBlock] at hx; omega))
  · unfold OwnI
    rw [l2]
    refine hI2.of_block fun x hx => e2 x (hI2.blk x hx) ?_ ?_ <;> have := hb2 x hx <;> omega
  · refine hC.of_block fun x hx => ?_
    have hx1 := hC.blk x hx
    exact (e2 x (by omega) (fun e => hcg (e ▸ hx)) (fun e => hcb (e ▸ hx))).trans (K1.block x hx1 (fun h => h))
  · rcases hx with hx | hx
    · simp [Value.ownBlock] at hx; omega
    · exact ⟨hC.blk x hx, fun e => hcb (e ▸ hx)⟩
  · have := hI2.blk x hx; omega
  · exact (e2 _ (by omega) (by omega) (by omega)).trans ((k1.block _ (by simp; omega) (fun h => h)).trans r0)
  · exact (e2 _ (by omega) (by omega) (by omega)).trans ((k1.block _ (by simp) (fun h => h)).trans r1)
  · exact (K1.andThen (S := fun _ => False) (S' := fun _ => False) (Keeps.refl _ w1) (fun _ _ h => h)).mono (fun _ _ h => h.elim) |>.andThen k2 (fun i _ e => .inr (.inl (by simp [Value.ownBlock, e]))) |>.andThen k3 (fun i _ e => .inl e)
/-- the children cut in two -/
theorem half_kids {w w3 w4 : World} {b o r p gc cc : Nat} {iv0 iv1 iv2 cv2 : Value} {I1 I2 : List It} {bs : List Nat} {mid : It} {cur : Array Value} {vs : List Value} (h : Half w w3 b o r p 0 iv0 (.slice (some ⟨gc, 0, none⟩) 64 cc) iv1 (.slice (some ⟨gc, 0, none⟩) 64 cc) iv2 (.slice none 0 0) I1 I2 bs [] mid)
    (h64 : bs.length = 64) (hdis : iv0.ownBlock ≠ some gc) (k4 : Keeps (fun _ => False) w3 w4) (hC2 : Own 28 1 w4 cv2 32 ((bs.drop 32).map ptr)) (hb2 : ∀ k, cv2.ownBlock = some k → w3.heap.size ≤ k)
    (hg : w3.heap[gc]? = some (.cells cur 28 (0, 0))) (hs : cur.size = cc * 1) (ht : cur.toList.take (64 * 1) = bs.map ptr) (hv : vs.length = 32) (hcap : 64 ≤ cc) (hcm : cc ≤ maxLen) :
    Half w (((w4.setCell ⟨r, 2, none⟩ cv2).setRow gc (putAt cur.toList 32 vs).toArray).setCell ⟨b, 2, none⟩ (.slice (some ⟨gc, 0, none⟩) 32 cc)) b o r p 0 iv0 (.slice (some ⟨gc, 0, none⟩) 64 cc) iv1 (.slice (some ⟨gc, 0, none⟩) 32 cc) iv2 cv2 I1 I2 (bs.take 32) (bs.drop 32) mid := by
  have hbl := h.bl
  have hr := h.rn
  have hgl := h.lo gc (.inr rfl)
  have hs3 := h.keep.size
  have hs4 := k4.size
  have hrl := h.n2.lt
  have hbl3 := h.n1.lt
  generalize hw5 : w4.setCell ⟨r, 2, none⟩ cv2 = w5
  have k5 : Keeps (fun k => k = r) w4 w5 := by rw [← hw5]; exact Keeps.setCell (S := fun k => k = r) (Keeps.refl _ w4) (.inl rfl) _
  have hr5 : NodeAt w5 r o iv2 cv2 0 := by rw [← hw5]; exact (h.n2.of_block (k4.block r hrl (fun h => h))).set2 _
  have hs5 := k5.size
  generalize hw6 : w5.setRow gc (putAt cur.toList 32 vs).toArray = w6
  have k6 : Keeps (fun k => k = gc) w5 w6 := by rw [← hw6]; exact keeps_setRow _ _ _
  have hs6 := k6.size
  have hg6 : w6.heap[gc]? = some (.cells (putAt cur.toList 32 vs).toArray 28 (0, 0)) := by
    rw [← hw6]
    exact setRow_heap _ gc cur _ 28 _ ((k5.block gc (by omega) (by omega)).trans ((k4.block gc (by omega) (fun h => h)).trans hg))
  have k7 : Keeps (fun k => k = b) w6 (w6.setCell ⟨b, 2, none⟩ (.slice (some ⟨gc, 0, none⟩) 32 cc)) := Keeps.setCell (S := fun k => k = b) (Keeps.refl _ w6) (.inl rfl) _
  have e7 : ∀ x, x < w4.heap.size → x ≠ r → x ≠ gc → x ≠ b → (w6.setCell ⟨b, 2, none⟩ (.slice (some ⟨gc, 0, none⟩) 32 cc)).heap[x]? = w4.heap[x]? := fun x hx h1 h2 h3 => (k7.block x (by omega) h3).trans ((k6.block x (by omega) h2).trans (k5.block x hx h1))
  have e3 : ∀ x, x < w3.heap.size → x ≠ r → x ≠ gc → x ≠ b → (w6.setCell ⟨b, 2, none⟩ (.slice (some ⟨gc, 0, none⟩) 32 cc)).heap[x]? = w3.heap[x]? := fun x hx h1 h2 h3 => (e7 x (by omega) h1 h2 h3).trans (k4.block x hx (fun h => h))
  have hb6 : NodeAt w6 b o iv1 (.slice (some ⟨gc, 0, none⟩) 64 cc) p := (((h.n1.of_block (k4.block b hbl3 (fun h => h))).of_block (k5.block b (by omega) (by omega))).of_block (k6.block b (by omega) (by omega)))
  have hC1 : Own 28 1 w6 (.slice (some ⟨gc, 0, none⟩) 32 cc) 32 ((bs.map ptr).take (32 * 1)) := Own.cutTo hg6 hs ht (by omega) hcap hcm (by rw [hs, hv]; omega)
  rw [Nat.mul_one, ← List.map_take] at hC1
  have l1 : (bs.take 32).length = 32 := by rw [List.length_take, h64]; rfl
  have l2 : (bs.drop 32).length = 32 := by rw [List.length_drop, h64]
  refine ⟨hb6.set2 _, ?_, ?_, ?_, ?_, ?_, h.ib, rfl, h.bl, h.lo, h.rn, h.ni, fun x hx => ?_, ?_, ?_, ?_⟩
  · exact (hr5.of_block (k6.block r hr5.lt (by omega))).of_block (k7.block r (by omega) (by omega))
  · refine h.i1.of_block fun x hx => e3 x (h.i1.blk x hx) ?_ ?_ ?_
    · have := h.lo x (.inl (h.ib.symm.trans hx)); omega
    · intro e; subst e; exact hdis (h.ib.symm.trans hx)
    · have := h.lo x (.inl (h.ib.symm.trans hx)); omega
  · refine h.i2.of_block fun x hx => e3 x (h.i2.blk x hx) ?_ ?_ ?_ <;> have := h.ni x hx <;> omega
  · unfold OwnC
    rw [l1]
    exact hC1.of_block fun x hx => k7.block x (hC1.blk x hx) (by simp [Value.ownBlock] at hx; omega)
  · unfold OwnC
    rw [l2]
    refine hC2.of_block fun x hx => e7 x (hC2.blk x hx) ?_ ?_ ?_ <;> have := hb2 x hx <;> omega
  · have := hb2 x hx
    exact ⟨by have := heap_lt h.mid; omega, by omega, fun hx' => by have := h.i2.blk x hx'; omega⟩
  · exact (e3 _ (heap_lt h.res) (by omega) (by omega) (by omega)).trans h.res
  · exact (e3 _ (heap_lt h.mid) (by omega) (by omega) (by omega)).trans h.mid
  · exact (((h.keep.andThen k4 (fun _ _ h => h.elim)).andThen k5 (fun i hi e => by omega)).andThen k6 (fun i _ e => .inr (.inr (by simp [Value.ownBlock, e])))).andThen k7 (fun i _ e => .inl e)
end Go.Proofs.Qxb6601392a.Bt
