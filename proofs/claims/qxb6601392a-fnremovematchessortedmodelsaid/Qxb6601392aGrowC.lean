import Derived.Test.Qxb6601392aGrowA
import Derived.Test.Qxb6601392aOpsB
namespace Go.Proofs.Qxb6601392a.Bt
open Go.RowKit

theorem addr0 (g j : Nat) : (⟨g, 0, none⟩ : Addr).add j = ⟨g, j, none⟩ := by unfold Addr.add; split <;> simp_all
theorem append_zero (A A' : Option Addr) (n cap cap' : Nat) (h : n ≤ cap) (ty : TypeId) (W : World) : (Builtin.append_ #[60, 60] ty #[.slice A n cap, .slice A' 0 cap']).run Try.prog W = .ok (.slice A n cap) W := by
  cases A <;> cases A' <;> simp [Builtin.append_, run_underlying T60.ht, T60.hs, Builtin.lenOf, Builtin.firstCells, h, loadCells, loadCellsFrom, storeCells]

/-- left's items, the item between, right's items -/
theorem merge_items {w0 w : World} {b o p : Nat} {iv0 cv0 : Value} {A : Option Addr} {n cap : Nat} {cv : Value} {I : List It} {bs : List Nat} (W : Way w0 w b o iv0 cv0 (.slice A n cap) cv p I bs) (x : It) (gr nr cr : Nat) (Ir : List It) (hr : OwnI w (.slice (some ⟨gr, 0, none⟩) nr cr) Ir) (hgr : (Value.slice A n cap).ownBlock ≠ some gr) (hn : I.length + Ir.length ≤ 10000) :
    ∃ A1 n1 c1 wA A2 n2 c2 wB, (Builtin.append_ #[59, 59] 59 #[.slice A n cap, .slice (some ⟨w.heap.size, 0, none⟩) 1 1]).run Try.prog (w.alloc (.cells #[.string x.k, .string x.v, .int .u64 x.r] 75)).drew = .ok (.slice A1 n1 c1) wA ∧
      (Builtin.append_ #[59, 59] 59 #[.slice A1 n1 c1, .slice (some ⟨gr, 0, none⟩) nr cr]).run Try.prog wA = .ok (.slice A2 n2 c2) wB ∧ Keeps (fun k => (Value.slice A n cap).ownBlock = some k) w wA ∧
      Keeps (fun k => (Value.slice A n cap).ownBlock = some k) w wB ∧ NodeAt wB b o (.slice A n cap) cv p ∧ NodeAt wA b o (.slice A n cap) cv p ∧ Way w0 (wB.setCell ⟨b, 1, none⟩ (.slice A2 n2 c2)) b o iv0 cv0 (.slice A2 n2 c2) cv p (I ++ x :: Ir) bs := by
  obtain ⟨A', c', hv, _, _⟩ := W.i.form
  cases hv
  obtain ⟨A', c'', hv, _, _⟩ := hr.form
  cases hv
  have hx1 : ∀ u ∈ x.cells, u.oneCell' = true := by have := icells_one [x]; simpa [icells] using this
  obtain ⟨v1, wA, hA1, rA, kA, bA⟩ := append_own T59 (w.alloc (.cells #[.string x.k, .string x.v, .int .u64 x.r] 75)).drew (W.i.of_block (fun k hk => Below.heap_alloc _ _ _ (W.i.blk k hk))) ⟨w.heap.size, 0, none⟩ 1 1 x.cells rfl (fun j u hu => by
    rcases j with _ | _ | _ | j
    · simp [It.cells] at hu; subst hu; exact cell_new _ _ _ 0
    · simp [It.cells] at hu; subst hu; exact cell_new _ _ _ 1
    · simp [It.cells] at hu; subst hu; exact cell_new _ _ _ 2
    · simp [It.cells] at hu) hx1 (by omega) 59
  obtain ⟨A1, c1, rfl, _, _⟩ := rA.form
  have kA' : Keeps (fun k => (Value.slice A I.length cap).ownBlock = some k) w wA := ((Keeps.refl _ w).alloc _).drew.trans kA
  have hbl := W.n.lt
  have hib : (Value.slice A I.length cap).ownBlock ≠ some b := fun e => (W.ib b e).2 rfl
  have hNA := W.n.of_block (kA'.block b hbl hib)
  have hrA : OwnI wA (.slice (some ⟨gr, 0, none⟩) Ir.length cr) Ir := hr.of_block (fun k hk => kA'.block k (hr.blk k hk) (fun e => hgr (by simp [Value.ownBlock] at hk; rw [e, hk])))
  have ho1 : ∀ k, (Value.slice A1 (I.length + 1) c1).ownBlock = some k → (Value.slice A I.length cap).ownBlock = some k ∨ w.heap.size < k + 1 := fun k hk => by
    rcases bA with e | e
    · exact .inl (e ▸ hk)
    · rw [hk] at e; injection e with e
      have e' : k = (w.alloc (.cells #[.string x.k, .string x.v, .int .u64 x.r] 75)).heap.size := e
      rw [World.size_alloc] at e'
      exact .inr (by omega)
  have rA' : OwnI wA (.slice A1 (I.length + 1) c1) (I ++ [x]) := by
    unfold OwnI; rw [icells_append, List.length_append]
    have : icells [x] = x.cells := by simp [icells]
    rw [this]; exact rA
  obtain ⟨v2, wB, hA2, rB, kB, bB⟩ := append_own T59 wA rA ⟨gr, 0, none⟩ Ir.length cr (icells Ir) (icells_len Ir) (fun j u hu => by
    rw [addr0]
    exact hrA.raw.1 j u hu) (icells_one Ir) (by omega) 59
  obtain ⟨A2, c2, rfl, _, _⟩ := rB.form
  have kB' : Keeps (fun k => (Value.slice A I.length cap).ownBlock = some k) w wB := kA'.andThen kB (fun k hk e => by
    rcases ho1 k e with h | h
    · exact h
    · omega)
  have hNB := W.n.of_block (kB'.block b hbl hib)
  refine ⟨A1, I.length + 1, c1, wA, A2, _, c2, wB, hA1, hA2, kA', kB', hNB, hNA, W.items kB' ?_ hNB (fun k hk => ?_)⟩
  · unfold OwnI
    have e1 : icells (I ++ x :: Ir) = icells I ++ x.cells ++ icells Ir := by rw [icells_append, icells_cons, List.append_assoc]
    have e2 : (I ++ x :: Ir).length = I.length + 1 + Ir.length := by simp; omega
    rw [e1, e2]; exact rB
  · have hsA := kA'.size
    rcases bB with e | e
    · rcases ho1 k (e ▸ hk) with h | h
      · exact .inl h
      · exact .inr (by omega)
    · rw [hk] at e; injection e with e; exact .inr (by omega)

/-- left's children, right's children -/
theorem merge_kids {w0 w : World} {b o p : Nat} {iv0 cv0 iv : Value} {A : Option Addr} {n cap : Nat} {I : List It} {bs : List Nat} (W : Way w0 w b o iv0 cv0 iv (.slice A n cap) p I bs) (Ar : Option Addr) (nr cr : Nat) (bsr : List Nat) (hr : OwnC w (.slice Ar nr cr) bsr) (hgr : ∀ k, (Value.slice Ar nr cr).ownBlock = some k → (Value.slice A n cap).ownBlock ≠ some k) (hn : bs.length + bsr.length ≤ 10000) :
    ∃ A2 n2 c2 wB, (Builtin.append_ #[60, 60] 60 #[.slice A n cap, .slice Ar nr cr]).run Try.prog w.drew = .ok (.slice A2 n2 c2) wB ∧ Keeps (fun k => (Value.slice A n cap).ownBlock = some k) w wB ∧ NodeAt wB b o iv (.slice A n cap) p ∧ Way w0 (wB.setCell ⟨b, 2, none⟩ (.slice A2 n2 c2)) b o iv0 cv0 iv (.slice A2 n2 c2) p I (bs ++ bsr) := by
  obtain ⟨A', c', hv, hnc, _⟩ := W.c.form
  cases hv
  obtain ⟨A', c'', hv, _, _⟩ := hr.form
  cases hv
  have hbl := W.n.lt
  have hib : (Value.slice A bs.length cap).ownBlock ≠ some b := fun e => (W.cb b e).2 rfl
  cases bsr with
  | nil =>
    have k0 : Keeps (fun k => (Value.slice A bs.length cap).ownBlock = some k) w w.drew := (Keeps.refl _ w).drew
    refine ⟨A, bs.length, cap, w.drew, append_zero A Ar bs.length cap cr hnc 60 w.drew, k0, W.n.of_block rfl, ?_⟩
    rw [List.append_nil]
    exact W.kids k0 (W.c.of_block (fun _ _ => rfl)) (W.n.of_block rfl) (fun k hk => .inl hk)
  | cons r bsr =>
    obtain ⟨gr, cr', hv, _, _, _, _⟩ := hr.at (k := 0) (b := r) rfl
    cases hv
    have hrd : OwnC w.drew (.slice (some ⟨gr, 0, none⟩) (r :: bsr).length cr) (r :: bsr) := hr.of_block (fun _ _ => rfl)
    obtain ⟨v2, wB, hA2, rB, kB, bB⟩ := append_own T60 w.drew (W.c.of_block (fun _ _ => rfl)) ⟨gr, 0, none⟩ (r :: bsr).length cr ((r :: bsr).map ptr) (by simp) (fun j u hu => by
      rw [addr0]
      exact hrd.raw.1 j u hu) (ptr_one _) (by omega) 60
    obtain ⟨A2, c2, rfl, _, _⟩ := rB.form
    have kB' : Keeps (fun k => (Value.slice A bs.length cap).ownBlock = some k) w wB := (Keeps.refl _ w).drew.trans kB
    have hNB := W.n.of_block (kB'.block b hbl hib)
    refine ⟨A2, _, c2, wB, hA2, kB', hNB, W.kids kB' ?_ hNB (fun k hk => ?_)⟩
    · unfold OwnC
      rw [List.length_append, List.map_append]; exact rB
    · rcases bB with e | e
      · exact .inl (e ▸ hk)
      · rw [hk] at e; injection e with e
        have e' : k = w.heap.size := e
        exact .inr (by omega)
end Go.Proofs.Qxb6601392a.Bt
