import Derived.Test.Qxb6601392aPutB
namespace Go.Proofs.Qxb6601392a.Bt
open Go.RowKit

/-- what put leaves -/
def PutPost (w : World) (o B d : Nat) (c : Ch) (x : It) (e : Ending) (w' : World) : Prop :=
  ∃ c' : Ch, e = .returned (.tuple #[.int .i64 (if hasKey c.L x.key then 0 else 1), .bool (hasKey c.L x.key)]) ∧ Rep w' o B d c' ∧ c'.b = c.b ∧ c'.L = ins x c.L ∧ c.m ≤ c'.m ∧ c'.m ≤ c.m + 1 ∧ c'.fz = false ∧
    (∀ y, c'.F y → c.F y ∨ w.heap.size ≤ y) ∧ Keeps c.F w w'
abbrev putArgs (c : Ch) (x : It) (o : Nat) : Array Value := #[.pointer (some ⟨c.b, 0, none⟩), .string x.k, .agg #[.string x.v, .int .u64 x.r], .pointer (some ⟨o, 0, none⟩)]
/-- what put asks -/
structure PutPre (w : World) (o B d : Nat) (c : Ch) (x : It) : Prop where
  rep : Rep w o B d c
  hB : B ≤ w.heap.size
  ho : OwnerAt w o
  fz : c.fz = false
  sorted : Sorted c.L
  ok : ∀ y ∈ c.L, y.ok
  xok : x.ok
  len : c.L.length ≤ 1000000000
def PutOk (d : Nat) : Prop := ∀ w o B c x, PutPre w o B d c x → c.m ≤ 62 → Calls Try.prog 58 (putArgs c x o) w (PutPost w o B d c x)

theorem OwnC.put {g cap : Nat} {w : World} {bs : List Nat} (h : OwnC w (.slice (some ⟨g, 0, none⟩) bs.length cap) bs) (i nb : Nat) :
    OwnC (w.setCell ⟨g, i, none⟩ (.pointer (some ⟨nb, 0, none⟩))) (.slice (some ⟨g, 0, none⟩) bs.length cap) (bs.set i nb) := by
  have := Own.set1 h i (ptr nb)
  rw [← List.map_set] at this
  unfold OwnC
  rw [List.length_set]
  exact this

/-! ### the walk down to a child that is not full -/
set_option maxRecDepth 100000 in
set_option maxHeartbeats 2000000 in
theorem put_down_raw {w : World} {b o p gc cc : Nat} {iv : Value} {I : List It} {bs : List Nat} (hN : NodeAt w b o iv (.slice (some ⟨gc, 0, none⟩) bs.length cc) p) (hI : OwnI w iv I) (hs : Sorted I) (hn : I.length ≤ 10000) (hC : OwnC w (.slice (some ⟨gc, 0, none⟩) bs.length cc) bs) (x : It) (i : Nat) (hP : Pos I x.key i false) (kb : Nat) (hkb : bs[i]? = some kb) (hbl' : bs.length ≤ 10000)
    (M : World → World → Nat → Nat → Prop) (hmut : ∀ w1, Below w.heap.size w w1 → Calls Try.prog 37 #[.pointer (some ⟨kb, 0, none⟩), .pointer (some ⟨o, 0, none⟩)] w1 fun e w2 => ∃ kb' n, e = .returned (.pointer (some ⟨kb', 0, none⟩)) ∧ M w1 w2 kb' n)
    (hM : ∀ w1 w2 kb' n, Below w.heap.size w w1 → M w1 w2 kb' n → n ≤ 62 ∧ Keeps (fun _ => False) w1 w2 ∧ kb' ≠ gc ∧ ∃ ow A q cvk pk, NodeAt w2 kb' ow (.slice A n q) cvk pk)
    (gr : Nat) (hd : Bool) (hgr : gr ≤ 1) (hp : p ≤ 4611686018427387904) (N : World → World → World → Nat → Nat → World → Prop) (hgb : gc ≠ b)
    (hput : ∀ w1 w2 kb' n, Below w.heap.size w w1 → w.heap.size < w1.heap.size → M w1 w2 kb' n → Calls Try.prog 58 #[.pointer (some ⟨kb', 0, none⟩), .string x.k, .agg #[.string x.v, .int .u64 x.r], .pointer (some ⟨o, 0, none⟩)] (w2.setCell ⟨gc, i, none⟩ (.pointer (some ⟨kb', 0, none⟩))) fun e w4 => e = .returned (.tuple #[.int .i64 (gr : Int), .bool hd]) ∧ N w1 w2 (w2.setCell ⟨gc, i, none⟩ (.pointer (some ⟨kb', 0, none⟩))) kb' n w4)
    (hNn : ∀ w1 w2 w3 kb' n w4, N w1 w2 w3 kb' n w4 → w4.heap[b]? = w3.heap[b]?) :
    Calls Try.prog 58 #[.pointer (some ⟨b, 0, none⟩), .string x.k, .agg #[.string x.v, .int .u64 x.r], .pointer (some ⟨o, 0, none⟩)] w fun e w' => e = .returned (.tuple #[.int .i64 (gr : Int), .bool hd]) ∧ ∃ w1 w2 kb' n w4, Below w.heap.size w w1 ∧ M w1 w2 kb' n ∧ N w1 w2 (w2.setCell ⟨gc, i, none⟩ (.pointer (some ⟨kb', 0, none⟩))) kb' n w4 ∧ w' = w4.setCell ⟨b, 3, none⟩ (.int .i64 ((p + gr : Nat) : Int)) := by
  obtain ⟨A, cap, rfl, hcap, hcm⟩ := hI.form
  have HI : Hid (OwnI w (.slice A I.length cap) I) := hI
  have HC : Hid (OwnC w (.slice (some ⟨gc, 0, none⟩) bs.length cc) bs) := hC
  have HP : Hid (Pos I x.key i false) := hP
  have HN : Hid (NodeAt w b o (.slice A I.length cap) (.slice (some ⟨gc, 0, none⟩) bs.length cc) p) := hN
  have HM := hide hmut
  have HMM := hide hM
  have HPUT := hide hput
  have HNN := hide hNn
  have HKB : Hid (bs[i]? = some kb) := hkb
  have hib : i < bs.length := (List.getElem?_eq_some_iff.1 hkb).1
  have hib' : (i : Int) < (bs.length : Int) := by omega
  have hbll : (bs.length : Int) ≤ 10000 := by omega
  have hb0' : (0 : Int) < (bs.length : Int) := by omega
  have hbl := hN.lt
  have x60 := fun W => idx60 gc bs.length cc i hib W
  have hp' : (p : Int) + (gr : Int) ≤ 4611686018427387905 := by omega
  have hw : IntKind.i64.wrap ((p : Int) + (gr : Int)) = (p : Int) + (gr : Int) := by rw [IntKind.wrap_i64]; omega
  clear hN hP hI hmut hM hput hNn hkb hC
  go_enter Try.func58, Try.ntmps58
  go_wp2_with fail
  have hb0 : Below w.heap.size w (w.alloc (.cells #[.string x.v, .int .u64 x.r] 64)) := (Below.refl _ _).alloc (Nat.le_refl _) _
  refine (find_any (HN.out.of_block (hb0.block _ hbl)) I (HI.out.of_block (fun k hk => hb0.block k (HI.out.blk k hk))) hs (by omega) x.k).mono ?_
  rintro e w1 ⟨i', found, rfl, hp1, hb1⟩
  obtain ⟨rfl, rfl⟩ := HP.out.uniq hp1
  have hs1 := hb1.size
  simp only [World.size_alloc] at hs1
  have hbb : Below w.heap.size w w1 := hb0.trans (hb1.mono (by simp))
  have HB : Hid (Below w.heap.size w w1) := hbb
  have e0 : w1.heap[w.heap.size]? = some (.cells #[.string x.v, .int .u64 x.r] 64) := (hb1.block _ (by simp)).trans (heap_alloc_new _ _)
  have E0 : Hid (w1.heap[w.heap.size]? = some (.cells #[.string x.v, .int .u64 x.r] 64)) := e0
  have hN1 := HN.out.of_block (hbb.block _ hbl)
  have n2 := hN1.c2
  obtain ⟨g', cap', hv', m0, mf, _, _⟩ := OwnC.at (HC.out.of_block (fun k hk => hbb.block k (HC.out.blk k hk))) HKB.out
  injection hv' with hv1 hv2 hv3
  injection hv1 with hv1
  injection hv1 with hv1
  clear hv2
  subst hv1 hv3
  have hgcl : gc < w.heap.size := HC.out.blk gc rfl
  have HN1 : Hid (NodeAt w1 b o (.slice A I.length cap) (.slice (some ⟨gc, 0, none⟩) bs.length cc) p) := hN1
  clear hb1 hbb hp1 hN1 e0 hb0 hn hs
  go_wp2_with fail
  refine (HM.out w1 HB.out).mono ?_
  rintro e w2 ⟨kb', n, rfl, hM2⟩
  obtain ⟨h62, k2, hkg, ow, Ak, qk, cvk, pk, hK⟩ := HMM.out w1 w2 kb' n HB.out hM2
  have HM2 := hide hM2
  have hN2 := HN1.out.of_block (k2.block b HN1.out.lt (fun h => h))
  have n2' := hN2.c2
  have hs2 := k2.size
  have c2 : w2.cell? ⟨gc, i, none⟩ = some (.pointer (some ⟨kb, 0, none⟩)) := k2.cell m0 (fun h => h)
  have fr2 : w2.frozen? ⟨gc, i, none⟩ = false := by
    have := mf i
    unfold World.frozen? at this ⊢
    rw [k2.block gc (by omega) (fun h => h)]; exact this
  have kc1 := hK.c1
  have E2 : w2.heap[w.heap.size]? = some (.cells #[.string x.v, .int .u64 x.r] 64) := (k2.block _ (by omega) (fun h => h)).trans E0.out
  have e1 : w2.cell? ⟨w.heap.size, 0, none⟩ = some (.string x.v) := by simp [World.cell?, E2]
  have e2 : w2.cell? ⟨w.heap.size, 1, none⟩ = some (.int .u64 x.r) := by simp [World.cell?, E2]
  have hne63 : ((n : Int) == 63) = false := by
    rw [beq_eq_false_iff_ne]; omega
  have hngc : gc ≠ w.heap.size := by omega
  have HPW := hide (HPUT.out w1 w2 kb' n HB.out (by omega) hM2)
  have HN2 := hide hN2
  clear hM2 k2 hK m0 mf E2 n2 hN2
  go_wp2_with fail
  refine HPW.out.mono ?_
  rintro e w4 ⟨rfl, hN4⟩
  have hn4 := HN2.out.of_block ((HNN.out _ _ _ _ _ _ hN4).trans (Below.heap_setCell _ ⟨gc, i, none⟩ _ _ (fun e => hgb e.symm)))
  have c43 := hn4.c3
  have f43 := hn4.free 3
  have HN4 := hide hN4
  clear hN4 hn4
  go_wp2_with fail
  go_ret2
  exact ⟨rfl, w1, w2, kb', n, w4, HB.out, HM2.out, HN4.out, rfl⟩
end Go.Proofs.Qxb6601392a.Bt
