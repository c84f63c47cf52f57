import Derived.Test.Qxb6601392aEndB
import Derived.Test.Qxb6601392aMut
namespace Go.Proofs.Qxb6601392a.Bt
open Go.RowKit

/-- a node's three blocks -/
structure Tri (w : World) (b o p g cap gc cc : Nat) (I : List It) (bs : List Nat) : Prop where
  n : NodeAt w b o (.slice (some ⟨g, 0, none⟩) I.length cap) (.slice (some ⟨gc, 0, none⟩) bs.length cc) p
  i : OwnI w (.slice (some ⟨g, 0, none⟩) I.length cap) I
  c : OwnC w (.slice (some ⟨gc, 0, none⟩) bs.length cc) bs
  gb : g ≠ b
  gcb : gc ≠ b
  gg : g ≠ gc
theorem Tri.of {w w' : World} {b o p g cap gc cc : Nat} {I : List It} {bs : List Nat} (h : Tri w b o p g cap gc cc I bs) (hk : ∀ k, k = b ∨ k = g ∨ k = gc → w'.heap[k]? = w.heap[k]?) : Tri w' b o p g cap gc cc I bs :=
  ⟨h.n.of_block (hk b (.inl rfl)), h.i.of_block (fun k e => hk k (.inr (.inl (by simpa [Value.ownBlock] using e.symm)))), h.c.of_block (fun k e => hk k (.inr (.inr (by simpa [Value.ownBlock] using e.symm)))), h.gb, h.gcb, h.gg⟩
theorem Tri.lt {w : World} {b o p g cap gc cc : Nat} {I : List It} {bs : List Nat} (h : Tri w b o p g cap gc cc I bs) : b < w.heap.size ∧ g < w.heap.size ∧ gc < w.heap.size := ⟨h.n.lt, h.i.blk g rfl, h.c.blk gc rfl⟩
theorem Tri.keeps {w w' : World} {b o p g cap gc cc : Nat} {I : List It} {bs : List Nat} (h : Tri w b o p g cap gc cc I bs) (hk : Keeps (fun _ => False) w w') : Tri w' b o p g cap gc cc I bs := h.of (fun k e => hk.block k (by obtain ⟨h1, h2, h3⟩ := h.lt; omega) (fun h => h))
theorem OwnC.cell {w : World} {g n cap : Nat} {bs : List Nat} (h : OwnC w (.slice (some ⟨g, 0, none⟩) n cap) bs) {k b : Nat} (hx : bs[k]? = some b) : w.cell? ⟨g, k, none⟩ = some (.pointer (some ⟨b, 0, none⟩)) ∧ ∀ j, w.frozen? ⟨g, j, none⟩ = false := by
  obtain ⟨g', c', hv, h1, h2, _⟩ := h.at hx
  cases hv
  exact ⟨h1, h2⟩
theorem OwnI.cell' {w : World} {g n cap : Nat} {L : List It} (h : OwnI w (.slice (some ⟨g, 0, none⟩) n cap) L) {k : Nat} {x : It} (hx : L[k]? = some x) : w.cell? ⟨g, k * 3, none⟩ = some (.string x.k) ∧ w.cell? ⟨g, k * 3 + 1, none⟩ = some (.string x.v) ∧ w.cell? ⟨g, k * 3 + 2, none⟩ = some (.int .u64 x.r) ∧ ∀ j, w.frozen? ⟨g, j, none⟩ = false := by
  obtain ⟨g', c', hv, h1, h2, h3, h4, _⟩ := h.at hx
  cases hv
  exact ⟨h1, h2, h3, h4⟩

theorem OwnC.put' {g n cap : Nat} {w : World} {bs : List Nat} (h : OwnC w (.slice (some ⟨g, 0, none⟩) n cap) bs) (i nb : Nat) : OwnC (w.setCell ⟨g, i, none⟩ (.pointer (some ⟨nb, 0, none⟩))) (.slice (some ⟨g, 0, none⟩) n cap) (bs.set i nb) := by
  obtain ⟨A, c, hv, _, _⟩ := h.form
  cases hv
  exact h.put i nb

set_option maxRecDepth 100000 in
set_option maxHeartbeats 4000000 in
theorem grow1_raw {w : World} {b o p g cap gc cc : Nat} {I : List It} {bs : List Nat} (W : Tri w b o p g cap gc cc I bs) (i j : Nat) (hij : i = j + 1) (x : It) (hx : I[j]? = some x) (lb rb : Nat) (hlb : bs[j]? = some lb) (hrb : bs[i]? = some rb) (hn : I.length ≤ 10000) (hbn : bs.length ≤ 10000)
    (Al : Option Addr) (nl cl : Nat) (hl : w.cell? ⟨lb, 1, none⟩ = some (.slice Al nl cl)) (hnl : 31 < nl) (hnl2 : nl ≤ 1000)
    (M1 : World → Nat → Prop) (hmut1 : ∀ w1, Below w.heap.size w w1 → Calls Try.prog 37 #[.pointer (some ⟨lb, 0, none⟩), .pointer (some ⟨o, 0, none⟩)] w1 fun e w2 => ∃ lb', e = .returned (.pointer (some ⟨lb', 0, none⟩)) ∧ M1 w2 lb' ∧ Keeps (fun _ => False) w1 w2)
    (M2 : World → Nat → Nat → Prop) (hmut2 : ∀ w2 lb', M1 w2 lb' → Calls Try.prog 37 #[.pointer (some ⟨rb, 0, none⟩), .pointer (some ⟨o, 0, none⟩)] w2 fun e w3 => ∃ rb', e = .returned (.pointer (some ⟨rb', 0, none⟩)) ∧ M2 w3 lb' rb' ∧ Keeps (fun _ => False) w2 w3)
    (T : World → Nat → It → Value → Prop) (htake : ∀ w3 lb' rb' w4, M2 w3 lb' rb' → Tri w3 b o p g cap gc cc I bs → w4 = ((w3.setCell ⟨gc, j, none⟩ (.pointer (some ⟨lb', 0, none⟩))).setCell ⟨gc, i, none⟩ (.pointer (some ⟨rb', 0, none⟩))).drew → Calls Try.prog 52 #[.pointer (some ⟨lb', 0, none⟩), .bool true] w4 fun e w5 => ∃ (up : It) (kval : Value), e = .returned (.tuple #[It.val up, kval]) ∧ T w5 rb' up kval ∧ w4.heap.size ≤ w5.heap.size ∧ ∀ k, k = b ∨ k = g ∨ k = gc → w5.heap[k]? = w4.heap[k]?)
    (P : World → It → Prop) (hputE : ∀ w5 rb' up kval w6, T w5 rb' up kval → Below w5.heap.size w5 w6 → w5.heap.size < w6.heap.size → b < w5.heap.size → Calls Try.prog 53 #[.pointer (some ⟨rb', 0, none⟩), .bool false, .agg #[.string x.k, .string x.v, .int .u64 x.r], kval] w6 fun e w7 => e = .returned (.tuple #[]) ∧ P w7 up ∧ ∀ k, k = b ∨ k = g ∨ k = gc ∨ k = w5.heap.size → w7.heap[k]? = w6.heap[k]?) :
    Calls Try.prog 44 #[.pointer (some ⟨b, 0, none⟩), .int .i64 (i : Int), .pointer (some ⟨o, 0, none⟩)] w fun e w' => e = .returned (.tuple #[]) ∧ ∃ w3 lb' rb' up w7, M2 w3 lb' rb' ∧ P w7 up ∧ Tri w7 b o p g cap gc cc I ((bs.set j lb').set i rb') ∧ w' = (((w7.setCell ⟨g, j * 3, none⟩ (.string up.k)).setCell ⟨g, j * 3 + 1, none⟩ (.string up.v)).setCell ⟨g, j * 3 + 2, none⟩ (.int .u64 up.r)).drew := by
  have HW := hide' W
  have HX := hide' hx
  have HLB := hide' hlb
  have HRB := hide' hrb
  have HM1 := hide' hmut1
  have HM2 := hide' hmut2
  have HT := hide' htake
  have HP := hide' hputE
  have HIJ := hide' hij
  have hji : j ≠ i := by omega
  have hjl : j < I.length := (List.getElem?_eq_some_iff.1 hx).1
  have hjl' : (j : Int) < (I.length : Int) := by omega
  have hil : i < bs.length := (List.getElem?_eq_some_iff.1 hrb).1
  have hil' : (i : Int) < (bs.length : Int) := by omega
  have hi0 : (0 : Int) < (i : Int) := by omega
  have hn' : (I.length : Int) ≤ 10000 := by omega
  have hbn' : (bs.length : Int) ≤ 10000 := by omega
  have hnl' : (31 : Int) < (nl : Int) := by omega
  have hnl2' : (nl : Int) ≤ 1000 := by omega
  have hnd : decide ((31 : Int) < (nl : Int)) = true := decide_eq_true hnl'
  have hwj : IntKind.i64.wrap ((i : Int) - 1) = (j : Int) := by rw [IntKind.wrap_i64]; omega
  have x60i := fun W => idx60 gc bs.length cc i hil W
  have x60j := fun W => idx60 gc bs.length cc j (by omega) W
  have x59j := fun W => idx59 g I.length cap j hjl W
  have n1 := W.n.c1
  have n2 := W.n.c2
  have kj := (W.c.cell hlb).1
  have ki := (W.c.cell hrb).1
  have hgcf := (W.c.cell hrb).2
  clear W hx hlb hrb hmut1 hmut2 htake hputE hij
  go_enter Try.func44, Try.ntmps44
  go_upto_region 10 with fail
  go_region_held3 (fun w' => w'.cell? ⟨b, 2, none⟩ = some (.slice (some ⟨gc, 0, none⟩) bs.length cc) ∧ w'.cell? ⟨gc, j, none⟩ = some (.pointer (some ⟨lb, 0, none⟩)) ∧ w'.cell? ⟨gc, i, none⟩ = some (.pointer (some ⟨rb, 0, none⟩))) (first | go_keep | exact ⟨q2.cell n2 (fun h => h), q2.cell kj (fun h => h), q2.cell ki (fun h => h)⟩ | exact ⟨q3.cell (q2.cell n2 (fun h => h)) (fun h => h), q3.cell (q2.cell kj (fun h => h)) (fun h => h), q3.cell (q2.cell ki (fun h => h)) (fun h => h)⟩)
    (first
      | (go_at_call_of 37 lb; refine (HM1.out _ ?_).mono ?_; exact ⟨rfl, rfl, rfl, Nat.le_refl _, fun _ _ => rfl⟩; rintro e w2 ⟨lb', rfl, m1, q2⟩)
      | (go_at_call_of 37 rb; refine (HM2.out _ _ m1).mono ?_; rintro e w3 ⟨rb', rfl, m2, q3⟩))
  have k3 : Keeps (fun _ => False) w w3 := ((Keeps.refl _ w).drew.trans q2).trans q3
  have hW3 := HW.out.keeps k3
  have d2 := hW3.n.c2
  have dj := (hW3.c.cell HLB.out).1
  have di := (hW3.c.cell HRB.out).1
  have df := (hW3.c.cell HRB.out).2
  have HW3 := hide' hW3
  have HMM := hide' m2
  clear n1 n2 kj ki hgcf q2 q3 k3 hW3 m1 m2 hl
  go_upto_region 11 with fail
  go_cut [] (fun wd => wd = ((w3.setCell ⟨gc, j, none⟩ (.pointer (some ⟨lb', 0, none⟩))).setCell ⟨gc, i, none⟩ (.pointer (some ⟨rb', 0, none⟩))).drew)
  case first =>
    go_region
    all_goals first | (go_meet; exact rfl) | (go_wp2_with fail; go_meet; exact rfl)
  case rest =>
    have HTK := hide' (HT.out w3 lb' rb' wc HMM.out HW3.out hcut)
    have hW4 : Tri wc b o p g cap gc cc I ((bs.set j lb').set i rb') := by
      have h3 := HW3.out
      rw [hcut]
      have hc := OwnC.put' (OwnC.put' h3.c j lb') i rb'
      refine ⟨?_, ?_, ?_, h3.gb, h3.gcb, h3.gg⟩
      · rw [List.length_set, List.length_set]
        exact h3.n.of_block ((Below.heap_setCell _ ⟨gc, i, none⟩ _ _ (fun e => h3.gcb e.symm)).trans (Below.heap_setCell _ ⟨gc, j, none⟩ _ _ (fun e => h3.gcb e.symm)))
      · refine h3.i.of_block (fun k hk => ?_)
        have hk' : k ≠ gc := fun e => h3.gg (by simp [Value.ownBlock] at hk; omega)
        exact (Below.heap_setCell _ ⟨gc, i, none⟩ _ _ hk').trans (Below.heap_setCell _ ⟨gc, j, none⟩ _ _ hk')
      · rw [List.length_set, List.length_set]
        exact hc
    obtain ⟨w4, rfl⟩ : ∃ w4 : World, w4 = wc := ⟨_, rfl⟩
    have HW4 := hide' hW4
    clear hW4 hcut d2 dj di df
    go_wp2_with fail
    refine HTK.out.mono ?_
    rintro e w5 ⟨up, kval, rfl, hT5, hs5, hb5⟩
    have hW5 := HW4.out.of hb5
    obtain ⟨w6, hw6⟩ : ∃ w6, w6 = w5.alloc (.cells #[.string up.k, .string up.v, .int .u64 up.r] 75) := ⟨_, rfl⟩
    have hb6 : Below w5.heap.size w5 w6 := by rw [hw6]; exact (Below.refl _ _).alloc (Nat.le_refl _) _
    have hs6 : w5.heap.size < w6.heap.size := by rw [hw6]; simp
    have hbl5 := hW5.lt
    have hW6 := hW5.of (fun k hk => hb6.block k (by omega))
    have hbx6 : w6.heap[w5.heap.size]? = some (.cells #[.string up.k, .string up.v, .int .u64 up.r] 75) := by rw [hw6]; exact heap_alloc_new _ _
    have HPE := hide' (HP.out w5 rb' up kval w6 hT5 hb6 hs6 hbl5.1)
    have n61 := hW6.n.c1
    obtain ⟨y0, y1, y2, _⟩ := hW6.i.cell' HX.out
    have HW6 := hide' hW6
    have HBX6 := hide' hbx6
    have HWE := hide' hw6
    have HBL5 := hide' hbl5
    clear hT5 hs5 hb5 hW5 hw6 hb6 hs6 hW6 hbx6 hbl5
    unfold It.val
    go_upto_region 13 with fail
    rw [← HWE.out]
    go_wp2_with fail
    refine HPE.out.mono ?_
    rintro e w7 ⟨rfl, hP7, hk7⟩
    have hW7 := HW6.out.of (fun k hk => hk7 k (by rcases hk with e | e | e; exact .inl e; exact .inr (.inl e); exact .inr (.inr (.inl e))))
    have hbx7 := (hk7 w5.heap.size (.inr (.inr (.inr rfl)))).trans HBX6.out
    have n71 := hW7.n.c1
    obtain ⟨z0, z1, z2, zf⟩ := hW7.i.cell' HX.out
    have u0 : w7.cell? ⟨w5.heap.size, 0, none⟩ = some (.string up.k) := by simp [World.cell?, hbx7]
    have u1 : w7.cell? ⟨w5.heap.size, 1, none⟩ = some (.string up.v) := by simp [World.cell?, hbx7]
    have u2 : w7.cell? ⟨w5.heap.size, 2, none⟩ = some (.int .u64 up.r) := by simp [World.cell?, hbx7]
    have hgw : g ≠ w5.heap.size := by have := HBL5.out.2.1; omega
    have HP7 := hide' hP7
    have HW7 := hide' hW7
    clear hP7 hk7 hW7 hbx7 n61 y0 y1 y2
    go_upto_region 14 with fail
    go_region
    all_goals (try go_wp2_with fail)
    all_goals
      refine bodyPost_end (v := .tuple #[]) (by simp [results, Try.results44, go_sem]) rfl ⟨rfl, w3, lb', rb', up, w7, HMM.out, HP7.out, HW7.out, rfl⟩
end Go.Proofs.Qxb6601392a.Bt
