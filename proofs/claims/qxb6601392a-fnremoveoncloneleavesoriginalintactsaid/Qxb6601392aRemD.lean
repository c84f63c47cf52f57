import Derived.Test.Qxb6601392aRemB
namespace Go.Proofs.Qxb6601392a.Bt
open Go.RowKit

set_option maxRecDepth 100000 in
set_option maxHeartbeats 4000000 in
theorem rem_grow_raw {w : World} {b o p g cap gc cc : Nat} {I : List It} {bs : List Nat} (W : Tri w b o p g cap gc cc I bs) (hs : Sorted I) (hn : I.length ≤ 10000) (hbn : bs.length ≤ 10000) (key : ByteArray) (last : Bool) (i : Nat) (f : Bool) (hE : if last then i = I.length ∧ f = false else Pos I key.data.toList i f) (kb : Nat) (hkb : bs[i]? = some kb)
    (Ak : Option Addr) (nk ck : Nat) (hk : w.cell? ⟨kb, 1, none⟩ = some (.slice Ak nk ck)) (hnk : nk ≤ 31)
    (G : World → Prop) (hgrow : ∀ w1, Below w.heap.size w w1 → w.heap.size < w1.heap.size → Calls Try.prog 44 #[.pointer (some ⟨b, 0, none⟩), .int .i64 (i : Int), .pointer (some ⟨o, 0, none⟩)] w1 fun e w2 => e = .returned (.tuple #[]) ∧ G w2 ∧ w2.heap[w.heap.size]? = w1.heap[w.heap.size]?)
    (R : World → It → Prop) (hrec : ∀ w2, G w2 → Calls Try.prog 51 #[.pointer (some ⟨b, 0, none⟩), .string key, .bool last, .pointer (some ⟨o, 0, none⟩)] w2 fun e w3 => ∃ y : It, e = .returned (It.val y) ∧ R w3 y ∧ w3.heap[w.heap.size]? = w2.heap[w.heap.size]?) :
    Calls Try.prog 51 #[.pointer (some ⟨b, 0, none⟩), .string key, .bool last, .pointer (some ⟨o, 0, none⟩)] w fun e w' => ∃ y : It, e = .returned (It.val y) ∧ ∃ w3, R w3 y ∧ Keeps (fun k => k = w.heap.size) w3 w' ∧ w'.heap.size = w3.heap.size := by
  have HW := hide' W
  have hib : i < bs.length := (List.getElem?_eq_some_iff.1 hkb).1
  have hib' : (i : Int) < (bs.length : Int) := by omega
  have hn' : (I.length : Int) ≤ 10000 := by omega
  have hbn' : (bs.length : Int) ≤ 10000 := by omega
  have hb0' : ((bs.length : Int) == 0) = false := by rw [beq_eq_false_iff_ne]; omega
  have hlt := W.lt
  have HLT := hide' hlt
  have HKB := hide' hkb
  have HE := hide' hE
  have HSS := hide' hs
  have HK := hide' hk
  have HG := hide' hgrow
  have HREC := hide' hrec
  have hnk' : (nk : Int) ≤ 31 := by omega
  have hnkd : decide ((nk : Int) ≤ 31) = true := decide_eq_true (by omega)
  have x60 := fun W => idx60 gc bs.length cc i hib W
  have hblw := hlt.1
  clear W hkb hE hs hk hgrow hrec hlt
  go_enter Try.func51, Try.ntmps51
  go_upto_block 0 with fail
  go_cut [9, 10] (fun x y wc => x = .int .i64 (i : Int) ∧ y = .bool f ∧ Below w.heap.size w wc ∧ w.heap.size < wc.heap.size ∧ wc.heap[w.heap.size]? = some (.cells #[.string ⟨#[]⟩, .string ⟨#[]⟩, .int .u64 0] 75))
  case first =>
    have hb0 : Below w.heap.size w (w.alloc (.cells #[.string ⟨#[]⟩, .string ⟨#[]⟩, .int .u64 0] 75)) := (Below.refl _ _).alloc (Nat.le_refl _) _
    have hW1 := HW.out.of (fun k hk => hb0.block k (by have := HLT.out; omega))
    cases last with
    | true =>
      have c1 := HW.out.n.c1
      have c2 := HW.out.n.c2
      obtain ⟨rfl, rfl⟩ : i = I.length ∧ f = false := by simpa using HE.out
      clear hW1 hb0
      go_wp2_with fail
      go_meet
      case rel => exact ⟨rfl, rfl, (Below.refl _ _).alloc (Nat.le_refl _) _, by simp, heap_alloc_new _ _⟩
    | false =>
      have HF := hide' (find_any hW1.n I hW1.i HSS.out (by omega) key)
      have hP : Pos I key.data.toList i f := by simpa using HE.out
      have HP := hide' hP
      clear hW1 hb0 hP
      go_wp2_with (go_at_call 59; refine HF.out.mono ?_; rintro e w1 ⟨i', f', rfl, hp1, hb1⟩; obtain ⟨rfl, rfl⟩ := HP.out.uniq hp1)
      go_meet
      case rel =>
        have hs1 := hb1.size
        rw [World.size_alloc] at hs1
        exact ⟨rfl, rfl, ((Below.refl _ _).alloc (Nat.le_refl _) _).trans (hb1.mono (by simp)), by omega, (hb1.block _ (by simp)).trans (heap_alloc_new _ _)⟩
  case rest =>
    obtain ⟨rfl, rfl, hbc, hsc, hz⟩ := hcut
    obtain ⟨w1, rfl⟩ : ∃ w1 : World, w1 = wc := ⟨_, rfl⟩
    have hW1 := HW.out.of (fun k hk => hbc.block k (by have := HLT.out; omega))
    have n2 := hW1.n.c2
    obtain ⟨k0, kf⟩ := hW1.c.cell HKB.out
    have hk1 := bcell hbc HK.out
    have HG1 := hide' (HG.out w1 hbc hsc)
    have HZ := hide' hz
    clear hW1 hbc hz hsc
    go_wp2_with fail
    refine HG1.out.mono ?_
    rintro e w2 ⟨rfl, g2, hz2⟩
    have HZ2 := hide' (hz2.trans HZ.out)
    have HR2 := hide' (HREC.out w2 g2)
    clear g2 hz2 n2 k0 kf hk1
    go_wp2_with fail
    refine HR2.out.mono ?_
    rintro e w3 ⟨y, rfl, r3, hz3⟩
    have hz3' := hz3.trans HZ2.out
    have z0 : w3.cell? ⟨w.heap.size, 0, none⟩ = some (.string ⟨#[]⟩) := by simp [World.cell?, hz3']
    have z1 : w3.cell? ⟨w.heap.size, 1, none⟩ = some (.string ⟨#[]⟩) := by simp [World.cell?, hz3']
    have z2 : w3.cell? ⟨w.heap.size, 2, none⟩ = some (.int .u64 0) := by simp [World.cell?, hz3']
    have zf : ∀ j, w3.frozen? ⟨w.heap.size, j, none⟩ = false := fun j => by simp [World.frozen?, hz3']
    have HR3 := hide' r3
    clear r3 hz3 hz3'
    unfold It.val
    go_wp2_with fail
    refine bodyPost_ret (v := .agg #[.string y.k, .string y.v, .int .u64 y.r]) ?_ rfl ⟨y, rfl, w3, HR3.out, (((Keeps.refl (fun k => k = w.heap.size) w3).setCell (p := ⟨w.heap.size, 0, none⟩) (.inl rfl) _).setCell (p := ⟨w.heap.size, 1, none⟩) (.inl rfl) _).setCell (p := ⟨w.heap.size, 2, none⟩) (.inl rfl) _, by simp⟩
    simp [results, Try.results51, go_sem, z0, z1, z2]
end Go.Proofs.Qxb6601392a.Bt
