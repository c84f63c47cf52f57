import Derived.Test.Qxb6601392aGrowA
namespace Go.Proofs.Qxb6601392a.Bt
open Go.RowKit

set_option maxRecDepth 100000 in
set_option maxHeartbeats 4000000 in
theorem grow2_raw {w : World} {b o p g cap gc cc : Nat} {I : List It} {bs : List Nat} (W : Tri w b o p g cap gc cc I bs) (i i1 : Nat) (hij : i1 = i + 1) (x : It) (hx : I[i]? = some x) (lb rb : Nat) (hlb : bs[i]? = some lb) (hrb : bs[i1]? = some rb) (hn : I.length ≤ 10000) (hbn : bs.length ≤ 10000)
    (Al : Option Addr) (nl cl : Nat) (hl : w.cell? ⟨rb, 1, none⟩ = some (.slice Al nl cl)) (hnl : 31 < nl) (hnl2 : nl ≤ 1000) (hleft : i = 0 ∨ ∃ j zb Az nz cz, i = j + 1 ∧ bs[j]? = some zb ∧ w.cell? ⟨zb, 1, none⟩ = some (.slice Az nz cz) ∧ nz ≤ 31)
    (M1 : World → Nat → Prop) (hmut1 : ∀ w1, Below w.heap.size w w1 → Calls Try.prog 37 #[.pointer (some ⟨lb, 0, none⟩), .pointer (some ⟨o, 0, none⟩)] w1 fun e w2 => ∃ lb', e = .returned (.pointer (some ⟨lb', 0, none⟩)) ∧ M1 w2 lb' ∧ Keeps (fun _ => False) w1 w2)
    (M2 : World → Nat → Nat → Prop) (hmut2 : ∀ w2 lb', M1 w2 lb' → Calls Try.prog 37 #[.pointer (some ⟨rb, 0, none⟩), .pointer (some ⟨o, 0, none⟩)] w2 fun e w3 => ∃ rb', e = .returned (.pointer (some ⟨rb', 0, none⟩)) ∧ M2 w3 lb' rb' ∧ Keeps (fun _ => False) w2 w3)
    (T : World → Nat → It → Value → Prop) (htake : ∀ w3 lb' rb' w4, M2 w3 lb' rb' → Tri w3 b o p g cap gc cc I bs → w4 = ((w3.setCell ⟨gc, i, none⟩ (.pointer (some ⟨lb', 0, none⟩))).setCell ⟨gc, i1, none⟩ (.pointer (some ⟨rb', 0, none⟩))).drew → Calls Try.prog 52 #[.pointer (some ⟨rb', 0, none⟩), .bool false] w4 fun e w5 => ∃ (up : It) (kval : Value), e = .returned (.tuple #[It.val up, kval]) ∧ T w5 lb' up kval ∧ w4.heap.size ≤ w5.heap.size ∧ ∀ k, k = b ∨ k = g ∨ k = gc → w5.heap[k]? = w4.heap[k]?)
    (P : World → It → Prop) (hputE : ∀ w5 lb' up kval w6, T w5 lb' up kval → Below w5.heap.size w5 w6 → w5.heap.size < w6.heap.size → b < w5.heap.size → Calls Try.prog 53 #[.pointer (some ⟨lb', 0, none⟩), .bool true, .agg #[.string x.k, .string x.v, .int .u64 x.r], kval] w6 fun e w7 => e = .returned (.tuple #[]) ∧ P w7 up ∧ ∀ k, k = b ∨ k = g ∨ k = gc ∨ k = w5.heap.size → w7.heap[k]? = w6.heap[k]?) :
    Calls Try.prog 44 #[.pointer (some ⟨b, 0, none⟩), .int .i64 (i : Int), .pointer (some ⟨o, 0, none⟩)] w fun e w' => e = .returned (.tuple #[]) ∧ ∃ w3 lb' rb' up w7, M2 w3 lb' rb' ∧ P w7 up ∧ Tri w7 b o p g cap gc cc I ((bs.set i lb').set i1 rb') ∧ w' = (((w7.setCell ⟨g, i * 3, none⟩ (.string up.k)).setCell ⟨g, i * 3 + 1, none⟩ (.string up.v)).setCell ⟨g, i * 3 + 2, none⟩ (.int .u64 up.r)).drew := by
  have HW := hide' W
  have HX := hide' hx
  have HLB := hide' hlb
  have HRB := hide' hrb
  have HM1 := hide' hmut1
  have HM2 := hide' hmut2
  have HT := hide' htake
  have HP := hide' hputE
  have HIJ := hide' hij
  have HLEFT := hide' hleft
  have hii : i ≠ i1 := by omega
  have hiI : i < I.length := (List.getElem?_eq_some_iff.1 hx).1
  have hiI' : (i : Int) < (I.length : Int) := by omega
  have hib : i < bs.length := by have := (List.getElem?_eq_some_iff.1 hrb).1; omega
  have hid : decide ((i : Int) < (I.length : Int)) = true := decide_eq_true hiI'
  have hil : i1 < bs.length := (List.getElem?_eq_some_iff.1 hrb).1
  have hil' : (i1 : Int) < (bs.length : Int) := by omega
  have hn' : (I.length : Int) ≤ 10000 := by omega
  have hbn' : (bs.length : Int) ≤ 10000 := by omega
  have hnl' : (31 : Int) < (nl : Int) := by omega
  have hnl2' : (nl : Int) ≤ 1000 := by omega
  have hnd : decide ((31 : Int) < (nl : Int)) = true := decide_eq_true hnl'
  have hw1 : IntKind.i64.wrap ((i : Int) + 1) = (i1 : Int) := by rw [IntKind.wrap_i64]; omega
  have x60i := fun W => idx60 gc bs.length cc i (by omega) W
  have x60j := fun W => idx60 gc bs.length cc i1 hil W
  have x59j := fun W => idx59 g I.length cap i hiI W
  have n1 := W.n.c1
  have n2 := W.n.c2
  have kj := (W.c.cell hlb).1
  have ki := (W.c.cell hrb).1
  have hgcf := (W.c.cell hrb).2
  clear W hx hlb hrb hmut1 hmut2 htake hputE hij hleft
  go_enter Try.func44, Try.ntmps44
  go_upto_region 9 with fail
  go_cut [127] (fun t wd => t = .bool false ∧ wd = w)
  case first =>
    rcases HLEFT.out with h0 | ⟨j, zb, Az, nz, cz, h0, hzb, hz, hnz⟩
    · have h0' : decide ((0 : Int) < (i : Int)) = false := decide_eq_false (by omega)
      have h0n : (i : Int) ≤ 0 := by omega
      clear h0
      go_wp2_with fail
      go_meet
      case rel => exact ⟨rfl, rfl⟩
    · have h0' : (0 : Int) < (i : Int) := by omega
      have h0d : decide ((0 : Int) < (i : Int)) = true := decide_eq_true h0'
      have hwj : IntKind.i64.wrap ((i : Int) - 1) = (j : Int) := by rw [IntKind.wrap_i64]; omega
      have hjl : (j : Int) < (bs.length : Int) := by omega
      have x60z := fun W => idx60 gc bs.length cc j (by omega) W
      have kz := (HW.out.c.cell hzb).1
      have hnz' : (nz : Int) ≤ 31 := by omega
      have hnzd : decide ((31 : Int) < (nz : Int)) = false := decide_eq_false (by omega)
      clear h0 hzb
      go_wp2_with fail
      go_meet
      case rel => exact ⟨rfl, rfl⟩
  case rest =>
  obtain ⟨rfl, hwc⟩ := hcut
  rw [hwc]
  clear hwc wc HLEFT
  go_upto_region 16 with fail
  go_region_held3 (fun w' => w'.cell? ⟨b, 2, none⟩ = some (.slice (some ⟨gc, 0, none⟩) bs.length cc) ∧ w'.cell? ⟨gc, i, none⟩ = some (.pointer (some ⟨lb, 0, none⟩)) ∧ w'.cell? ⟨gc, i1, none⟩ = some (.pointer (some ⟨rb, 0, none⟩))) (first | go_keep | exact ⟨q2.cell n2 (fun h => h), q2.cell kj (fun h => h), q2.cell ki (fun h => h)⟩ | exact ⟨q3.cell (q2.cell n2 (fun h => h)) (fun h => h), q3.cell (q2.cell kj (fun h => h)) (fun h => h), q3.cell (q2.cell ki (fun h => h)) (fun h => h)⟩)
    (first
      | (go_at_call_of 37 lb; refine (HM1.out _ ?_).mono ?_; exact ⟨rfl, rfl, rfl, Nat.le_refl _, fun _ _ => rfl⟩; rintro e w2 ⟨lb', rfl, m1, q2⟩)
      | (go_at_call_of 37 rb; refine (HM2.out _ _ m1).mono ?_; rintro e w3 ⟨rb', rfl, m2, q3⟩))
  have k3 : Keeps (fun _ => False) w w3 := ((Keeps.refl _ w).drew.trans q2).trans q3
  have hW3 := HW.out.keeps k3
  have d2 := hW3.n.c2
  have dj := (hW3.c.cell HLB.out).1
  have di := (hW3.c.cell HRB.out).1
  have df := (hW3.c.cell HRB.out).2
  have HW3 := hide' hW3
  have HMM := hide' m2
  clear n1 n2 kj ki hgcf q2 q3 k3 hW3 m1 m2 hl
  go_upto_region 17 with fail
  go_cut [] (fun wd => wd = ((w3.setCell ⟨gc, i, none⟩ (.pointer (some ⟨lb', 0, none⟩))).setCell ⟨gc, i1, none⟩ (.pointer (some ⟨rb', 0, none⟩))).drew)
  case first =>
    go_region
    all_goals first | (go_meet; exact rfl) | (go_wp2_with fail; go_meet; exact rfl)
  case rest =>
    have HTK := hide' (HT.out w3 lb' rb' wc HMM.out HW3.out hcut)
    have hW4 : Tri wc b o p g cap gc cc I ((bs.set i lb').set i1 rb') := by
      have h3 := HW3.out
      rw [hcut]
      have hc := OwnC.put' (OwnC.put' h3.c i lb') i1 rb'
      refine ⟨?_, ?_, ?_, h3.gb, h3.gcb, h3.gg⟩
      · rw [List.length_set, List.length_set]
        exact h3.n.of_block ((Below.heap_setCell _ ⟨gc, i1, none⟩ _ _ (fun e => h3.gcb e.symm)).trans (Below.heap_setCell _ ⟨gc, i, none⟩ _ _ (fun e => h3.gcb e.symm)))
      · refine h3.i.of_block (fun k hk => ?_)
        have hk' : k ≠ gc := fun e => h3.gg (by simp [Value.ownBlock] at hk; omega)
        exact (Below.heap_setCell _ ⟨gc, i1, none⟩ _ _ hk').trans (Below.heap_setCell _ ⟨gc, i, none⟩ _ _ hk')
      · rw [List.length_set, List.length_set]
        exact hc
    obtain ⟨w4, rfl⟩ : ∃ w4 : World, w4 = wc := ⟨_, rfl⟩
    have HW4 := hide' hW4
    clear hW4 hcut d2 dj di df
    go_wp2_with fail
    refine HTK.out.mono ?_
    rintro e w5 ⟨up, kval, rfl, hT5, hs5, hb5⟩
    have hW5 := HW4.out.of hb5
    obtain ⟨w6, hw6⟩ : ∃ w6, w6 = w5.alloc (.cells #[.string up.k, .string up.v, .int .u64 up.r] 75) := ⟨_, rfl⟩
    have hb6 : Below w5.heap.size w5 w6 := by rw [hw6]; exact (Below.refl _ _).alloc (Nat.le_refl _) _
    have hs6 : w5.heap.size < w6.heap.size := by rw [hw6]; simp
    have hbl5 := hW5.lt
    have hW6 := hW5.of (fun k hk => hb6.block k (by omega))
    have hbx6 : w6.heap[w5.heap.size]? = some (.cells #[.string up.k, .string up.v, .int .u64 up.r] 75) := by rw [hw6]; exact heap_alloc_new _ _
    have HPE := hide' (HP.out w5 lb' up kval w6 hT5 hb6 hs6 hbl5.1)
    have n61 := hW6.n.c1
    obtain ⟨y0, y1, y2, _⟩ := hW6.i.cell' HX.out
    have HW6 := hide' hW6
    have HBX6 := hide' hbx6
    have HWE := hide' hw6
    have HBL5 := hide' hbl5
    clear hT5 hs5 hb5 hW5 hw6 hb6 hs6 hW6 hbx6 hbl5
    unfold It.val
    go_upto_region 19 with fail
    rw [← HWE.out]
    go_wp2_with fail
    refine HPE.out.mono ?_
    rintro e w7 ⟨rfl, hP7, hk7⟩
    have hW7 := HW6.out.of (fun k hk => hk7 k (by rcases hk with e | e | e; exact .inl e; exact .inr (.inl e); exact .inr (.inr (.inl e))))
    have hbx7 := (hk7 w5.heap.size (.inr (.inr (.inr rfl)))).trans HBX6.out
    have n71 := hW7.n.c1
    obtain ⟨z0, z1, z2, zf⟩ := hW7.i.cell' HX.out
    have u0 : w7.cell? ⟨w5.heap.size, 0, none⟩ = some (.string up.k) := by simp [World.cell?, hbx7]
    have u1 : w7.cell? ⟨w5.heap.size, 1, none⟩ = some (.string up.v) := by simp [World.cell?, hbx7]
    have u2 : w7.cell? ⟨w5.heap.size, 2, none⟩ = some (.int .u64 up.r) := by simp [World.cell?, hbx7]
    have hgw : g ≠ w5.heap.size := by have := HBL5.out.2.1; omega
    have HP7 := hide' hP7
    have HW7 := hide' hW7
    clear hP7 hk7 hW7 hbx7 n61 y0 y1 y2
    go_upto_region 20 with fail
    go_region
    all_goals (try go_wp2_with fail)
    all_goals
      refine bodyPost_end (v := .tuple #[]) (by simp [results, Try.results44, go_sem]) rfl ⟨rfl, w3, lb', rb', up, w7, HMM.out, HP7.out, HW7.out, rfl⟩
end Go.Proofs.Qxb6601392a.Bt
