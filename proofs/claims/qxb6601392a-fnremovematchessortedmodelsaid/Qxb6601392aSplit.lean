import Derived.Test.Qxb6601392aHalf
import Derived.Deep.RegionWith
import Derived.Deep.RegionHeld3
import Derived.Deep.DeepCutAuto
namespace Go.Proofs.Qxb6601392a.Bt
open Go.RowKit

theorem hide {p : Prop} (h : p) : Hid p := h

set_option maxRecDepth 100000 in
set_option maxHeartbeats 4000000 in
theorem split_raw (w : World) (b o p g cap : Nat) (I : List It) (bs : List Nat) (Ac : Option Addr) (cc : Nat) (hN : NodeAt w b o (.slice (some ⟨g, 0, none⟩) 63 cap) (.slice Ac bs.length cc) p) (hI : Own 75 3 w (.slice (some ⟨g, 0, none⟩) 63 cap) 63 (icells I)) (h63 : I.length = 63) (hC : OwnC w (.slice Ac bs.length cc) bs) (mid : It) (hmid : I[31]? = some mid) (hgb : g ≠ b)
    (hcb : (Value.slice Ac bs.length cc).ownBlock ≠ some b) (hcg : (Value.slice Ac bs.length cc).ownBlock ≠ some g) (hbs : bs = [] ∨ bs.length = 64)
    (P : Nat → Nat) (hP : ∀ c ∈ bs.drop 32, ∃ ow iv cv, NodeAt w c ow iv cv (P c)) (hap : ∀ c ∈ bs.drop 32, c ≠ b ∧ c ≠ g ∧ (Value.slice Ac bs.length cc).ownBlock ≠ some c) (hok : ∀ x ∈ I, x.v.size ≤ 1048576) (hp : 32 + ((bs.drop 32).map P).sum ≤ p) (hp' : p ≤ 4611686018427387904) :
    Calls Try.prog 57 #[.pointer (some ⟨b, 0, none⟩), .pointer (some ⟨o, 0, none⟩)] w fun e w' => ∃ r cv1 iv2 cv2, e = .returned (.tuple #[mid.val, ptr r]) ∧
      Two w w' b o r (p - (32 + ((bs.drop 32).map P).sum)) (31 + ((bs.drop 32).map P).sum) (.slice (some ⟨g, 0, none⟩) 63 cap) (.slice Ac bs.length cc) (.slice (some ⟨g, 0, none⟩) 31 cap) cv1 iv2 cv2 (I.take 31) (I.drop 32) (bs.take 32) (bs.drop 32) := by
  have hI' : OwnI w (.slice (some ⟨g, 0, none⟩) 63 cap) I := by unfold OwnI; rw [h63]; exact hI
  obtain ⟨g', cap', hv', m0, m1, m2, _, hcap, hcm⟩ := hI'.at hmid
  injection hv' with hv1 hv2 hv3
  injection hv1 with hv1
  injection hv1 with hv1
  subst hv1 hv3
  rw [h63] at hcap
  have HI : Hid (Own 75 3 w (.slice (some ⟨g, 0, none⟩) 63 cap) 63 (icells I)) := hI
  have H63 : Hid (I.length = 63) := h63
  have HC : Hid (OwnC w (.slice Ac bs.length cc) bs) := hC
  have HN : Hid (NodeAt w b o (.slice (some ⟨g, 0, none⟩) 63 cap) (.slice Ac bs.length cc) p) := hN
  have HX : Hid ((Value.slice Ac bs.length cc).ownBlock ≠ some b ∧ (Value.slice Ac bs.length cc).ownBlock ≠ some g) := ⟨hcb, hcg⟩
  have HBS : Hid (bs = [] ∨ bs.length = 64) := hbs
  have HP : Hid (∀ c ∈ bs.drop 32, ∃ ow iv cv, NodeAt w c ow iv cv (P c)) := hP
  have HAP : Hid (∀ c ∈ bs.drop 32, c ≠ b ∧ c ≠ g ∧ (Value.slice Ac bs.length cc).ownBlock ≠ some c) := hap
  have HOK : Hid (∀ x ∈ I, x.v.size ≤ 1048576) := hok
  have HMM : Hid (mid ∈ I) := List.mem_of_getElem? hmid
  have HPP : Hid (32 + ((bs.drop 32).map P).sum ≤ p ∧ p ≤ 4611686018427387904) := ⟨hp, hp'⟩
  have c1 := hN.c1
  have hbl := hN.lt
  have hgl : g < w.heap.size := cell_lt m0
  have hcap' : (63 : Int) ≤ (cap : Int) := by omega
  unfold maxLen at hcm
  have hcm' : (cap : Int) ≤ 9223372036854775807 := by omega
  have x1 := fun W => slice_from T59 g 63 cap 32 (by omega) W
  rw [if_neg (show ¬ cap = 32 by omega)] at x1
  clear hI' hI hv2 h63 hC hN hmid hbs hcb hcg hP hap hok hp hp'
  go_enter Try.func57, Try.ntmps57
  go_wp2_with fail
  refine (clone59_cells _ ⟨g, 96, none⟩ 31 (cap - 32) (icells (I.drop 32)) (by rw [icells_len, List.length_drop, H63.out]) (by
    intro j u hu
    rw [← icells_drop] at hu
    have := HI.out.window 96 j u hu
    rw [World.cell?_alloc_lt _ _ _ (by rw [Addr.add_lit]; simp; omega), World.cell?_alloc_lt _ _ _ (by rw [Addr.add_lit]; exact hgl)]
    exact this) (icells_one _) (by omega)).mono ?_
  rintro e w1 ⟨iv2, rfl, hI2, k1, hb2⟩
  obtain ⟨A2, cp2, rfl, _, _⟩ := hI2.form
  have K1 : Keeps (fun _ => False) w w1 := (((Keeps.refl _ w).alloc _).alloc _).trans k1
  obtain ⟨cur, hg0, _, _, hcs, hct⟩ := HI.out.row
  have hs1 := k1.size
  have hg1 : w1.heap[g]? = some (.cells cur 75 (0, 0)) := (K1.block g hgl (fun h => h)).trans hg0
  have c11 := (HN.out.of_block (K1.block b hbl (fun h => h))).c1
  have hbl1 : b < w1.heap.size := by have := K1.size; omega
  have hg2 : (w1.alloc (.cells #[.pointer (some ⟨o, 0, none⟩), .slice A2 31 cp2, .slice none 0 0, .int .i64 ((0 : Nat) : Int)] 62)).heap[g]? = some (.cells cur 75 (0, 0)) := (Below.heap_alloc _ _ _ (by have := K1.size; omega)).trans hg1
  have x2 := fun W => slice_from T59 g 63 cap 31 (by omega) W
  rw [if_neg (show ¬ cap = 31 by omega)] at x2
  have hC := fun ty => clear_run T59 (w1.alloc (.cells #[.pointer (some ⟨o, 0, none⟩), .slice A2 31 cp2, .slice none 0 0, .int .i64 ((0 : Nat) : Int)] 62)) g 93 32 (cap - 31) cur 75 hg2 (by omega) (by rw [hcs]; omega) ty
  simp only [Int.natCast_zero] at hC
  obtain ⟨hN2, H0⟩ := half_first HN.out HI.out HC.out H63.out hgb HX.out.1 HX.out.2 k1 hI2 (fun k hk => by have := hb2 k hk; simp at this; exact this) hg0 hcs hct (vs := (Builtin.zeroCells (Value.agg #[.string ⟨#[]⟩, .string ⟨#[]⟩, .int .u64 0]).cells 32).toList) (zeroCells_len _ _)
  generalize (w1.alloc (.cells #[.pointer (some ⟨o, 0, none⟩), .slice A2 31 cp2, .slice none 0 0, .int .i64 0] 62)).setRow g (putAt cur.toList 93 (Builtin.zeroCells (Value.agg #[.string ⟨#[]⟩, .string ⟨#[]⟩, .int .u64 0]).cells 32).toList).toArray = w2 at hC H0 hN2
  obtain ⟨w3, hw3⟩ : ∃ w3, w3 = w2.setCell ⟨b, 1, none⟩ (.slice (some ⟨g, 0, none⟩) 31 cap) := ⟨_, rfl⟩
  rw [← hw3] at H0
  have d1 := hN2.c1
  have f1 := hN2.free 1
  have x3 := fun W => slice_to T59 (some ⟨g, 0, none⟩) 63 cap 31 (by omega) W
  have e2 := H0.n1.c2
  rw [hw3] at e2
  have HH : Hid (Half w w3 b o w1.heap.size p 0 (.slice (some ⟨g, 0, none⟩) 63 cap) (.slice Ac bs.length cc) (.slice (some ⟨g, 0, none⟩) 31 cap) (.slice Ac bs.length cc) (.slice A2 31 cp2) (.slice none 0 0) (I.take 31) (I.drop 32) bs [] mid) := H0
  have HW3 : Hid (w3 = w2.setCell ⟨b, 1, none⟩ (.slice (some ⟨g, 0, none⟩) 31 cap)) := hw3
  clear hw3 H0 hN2 hg0 hg1 hg2 hcs hct K1 hI2 k1 hb2 m0 m1 m2 c1
  go_upto_if 45 with (at_builtin; refine wpList_clear_run _ rfl _ 59 rfl _ rfl (hC _) ?_)
  go_cut [] (fun wc => ∃ cv1 cv2, Half w wc b o w1.heap.size p 0 (.slice (some ⟨g, 0, none⟩) 63 cap) (.slice Ac bs.length cc) (.slice (some ⟨g, 0, none⟩) 31 cap) cv1 (.slice A2 31 cp2) cv2 (I.take 31) (I.drop 32) (bs.take 32) (bs.drop 32) mid)
  case first =>
    rw [← HW3.out]
    rcases HBS.out with hb0 | hb64
    · subst hb0
      go_wp2_with fail
      go_meet
      case rel => exact ⟨_, _, HH.out⟩
    · obtain ⟨v0, hv0⟩ : ∃ v0, bs[0]? = some v0 := ⟨_, List.getElem?_eq_getElem (by omega)⟩
      obtain ⟨gc, cc', hvv, _, _, hcc, hccm⟩ := HH.out.c1.at hv0
      injection hvv with hvv1 hvv2 hvv3
      subst hvv1 hvv3
      have HH3 : Hid (Half w w3 b o w1.heap.size p 0 (.slice (some ⟨g, 0, none⟩) 63 cap) (.slice (some ⟨gc, 0, none⟩) 64 cc) (.slice (some ⟨g, 0, none⟩) 31 cap) (.slice (some ⟨gc, 0, none⟩) 64 cc) (.slice A2 31 cp2) (.slice none 0 0) (I.take 31) (I.drop 32) bs [] mid) := by
        have := HH.out; rw [hb64] at this; exact this
      have HC1 : Own 28 1 w3 (.slice (some ⟨gc, 0, none⟩) 64 cc) 64 (bs.map ptr) := by
        have := HH.out.c1; unfold OwnC at this; rw [hb64] at this; exact this
      have y2 := HH3.out.n1.c2
      rw [hb64] at hcc ⊢
      have HB64 : Hid (bs.length = 64) := hb64
      obtain ⟨curc, hgc, _, _, hccs, hcct⟩ := HC1.row
      have hcc' : (64 : Int) ≤ (cc : Int) := by omega
      unfold maxLen at hccm
      have hccm' : (cc : Int) ≤ 9223372036854775807 := by omega
      have z1 := fun W => slice_from T60 gc 64 cc 32 (by omega) W
      rw [if_neg (show ¬ cc = 32 by omega)] at z1
      simp only [Nat.mul_one] at z1
      have hwin := HC1.window 32
      rw [← List.map_drop] at hwin
      have hwl : ((bs.drop 32).map ptr).length = 32 * 1 := by rw [List.length_map, List.length_drop, hb64]
      have HWIN : Hid (∀ j u, ((bs.drop 32).map ptr)[j]? = some u → w3.cell? ((⟨gc, 32, none⟩ : Addr).add j) = some u) := hwin
      have HWL : Hid (((bs.drop 32).map ptr).length = 32 * 1) := hwl
      clear hb64 hwin hwl hv0 hvv2
      go_wp2_with fail
      refine (clone60_cells _ ⟨gc, 32, none⟩ 32 (cc - 32) ((bs.drop 32).map ptr) HWL.out HWIN.out (ptr_one _) (by omega)).mono ?_
      rintro e w4 ⟨cv2, rfl, hC2, k4, hb4⟩
      obtain ⟨A4, cp4, rfl, _, _⟩ := hC2.form
      have hr4 := HH3.out.n2.of_block (k4.block _ HH3.out.n2.lt (fun h => h))
      have r4f := hr4.free 2
      have r4c := hr4.c2
      obtain ⟨w5, hw5⟩ : ∃ w5, w5 = w4.setCell ⟨w1.heap.size, 2, none⟩ (.slice A4 32 cp4) := ⟨_, rfl⟩
      have hrn := HH3.out.rn
      have hgcl := HH3.out.lo gc (.inr rfl)
      have hn5 : NodeAt w5 b o (.slice (some ⟨g, 0, none⟩) 31 cap) (.slice (some ⟨gc, 0, none⟩) 64 cc) p := by
        rw [hw5]; exact (HH3.out.n1.of_block (k4.block _ HH3.out.n1.lt (fun h => h))).of_block (Below.heap_setCell _ _ _ _ (by show b ≠ w1.heap.size; omega))
      have hg5 : w5.heap[gc]? = some (.cells curc 28 (0, 0)) := by
        rw [hw5]; exact (Below.heap_setCell _ _ _ _ (by show gc ≠ w1.heap.size; omega)).trans ((k4.block _ (heap_lt hgc) (fun h => h)).trans hgc)
      have hCC := fun ty => clear_run T60 w5 gc 32 32 (cc - 32) curc 28 hg5 (by omega) (by rw [hccs]; omega) ty
      have HK := half_kids HH3.out HB64.out (by intro e; exact HX.out.2 (by simp [Value.ownBlock] at e ⊢; exact e.symm)) k4 hC2 hb4 hgc hccs hcct (vs := (Builtin.zeroCells (Value.pointer none).cells 32).toList) (zeroCells_len _ _) hcc (by unfold maxLen; exact hccm)
      rw [← hw5] at HK
      have hn6 : NodeAt (w5.setRow gc (putAt curc.toList 32 (Builtin.zeroCells (Value.pointer none).cells 32).toList).toArray) b o (.slice (some ⟨g, 0, none⟩) 31 cap) (.slice (some ⟨gc, 0, none⟩) 64 cc) p := hn5.of_block (setRow_other _ _ _ _ (by omega))
      have y5 := hn5.c2
      rw [hw5] at y5
      generalize hw6 : w5.setRow gc (putAt curc.toList 32 (Builtin.zeroCells (Value.pointer none).cells 32).toList).toArray = w6 at hCC HK hn6
      have y6 := hn6.c2
      have f6 := hn6.free 2
      rw [hw5] at hCC
      have z3 := fun W => slice_to T60 (some ⟨gc, 0, none⟩) 64 cc 32 (by omega) W
      have HKK := hide HK
      clear hn5 hg5 HK hn6 hw6 hw5 hgc hccs hcct k4 hC2 hb4 hr4 HC1
      go_wp2_with (at_builtin; refine wpList_clear_run _ rfl _ 60 rfl _ rfl (hCC _) ?_)
      go_meet
      case rel => exact ⟨_, _, by rw [HB64.out]; exact HKK.out⟩
  case rest =>
    obtain ⟨cv1, cv2, hcut⟩ := hcut
    have q1 := hcut.n2.c1
    have HC0 := hide hcut
    clear hcut
    go_wp2_with fail
    go_loopw [73] (fun v wr => ∃ j : Nat, j ≤ 31 ∧ v = .int .i64 j ∧ Half w wr b o w1.heap.size p j (.slice (some ⟨g, 0, none⟩) 63 cap) (.slice Ac bs.length cc) (.slice (some ⟨g, 0, none⟩) 31 cap) cv1 (.slice A2 31 cp2) cv2 (I.take 31) (I.drop 32) (bs.take 32) (bs.drop 32) mid) (fun v wr => 31 - (intOf v).toNat)
    case atStart => exact ⟨0, by omega, rfl, HC0.out⟩
    case round =>
      obtain ⟨j, hj, rfl, hH⟩ := hrel
      have HJ := hide hH
      clear hH
      by_cases hj31 : j < 31
      · have hjd : (j : Int) < 31 := by omega
        obtain ⟨x, hx⟩ : ∃ x, (I.drop 32)[j]? = some x := ⟨_, List.getElem?_eq_getElem (by rw [List.length_drop, H63.out]; omega)⟩
        obtain ⟨g2, cap2, hv2, i0, i1, i2, _, _, _⟩ := HJ.out.i2.at hx
        injection hv2 with hv21 hv22 hv23
        clear hv22
        subst hv21 hv23
        have hxv : x.v.size ≤ 1048576 := HOK.out x (List.mem_of_mem_drop (List.mem_of_getElem? hx))
        have x60 := fun W => idx59 g2 31 cp2 j hj31 W
        have p3 := HJ.out.n2.c3
        have pf := HJ.out.n2.free 3
        have hrl := HJ.out.n2.lt
        have hwj : IntKind.i64.wrap ((j : Int) + 1) = (j : Int) + 1 := by rw [IntKind.wrap_i64]; omega
        have hg2l : g2 < wr.heap.size := cell_lt i0
        clear hx
        go_upto_region 12 with fail
        go_region_with (go_at_call 54; refine (pieces_one _ hxv _).mono ?_; rintro e w' ⟨rfl, rfl⟩)
        all_goals go_wp2_with fail
        all_goals go_roundw
        all_goals first | exact ⟨j + 1, by omega, by go_num, HJ.out.more (j + 1) _ (by omega) _⟩ | (simp [intOf]; omega)
      · obtain rfl : j = 31 := by omega
        simp only [show ((31 : Nat) : Int) = 31 from rfl]
        obtain ⟨A1, cp1, hcv1, _, _⟩ := HJ.out.c2.form
        subst hcv1
        have q2 := HJ.out.n2.c2
        have HBL : Hid ((bs.drop 32).length ≤ 32) := by
          show _ ≤ _
          rw [List.length_drop]
          rcases HBS.out with h | h <;> rw [h] <;> simp
        obtain ⟨D, hD⟩ : ∃ D, D = bs.drop 32 := ⟨_, rfl⟩
        have HD : Hid (D = bs.drop 32) := hD
        have HJ1 : Hid (Half w wr b o w1.heap.size p 31 (.slice (some ⟨g, 0, none⟩) 63 cap) (.slice Ac bs.length cc) (.slice (some ⟨g, 0, none⟩) 31 cap) cv1 (.slice A2 31 cp2) (.slice A1 D.length cp1) (I.take 31) (I.drop 32) (bs.take 32) D mid) := by
          rw [hD]; exact HJ.out
        rw [← hD] at q2
        have HBL' : D.length ≤ 32 := by rw [hD]; exact HBL.out
        have hDl : (D.length : Int) ≤ 32 := by omega
        have HKD : Hid (∀ c ∈ D, (∃ ow iv cv, NodeAt w c ow iv cv (P c)) ∧ c ≠ b ∧ c ≠ g ∧ (Value.slice Ac bs.length cc).ownBlock ≠ some c) := by
          intro c hc
          rw [hD] at hc
          exact ⟨HP.out c hc, HAP.out c hc⟩
        have HS : Hid (32 + (D.map P).sum ≤ p ∧ p ≤ 4611686018427387904) := by rw [hD]; exact HPP.out
        clear HJ hD HP HAP HPP HBL HBL'
        go_wp2_with fail
        go_loopw [94] (fun v wr' => ∃ j : Nat, j ≤ D.length ∧ v = .int .i64 j ∧ Half w wr' b o w1.heap.size p (31 + ((D.take j).map P).sum) (.slice (some ⟨g, 0, none⟩) 63 cap) (.slice Ac bs.length cc) (.slice (some ⟨g, 0, none⟩) 31 cap) cv1 (.slice A2 31 cp2) (.slice A1 D.length cp1) (I.take 31) (I.drop 32) (bs.take 32) D mid) (fun v wr => D.length - (intOf v).toNat)
        case atStart => exact ⟨0, by omega, rfl, HJ1.out⟩
        case round =>
          obtain ⟨j, hj, rfl, hH⟩ := hrel
          have HJ := hide hH
          clear hH
          by_cases hjd : j < D.length
          · have hjd' : (j : Int) < (D.length : Int) := by omega
            obtain ⟨c, hc⟩ : ∃ c, D[j]? = some c := ⟨_, List.getElem?_eq_getElem hjd⟩
            obtain ⟨gd, cpd, hvd, e0, _, _, _⟩ := HJ.out.c2.at hc
            injection hvd with hvd1 hvd2 hvd3
            clear hvd2
            subst hvd1 hvd3
            obtain ⟨⟨ow, ivc, cvc, hNc⟩, hcb, hcg, hcc0⟩ := HKD.out c (List.mem_of_getElem? hc)
            have hNc' : NodeAt _ c ow ivc cvc (P c) := hNc.of_block (HJ.out.keep.block c hNc.lt (by
              rintro (h | h | h)
              · exact hcb h
              · simp [Value.ownBlock] at h; exact hcg h.symm
              · exact hcc0 h))
            have kc3 := hNc'.c3
            have p3 := HJ.out.n2.c3
            have pf := HJ.out.n2.free 3
            have hsum : ((D.take (j + 1)).map P).sum = ((D.take j).map P).sum + P c := by
              rw [List.take_add_one, hc]; simp
            have hle : ((D.take (j + 1)).map P).sum ≤ (D.map P).sum := by
              have : (D.map P).sum = ((D.take (j + 1)).map P).sum + ((D.drop (j + 1)).map P).sum := by rw [← List.sum_append, ← List.map_append, List.take_append_drop]
              omega
            have hS := HS.out
            obtain ⟨q, hq⟩ : ∃ q, q = 31 + ((D.take j).map P).sum := ⟨_, rfl⟩
            obtain ⟨pc, hpc⟩ : ∃ pc, pc = P c := ⟨_, rfl⟩
            rw [← hq] at p3
            rw [← hpc] at kc3
            have hb1 : (q : Int) + (pc : Int) ≤ 4611686018427387904 := by omega
            have HQ : Hid (q + pc = 31 + ((D.take (j + 1)).map P).sum) := by show _ = _; omega
            have hwj : IntKind.i64.wrap ((j : Int) + 1) = (j : Int) + 1 := by rw [IntKind.wrap_i64]; omega
            have hwq : IntKind.i64.wrap ((q : Int) + (pc : Int)) = (q : Int) + (pc : Int) := by rw [IntKind.wrap_i64]; omega
            have x60 := fun W => idx60 gd D.length cp1 j hjd W
            clear hc hsum hle hS hq hpc hcc0 hNc' hNc
            go_wp2_with fail
            go_region
            go_wp2_with fail
            go_roundw
            case rel => exact ⟨j + 1, by omega, by go_num, HJ.out.more0 _ _ (by have := HQ.out; omega)⟩
            case measure => simp [intOf]; omega
          · obtain rfl : j = D.length := by omega
            have HE := HJ.out
            rw [List.take_length] at HE
            have HZ := hide HE
            have p3 := HE.n1.c3
            have pf := HE.n1.free 3
            have r3 := HE.n2.c3
            have hS := HS.out
            obtain ⟨q, hq⟩ : ∃ q, q = 31 + (D.map P).sum := ⟨_, rfl⟩
            rw [← hq] at r3
            have HQ : Hid (q = 31 + (D.map P).sum) := hq
            have hb1 : (q : Int) + 1 ≤ (p : Int) := by omega
            have hb2 : (p : Int) ≤ 4611686018427387904 := by omega
            have hw1 : IntKind.i64.wrap ((q : Int) + 1) = (q : Int) + 1 := by rw [IntKind.wrap_i64]; omega
            have hw2 : IntKind.i64.wrap ((p : Int) - ((q : Int) + 1)) = (p : Int) - ((q : Int) + 1) := by rw [IntKind.wrap_i64]; omega
            have hmv : mid.v.size ≤ 1048576 := HOK.out mid HMM.out
            have hm0 : wr.cell? ⟨w.heap.size + 1, 0, none⟩ = some (.string mid.k) := by simp [World.cell?, HE.mid]
            have hm1 : wr.cell? ⟨w.heap.size + 1, 1, none⟩ = some (.string mid.v) := by simp [World.cell?, HE.mid]
            have hm2 : wr.cell? ⟨w.heap.size + 1, 2, none⟩ = some (.int .u64 mid.r) := by simp [World.cell?, HE.mid]
            have hr0 : ∀ i, wr.frozen? ⟨w.heap.size, i, none⟩ = false := fun i => by simp [World.frozen?, HE.res]
            have hr1 : wr.cell? ⟨w.heap.size, 0, none⟩ = some (.string ⟨#[]⟩) := by simp [World.cell?, HE.res]
            have hr2 : wr.cell? ⟨w.heap.size, 1, none⟩ = some (.string ⟨#[]⟩) := by simp [World.cell?, HE.res]
            have hr3 : wr.cell? ⟨w.heap.size, 2, none⟩ = some (.int .u64 0) := by simp [World.cell?, HE.res]
            have hr00 := hr0 0
            have hr01 := hr0 1
            have hr02 := hr0 2
            clear HE hq hS HS HJ1 HJ hr0
            go_wp2_with fail
            go_upto_region 19 with fail
            go_cut [] (fun wc' => wc' = (wr.setCell ⟨b, 3, none⟩ (.int .i64 ((p : Int) - ((q : Int) + 1)))).drew)
            case first =>
              clear HI HC HN HX HBS HOK HMM HW3 HH HC0 HD HKD HZ HQ x1 x2 x3 d1 f1 e2 c11 q1 q2 hC H63
              go_region_with (go_at_call 54; refine (pieces_one _ hmv _).mono ?_; rintro e w' ⟨rfl, rfl⟩)
              all_goals first | (go_meet; exact rfl) | (go_wp2_with fail; go_meet; exact rfl)
            case rest =>
              subst hcut
              go_wp2_with fail
              refine bodyPost_ret (v := .tuple #[mid.val, ptr w1.heap.size]) (by simp [results, Try.results57, go_sem, It.val, ptr, hr1, hr2, hr3]) rfl ⟨w1.heap.size, cv1, .slice A2 31 cp2, .slice A1 D.length cp1, rfl, ?_⟩
              rw [← HD.out]
              refine (HZ.out.less (p - (32 + (D.map P).sum)) ((p : Int) - ((q : Int) + 1)) (by have := HQ.out; omega)).two ?_
              exact (((Keeps.setCell (S := fun x => x = w.heap.size) (Keeps.setCell (S := fun x => x = w.heap.size) (Keeps.setCell (S := fun x => x = w.heap.size) (Keeps.refl _ _) (.inl rfl) _) (.inl rfl) _) (.inl rfl) _))).drew
end Go.Proofs.Qxb6601392a.Bt
