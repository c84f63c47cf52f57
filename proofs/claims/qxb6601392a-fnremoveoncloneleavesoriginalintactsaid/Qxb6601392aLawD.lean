import Derived.Test.Qxb6601392aRStC
import Derived.Test.Qxb6601392aDelB
namespace Go.Proofs.Qxb6601392a.Bt
open Go.RowKit

set_option maxRecDepth 100000 in
set_option maxHeartbeats 4000000 in
theorem law6_any {w : World} {A A' : Option Addr} {cap b off cap' b' off' : Nat} {xs : List It} {ys : List Dl} (h : OpsAt w A cap b off xs) (hnil : A = none → xs = [] ∧ cap = 0) (h' : DelsAt w A' cap' b' off' ys) (hnil' : A' = none → ys = [] ∧ cap' = 0) :
    Calls Try.prog 6 #[.slice A xs.length cap, .slice A' ys.length cap'] w fun e w' => e = .returned (.bool true) ∧ Below w.heap.size w w' := by
  have HO := hide' h
  have HNIL := hide' hnil
  have HO' := hide' h'
  have HNIL' := hide' hnil'
  clear h hnil h' hnil'
  go_enter Try.func6, Try.ntmps6
  go_upto_region 3 with (go_at_call 24; refine (bytes24_any (by exact HO.out) (by exact HO'.out)).mono ?_; rintro e w0 ⟨r, rfl, hw, hsh⟩; rw [hw]; clear hw w0; have HSH := hide' hsh; clear hsh; cases r)
  · go_ret
    exact ⟨rfl, Below.refl _ _⟩
  have HS : Hid (Short xs) := (HSH.out trivial).1
  have HS' : Hid (ShortD ys) := (HSH.out trivial).2
  clear HSH
  by_cases hlen : xs.length ≤ 4096
  rotate_left
  · have hlen' : (4096 : Int) < (xs.length : Int) := by omega
    go_wp2_with fail
    go_ret
    exact ⟨rfl, Below.refl _ _⟩
  have hlen' : (xs.length : Int) ≤ 4096 := by omega
  have hld : decide ((4096 : Int) < (xs.length : Int)) = false := decide_eq_false (by omega)
  by_cases hlenY : ys.length ≤ 4096
  rotate_left
  · have hlenY' : (4096 : Int) < (ys.length : Int) := by omega
    go_wp2_with fail
    go_ret
    exact ⟨rfl, Below.refl _ _⟩
  have hlenY' : (ys.length : Int) ≤ 4096 := by omega
  have hldY : decide ((4096 : Int) < (ys.length : Int)) = false := decide_eq_false (by omega)
  have HB1 := hide' (opsBytes_any HO.out HS.out (by omega))
  go_wp2_with fail
  refine HB1.out.mono ?_
  rintro e w0 ⟨t, ht, rfl, n, hw⟩
  rw [hw]
  clear hw w0
  have ht' : (t : Int) ≤ 1048577 := by omega
  have HB2 := hide' (delsBytes_any (HO'.out.below (below_drewN (Below.refl _ _) n)) HS'.out (by omega))
  go_wp2_with fail
  refine HB2.out.mono ?_
  rintro e w1 ⟨t2, ht2, rfl, hw⟩
  have ht2' : (t2 : Int) ≤ 1048577 := by omega
  have hbn : Below w.heap.size w w1 := by rw [hw]; exact below_drewN (Below.refl _ _) _
  have HBN := hide' hbn
  have HON := hide' (copyOps_any (HO.out.below hbn) HNIL.out hlen)
  have HON' := hide' (HO'.out.below hbn)
  clear hbn hw HB1 HB2
  by_cases hT : t + t2 ≤ 1048576
  rotate_left
  · have hT' : (1048576 : Int) < (t : Int) + (t2 : Int) := by omega
    go_wp2_with fail
    go_ret
    exact ⟨rfl, HBN.out⟩
  have hT' : (t : Int) + (t2 : Int) ≤ 1048576 := by omega
  have hTd : decide ((1048576 : Int) < (t : Int) + (t2 : Int)) = false := decide_eq_false (by omega)
  go_wp2_with fail
  refine HON.out.mono ?_
  rintro e wA ⟨A1, cap1, b1, rfl, hO1, hBA⟩
  have HO1 := hide' hO1
  have HBA := hide' (HBN.out.trans (hBA.mono HBN.out.size))
  have HON2 := hide' (copyDels_any (HON'.out.below hBA) HNIL'.out hlenY)
  clear hO1 hBA HON HON'
  go_wp2_with fail
  refine HON2.out.mono ?_
  rintro e wB ⟨A2, cap2, b2, rfl, hO2, hBB⟩
  have HO2 := hide' hO2
  have HO1' := hide' (HO1.out.below hBB)
  have HBB := hide' (HBA.out.trans (hBB.mono HBA.out.size))
  have HOB := hide' (newOwner_any wB)
  clear hO2 hBB HON2 HO1 HBA
  go_wp2_with fail
  refine HOB.out.mono ?_
  rintro e wC ⟨rfl, hwC⟩
  have hbC : Below wB.heap.size wB wC := by rw [hwC]; exact (Below.refl _ _).alloc (Nat.le_refl _) _
  have hoC : OwnerAt wC wB.heap.size := by rw [hwC]; exact heap_alloc_new _ _
  have hsC : wC.heap.size = wB.heap.size + 1 := by rw [hwC]; simp
  have HBLD := hide' (build_any (B := wB.heap.size) (o := wB.heap.size) (HO1'.out.below hbC) HS.out hlen (by omega) hoC (fun x hx => by
    obtain ⟨q, hq⟩ := List.getElem?_of_mem hx
    exact HO1'.out.blt hq))
  have HBC := hide' hbC
  have HSC := hide' hsC
  clear hwC hbC hoC hsC HOB
  go_wp2_with fail
  refine HBLD.out.mono ?_
  rintro e wD ⟨rv, kv, ev, rfl, d1, c1, rfl, hSt, hl1, hBD⟩
  have HCM := hide' (copyModel_any hSt.m (by omega))
  have HST := hide' hSt
  have HBD := hide' hBD
  clear hSt hBD HBLD
  go_wp2_with fail
  refine HCM.out.mono ?_
  rintro e wE ⟨sk, se, rfl, hMs, hBE, hsN⟩
  have HMS := hide' hMs
  have HBE := hide' hBE
  have HSN := hide' hsN
  have HOE := hide' (newOwner_any wE)
  clear hMs hBE hsN HCM
  go_wp2_with fail
  refine HOE.out.mono ?_
  rintro e wF ⟨rfl, hwF⟩
  have hbF : Below wE.heap.size wE wF := by rw [hwF]; exact (Below.refl _ _).alloc (Nat.le_refl _) _
  have hoF : OwnerAt wF wE.heap.size := by rw [hwF]; exact heap_alloc_new _ _
  have hsF : wF.heap.size = wE.heap.size + 1 := by rw [hwF]; simp
  have hrE := HST.out.root.below HBE.out
  have hfrz : Rep wF wE.heap.size wE.heap.size d1 (frz c1) := (Rep.freeze hrE.hB (Nat.le_refl _) hrE.ho (Nat.le_refl _) d1 c1 hrE.rep).below (Nat.le_refl _) hbF
  have HMUT := hide' (wrap_mutable _ _ wF (fun v w' => ∃ c' : Ch, v = .pointer (some ⟨c'.b, 0, none⟩) ∧ Rep w' wE.heap.size wE.heap.size d1 c' ∧ c'.L = c1.L ∧ c'.m = c1.m ∧ c'.fz = false ∧ Keeps (fun _ => False) wF w') ((mutable_any hfrz (by omega) hoF (by show c1.m ≤ 500; have := hrE.m63; omega)).mono (fun e w' => by
    rintro ⟨c', rfl, r1, r2, r3, r4, r5, r6⟩
    exact ⟨_, rfl, c', rfl, r1, r2, r3, r4, r6⟩)))
  have HBF := hide' hbF
  have HOF := hide' hoF
  have HSF := hide' hsF
  have HFRZ := hide' hfrz
  have HRE := hide' hrE
  clear hwF hbF hoF hsF hrE hfrz HOE
  go_wp2_with fail
  refine HMUT.out.mono ?_
  rintro e wG ⟨v, rfl, c2, rfl, r1, r2, r3, r4, r5⟩
  have hsD := HBD.out.size
  have hsE := HBE.out.size
  have hsF := HSF.out
  have hsC := HSC.out
  have hsG := r5.size
  have hloop : LoopC wB.heap.size wB wG wE.heap.size wE.heap.size xs.length d1 (frz c1) sk se (.pointer (some ⟨c2.b, 0, none⟩)) kv ev := by
    have hst := HST.out
    refine ⟨⟨d1, c2, rfl, ⟨r1, by omega, (r5.block _ (by omega) (fun h => h)).trans HOF.out, r4, by rw [r2]; exact hst.root.sorted, by rw [r2]; exact hst.root.ok, by rw [r3]; exact hst.root.m63, fun hd => by rw [r3]; exact hst.root.pos hd⟩, by rw [r2]; exact ((hst.m.on HBE.out).on HBF.out).keeps r5 (fun _ _ h => h), by rw [r2]; exact hl1⟩, HFRZ.out.keeps r5 (by omega) (fun _ h => h.elim) (fun _ _ h => h), ((HMS.out.on HBF.out).keeps r5 (fun _ _ h => h)), fun k hk hk' => ?_, fun k hk => (hst.sep k hk).2.1, ?_, by omega, rfl⟩
    · have h1 := HSN.out k hk
      have h2 : k < wD.heap.size := hk'.elim (hst.m.k.blk k) (hst.m.e.blk k)
      omega
    · exact HBC.out.trans (HBD.out.trans ((HBE.out.mono (by omega)).trans ((HBF.out.mono (by omega)).trans (r5.below (fun _ h => h.elim) (by omega)))))
  have HLOOP := hide' hloop
  clear hloop r1 r2 r3 r4 r5 hsD hsE hsF hsC hsG HMUT
  go_wp2_with fail
  go_loopw [7, 8, 12, 13, 14] (fun k e rv a ok w' => ∃ j : Nat, j ≤ ys.length ∧ a = .int .i64 (j : Int) ∧ LoopC wB.heap.size wB w' wE.heap.size wE.heap.size xs.length d1 (frz c1) sk se rv k e) (fun k e rv a ok w' => ys.length - (intOf a).toNat)
  case atStart => exact ⟨0, by omega, rfl, HLOOP.out⟩
  case round =>
    obtain ⟨j, hjl, rfl, hlc⟩ := hrel
    have HLC := hide' hlc
    obtain ⟨d, c, rfl, hr, hm, hn⟩ := hlc.now
    have HR := hide' hr
    have HM := hide' hm
    clear hlc hr hm
    by_cases hlt : j < ys.length
    · have hlt' : (j : Int) < (ys.length : Int) := by omega
      obtain ⟨y, hy⟩ : ∃ y, ys[j]? = some y := ⟨_, List.getElem?_eq_getElem hlt⟩
      have hOr := HO2.out.below HLC.out.bel
      have e0 := hOr.c0 j y hy
      have e1 := hOr.c1 j y hy
      have x44 := hOr.ix j hlt
      simp only [Nat.zero_add] at e0 e1 x44
      have HSTEP := hide' (remStep2_any HR.out HM.out (by omega) y.k y.l)
      clear hy hOr
      go_wp2_with (go_at_call 23; refine HSTEP.out.mono ?_; rintro e w5 ⟨nb, kv', ev', rfl, hsp⟩; have HL5 := hide' (LoopC.rstep HLC.out.old HLC.out.snap HLC.out.apart HLC.out.liveN HLC.out.bel HLC.out.nB HLC.out.old1 HR.out hn hsp); clear hsp)
      go_roundw
      case rel => exact ⟨j + 1, by omega, by go_num, HL5.out⟩
      case measure => simp [intOf]; omega
    · obtain rfl : j = ys.length := by omega
      have hd : decide ((ys.length : Int) < (ys.length : Int)) = false := by simp
      have hBr := HR.out.hB
      have HH1 := hide' (holds_any (kv := sk) (ev := se) HLC.out.old hBr HST.out.root.sorted HST.out.root.ok HST.out.root.m63 (by show c1.L.length ≤ _; omega) HLC.out.snap)
      go_wp2_with fail
      refine HH1.out.mono ?_
      rintro e w6 ⟨rfl, hb6⟩
      have hr6 := HR.out.below hb6
      have HH2 := hide' (holds_any hr6.rep hr6.hB hr6.sorted hr6.ok hr6.m63 (by omega) (HM.out.on hb6))
      have HB6 := hide' hb6
      clear hb6 hr6 HH1
      go_wp2_with fail
      refine HH2.out.mono ?_
      rintro e w8 ⟨rfl, hb8⟩
      have HB8 := hide' hb8
      clear hb8 HH2
      go_wp2_with fail
      go_ret
      have hb := HLC.out.bel
      have hs := HBB.out.size
      have hN : wB.heap.size ≤ wr.heap.size := hb.size
      have h6 := HB6.out.size
      exact ⟨rfl, HBB.out.trans ((hb.mono hs).trans ((HB6.out.mono (by omega)).trans (HB8.out.mono (by omega))))⟩
end Go.Proofs.Qxb6601392a.Bt
