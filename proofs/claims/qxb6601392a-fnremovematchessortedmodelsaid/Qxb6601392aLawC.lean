import Derived.Test.Qxb6601392aLawB
import Derived.Test.Qxb6601392aRStB
import Derived.Test.Qxb6601392aDelB
namespace Go.Proofs.Qxb6601392a.Bt
open Go.RowKit

theorem Loop.rstep {w1 w w' : World} {o B n d : Nat} {c : Ch} {kv ev : Value} (hS : St w o B d c kv ev) (hn : c.L.length ≤ n) (hB : Below B w1 w) {nb : Nat} {kv' ev' : Value} (h : RStepPost w o B c kv ev nb kv' ev' w') :
    ∃ d' c', c'.b = nb ∧ St w' o B d' c' kv' ev' ∧ c'.L.length ≤ n ∧ Below B w1 w' := by
  obtain ⟨d', c', q1, q2, q3, _, q5⟩ := h
  refine ⟨d', c', q1, q2, Nat.le_trans q3 hn, hB.trans (q5.below (fun k hk => ?_) hS.root.hB)⟩
  rcases hk with hk | hk
  · exact (hS.root.rep.FB k hk).1
  · exact (hS.sep k hk).2.1

set_option maxRecDepth 100000 in
set_option maxHeartbeats 4000000 in
theorem law5_any {w : World} {A A' : Option Addr} {cap b off cap' b' off' : Nat} {xs : List It} {ys : List Dl} (h : OpsAt w A cap b off xs) (hnil : A = none → xs = [] ∧ cap = 0) (h' : DelsAt w A' cap' b' off' ys) (hnil' : A' = none → ys = [] ∧ cap' = 0) :
    Calls Try.prog 5 #[.slice A xs.length cap, .slice A' ys.length cap'] w fun e w' => e = .returned (.bool true) ∧ Below w.heap.size w w' := by
  have HO := hide' h
  have HNIL := hide' hnil
  have HO' := hide' h'
  have HNIL' := hide' hnil'
  clear h hnil h' hnil'
  go_enter Try.func5, Try.ntmps5
  go_upto_region 3 with (go_at_call 20; refine (bytes20_any (by exact HO.out) (by exact HO'.out)).mono ?_; rintro e w0 ⟨r, rfl, hw, hsh⟩; rw [hw]; clear hw w0; have HSH := hide' hsh; clear hsh; cases r)
  · go_ret
    exact ⟨rfl, Below.refl _ _⟩
  have HS : Hid (Short xs) := (HSH.out trivial).1
  have HS' : Hid (ShortD ys) := (HSH.out trivial).2
  clear HSH
  by_cases hlen : xs.length ≤ 4096
  rotate_left
  · have hlen' : (4096 : Int) < (xs.length : Int) := by omega
    go_wp2_with fail
    go_ret
    exact ⟨rfl, Below.refl _ _⟩
  have hlen' : (xs.length : Int) ≤ 4096 := by omega
  have hld : decide ((4096 : Int) < (xs.length : Int)) = false := decide_eq_false (by omega)
  by_cases hlenY : ys.length ≤ 4096
  rotate_left
  · have hlenY' : (4096 : Int) < (ys.length : Int) := by omega
    go_wp2_with fail
    go_ret
    exact ⟨rfl, Below.refl _ _⟩
  have hlenY' : (ys.length : Int) ≤ 4096 := by omega
  have hldY : decide ((4096 : Int) < (ys.length : Int)) = false := decide_eq_false (by omega)
  have HB1 := hide' (opsBytes_any HO.out HS.out (by omega))
  go_wp2_with fail
  refine HB1.out.mono ?_
  rintro e w0 ⟨t, ht, rfl, n, hw⟩
  rw [hw]
  clear hw w0
  have ht' : (t : Int) ≤ 1048577 := by omega
  have HB2 := hide' (delsBytes_any (HO'.out.below (below_drewN (Below.refl _ _) n)) HS'.out (by omega))
  go_wp2_with fail
  refine HB2.out.mono ?_
  rintro e w1 ⟨t2, ht2, rfl, hw⟩
  have ht2' : (t2 : Int) ≤ 1048577 := by omega
  have hbn : Below w.heap.size w w1 := by rw [hw]; exact below_drewN (Below.refl _ _) _
  have HBN := hide' hbn
  have HON := hide' (copyOps_any (HO.out.below hbn) HNIL.out hlen)
  have HON' := hide' (HO'.out.below hbn)
  clear hbn hw HB1 HB2
  by_cases hT : t + t2 ≤ 1048576
  rotate_left
  · have hT' : (1048576 : Int) < (t : Int) + (t2 : Int) := by omega
    go_wp2_with fail
    go_ret
    exact ⟨rfl, HBN.out⟩
  have hT' : (t : Int) + (t2 : Int) ≤ 1048576 := by omega
  have hTd : decide ((1048576 : Int) < (t : Int) + (t2 : Int)) = false := decide_eq_false (by omega)
  go_wp2_with fail
  refine HON.out.mono ?_
  rintro e wA ⟨A1, cap1, b1, rfl, hO1, hBA⟩
  have HO1 := hide' hO1
  have HBA := hide' (HBN.out.trans (hBA.mono HBN.out.size))
  have HON2 := hide' (copyDels_any (HON'.out.below hBA) HNIL'.out hlenY)
  clear hO1 hBA HON HON'
  go_wp2_with fail
  refine HON2.out.mono ?_
  rintro e wB ⟨A2, cap2, b2, rfl, hO2, hBB⟩
  have HO2 := hide' hO2
  have HO1' := hide' (HO1.out.below hBB)
  have HBB := hide' (HBA.out.trans (hBB.mono HBA.out.size))
  have HOB := hide' (newOwner_any wB)
  clear hO2 hBB HON2 HO1 HBA
  go_wp2_with fail
  refine HOB.out.mono ?_
  rintro e wC ⟨rfl, hwC⟩
  have hbC : Below wB.heap.size wB wC := by rw [hwC]; exact (Below.refl _ _).alloc (Nat.le_refl _) _
  have hoC : OwnerAt wC wB.heap.size := by rw [hwC]; exact heap_alloc_new _ _
  have hsC : wC.heap.size = wB.heap.size + 1 := by rw [hwC]; simp
  have HBLD := hide' (build_any (B := wB.heap.size) (o := wB.heap.size) (HO1'.out.below hbC) HS.out hlen (by omega) hoC (fun x hx => by
    obtain ⟨q, hq⟩ := List.getElem?_of_mem hx
    exact HO1'.out.blt hq))
  have HBC := hide' hbC
  have HSC := hide' hsC
  clear hwC hbC hoC hsC HOB
  go_wp2_with fail
  refine HBLD.out.mono ?_
  rintro e wD ⟨rv, kv, ev, rfl, d1, c1, rfl, hSt, hl1, hBD⟩
  have HST0 := hide' hSt
  have HBD := hide' hBD
  clear hSt hBD HBLD
  go_wp2_with fail
  go_loopw [6, 7, 8, 9, 10] (fun rv kv ev a ok w' => ∃ j : Nat, j ≤ ys.length ∧ a = .int .i64 (j : Int) ∧ Loop wC w' wB.heap.size wB.heap.size xs.length rv kv ev) (fun rv kv ev a ok w' => ys.length - (intOf a).toNat)
  case atStart => exact ⟨0, by omega, rfl, d1, c1, rfl, HST0.out, hl1, HBD.out⟩
  case round =>
    obtain ⟨j, hjl, rfl, d, c, rfl, hSt, hcn, hBr⟩ := hrel
    have HST := hide' hSt
    have HBR := hide' hBr
    clear hSt hBr
    by_cases hlt : j < ys.length
    · have hlt' : (j : Int) < (ys.length : Int) := by omega
      obtain ⟨y, hy⟩ : ∃ y, ys[j]? = some y := ⟨_, List.getElem?_eq_getElem hlt⟩
      have hOr := HO2.out.below (HBC.out.trans HBR.out)
      have e0 := hOr.c0 j y hy
      have e1 := hOr.c1 j y hy
      have x44 := hOr.ix j hlt
      simp only [Nat.zero_add] at e0 e1 x44
      have HSTEP := hide' (remStep_any HST.out (by omega) y.k y.l)
      clear hy hOr
      go_wp2_with (first
        | (go_at_call 23; refine HSTEP.out.mono ?_; rintro e w5 ⟨nb, kv', ev', rfl, hsp⟩; obtain ⟨d', c', rfl, hS5, hl5, hB5⟩ := Loop.rstep HST.out hcn HBR.out hsp; have HS5 := hide' hS5; have HB5 := hide' hB5; clear hS5 hB5 hsp)
        | (go_at_call 15; refine (holds_any HS5.out.root.rep HS5.out.root.hB HS5.out.root.sorted HS5.out.root.ok HS5.out.root.m63 (by omega) HS5.out.m).mono ?_; rintro e w6 ⟨rfl, hb6⟩; have HB6 := hide' hb6; clear hb6))
      go_roundw
      case rel =>
        have h6 := HB6.out
        have hs5 := HS5.out
        exact ⟨j + 1, by omega, by go_num, d', c', rfl, ⟨hs5.root.below h6, hs5.m.on h6, hs5.sep⟩, hl5, HB5.out.trans (h6.mono hs5.root.hB)⟩
      case measure => simp [intOf]; omega
    · obtain rfl : j = ys.length := by omega
      have hd : decide ((ys.length : Int) < (ys.length : Int)) = false := by simp
      go_wp2_with fail
      go_ret
      exact ⟨rfl, HBB.out.trans ((HBC.out.trans HBR.out).mono HBB.out.size)⟩
end Go.Proofs.Qxb6601392a.Bt
