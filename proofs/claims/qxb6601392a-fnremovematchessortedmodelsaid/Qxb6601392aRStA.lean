import Derived.Test.Qxb6601392aModelD
import Derived.Test.Qxb6601392aStepA
import Derived.Deep.RegionHeld3
namespace Go.Proofs.Qxb6601392a.Bt
open Go.RowKit

set_option maxHeartbeats 400000 in
theorem wrap_remove (a k l o : Value) (it : It) (w : World) (R : World → Prop) (h : ∀ w1, Below w.heap.size w w1 → w.heap.size < w1.heap.size → Calls Try.prog 51 #[a, k, l, o] w1 fun e w' => e = .returned it.val ∧ R w' ∧ w'.heap[w.heap.size]? = w1.heap[w.heap.size]?)
    (hR : ∀ w' w'', R w' → Keeps (fun x => x = w.heap.size) w' w'' → R w'') :
    Calls Try.prog 38 #[a, k, l, o] w fun e w' => e = .returned it.val ∧ R w' := by
  have H := hide h
  have HR := hide hR
  clear h hR
  go_enter Try.func38, Try.ntmps38
  go_wp2_with fail
  refine (H.out _ ((Below.refl _ _).alloc (Nat.le_refl _) _) (by simp)).mono ?_
  rintro e w' ⟨rfl, hv, hb⟩
  have HV := hide hv
  have hb' := hb.trans (heap_alloc_new _ _)
  have c0 : w'.cell? ⟨w.heap.size, 0, none⟩ = some (.string ⟨#[]⟩) := by simp [World.cell?, hb']
  have c1 : w'.cell? ⟨w.heap.size, 1, none⟩ = some (.string ⟨#[]⟩) := by simp [World.cell?, hb']
  have c2 : w'.cell? ⟨w.heap.size, 2, none⟩ = some (.int .u64 0) := by simp [World.cell?, hb']
  have fr : ∀ j, w'.frozen? ⟨w.heap.size, j, none⟩ = false := fun j => by simp [World.frozen?, hb']
  clear hv hb hb'
  unfold It.val
  go_wp2_with fail
  refine bodyPost_ret (v := .agg #[.string it.k, .string it.v, .int .u64 it.r]) ?_ rfl ⟨rfl, HR.out w' _ HV.out ?_⟩
  · simp [results, Try.results38, go_sem, c0, c1, c2]
  · exact (((Keeps.refl (fun x => x = w.heap.size) w').setCell (p := ⟨w.heap.size, 0, none⟩) (.inl rfl) _).setCell (p := ⟨w.heap.size, 1, none⟩) (.inl rfl) _).setCell (p := ⟨w.heap.size, 2, none⟩) (.inl rfl) _

set_option maxRecDepth 100000 in
set_option maxHeartbeats 2000000 in
/-- a step that finds nothing to remove -/
theorem remStep_none {w : World} {b o : Nat} {kv ev : Value} {L : List It} (hM : Model w kv ev L) (hs : Sorted L) (hn : L.length ≤ 100000) (key : ByteArray) (last : Bool) (h : if last then L = [] else ∃ i, Pos L key.data.toList i false) :
    Calls Try.prog 23 #[.pointer (some ⟨b, 0, none⟩), .agg #[.string key, .bool last], .pointer (some ⟨o, 0, none⟩), kv, ev] w fun e w' => e = .returned (.tuple #[.pointer (some ⟨b, 0, none⟩), kv, ev, .bool true]) ∧ Below w.heap.size w w' := by
  obtain ⟨Ak, ck, rfl, _, _⟩ := hM.k.form
  obtain ⟨Ae, ce, rfl, _, _⟩ := hM.e.form
  have HM := hide' hM
  have hn' : (L.length : Int) ≤ 100000 := by omega
  cases last with
  | true =>
    obtain rfl : L = [] := by simpa using h
    clear hM hs h
    go_enter Try.func23, Try.ntmps23
    go_wp2_with fail
    exact bodyPost_ret (v := .tuple #[.pointer (some ⟨b, 0, none⟩), .slice Ak 0 ck, .slice Ae 0 ce, .bool true]) (by simp [results, Try.results23, go_sem]) rfl ⟨rfl, (Below.refl _ _).alloc (Nat.le_refl _) _⟩
  | false =>
    obtain ⟨i, hP⟩ : ∃ i, Pos L key.data.toList i false := by simpa using h
    have HIX := hide' (fun W (hW : OwnK W (.slice Ak L.length ck) L) => modelIndex_any W _ L hW hs hn key i false hP (-1) rfl)
    clear hM hs h hP
    go_enter Try.func23, Try.ntmps23
    go_wp2_with (go_at_call 31; refine (HIX.out _ (HM.out.k.of_block (fun k hk => Below.heap_alloc _ _ _ (HM.out.k.blk k hk)))).mono ?_; rintro e w5 ⟨rfl, hw5⟩; rw [hw5]; clear hw5 w5)
    exact bodyPost_ret (v := .tuple #[.pointer (some ⟨b, 0, none⟩), .slice Ak L.length ck, .slice Ae L.length ce, .bool true]) (by simp [results, Try.results23, go_sem]) rfl ⟨rfl, (Below.refl _ _).alloc (Nat.le_refl _) _⟩

/-- where the root lies behind a remove: the emptied one gives way to its child -/
def Next (w : World) (b o nb : Nat) : Prop :=
  ∃ (A : Option Addr) (n c : Nat) (Ac : Option Addr) (nc cc p : Nat), NodeAt w b o (.slice A n c) (.slice Ac nc cc) p ∧ n ≤ 10000 ∧ nc ≤ 10000 ∧ ((0 < n ∧ nb = b) ∨ (n = 0 ∧ nc = 0 ∧ nb = b) ∨ (n = 0 ∧ 0 < nc ∧ ∃ gc, Ac = some ⟨gc, 0, none⟩ ∧ w.cell? ⟨gc, 0, none⟩ = some (.pointer (some ⟨nb, 0, none⟩))))

set_option maxRecDepth 100000 in
set_option maxHeartbeats 4000000 in
/-- a step that removes, the calls' contracts given -/
theorem remStep_raw {w : World} {b o : Nat} {kv ev : Value} {L : List It} (hM : Model w kv ev L) (hs : Sorted L) (hn : L.length ≤ 100000) (key : ByteArray) (last : Bool) (i : Nat) (hE : if last then i + 1 = L.length else Pos L key.data.toList i true) (x : It) (hx : L[i]? = some x)
    (S : Nat → World → Prop)
    (hrem : ∀ w1, Below w.heap.size w w1 → w.heap.size + 2 ≤ w1.heap.size → Calls Try.prog 38 #[.pointer (some ⟨b, 0, none⟩), .string key, .bool last, .pointer (some ⟨o, 0, none⟩)] w1 fun e w2 => e = .returned x.val ∧ ∃ nb, Next w2 b o nb ∧ S nb w2 ∧ w1.heap.size ≤ w2.heap.size ∧ ∀ k, k = w.heap.size ∨ k = w.heap.size + 1 → w2.heap[k]? = w1.heap[k]?)
    (R : Nat → Value → Value → World → Prop)
    (hmod : ∀ nb w2 w3, S nb w2 → Below w2.heap.size w2 w3 → w2.heap.size < w3.heap.size → Calls Try.prog 41 #[kv, ev, .int .i64 (i : Int)] w3 fun e w4 => ∃ kv' ev', e = .returned (.tuple #[kv', ev']) ∧ R nb kv' ev' w4 ∧ w3.heap.size ≤ w4.heap.size ∧ ∀ k, k = w.heap.size + 1 ∨ k = w2.heap.size → w4.heap[k]? = w3.heap[k]?)
    (hR : ∀ nb kv' ev' w4 w5, R nb kv' ev' w4 → Below w4.heap.size w4 w5 → R nb kv' ev' w5) :
    Calls Try.prog 23 #[.pointer (some ⟨b, 0, none⟩), .agg #[.string key, .bool last], .pointer (some ⟨o, 0, none⟩), kv, ev] w fun e w' => ∃ nb kv' ev', e = .returned (.tuple #[.pointer (some ⟨nb, 0, none⟩), kv', ev', .bool true]) ∧ R nb kv' ev' w' := by
  obtain ⟨gk, ck, rfl, k0, _, _, _⟩ := hM.k.at hx
  obtain ⟨ge, ce, rfl, e0, e1, _, _, _⟩ := hM.e.at hx
  have HM := hide' hM
  have HREM := hide' hrem
  have HMOD := hide' hmod
  have HR := hide' hR
  have hn' : (L.length : Int) ≤ 100000 := by omega
  have hil : i < L.length := (List.getElem?_eq_some_iff.1 hx).1
  have hil' : (i : Int) < (L.length : Int) := by omega
  have HE := hide' hE
  have HS := hide' hs
  have x30 := fun W => idx30 gk L.length ck i hil W
  have x31 := fun W => idx31 ge L.length ce i hil W
  have hgk := cell_lt k0
  have hge := cell_lt e0
  obtain ⟨w0, hw0⟩ : ∃ w0, w0 = w.alloc (.cells #[.string key, .bool last] 50) := ⟨_, rfl⟩
  have hb0 : Below w.heap.size w w0 := by rw [hw0]; exact (Below.refl _ _).alloc (Nat.le_refl _) _
  have hs0 : w0.heap.size = w.heap.size + 1 := by rw [hw0]; simp
  have k00 := bcell hb0 k0
  have e00 := bcell hb0 e0
  have e10 := bcell hb0 e1
  have hbox : w0.heap[w.heap.size]? = some (.cells #[.string key, .bool last] 50) := by rw [hw0]; exact heap_alloc_new _ _
  have HB0 := hide' hb0
  have HS0 := hide' hs0
  have HBOX := hide' hbox
  have HW0 := hide' hw0
  clear hM hrem hmod hR hE hs hx k0 e0 e1 hb0 hs0 hbox hw0
  go_enter Try.func23, Try.ntmps23
  go_upto_if 23 with fail
  rw [← HW0.out]
  go_cut [14] (fun a wc => a = .int .i64 (i : Int) ∧ wc = w0)
  case first =>
    cases last with
    | true =>
      have hi : i + 1 = L.length := by simpa using HE.out
      go_wp2_with fail
      go_meet
      case rel => exact ⟨by rw [show (L.length : Int) - 1 = (i : Int) by omega], rfl⟩
    | false =>
      have hP : Pos L key.data.toList i true := by simpa using HE.out
      have HIX := hide' (fun W (hW : OwnK W (.slice (some ⟨gk, 0, none⟩) L.length ck) L) => modelIndex_any W _ L hW HS.out hn key i true hP i rfl)
      have c0 : w0.cell? ⟨w.heap.size, 0, none⟩ = some (.string key) := by simp [World.cell?, HBOX.out]
      clear hP
      go_wp2_with (go_at_call 31; refine (HIX.out _ (HM.out.k.of_block (fun k hk => HB0.out.block k (HM.out.k.blk k hk)))).mono ?_; rintro e w5 ⟨rfl, hw5⟩; rw [hw5]; clear hw5 w5)
      go_meet
      case rel => exact ⟨rfl, rfl⟩
  case rest =>
    obtain ⟨rfl, hwc⟩ := hcut
    rw [hwc]
    clear hwc wc
    have c0 : w0.cell? ⟨w.heap.size, 0, none⟩ = some (.string key) := by simp [World.cell?, HBOX.out]
    have c1 : w0.cell? ⟨w.heap.size, 1, none⟩ = some (.bool last) := by simp [World.cell?, HBOX.out]
    have hszl : w.heap.size < w0.heap.size := by rw [HS0.out]; omega
    have hgk0 := cell_lt k00
    have hge0 := cell_lt e00
    have hid : decide ((i : Int) < 0) = false := decide_eq_false (by omega)
    clear hgk hge
    go_wp2_with fail
    have hb1 : Below w.heap.size w (w0.alloc (.cells #[.string x.v, .int .u64 x.r] 64)) := HB0.out.alloc (by omega) _
    have hbx1 : (w0.alloc (.cells #[.string x.v, .int .u64 x.r] 64)).heap[w.heap.size + 1]? = some (.cells #[.string x.v, .int .u64 x.r] 64) := by rw [← HS0.out]; exact heap_alloc_new _ _
    have hsz1 : (w0.alloc (.cells #[.string x.v, .int .u64 x.r] 64)).heap.size = w.heap.size + 2 := by rw [World.size_alloc, HS0.out]
    refine (HREM.out _ hb1 (by omega)).mono ?_
    rintro e w2 ⟨rfl, nb, hN, hS, hsz2, hbx⟩
    have hb2 := (hbx _ (.inr rfl)).trans hbx1
    obtain ⟨An, n, cn, Ac, nc, cc, p, hNA, hn1, hn2, hcase⟩ := hN
    have hsz2' : w.heap.size + 2 ≤ w2.heap.size := by omega
    obtain ⟨w3, hw3⟩ : ∃ w3, w3 = w2.alloc (.cells #[.string x.k, .string x.v, .int .u64 x.r] 75) := ⟨_, rfl⟩
    have hb3 : Below w2.heap.size w2 w3 := by rw [hw3]; exact (Below.refl _ _).alloc (Nat.le_refl _) _
    have hs3 : w3.heap.size = w2.heap.size + 1 := by rw [hw3]; simp
    have HMC := hide' (HMOD.out nb w2 w3 hS hb3 (by omega))
    have hx3 : w3.heap[w2.heap.size]? = some (.cells #[.string x.k, .string x.v, .int .u64 x.r] 75) := by rw [hw3]; exact heap_alloc_new _ _
    have hy3 := (hb3.block (w.heap.size + 1) (by omega)).trans hb2
    have hN3 : NodeAt w3 b o (.slice An n cn) (.slice Ac nc cc) p := hNA.of_block (hb3.block _ hNA.lt)
    have HC3 := hide' (fun gc (h : w2.cell? ⟨gc, 0, none⟩ = some (.pointer (some ⟨nb, 0, none⟩))) => bcell hb3 h)
    have HX3 := hide' hx3
    have HY3 := hide' hy3
    have HN3 := hide' hN3
    have HSZ2 := hide' hsz2'
    have HS3 := hide' hs3
    clear hb1 hbx1 hsz1 hsz2 hbx hb2 hS hx3 hy3 hN3 c0 c1 k00 e00 e10 hszl hgk0 hge0 hid hs3 hsz2'
    unfold It.val
    go_upto_region 9 with fail
    rw [← hw3]
    clear hw3 hb3 HMOD HREM
    obtain ⟨f, hf⟩ : ∃ f : Bool, (f = false ∧ nb = b ∧ (0 < n ∨ (n = 0 ∧ nc = 0))) ∨ (f = true ∧ n = 0 ∧ 0 < nc ∧ ∃ gc, Ac = some ⟨gc, 0, none⟩ ∧ w3.cell? ⟨gc, 0, none⟩ = some (.pointer (some ⟨nb, 0, none⟩))) := by
      rcases hcase with ⟨h1, h2⟩ | ⟨h1, h2, h3⟩ | ⟨h1, h2, gc, h3, h4⟩
      · exact ⟨false, .inl ⟨rfl, h2, .inl h1⟩⟩
      · exact ⟨false, .inl ⟨rfl, h3, .inr ⟨h1, h2⟩⟩⟩
      · exact ⟨true, .inr ⟨rfl, h1, h2, gc, h3, HC3.out gc h4⟩⟩
    clear hcase
    have HITEMS := hide' (items_any HN3.out)
    have HKIDS := hide' (children_any HN3.out)
    have hn1' : (n : Int) ≤ 10000 := by omega
    have hn2' : (nc : Int) ≤ 10000 := by omega
    go_cut [57] (fun a wc => a = .bool f ∧ wc = w3)
    case first =>
      rcases hf with ⟨rfl, -, hf⟩ | ⟨rfl, hf0, hf1, -⟩
      · rcases hf with hf | ⟨hf, hf2⟩
        · have h1 : ((n : Int) == 0) = false := by rw [beq_eq_false_iff_ne]; omega
          go_wp2_with (go_at_call 39; refine HITEMS.out.mono ?_; rintro e w' ⟨rfl, hw'⟩; rw [hw']; clear hw' w')
          go_meet
          case rel => exact ⟨by simp, rfl⟩
        · subst hf hf2
          go_wp2_with (first | (go_at_call 39; refine HITEMS.out.mono ?_; rintro e w' ⟨rfl, hw'⟩; rw [hw']; clear hw' w') | (go_at_call 40; refine HKIDS.out.mono ?_; rintro e w' ⟨rfl, hw'⟩; rw [hw']; clear hw' w'))
          go_meet
          case rel => exact ⟨by simp, rfl⟩
      · subst hf0
        have h2 : decide ((0 : Int) < (nc : Int)) = true := decide_eq_true (by omega)
        go_wp2_with (first | (go_at_call 39; refine HITEMS.out.mono ?_; rintro e w' ⟨rfl, hw'⟩; rw [hw']; clear hw' w') | (go_at_call 40; refine HKIDS.out.mono ?_; rintro e w' ⟨rfl, hw'⟩; rw [hw']; clear hw' w'))
        go_meet
        case rel => exact ⟨by simp, rfl⟩
    case rest =>
    obtain ⟨rfl, hwc⟩ := hcut
    rw [hwc]
    clear hwc wc
    go_upto_if 57 with fail
    go_cut [0] (fun a wc => a = .pointer (some ⟨nb, 0, none⟩) ∧ wc = w3)
    case first =>
      rcases hf with ⟨rfl, hf, -⟩ | ⟨rfl, hf0, hf1, gc, rfl, hcell⟩
      · go_wp2_with fail
        go_meet
        case rel => exact ⟨by rw [hf], rfl⟩
      · have x60 : ∀ W, (Instr.indexAt 60 (.slice (some ⟨gc, 0, none⟩) nc cc) (.int .i64 0)).run Try.prog W = .ok (.pointer (some ⟨gc, 0, none⟩)) W := fun W => idx60 gc nc cc 0 hf1 W
        go_wp2_with (go_at_call 40; refine HKIDS.out.mono ?_; rintro e w' ⟨rfl, hw'⟩; rw [hw']; clear hw' w')
        go_meet
        case rel => exact ⟨rfl, rfl⟩
    case rest =>
    obtain ⟨rfl, hwc⟩ := hcut
    rw [hwc]
    clear hwc wc
    go_wp2_with fail
    refine HMC.out.mono ?_
    rintro e w4 ⟨kv', ev', rfl, hR4, hs4, hbx4⟩
    have hx4 := (hbx4 _ (.inr rfl)).trans HX3.out
    have hy4 := (hbx4 _ (.inl rfl)).trans HY3.out
    have HR4 := hide' hR4
    have hs04 : w0.heap.size = w.heap.size + 1 := HS0.out
    rw [← hs04] at hy4
    clear hR4 hs4 hbx4 hs04
    have t0 : w4.cell? ⟨w2.heap.size, 0, none⟩ = some (.string x.k) := by simp [World.cell?, hx4]
    have t1 : w4.cell? ⟨w2.heap.size, 1, none⟩ = some (.string x.v) := by simp [World.cell?, hx4]
    have t2 : w4.cell? ⟨w2.heap.size, 2, none⟩ = some (.int .u64 x.r) := by simp [World.cell?, hx4]
    have t3 : w4.cell? ⟨w0.heap.size, 0, none⟩ = some (.string x.v) := by simp [World.cell?, hy4]
    have t4 : w4.cell? ⟨w0.heap.size, 1, none⟩ = some (.int .u64 x.r) := by simp [World.cell?, hy4]
    clear hx4 hy4
    go_upto_region 12 with fail
    go_region_held3 (fun w' => w'.cell? ⟨w2.heap.size, 0, none⟩ = some (.string x.k) ∧ w'.cell? ⟨w2.heap.size, 1, none⟩ = some (.string x.v) ∧ w'.cell? ⟨w2.heap.size, 2, none⟩ = some (.int .u64 x.r) ∧ w'.cell? ⟨w0.heap.size, 0, none⟩ = some (.string x.v) ∧ w'.cell? ⟨w0.heap.size, 1, none⟩ = some (.int .u64 x.r))
      (first | go_keep | exact ⟨bcell hb5 t0, bcell hb5 t1, bcell hb5 t2, bcell hb5 t3, bcell hb5 t4⟩ | exact ⟨bcell hb6 (bcell hb5 t0), bcell hb6 (bcell hb5 t1), bcell hb6 (bcell hb5 t2), bcell hb6 (bcell hb5 t3), bcell hb6 (bcell hb5 t4)⟩)
      (first
        | (go_at_call 42; refine (itemKey' x _).mono ?_; rintro e w5 ⟨rfl, hb5⟩)
        | (go_at_call 43; refine (itemEntry' x _).mono ?_; rintro e w6 ⟨rfl, hb6⟩))
    go_wp2_with fail
    have hb45 : Below w4.heap.size w4 w5 := ⟨hb5.os, hb5.tape, hb5.output, hb5.size, hb5.block⟩
    have hs5 : w4.heap.size ≤ w5.heap.size := hb5.size
    exact bodyPost_ret (v := .tuple #[.pointer (some ⟨nb, 0, none⟩), kv', ev', .bool true]) (by simp [results, Try.results23, go_sem]) rfl ⟨nb, kv', ev', rfl, HR.out nb kv' ev' w4 _ HR4.out (hb45.trans (hb6.mono hs5))⟩
end Go.Proofs.Qxb6601392a.Bt
