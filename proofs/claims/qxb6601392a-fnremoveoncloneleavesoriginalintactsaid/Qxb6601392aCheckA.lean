import Derived.Test.Qxb6601392aModelB
import Derived.Test.Qxb6601392aRep
namespace Go.Proofs.Qxb6601392a.Bt
open Go.RowKit

theorem less_true (a b : ByteArray) (ha : a.size ≤ 1048576) (hb : b.size ≤ 1048576) (h : klt a.data.toList b.data.toList = true) (w : World) :
    Calls Try.prog 48 #[.string a, .string b] w fun e w' => e = .returned (.bool true) ∧ ∃ n, w' = w.drewN n := by
  have := less_any a b ha hb w
  rw [h] at this
  exact this
theorem itemKey' (x : It) (w : World) : Calls Try.prog 42 #[.agg #[.string x.k, .string x.v, .int .u64 x.r]] w fun e w' => e = .returned (.string x.k) ∧ Below w.heap.size w w' := itemKey_any x w
theorem itemEntry' (x : It) (w : World) : Calls Try.prog 43 #[.agg #[.string x.k, .string x.v, .int .u64 x.r]] w fun e w' => e = .returned (.agg #[.string x.v, .int .u64 x.r]) ∧ Below w.heap.size w w' := itemEntry_any x w
theorem OwnI.cell {w : World} {g n cap : Nat} {L : List It} (h : OwnI w (.slice (some ⟨g, 0, none⟩) n cap) L) {k : Nat} {x : It} (hx : L[k]? = some x) : w.cell? ⟨g, k * 3, none⟩ = some (.string x.k) ∧ w.cell? ⟨g, k * 3 + 1, none⟩ = some (.string x.v) ∧ w.cell? ⟨g, k * 3 + 2, none⟩ = some (.int .u64 x.r) := by
  obtain ⟨g', c', hv, h1, h2, h3, _⟩ := h.at hx
  cases hv
  exact ⟨h1, h2, h3⟩
theorem below_cell {w w' : World} (h : Below w.heap.size w w') {a : Addr} {v : Value} (hc : w.cell? a = some v) : w'.cell? a = some v := bcell h hc

def loK (lo : ByteArray) (I : List It) : Nat → ByteArray
  | 0 => lo
  | c + 1 => (I[c]?.map It.k).getD lo
def hiK (hi : ByteArray) (I : List It) (c : Nat) : ByteArray := (I[c]?.map It.k).getD hi

set_option maxRecDepth 100000 in
set_option maxHeartbeats 4000000 in
theorem check_raw {w : World} {b ow p : Nat} {iv cv : Value} {I : List It} {bs : List Nat} (hN : NodeAt w b ow iv cv p) (hI : OwnI w iv I) (hC : OwnC w cv bs) (hbs : bs = [] ∨ bs.length = I.length + 1) (h63 : I.length ≤ 63)
    (isRoot : Bool) (hroot : isRoot = true ∨ 31 ≤ I.length) (hs : Sorted I) (hok : ∀ y ∈ I, y.ok) (lo hi : ByteArray) (hasLo hasHi : Bool) (hlo : lo.size ≤ 1048576) (hhi : hi.size ≤ 1048576)
    (hL : hasLo = true → ∀ y ∈ I, klt lo.data.toList y.k.data.toList = true) (hH : hasHi = true → ∀ y ∈ I, klt y.k.data.toList hi.data.toList = true) (ps : List Nat) (hps : ps.length = bs.length) (h : Nat) (hh : h ≤ 1000000000) (hp : p = I.length + ps.sum) (hpl : p ≤ 1000000000) (ht : Int) (hht : ht = if bs = [] then 1 else (h : Int) + 1)
    (hrec : ∀ c kb q : Nat, bs[c]? = some kb → ps[c]? = some q → ∀ w1, Below w.heap.size w w1 → Calls Try.prog 35 #[.pointer (some ⟨kb, 0, none⟩), .bool false, .string (loK lo I c), .bool (hasLo || decide (0 < c)), .string (hiK hi I c), .bool (hasHi || decide (c < I.length))] w1 fun e w2 => e = .returned (.tuple #[.bool true, .int .i64 (h : Int), .int .i64 (q : Int)]) ∧ Below w1.heap.size w1 w2) :
    Calls Try.prog 35 #[.pointer (some ⟨b, 0, none⟩), .bool isRoot, .string lo, .bool hasLo, .string hi, .bool hasHi] w fun e w' => e = .returned (.tuple #[.bool true, .int .i64 ht, .int .i64 (p : Int)]) ∧ Below w.heap.size w w' := by
  obtain ⟨Ai, ci, rfl, hci, hcim⟩ := hI.form
  obtain ⟨Ac, cc, rfl, hcc, hccm⟩ := hC.form
  have HN := hide' hN
  have HI := hide' hI
  have HC := hide' hC
  have HBS := hide' hbs
  have HROOT := hide' hroot
  have HS := hide' hs
  have HOK := hide' hok
  have HL := hide' hL
  have HH := hide' hH
  have HPS := hide' hps
  have HP := hide' hp
  have HHT := hide' hht
  have HREC := hide' hrec
  have h63' : (I.length : Int) ≤ 63 := by omega
  have hbl' : (bs.length : Int) ≤ 64 := by
    rcases hbs with e | e
    · rw [e]; simp
    · omega
  have hh' : (h : Int) ≤ 1000000000 := by omega
  have hpl' : (p : Int) ≤ 1000000000 := by omega
  clear hN hI hC hbs hroot hs hok hL hH hps hp hht hrec
  go_enter Try.func35, Try.ntmps35
  go_upto_region 7 with (first | (go_at_call 39; refine (items_any (by exact HN.out)).mono ?_; rintro e w' ⟨rfl, hw⟩; rw [hw]; clear hw w') | (go_at_call 40; refine (children_any (by exact HN.out)).mono ?_; rintro e w' ⟨rfl, hw⟩; rw [hw]; clear hw w'))
  go_cut [44] (fun t wc => t = .bool false ∧ wc = w)
  case first =>
    cases isRoot with
    | true =>
      go_wp2_with fail
      go_meet
      case rel => exact ⟨rfl, rfl⟩
    | false =>
      have h31 : (31 : Int) ≤ (I.length : Int) := by
        rcases HROOT.out with e | e
        · cases e
        · omega
      have h31d : decide ((I.length : Int) < 31) = false := decide_eq_false (by omega)
      go_wp2_with fail
      go_meet
      case rel => exact ⟨rfl, rfl⟩
  case rest =>
    obtain ⟨rfl, hwc⟩ := hcut
    rw [hwc]
    clear hwc wc
    go_upto_region 9 with fail
    go_cut [55] (fun t wd => t = .bool false ∧ wd = w)
    case first =>
      rcases HBS.out with e | e
      · have e' : bs.length = 0 := by rw [e]; rfl
        have e0 : ((bs.length : Int) != 0) = false := by rw [e']; rfl
        clear e e'
        go_wp2_with fail
        go_meet
        case rel => exact ⟨rfl, rfl⟩
      · have e0 : ((bs.length : Int) != 0) = true := by rw [bne_iff_ne]; omega
        have e1 : ((bs.length : Int) != (I.length : Int) + 1) = false := by rw [e]; simp
        clear e
        go_wp2_with fail
        go_meet
        case rel => exact ⟨rfl, rfl⟩
    case rest =>
      obtain ⟨rfl, hwc⟩ := hcut
      rw [hwc]
      clear hwc wc
      go_upto_block 0 with fail
      go_cut [17, 18, 19] (fun t j k we => t = .int .i64 (I.length : Int) ∧ Below w.heap.size w we)
      case first =>
        go_wp2_with fail
        go_loopw [17, 18, 19] (fun t a k w' => ∃ j : Nat, j ≤ I.length ∧ t = .int .i64 (j : Int) ∧ a = .int .i64 (j : Int) ∧ Below w.heap.size w w') (fun t a k w' => I.length - (intOf a).toNat)
        case atStart => exact ⟨0, by omega, rfl, rfl, Below.refl _ _⟩
        case round =>
          obtain ⟨j, hjl, rfl, rfl, hB⟩ := hrel
          by_cases hlt : j < I.length
          · have hlt' : (j : Int) < (I.length : Int) := by omega
            obtain ⟨y, hy⟩ : ∃ y, I[j]? = some y := ⟨_, List.getElem?_eq_getElem hlt⟩
            obtain ⟨g, c', hv', k0, k1, k2, _, _, _⟩ := HI.out.at hy
            injection hv' with hA1 hA3 hA2
            clear hA3
            subst hA1 hA2
            have hym := List.mem_of_getElem? hy
            have hyok := HOK.out y hym
            have hyk := hyok.k
            have hyv := hyok.v
            have x59 := fun W => idx59 g I.length ci j hlt W
            have f64 : ∀ W, (Instr.field 64 (.agg #[.string y.v, .int .u64 y.r]) 0).run Try.prog W = .ok (.string y.v) W := fun W => by rfl
            have HY := hide' hy
            have HYM := hide' hym
            have c0 := bcell hB k0
            have c1 := bcell hB k1
            have c2 := bcell hB k2
            clear hy hym hyok
            go_upto_region 16 with (go_at_call 42; refine (itemKey' y _).mono ?_; rintro e w2 ⟨rfl, hb⟩; have hB2 := hB.trans (hb.mono hB.size))
            go_cut [79] (fun t wf => t = .bool false ∧ Below w.heap.size w wf)
            case first =>
              clear c0 c1 c2
              by_cases hj0 : 0 < j
              · obtain ⟨i, rfl⟩ : ∃ i, j = i + 1 := ⟨j - 1, by omega⟩
                obtain ⟨z, hz⟩ : ∃ z, I[i]? = some z := ⟨_, List.getElem?_eq_getElem (by omega)⟩
                obtain ⟨q0, q1, q2⟩ := HI.out.cell hz
                have hzk := (HOK.out z (List.mem_of_getElem? hz)).k
                have HZ := hide' (less_true z.k y.k hzk hyk (HS.out.get hz HY.out (by omega)))
                have c0 := bcell hB2 q0
                have c1 := bcell hB2 q1
                have c2 := bcell hB2 q2
                have hj0' : (0 : Int) < (i : Int) + 1 := by omega
                have hw1 : IntKind.i64.wrap ((i : Int) + 1 - 1) = (i : Int) := by rw [IntKind.wrap_i64]; omega
                have x59' := fun W => idx59 g I.length ci i (by omega) W
                clear hz q0 q1 q2 k0 k1 k2
                simp only [Int.natCast_add, Int.natCast_one]
                go_wp2_with (first | (go_at_call 42; refine (itemKey' z _).mono ?_; rintro e w3 ⟨rfl, hb3⟩; have hB3 := hB2.trans (hb3.mono hB2.size)) | (go_at_call 48; refine (HZ.out _).mono ?_; rintro e w4 ⟨rfl, n4, hw4⟩; rw [hw4]; clear hw4 w4))
                go_meet
                case rel => exact ⟨rfl, below_drewN hB3 _⟩
              · have hj0' : decide ((0 : Int) < (j : Int)) = false := decide_eq_false (by omega)
                go_wp2_with fail
                go_meet
                case rel => exact ⟨rfl, hB2⟩
            case rest =>
              obtain ⟨rfl, hB3⟩ := hcut
              clear c0 c1 c2 hB hB2 hb
              go_upto_region 18 with fail
              go_cut [86] (fun t wg => t = .bool false ∧ Below w.heap.size w wg)
              case first =>
                cases hasLo with
                | false =>
                  go_wp2_with fail
                  go_meet
                  case rel => exact ⟨rfl, hB3⟩
                | true =>
                  have HZ := hide' (less_true lo y.k hlo hyk (HL.out rfl y HYM.out))
                  go_wp2_with (go_at_call 48; refine (HZ.out _).mono ?_; rintro e w4 ⟨rfl, n4, hw4⟩; rw [hw4]; clear hw4 w4)
                  go_meet
                  case rel => exact ⟨rfl, below_drewN hB3 _⟩
              case rest =>
                obtain ⟨rfl, hB4⟩ := hcut
                clear hB3
                go_upto_region 20 with fail
                go_cut [93] (fun t wh => t = .bool false ∧ Below w.heap.size w wh)
                case first =>
                  cases hasHi with
                  | false =>
                    go_wp2_with fail
                    go_meet
                    case rel => exact ⟨rfl, hB4⟩
                  | true =>
                    have HZ := hide' (less_true y.k hi hyk hhi (HH.out rfl y HYM.out))
                    go_wp2_with (go_at_call 48; refine (HZ.out _).mono ?_; rintro e w4 ⟨rfl, n4, hw4⟩; rw [hw4]; clear hw4 w4)
                    go_meet
                    case rel => exact ⟨rfl, below_drewN hB4 _⟩
                case rest =>
                  obtain ⟨rfl, hB5⟩ := hcut
                  clear hB4
                  have c0 := bcell hB5 k0
                  have c1 := bcell hB5 k1
                  have c2 := bcell hB5 k2
                  go_wp2_with (first | (go_at_call 43; refine (itemEntry' y _).mono ?_; rintro e w6 ⟨rfl, hb6⟩) | (go_at_call 32; refine (zzPieces_one y.v hyv _).mono ?_; rintro e w7 ⟨rfl, hw7⟩; rw [hw7]; clear hw7 w7))
                  go_roundw
                  case rel => exact ⟨j + 1, by omega, by go_num, by go_num, hB5.trans (hb6.mono hB5.size)⟩
                  case measure => simp [intOf]; omega
          · obtain rfl : j = I.length := by omega
            go_wp2_with fail
            go_meet
            case rel => exact ⟨rfl, hB⟩
      case rest =>
        obtain ⟨rfl, hB⟩ := hcut
        go_wp2_with fail
        go_loopw [17, 20, 21] (fun t hg a w' => ∃ c T : Nat, c ≤ bs.length ∧ T = I.length + (ps.take c).sum ∧ t = .int .i64 (T : Int) ∧ ((c = 0 ∧ hg = .int .i64 1) ∨ (0 < c ∧ hg = .int .i64 ((h : Int) + 1))) ∧ a = .int .i64 (c : Int) ∧ Below w.heap.size w w') (fun t hg a w' => bs.length - (intOf a).toNat)
        case atStart => exact ⟨0, I.length, by omega, by simp, rfl, .inl ⟨rfl, rfl⟩, rfl, hB⟩
        case round =>
          clear hB
          obtain ⟨c, T, hcl, hT, rfl, hhg, rfl, hB⟩ := hrel
          have hTp : (ps.take c).sum ≤ ps.sum := by
            have := congrArg List.sum (List.take_append_drop c ps)
            rw [List.sum_append] at this
            omega
          have hT1 : (T : Int) ≤ 1000000000 := by have := HP.out; omega
          have HT := hide' hT
          clear hT hTp
          by_cases hlt : c < bs.length
          · have hlt' : (c : Int) < (bs.length : Int) := by omega
            obtain ⟨kb, hkb⟩ : ∃ kb, bs[c]? = some kb := ⟨_, List.getElem?_eq_getElem hlt⟩
            obtain ⟨q, hq⟩ : ∃ q, ps[c]? = some q := ⟨_, List.getElem?_eq_getElem (by have := HPS.out; omega)⟩
            have hbI : bs.length = I.length + 1 := by
              rcases HBS.out with e | e
              · rw [e] at hlt; simp at hlt
              · exact e
            have hTq : T + q ≤ 1000000000 := by
              have h1 := HP.out
              have h2 := HT.out
              have h3 : (ps.take (c + 1)).sum ≤ ps.sum := by
                have := congrArg List.sum (List.take_append_drop (c + 1) ps)
                rw [List.sum_append] at this
                omega
              rw [List.take_add_one, hq] at h3
              simp at h3
              omega
            have hTq' : (T : Int) + (q : Int) ≤ 1000000000 := by omega
            obtain ⟨gc, c', hv', m0, _, _, _⟩ := HC.out.at hkb
            injection hv' with hA1 hA3 hA2
            clear hA3
            subst hA1 hA2
            have x60 := fun W => idx60 gc bs.length cc c hlt W
            obtain ⟨lo1, hlo1⟩ : ∃ x, x = loK lo I c := ⟨_, rfl⟩
            obtain ⟨hl1, hhl1⟩ : ∃ x, x = (hasLo || decide (0 < c)) := ⟨_, rfl⟩
            obtain ⟨hi1, hhi1⟩ : ∃ x, x = hiK hi I c := ⟨_, rfl⟩
            obtain ⟨hh1, hhh1⟩ : ∃ x, x = (hasHi || decide (c < I.length)) := ⟨_, rfl⟩
            have hR := HREC.out c kb q hkb hq
            rw [← hlo1, ← hhl1, ← hhi1, ← hhh1] at hR
            have HR := hide' hR
            have HLO1 := hide' hlo1
            have HHL1 := hide' hhl1
            have HHI1 := hide' hhi1
            have HHH1 := hide' hhh1
            have HTS : Hid (T + q = I.length + (ps.take (c + 1)).sum) := by
              show _ = _
              rw [List.take_add_one, hq, HT.out]; simp; omega
            have HBI := hide' hbI
            have HHG := hide' hhg
            clear hR hlo1 hhl1 hhi1 hhh1 hkb hq hbI hhg
            go_upto_if 112 with fail
            go_cut [22, 23] (fun a b wf => a = .string lo1 ∧ b = .bool hl1 ∧ Below w.heap.size w wf)
            case first =>
              by_cases hc0 : 0 < c
              · obtain ⟨i, rfl⟩ : ∃ i, c = i + 1 := ⟨c - 1, by omega⟩
                have hiI : i < I.length := by have := HBI.out; omega
                obtain ⟨z, hz⟩ : ∃ z, I[i]? = some z := ⟨_, List.getElem?_eq_getElem hiI⟩
                obtain ⟨g, c'', hv', q0, q1, q2, _, _, _⟩ := HI.out.at hz
                injection hv' with hA1 hA3 hA2
                clear hA3
                subst hA1 hA2
                have e1 : Hid (lo1 = z.k) := by show _ = _; rw [HLO1.out]; simp [loK, hz]
                have e2 : Hid (hl1 = true) := by show _ = _; rw [HHL1.out]; simp
                have c0 := bcell hB q0
                have c1 := bcell hB q1
                have c2 := bcell hB q2
                have hj0' : (0 : Int) < (i : Int) + 1 := by omega
                have hw1 : IntKind.i64.wrap ((i : Int) + 1 - 1) = (i : Int) := by rw [IntKind.wrap_i64]; omega
                have hil' : (i : Int) < (I.length : Int) := by omega
                have x59' := fun W => idx59 g I.length ci i hiI W
                clear hz q0 q1 q2
                simp only [Int.natCast_add, Int.natCast_one]
                go_wp2_with (go_at_call 42; refine (itemKey' z _).mono ?_; rintro e w3 ⟨rfl, hb3⟩; have hB3 := hB.trans (hb3.mono hB.size))
                go_meet
                case rel => exact ⟨by rw [e1.out], by rw [e2.out], hB3⟩
              · have hj0' : decide ((0 : Int) < (c : Int)) = false := decide_eq_false (by omega)
                have e1 : Hid (lo1 = lo) := by
                  show _ = _; rw [HLO1.out]; obtain rfl : c = 0 := by omega
                  rfl
                have e2 : Hid (hl1 = hasLo) := by show _ = _; rw [HHL1.out]; simp; omega
                go_wp2_with fail
                go_meet
                case rel => exact ⟨by rw [e1.out], by rw [e2.out], hB⟩
            case rest =>
              obtain ⟨rfl, rfl, hB2⟩ := hcut
              clear hB
              go_upto_if 124 with fail
              go_cut [24, 25] (fun a b wg => a = .string hi1 ∧ b = .bool hh1 ∧ Below w.heap.size w wg)
              case first =>
                by_cases hcI : c < I.length
                · obtain ⟨z, hz⟩ : ∃ z, I[c]? = some z := ⟨_, List.getElem?_eq_getElem hcI⟩
                  obtain ⟨g, c'', hv', q0, q1, q2, _, _, _⟩ := HI.out.at hz
                  injection hv' with hA1 hA3 hA2
                  clear hA3
                  subst hA1 hA2
                  have e1 : Hid (hi1 = z.k) := by show _ = _; rw [HHI1.out]; simp [hiK, hz]
                  have e2 : Hid (hh1 = true) := by show _ = _; rw [HHH1.out]; simp [hcI]
                  have c0 := bcell hB2 q0
                  have c1 := bcell hB2 q1
                  have c2 := bcell hB2 q2
                  have hcI' : (c : Int) < (I.length : Int) := by omega
                  have x59' := fun W => idx59 g I.length ci c hcI W
                  clear hz q0 q1 q2
                  go_wp2_with (go_at_call 42; refine (itemKey' z _).mono ?_; rintro e w3 ⟨rfl, hb3⟩; have hB3 := hB2.trans (hb3.mono hB2.size))
                  go_meet
                  case rel => exact ⟨by rw [e1.out], by rw [e2.out], hB3⟩
                · have hj0' : decide ((c : Int) < (I.length : Int)) = false := decide_eq_false (by omega)
                  have e1 : Hid (hi1 = hi) := by
                    show _ = _; rw [HHI1.out]; unfold hiK; rw [List.getElem?_eq_none (by omega)]; rfl
                  have e2 : Hid (hh1 = hasHi) := by show _ = _; rw [HHH1.out]; simp; omega
                  go_wp2_with fail
                  go_meet
                  case rel => exact ⟨by rw [e1.out], by rw [e2.out], hB2⟩
              case rest =>
                obtain ⟨rfl, rfl, hB3⟩ := hcut
                clear hB2
                have m0' := bcell hB3 m0
                rcases HHG.out with ⟨h0, rfl⟩ | ⟨h0, rfl⟩
                · have h0' : ((c : Int) == 0) = true := by rw [h0]; rfl
                  clear h0
                  go_wp2_with (go_at_call 35; refine (HR.out _ hB3).mono ?_; rintro e w5 ⟨rfl, hb5⟩)
                  go_roundw
                  case rel => exact ⟨c + 1, T + q, by omega, HTS.out, by go_num, .inr ⟨by omega, by go_num⟩, by go_num, hB3.trans (hb5.mono hB3.size)⟩
                  case measure => simp [intOf]; omega
                · have h0' : ((c : Int) == 0) = false := by rw [beq_eq_false_iff_ne]; omega
                  go_wp2_with (go_at_call 35; refine (HR.out _ hB3).mono ?_; rintro e w5 ⟨rfl, hb5⟩)
                  go_roundw
                  case rel => exact ⟨c + 1, T + q, by omega, HTS.out, by go_num, .inr ⟨by omega, by go_num⟩, by go_num, hB3.trans (hb5.mono hB3.size)⟩
                  case measure => simp [intOf]; omega
          · obtain rfl : c = bs.length := by omega
            have hTp : T = p := by
              have h1 := HP.out
              have h2 := HT.out
              rw [List.take_of_length_le (by have := HPS.out; omega)] at h2
              omega
            have HNB := hide' (piecesOf_any (HN.out.of_block (hB.block b HN.out.lt)))
            subst hTp
            have hd : decide ((bs.length : Int) < (bs.length : Int)) = false := by simp
            rcases hhg with ⟨h0, rfl⟩ | ⟨h0, rfl⟩
            · obtain rfl : ht = 1 := by rw [HHT.out, if_pos (List.length_eq_zero_iff.1 h0)]
              clear h0
              go_wp2_with (go_at_call 46; refine HNB.out.mono ?_; rintro e w5 ⟨rfl, hw5⟩; rw [hw5]; clear hw5 w5)
              exact bodyPost_ret (v := .tuple #[.bool true, .int .i64 1, .int .i64 (T : Int)]) (by simp [results, Try.results35, go_sem]) rfl ⟨rfl, hB⟩
            · obtain rfl : ht = (h : Int) + 1 := by rw [HHT.out, if_neg (fun e => by rw [e] at h0; simp at h0)]
              clear h0
              go_wp2_with (go_at_call 46; refine HNB.out.mono ?_; rintro e w5 ⟨rfl, hw5⟩; rw [hw5]; clear hw5 w5)
              exact bodyPost_ret (v := .tuple #[.bool true, .int .i64 ((h : Int) + 1), .int .i64 (T : Int)]) (by simp [results, Try.results35, go_sem]) rfl ⟨rfl, hB⟩
end Go.Proofs.Qxb6601392a.Bt
