import Derived.Test.Qxb6601392aLawA
namespace Go.Proofs.Qxb6601392a.Bt
open Go.RowKit

theorem below_drew {B : Nat} {a w : World} (h : Below B a w) : Below B a w.drew := h.trans ⟨rfl, rfl, rfl, Nat.le_refl _, fun _ _ => rfl⟩
set_option maxRecDepth 100000 in
set_option maxHeartbeats 2000000 in
theorem build_any {w : World} {A : Option Addr} {cap b off o B : Nat} {xs : List It} (h : OpsAt w A cap b off xs) (hs : Short xs) (hlen : xs.length ≤ 4096) (hB : B ≤ w.heap.size) (ho : OwnerAt w o) (hbB : ∀ x ∈ xs, b < B) :
    Calls Try.prog 17 #[.slice A xs.length cap, .pointer (some ⟨o, 0, none⟩)] w fun e w' => ∃ rv kv ev, e = .returned (.tuple #[rv, kv, ev]) ∧ Loop w w' o B xs.length rv kv ev := by
  have HO := hide' h
  have HS := hide' hs
  have HOW := hide' ho
  have HBB := hide' hbB
  have HB := hide' hB
  have hlen' : (xs.length : Int) ≤ 4096 := by omega
  clear h hs ho hbB hB
  go_enter Try.func17, Try.ntmps17
  go_wp2_with (go_at_call 13; refine (newNode_any _ _ _ _ _ _ _ _ 0).mono ?_; rintro e w3 ⟨rfl, hw3⟩; rw [hw3]; clear hw3 w3)
  go_loopw [7, 8, 9, 10] (fun rv kv ev a w' => ∃ j : Nat, j ≤ xs.length ∧ a = .int .i64 (j : Int) ∧ Loop w w' o B j rv kv ev) (fun rv kv ev a w' => xs.length - (intOf a).toNat)
  case atStart => exact ⟨0, by omega, rfl, 0, _, rfl, root_new w o B HB.out HOW.out, by simp, (Below.refl _ _).alloc HB.out _⟩
  case round =>
    obtain ⟨j, hjl, rfl, d, c, rfl, hSt, hcn, hBr⟩ := hrel
    have HST := hide' hSt
    have HBR := hide' hBr
    clear hSt hBr
    by_cases hlt : j < xs.length
    · have hlt' : (j : Int) < (xs.length : Int) := by omega
      obtain ⟨y, hy⟩ : ∃ y, xs[j]? = some y := ⟨_, List.getElem?_eq_getElem hlt⟩
      have hym := List.mem_of_getElem? hy
      have hbb := HBB.out y hym
      have hOr := HO.out.of_block (HBR.out.block b hbb)
      have c0 := hOr.c0 j y hy
      have c1 := hOr.c1 j y hy
      have c2 := hOr.c2 j y hy
      have x22 := hOr.ix j hlt
      have HYOK := hide' (HS.out.ok HO.out y hym)
      have hbl := cell_lt c0
      clear hy hOr hym
      go_upto_region 7 with fail
      go_cut [11] (fun q wc => q = .pointer (some ⟨wr.heap.size, 0, none⟩) ∧ Below wr.heap.size wr wc ∧ wr.heap.size < wc.heap.size ∧ wc.heap[wr.heap.size]? = some (.cells #[.string y.v, .int .u64 y.r] 64))
      case first =>
        go_region
        all_goals (try go_wp2_with fail)
        all_goals go_meet
        all_goals exact ⟨rfl, below_drew ((Below.refl _ _).alloc (Nat.le_refl _) _), by simp [World.drew], heap_alloc_new _ _⟩
      case rest =>
        obtain ⟨rfl, hbc, hsc, hbx⟩ := hcut
        obtain ⟨w7, rfl⟩ : ∃ w7 : World, w7 = wc := ⟨_, rfl⟩
        have e0 := bcell hbc c0
        have b0 : w7.cell? ⟨wr.heap.size, 0, none⟩ = some (.string y.v) := by simp [World.cell?, hbx]
        have b1 : w7.cell? ⟨wr.heap.size, 1, none⟩ = some (.int .u64 y.r) := by simp [World.cell?, hbx]
        have HPR := hide' (putAtRoot_any (w := w7.drew) ((HST.out.root.below hbc).below (below_drew (Below.refl _ _))) (by omega) y HYOK.out)
        have HBC := hide' hbc
        have HBX := hide' hbx
        have HWC := hide' (cell_lt c0)
        clear c0 c1 c2 hbc hbx
        go_upto_region 8 with fail
        go_cut [7] (fun q wd => ∃ nb d' c', q = .pointer (some ⟨nb, 0, none⟩) ∧ c'.b = nb ∧ Root wd o B d' c' ∧ c'.L = ins y c.L ∧ (∀ z, c'.F z → c.F z ∨ w7.heap.size ≤ z) ∧ Keeps c.F w7 wd)
        case first =>
          go_region_with (go_at_call 33; refine HPR.out.mono ?_; rintro e w5 ⟨nb, gr, hd, rfl, hr1, hr2, d', c', q1, q2, q3, q4, q5⟩; have Q := hide' (And.intro q1 (And.intro q2 (And.intro q3 (And.intro q4 q5)))); clear q1 q2 q3 q4 q5 hr1 hr2)
          all_goals (try go_wp2_with fail)
          all_goals go_meet
          all_goals exact ⟨nb, d', c', rfl, Q.out.1, Q.out.2.1, Q.out.2.2.1, Q.out.2.2.2.1, ((Keeps.refl _ w7).drew).trans Q.out.2.2.2.2⟩
        case rest =>
          obtain ⟨nb, d', c', rfl, rfl, hr, hL', hF', hK'⟩ := hcut
          have hlt0 : ∀ z, c.F z → z < wr.heap.size := HST.out.root.rep.lt d c
          have hml : ∀ z, (u8.ownBlock = some z ∨ u9.ownBlock = some z) → z < wr.heap.size := fun z hz => hz.elim (HST.out.m.k.blk z) (HST.out.m.e.blk z)
          have hszc := HBC.out.size
          have hMd : Model wc u8 u9 c.L := (HST.out.m.on HBC.out).keeps hK' (fun z hz => (HST.out.sep z hz).1)
          have hMd' : Model wc.drew u8 u9 c.L := hMd.on (below_drew (Below.refl _ _))
          have HMP := hide' (modelPut_any hMd' HST.out.root.sorted (by omega) HST.out.root.ok y HYOK.out)
          have kbx : wc.heap[wr.heap.size]? = some (.cells #[.string y.v, .int .u64 y.r] 64) := (hK'.block _ hsc (fun e => by have := hlt0 _ e; omega)).trans HBX.out
          have b0' : wc.cell? ⟨wr.heap.size, 0, none⟩ = some (.string y.v) := by simp [World.cell?, kbx]
          have b1' : wc.cell? ⟨wr.heap.size, 1, none⟩ = some (.int .u64 y.r) := by simp [World.cell?, kbx]
          have e0' : wc.cell? ⟨b, off + j * 3, none⟩ = some (.string y.k) := hK'.cell e0 (fun e => by have := (HST.out.root.rep.FB _ e).1; have h2 : b < B := hbb; exact absurd (show b < b by have h3 : B ≤ b := this; omega) (Nat.lt_irrefl _))
          have HR := hide' hr
          have HL' := hide' hL'
          have HF' := hide' hF'
          have HK' := hide' hK'
          have HLT := hide' hlt0
          have HML := hide' hml
          have HSZC := hide' hszc
          clear hr hL' hF' hK' hMd hMd' kbx hlt0 hml b0 b1 e0
          go_upto_region 9 with fail
          go_region_with (go_at_call 34; refine HMP.out.mono ?_; rintro e w5 ⟨kv', ev', rfl, q1, q2, q3⟩; have Q := hide' (And.intro q1 (And.intro q2 q3)); clear q1 q2 q3)
          all_goals (try go_wp2_with fail)
          all_goals
            go_roundw
            case rel =>
              obtain ⟨q1, q2, q3⟩ := Q.out
              have q2' : Keeps (fun k => u8.ownBlock = some k ∨ u9.ownBlock = some k) wc w5 := ((Keeps.refl _ wc).drew).trans q2
              have hsepF : ∀ z, c'.F z → ¬ (u8.ownBlock = some z ∨ u9.ownBlock = some z) := fun z hz e => by
                rcases HF'.out z hz with h1 | h1
                · exact (HST.out.sep z e).1 h1
                · have := HML.out z e; have := HSZC.out; omega
              have hBw : B ≤ wr.heap.size := HST.out.root.hB
              have hol : o < wr.heap.size := (Array.getElem?_eq_some_iff.1 HST.out.root.ho).1
              have hsd := HK'.out.size
              have hsc' := HSZC.out
              have hll : c'.L.length ≤ j + 1 := by rw [HL'.out]; have := (ins_len y c.L).2; omega
              refine ⟨j + 1, by omega, by go_num, d', c', rfl, ⟨HR.out.keeps q2' (fun z hz => (HST.out.sep z hz).2) hsepF, by rw [HL'.out]; exact q1, fun z hz => ?_⟩, hll, ?_⟩
              · rcases q3 z hz with h1 | h1
                · exact ⟨fun e => hsepF z e h1, (HST.out.sep z h1).2⟩
                · have h1 : wc.heap.size ≤ z := h1
                  exact ⟨fun e => by have := HR.out.rep.lt _ _ z e; omega, by omega, by omega⟩
              · exact HBR.out.trans ((HBC.out.mono hBw).trans ((HK'.out.below (fun z hz => (HST.out.root.rep.FB z hz).1) (by omega)).trans (q2'.below (fun z hz => (HST.out.sep z hz).2.1) (by omega))))
            case measure => simp [intOf]; omega
    · obtain rfl : j = xs.length := by omega
      have hd : decide ((xs.length : Int) < (xs.length : Int)) = false := by simp
      go_wp2_with fail
      exact bodyPost_ret (v := .tuple #[.pointer (some ⟨c.b, 0, none⟩), u8, u9]) (by simp [results, Try.results17, go_sem]) rfl ⟨_, _, _, rfl, d, c, rfl, HST.out, hcn, HBR.out⟩
end Go.Proofs.Qxb6601392a.Bt
