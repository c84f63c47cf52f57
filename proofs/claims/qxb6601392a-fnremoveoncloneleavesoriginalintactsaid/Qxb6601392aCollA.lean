import Derived.Test.Qxb6601392aCheckA
import Derived.Test.Qxb6601392aSplitB
namespace Go.Proofs.Qxb6601392a.Bt
open Go.RowKit

theorem Own.form' {e : TypeId} {z n : Nat} {w : World} {v : Value} {xs : List Value} (h : Own e z w v n xs) : ∃ A m cap, v = .slice A m cap := by
  obtain ⟨A, c, h, _, _⟩ := h.form
  exact ⟨A, n, c, h⟩
theorem key_append {W : World} {A : Option Addr} {n cap : Nat} {M : List It} (h : OwnK W (.slice A n cap) M) (hn : M.length ≤ 500000) (y : It) :
    ∃ A1 c1 wA, (Builtin.append_ #[30, 30] 30 #[.slice A n cap, .slice (some ⟨W.heap.size, 0, none⟩) 1 1]).run Try.prog (W.alloc (.cells #[.string y.k] 9)) = .ok (.slice A1 (n + 1) c1) wA ∧ OwnK wA (.slice A1 (n + 1) c1) (M ++ [y]) ∧
      Keeps (fun k => (Value.slice A n cap).ownBlock = some k) W wA ∧ ∀ k, (Value.slice A1 (n + 1) c1).ownBlock = some k → (Value.slice A n cap).ownBlock = some k ∨ W.heap.size ≤ k := by
  obtain ⟨A', c', hv, _, _⟩ := h.form
  cases hv
  obtain ⟨v1, wA, hA1, rA, kA, bA⟩ := append_own T30 (W.alloc (.cells #[.string y.k] 9)) (h.of_block (fun k hk => Below.heap_alloc _ _ _ (h.blk k hk))) ⟨W.heap.size, 0, none⟩ 1 1 [.string y.k] rfl (fun j u hu => by
    cases j with
    | zero => simp at hu; subst hu; exact cell_new _ _ _ 0
    | succ j => simp at hu) (by simp; rfl) (by omega) 30
  obtain ⟨A1, c1, rfl, _, _⟩ := rA.form
  refine ⟨A1, c1, wA, hA1, ?_, ((Keeps.refl _ W).alloc _).trans kA, fun k hk => ?_⟩
  · unfold OwnK; rw [kcells_append, List.length_append]; exact rA
  · rcases bA with e | e
    · exact .inl (e ▸ hk)
    · rw [hk] at e; injection e with e; simp at e; exact .inr (by omega)
theorem ent_append {W : World} {A : Option Addr} {n cap : Nat} {M : List It} (h : OwnE W (.slice A n cap) M) (hn : M.length ≤ 500000) (y : It) :
    ∃ A1 c1 wA, (Builtin.append_ #[31, 31] 31 #[.slice A n cap, .slice (some ⟨W.heap.size, 0, none⟩) 1 1]).run Try.prog (W.alloc (.cells #[.string y.v, .int .u64 y.r] 64)) = .ok (.slice A1 (n + 1) c1) wA ∧ OwnE wA (.slice A1 (n + 1) c1) (M ++ [y]) ∧
      Keeps (fun k => (Value.slice A n cap).ownBlock = some k) W wA ∧ ∀ k, (Value.slice A1 (n + 1) c1).ownBlock = some k → (Value.slice A n cap).ownBlock = some k ∨ W.heap.size ≤ k := by
  obtain ⟨A', c', hv, _, _⟩ := h.form
  cases hv
  obtain ⟨v1, wA, hA1, rA, kA, bA⟩ := append_own T31 (W.alloc (.cells #[.string y.v, .int .u64 y.r] 64)) (h.of_block (fun k hk => Below.heap_alloc _ _ _ (h.blk k hk))) ⟨W.heap.size, 0, none⟩ 1 1 [.string y.v, .int .u64 y.r] rfl (fun j u hu => by
    rcases j with _ | _ | j
    · simp at hu; subst hu; exact cell_new _ _ _ 0
    · simp at hu; subst hu; exact cell_new _ _ _ 1
    · simp at hu) (by simp; exact ⟨rfl, rfl⟩) (by omega) 31
  obtain ⟨A1, c1, rfl, _, _⟩ := rA.form
  refine ⟨A1, c1, wA, hA1, ?_, ((Keeps.refl _ W).alloc _).trans kA, fun k hk => ?_⟩
  · unfold OwnE; rw [ecells_append, List.length_append]; exact rA
  · rcases bA with e | e
    · exact .inl (e ▸ hk)
    · rw [hk] at e; injection e with e; simp at e; exact .inr (by omega)

/-- the model that is being gathered: its slices lie beyond N; below N all is as it was -/
structure Gath (N : Nat) (w0 w : World) (kv ev : Value) (M : List It) : Prop where
  b : Below N w0 w
  sz : N ≤ w.heap.size
  m : Model w kv ev M
  kN : ∀ k, kv.ownBlock = some k → N ≤ k
  eN : ∀ k, ev.ownBlock = some k → N ≤ k
theorem Gath.on {N : Nat} {w0 w w' : World} {kv ev : Value} {M : List It} (h : Gath N w0 w kv ev M) (hb : Below w.heap.size w w') : Gath N w0 w' kv ev M :=
  ⟨h.b.trans (hb.mono h.sz), Nat.le_trans h.sz hb.size, h.m.of_block (fun b hb' => hb.block b (hb'.elim (h.m.k.blk b) (h.m.e.blk b))), h.kN, h.eN⟩

theorem gath_push {N : Nat} {w0 W : World} {A1 A2 : Option Addr} {n1 c1 n2 c2 : Nat} {X : List It} (h : Gath N w0 W (.slice A1 n1 c1) (.slice A2 n2 c2) X) (hn : X.length ≤ 500000) (y : It) :
    ∃ A3 c3 wA, (Builtin.append_ #[30, 30] 30 #[.slice A1 n1 c1, .slice (some ⟨W.heap.size, 0, none⟩) 1 1]).run Try.prog (W.alloc (.cells #[.string y.k] 9)) = .ok (.slice A3 (n1 + 1) c3) wA ∧ Below N w0 wA ∧
      ∀ w6, Below wA.heap.size wA w6 → ∃ A4 c4 wB, (Builtin.append_ #[31, 31] 31 #[.slice A2 n2 c2, .slice (some ⟨w6.heap.size, 0, none⟩) 1 1]).run Try.prog (w6.alloc (.cells #[.string y.v, .int .u64 y.r] 64)) = .ok (.slice A4 (n2 + 1) c4) wB ∧
        Gath N w0 wB (.slice A3 (n1 + 1) c3) (.slice A4 (n2 + 1) c4) (X ++ [y]) := by
  obtain ⟨A3, c3, wA, hA1, rA, kA, oA⟩ := key_append h.m.k hn y
  have hsz := h.sz
  have hsA := kA.size
  have hbA : Below N w0 wA := h.b.trans (kA.below h.kN h.sz)
  refine ⟨A3, c3, wA, hA1, hbA, fun w6 hb6 => ?_⟩
  have hs6 := hb6.size
  have hE6 : OwnE w6 (.slice A2 n2 c2) X := h.m.e.of_block (fun k hk => (hb6.block k (by have := h.m.e.blk k hk; omega)).trans (kA.block k (h.m.e.blk k hk) (fun e => h.m.d k e hk)))
  have hK6 : OwnK w6 (.slice A3 (n1 + 1) c3) (X ++ [y]) := rA.of_block (fun k hk => hb6.block k (rA.blk k hk))
  obtain ⟨A4, c4, wB, hA2, rB, kB, oB⟩ := ent_append hE6 hn y
  have hb6' : Below N w0 w6 := hbA.trans (hb6.mono (by omega))
  have hsB := kB.size
  have hdis : ∀ k, (Value.slice A3 (n1 + 1) c3).ownBlock = some k → (Value.slice A2 n2 c2).ownBlock ≠ some k := fun k hk hk' => by
    rcases oA k hk with h1 | h1
    · exact h.m.d k h1 hk'
    · have := h.m.e.blk k hk'; omega
  refine ⟨A4, c4, wB, hA2, hb6'.trans (kB.below h.eN (by omega)), by omega, ⟨hK6.of_block (fun k hk => kB.block k (hK6.blk k hk) (hdis k hk)), rB, fun k hk hk' => ?_⟩, fun k hk => ?_, fun k hk => ?_⟩
  · rcases oB k hk' with h1 | h1
    · exact hdis k hk h1
    · have := hK6.blk k hk; omega
  · rcases oA k hk with h1 | h1
    · exact h.kN k h1
    · omega
  · rcases oB k hk with h1 | h1
    · exact h.eN k h1
    · omega

/-- what stands before item j -/
def gat (I : List It) (Ls : List (List It)) (j : Nat) : List It := if Ls = [] then I.take j else wpre (Ls.take j) (I.take j)
theorem gat_zero (I : List It) (Ls : List (List It)) : gat I Ls 0 = [] := by unfold gat; split <;> simp [wpre]
theorem gat_succ (I : List It) (Ls : List (List It)) (j : Nat) (y : It) (hy : I[j]? = some y) (hL : Ls = [] ∨ Ls.length = I.length + 1) : gat I Ls (j + 1) = gat I Ls j ++ (Ls[j]?.getD []) ++ [y] := by
  have hjl := (List.getElem?_eq_some_iff.1 hy).1
  unfold gat
  rcases hL with rfl | hL
  · simp [List.take_add_one, hy]
  · have hne : Ls ≠ [] := fun e => by rw [e] at hL; simp at hL
    obtain ⟨K, hK⟩ : ∃ K, Ls[j]? = some K := ⟨_, List.getElem?_eq_getElem (by omega)⟩
    rw [if_neg hne, if_neg hne, List.take_add_one, List.take_add_one, hy, hK]
    simp only [Option.toList_some, Option.getD_some]
    rw [wpre_append _ _ _ _ (by rw [List.length_take, List.length_take]; omega)]
    simp [wpre]
theorem gat_end (I : List It) (Ls : List (List It)) (hL : Ls = [] ∨ Ls.length = I.length + 1) : gat I Ls I.length ++ (Ls[I.length]?.getD []) = if Ls = [] then I else weave I Ls := by
  unfold gat
  rcases hL with rfl | hL
  · simp
  · have hne : Ls ≠ [] := fun e => by rw [e] at hL; simp at hL
    obtain ⟨K, hK⟩ : ∃ K, Ls[I.length]? = some K := ⟨_, List.getElem?_eq_getElem (by omega)⟩
    rw [if_neg hne, if_neg hne, hK, List.take_length]
    have hLs : Ls = Ls.take I.length ++ K :: [] := by
      have := List.drop_eq_getElem?_toList_append (l := Ls) (i := I.length)
      have h2 : Ls.drop (I.length + 1) = [] := List.drop_eq_nil_of_le (by omega)
      rw [hK, h2] at this
      conv => lhs; rw [← List.take_append_drop I.length Ls, this]
      rfl
    have := weave_split (Ls.take I.length) I [] K [] (by rw [List.length_take]; omega)
    rw [List.append_nil, ← hLs] at this
    rw [this]
    simp [wpost]

set_option maxRecDepth 100000 in
set_option maxHeartbeats 2000000 in
theorem collect_raw {N : Nat} {w0 w : World} {b ow p : Nat} {iv cv : Value} {I : List It} {bs : List Nat} (hN : NodeAt w0 b ow iv cv p) (hI : OwnI w0 iv I) (hC : OwnC w0 cv bs) (Ls : List (List It)) (hLs : Ls.length = bs.length) (hbs : Ls = [] ∨ Ls.length = I.length + 1) (hw0 : N = w0.heap.size)
    (kv ev : Value) (M : List It) (hG : Gath N w0 w kv ev M) (h63 : I.length ≤ 63) (F : List It) (hF : F = if Ls = [] then I else weave I Ls) (hlen : ∀ j, j ≤ I.length → M.length + (gat I Ls j).length + (Ls[j]?.getD []).length ≤ 400000)
    (hrec : ∀ (c kb : Nat) (K : List It), bs[c]? = some kb → Ls[c]? = some K → ∀ w1 kv1 ev1 M1, Gath N w0 w1 kv1 ev1 M1 → M1.length + K.length ≤ 400000 → Calls Try.prog 36 #[.pointer (some ⟨kb, 0, none⟩), kv1, ev1] w1 fun e w2 => ∃ kv2 ev2, e = .returned (.tuple #[kv2, ev2]) ∧ Gath N w0 w2 kv2 ev2 (M1 ++ K)) :
    Calls Try.prog 36 #[.pointer (some ⟨b, 0, none⟩), kv, ev] w fun e w2 => ∃ kv2 ev2, e = .returned (.tuple #[kv2, ev2]) ∧ Gath N w0 w2 kv2 ev2 (M ++ F) := by
  subst hw0
  obtain ⟨Ai, ci, rfl, hci, hcim⟩ := hI.form
  obtain ⟨Ac, cc, rfl, hcc, hccm⟩ := hC.form
  have HN := hide' hN
  have HI := hide' hI
  have HC := hide' hC
  have HLS := hide' hLs
  have HBS := hide' hbs
  have HF := hide' hF
  have HLEN := hide' hlen
  have HREC := hide' hrec
  have HG := hide' hG
  have h63' : (I.length : Int) ≤ 63 := by omega
  have hbl' : (bs.length : Int) ≤ 64 := by
    rcases hbs with e | e
    · rw [e] at hLs; simp at hLs; omega
    · omega
  have HN' : Hid (NodeAt w b ow (.slice Ai I.length ci) (.slice Ac bs.length cc) p) := hN.of_block (hG.b.block b hN.lt)
  clear hN hI hC hbs hrec hG hF hlen hLs
  go_enter Try.func36, Try.ntmps36
  go_wp2_with (first | (go_at_call 39; refine (items_any (by exact HN'.out)).mono ?_; rintro e w' ⟨rfl, hw⟩; rw [hw]; clear hw w') | (go_at_call 40; refine (children_any (by exact HN'.out)).mono ?_; rintro e w' ⟨rfl, hw⟩; rw [hw]; clear hw w'))
  go_loopw [1, 2, 10] (fun k e a w' => ∃ j : Nat, j ≤ I.length ∧ a = .int .i64 (j : Int) ∧ Gath w0.heap.size w0 w' k e (M ++ gat I Ls j)) (fun k e a w' => I.length - (intOf a).toNat)
  case atStart => exact ⟨0, by omega, rfl, by rw [gat_zero, List.append_nil]; exact HG.out⟩
  case round =>
    obtain ⟨j, hjl, rfl, hGr⟩ := hrel
    have HGR := hide' hGr
    clear hGr
    by_cases hlt : j < I.length
    · have hlt' : (j : Int) < (I.length : Int) := by omega
      obtain ⟨y, hy⟩ : ∃ y, I[j]? = some y := ⟨_, List.getElem?_eq_getElem hlt⟩
      obtain ⟨g, c', hv', k0, k1, k2, _, _, _⟩ := HI.out.at hy
      injection hv' with hA1 hA3 hA2
      clear hA3
      subst hA1 hA2
      have x59 := fun W => idx59 g I.length ci j hlt W
      have HY := hide' hy
      have HLJ := hide' (HLEN.out j (by omega))
      clear hy
      go_upto_if 24 with fail
      go_cut [1, 2] (fun k e wf => ∃ A1 n1 c1 A2 n2 c2, k = .slice A1 n1 c1 ∧ e = .slice A2 n2 c2 ∧ Gath w0.heap.size w0 wf (.slice A1 n1 c1) (.slice A2 n2 c2) (M ++ gat I Ls j ++ (Ls[j]?.getD [])))
      case first =>
        by_cases hjb : j < bs.length
        · have hjb' : (j : Int) < (bs.length : Int) := by omega
          obtain ⟨kb, hkb⟩ : ∃ kb, bs[j]? = some kb := ⟨_, List.getElem?_eq_getElem hjb⟩
          obtain ⟨K, hK⟩ : ∃ K, Ls[j]? = some K := ⟨_, List.getElem?_eq_getElem (by have := HLS.out; omega)⟩
          obtain ⟨gc, c'', hv', m0, _, _, _⟩ := HC.out.at hkb
          injection hv' with hA1 hA3 hA2
          clear hA3
          subst hA1 hA2
          have x60 := fun W => idx60 gc bs.length cc j hjb W
          have m0' := bcell HGR.out.b m0
          have HR := hide' (HREC.out j kb K hkb hK _ _ _ _ HGR.out (by have := HLJ.out; rw [hK] at this; simp at this ⊢; omega))
          have HK := hide' hK
          clear hkb hK
          go_wp2_with (go_at_call 36; refine HR.out.mono ?_; rintro e w5 ⟨kv2, ev2, rfl, hg2⟩)
          go_meet
          case rel =>
            obtain ⟨A1, c1, rfl, _, _⟩ := hg2.m.k.form
            obtain ⟨A2, c2, rfl, _, _⟩ := hg2.m.e.form
            exact ⟨_, _, _, _, _, _, rfl, rfl, by rw [HK.out]; exact hg2⟩
        · have hd : decide ((j : Int) < (bs.length : Int)) = false := decide_eq_false (by omega)
          go_wp2_with fail
          go_meet
          case rel =>
            have hn : Ls[j]?.getD [] = [] := by rw [List.getElem?_eq_none (by have := HLS.out; omega)]; rfl
            have hg2 := HGR.out
            obtain ⟨A1, c1, rfl, _, _⟩ := hg2.m.k.form
            obtain ⟨A2, c2, rfl, _, _⟩ := hg2.m.e.form
            exact ⟨_, _, _, _, _, _, rfl, rfl, by rw [hn, List.append_nil]; exact hg2⟩
      case rest =>
        obtain ⟨A1, n1, c1, A2, n2, c2, rfl, rfl, hg2⟩ := hcut
        have HG2 := hide' hg2
        have c0 := bcell hg2.b k0
        have c1' := bcell hg2.b k1
        have c2' := bcell hg2.b k2
        have hml : (M ++ gat I Ls j ++ (Ls[j]?.getD [])).length ≤ 400000 := by have := HLJ.out; simp at this ⊢; omega
        clear hg2
        go_wp2_with (first
          | (go_at_call 42; refine (itemKey' y _).mono ?_; rintro e w5 ⟨rfl, hb5⟩; have hg5 := HG2.out.on hb5; obtain ⟨A3, c3, wA, hA1, hbA, hnx⟩ := gath_push hg5 (by omega) y
             have HNX := hide' hnx; have d3 := bcell hbA k0; have d4 := bcell hbA k1; have d5 := bcell hbA k2; clear hg5 hnx hbA)
          | (at_builtin; refine wpList_append_run _ rfl _ _ 30 30 rfl _ _ rfl rfl hA1 ?_)
          | (go_at_call 43; refine (itemEntry' y _).mono ?_; rintro e w6 ⟨rfl, hb6⟩; obtain ⟨A4, c4, wB, hA2, hgB⟩ := HNX.out w6 hb6; have HGB := hide' hgB; clear hgB)
          | (at_builtin; refine wpList_append_run _ rfl _ _ 31 31 rfl _ _ rfl rfl hA2 ?_))
        go_roundw
        case rel => exact ⟨j + 1, by omega, by go_num, by rw [gat_succ I Ls j y HY.out HBS.out, ← List.append_assoc, ← List.append_assoc]; exact HGB.out⟩
        case measure => simp [intOf]; omega
    · obtain rfl : j = I.length := by omega
      have hd : decide ((I.length : Int) < (I.length : Int)) = false := by simp
      have HGE := hide' (gat_end I Ls HBS.out)
      have hg2 := HGR.out
      obtain ⟨A1, n1, c1, rfl⟩ := hg2.m.k.form'
      obtain ⟨A2, n2, c2, rfl⟩ := hg2.m.e.form'
      rcases HBS.out with hb | hb
      · have hbl0 : bs.length = 0 := by have := HLS.out; rw [hb] at this; simpa using this.symm
        have hd2 : (bs.length : Int) ≤ (I.length : Int) := by omega
        have hFe : M ++ gat I Ls I.length = M ++ F := by
          have := HGE.out
          rw [← HF.out, hb] at this
          simp only [List.getElem?_nil, Option.getD_none, List.append_nil] at this
          rw [hb, this]
        rw [hFe] at hg2
        have HG2 := hide' hg2
        clear hg2 hFe hbl0 hb
        go_wp2_with fail
        go_ret2
        exact ⟨_, _, rfl, HG2.out⟩
      · have hbl0 : bs.length = I.length + 1 := by have := HLS.out; omega
        have hd2 : (I.length : Int) < (bs.length : Int) := by omega
        obtain ⟨kb, hkb⟩ : ∃ kb, bs[I.length]? = some kb := ⟨_, List.getElem?_eq_getElem (by omega)⟩
        obtain ⟨K, hK⟩ : ∃ K, Ls[I.length]? = some K := ⟨_, List.getElem?_eq_getElem (by omega)⟩
        obtain ⟨gc, c'', hv', m0, _, _, _⟩ := HC.out.at hkb
        injection hv' with hA1 hA3 hA2
        clear hA3
        subst hA1 hA2
        have x60 := fun W => idx60 gc bs.length cc I.length (by omega) W
        have m0' := bcell HGR.out.b m0
        have HR := hide' (HREC.out I.length kb K hkb hK _ _ _ _ HGR.out (by have := HLEN.out I.length (Nat.le_refl _); rw [hK] at this; simp at this ⊢; omega))
        have hFe : M ++ gat I Ls I.length ++ K = M ++ F := by
          have := HGE.out
          rw [← HF.out, hK] at this
          simp only [Option.getD_some] at this
          rw [List.append_assoc, this]
        have HFE := hide' hFe
        clear hFe hbl0 hb hkb hK hg2
        go_wp2_with (go_at_call 36; refine HR.out.mono ?_; rintro e w5 ⟨kv2, ev2, rfl, hg2⟩; have HG2 := hide' hg2; clear hg2)
        go_ret2
        exact ⟨_, _, rfl, by rw [← HFE.out]; exact HG2.out⟩
end Go.Proofs.Qxb6601392a.Bt
